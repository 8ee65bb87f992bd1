import PyProof.Rows.All
import PyProof.TupleIter
import PyProof.CallFns
import PyProof.MeetsSeq
import PyProof.DictTable
import PyProof.Draws
import PyProof.EnumMake
import PyProof.EqAt
import PyProof.EqKinds
import PyProof.IsiBase
import PyProof.ExcArgsOwn
import PyProof.ExcInit
import PyProof.RaisesMany
import PyProof.StrOps2
import PyProof.WalksMore
import PyProof.InstLoad
import PyProof.IsiPairs
import PyProof.LetGo
import PyProof.WalkInts
import PyProof.NsDelKeeps
import PyProof.TupleCall
import PyProof.Rows.RuleN_abs
import PyProof.Rows.TupMore
import PyProof.SliceMore
import PyProof.Rows.StrRules
import PyProof.Rows.SeqMore
import PyProof.TupleOfGen
import ObjForm.Fk.InstStore
import ObjForm.Fk.ObjNew
import OpenK.KCall
import KE.KDictList
import Wide.FinOn
import OpenK.AllK
import Wide.All
import Lean
import PySem.Challenge.RW_wz0025_01
set_option maxRecDepth 100000
set_option Elab.async false
set_option linter.all false
set_option maxHeartbeats 0
set_option exponentiation.threshold 400000
noncomputable section
open And renaming intro->iT,right->ON,left->PM
open Array renaming length_toList->dm,getElem?_toList->gM,getElem?_eq_getElem->kH,toList_append->tO,mem_toList_iff->zV,ext'->Ny,getD_eq_getD_getElem?->TR,toList_setIfInBounds->Ub,getElem?_eq_some_iff->Ud,getElem?_eq_none_iff->Ue,getElem?_eq_none->Vb,mem_iff_getElem->Vf,toList_extract->V0,forIn_toList->W6,size_extract->W8,toList_push->Xg,size_push->Zb
open Bool renaming true->af,false->av,and_eq_true->dZ,false_ne_true->qw,false_eq_true->rJ,not_eq_true'->tQ,eq_iff_iff->tY,and_true->t9,and_eq_true_iff->vQ,or_eq_true->yi,and_false->K7,noConfusion->Y7,not_eq_true->Zi,or_false->xcC
open Eq renaming symm->i8,trans->jR
open ForInStep renaming yield->V2
open Int renaming not_lt->fD,le_trans->gG,ofNat_lt->gR,natCast_nonneg->iP,lt_of_le_of_lt->jM,add_comm->jO,le_of_lt->kN,ofNat->lI,toNat_of_nonneg->mu,zero_add->mG,le_of_eq->mH,lt_trans->m6,add_assoc->nX,ofNat_le->nY,lt_of_lt_of_le->qx,add_zero->qF,fmod_lt_of_pos->rK,toNat_natCast->rM,le_refl->uh,fmod_nonneg_of_pos->vP,le_of_lt_add_one->yb,add_le_add_right->yc,add_sub_cancel->ye,le_antisymm->yk,add_nonneg->ym,lt_irrefl->yo,not_le->yF,lt_add_one_of_le->C7,lt_of_add_one_le->C8,le_add_one->DZ,toNat_le->El,ne_of_gt->Em,lt_asymm->En,mul_le_mul_of_nonneg_left->I8,le_sub_one_of_lt->JD,toNat_le_toNat->JV,natAbs_eq_zero->JW,add_right_comm->JX,add_le_add->La,toNat_lt->Mu,lt_toNat->Mv,mul_one->Nx,le_add_of_nonneg_left->UG,natAbs_of_nonneg->W2,lt_iff_le_and_ne->W3,sub_one_lt_of_le->W9,add_one_le_of_lt->Xa,add_lt_add_left->Xh,add_le_add_left->Xj,toNat_lt_toNat->YS,self_le_toNat->Y4,add_left_comm->Zh,sub_le_self->xaZ,neg_le_neg->xcB,mul_add->xey
open List renaming length_map->aH,mem_cons_self->aP,mem_singleton->aW,mem_cons_of_mem->aY,mem_cons->bA,mem_append->bC,mem_map->bE,mem_append_left->bI,map_map->bO,not_mem_nil->b9,all_eq_true->cg,getElem?_eq_getElem->cy,getD_eq_getElem?_getD->cz,mem_append_right->cJ,length_append->cK,mem_filter->d7,replicate->eH,mem_of_getElem?->eO,getElem?_map->eS,length_cons->fC,append_assoc->fT,map_append->fY,map_cons->f6,range->gc,length_zip->gP,append_nil->g8,size_toArray->iZ,contains_iff_mem->jB,length_take->jC,map_congr_left->jK,length_set->jN,toArray->kM,nodup_cons->mC,length_filter_le->nM,mem_of_mem_take->nO,nodup_append->nQ,getElem_mem->nT,getElem?_eq_none->pH,foldl_cons->pJ,length_nil->qC,getElem?_eq_some_iff->rH,mem_range->rN,sum_cons->rP,forIn_cons->tW,nil_append->tX,nodup_nil->t7,length->ug,eq_of_mem_replicate->vL,filter_eq_nil_iff->vO,foldl_append->vV,any_eq_true->vX,map_set->wc,idxOf_lt_length_of_mem->x6,getElem_of_mem->yd,length_range->yf,mem_flatMap->yh,count_cons->yj,perm_ext_iff_of_nodup->zQ,getElem?_set_self->zR,filter_eq_self->zW,flatMap_cons->zZ,count_append->z3,cons_append->z6,of_mem_zip->Ab,drop_zero->Am,count->AN,eq_nil_of_length_eq_zero->CQ,drop_eq_getElem_cons->CT,drop_eq_nil_of_le->CZ,find?_cons_of_pos->C0,find?_cons_of_neg->C1,lookup_cons_self->C2,getElem?_set_ne->C5,replicate_succ->C9,pairwise_cons->De,getElem_idxOf->Df,take_sublist->Dm,pairwise_map->Dn,take_length->Dv,length_drop->Dw,filter_cons->Dy,lookup_cons->Dz,foldlM_cons->DB,sum_append->DO,foldr_cons->DP,map_take->D3,take_succ_eq_append_getElem->I2,eq_nil_iff_forall_not_mem->I4,getElem?_zip_eq_some->Jf,mem_or_eq_of_mem_set->Jg,filter_cons_of_pos->Jl,length_eq_one_iff->Jo,length_singleton->Js,length_replicate->Jt,mem_iff_getElem->JC,flatMap_append->JH,length_pos_iff->JI,perm_singleton->JJ,zip_cons_cons->JS,foldlM_append->JU,reverse_cons->J4,ext_getElem?->J5,map_fst_zip->J9,mem_reverse->Ka,zip_append->Kv,forIn_nil->K6,all_cons->Lc,any_cons->Ld,any_map->Mq,lookup->Nk,foldl->ND,zip->PE,getElem?_append_right->Uj,findIdx?_eq_none_iff->Uu,pairwise_iff_getElem->Uv,extract_eq_take_drop->Uz,exists_mem_of_ne_nil->UA,mem_take_iff_getElem->UB,mem_of_mem_eraseIdx->UD,filter_cons_of_neg->Vc,set_getElem_self->VY,perm_append_comm->VZ,pairwise_append->V3,getElem_eq_getD->V6,length_eraseIdx->V7,take_succ_cons->W5,toList_toArray->W7,filter_sublist->Xb,perm_iff_count->Xc,map_eq_nil_iff->Xd,mem_filterMap->Xi,map_replicate->Xk,flatten_cons->YT,filter_congr->YX,reverse_perm->YY,getElem_take->Y0,flatten_nil->Y5,zipIdx_cons->Zf,ext_getElem->Zg,range_succ->xaH,zipIdx_nil->xaM,countP_map->xaN,drop_drop->xaO,take_nil->xcL,map_nil->xcM,zip_map->xcX,map_id->xej
open List.Pairwise renaming nil->C4,cons->xhf
open List.Perm renaming trans->Ds,append_right->Ug
open List.Sublist renaming trans->xht
open List.cons renaming inj->Af
open Nat renaming le_trans->aZ,ne_of_lt->bS,le_refl->cQ,le_of_eq->dh,le_succ->dM,le_of_lt->eB,le_add_right->e7,ne_of_gt->gb,lt_succ_self->gA,lt_of_le_of_lt->gO,le_add_left->gQ,add_le_add_left->iy,lt_of_lt_of_le->iz,add_comm->jm,zero_add->jn,zero_le->jo,add_right_comm->jL,lt_add_right->kI,ble->kT,add_le_add->mE,mul_le_mul_left->mY,blt->ng,le_of_ble_eq_true->nN,le_of_succ_le->nR,le_succ_of_le->nS,min_self->nZ,add_sub_cancel_left->pG,add_le_add_right->qv,sub_add_cancel->qy,succ_le_succ->qA,le_of_not_lt->qB,succ_pos->qE,land->qR,lor->qW,succ_add_eq_add_succ->rI,lt_of_succ_lt->rL,add_assoc->rQ,not_lt->rX,mul_le_mul_right->tN,lt_of_lt_of_eq->tP,lt_succ_of_le->tR,min_le_right->tS,not_lt_of_le->tT,lt_add_of_pos_right->vM,lt_succ_of_lt->vW,min_le_left->vY,lt_irrefl->v8,lt_or_ge->yt,one_mul->yw,sub_le->yE,sub_eq_zero_of_le->zT,not_le_of_lt->z8,succ_lt_succ->z9,succ_ne_self->DC,zero_testBit->DE,testBit_two_pow_sub_one->Jb,le_of_add_le_add_right->Jd,exists_eq_add_of_le->Jm,ble_eq_true_of_le->Ju,sub_ne_zero_of_lt->Jw,min_eq_left->Kw,not_lt_zero->Kz,mul_succ->Mx,succ_add->My,pred_le->Nm,log2_lt->Nv,mul_add->NC,pred->PI,beq->QW,xor->QX,testBit_two_pow_mul_add->Uk,succ_pred_eq_of_pos->Vd,lt_of_succ_lt_succ->V1,exists_eq_add_one->V8,add_lt_add_right->W0,not_succ_le_self->W4,add_lt_add_left->Xe,sub_pos_of_lt->Y3,le_of_lt_succ->Y6,lt_trichotomy->Zd,lt_of_not_le->xaK,le_antisymm->xba,one_pos->xer,mul_one->xez,lt_min->xgN,sub_lt->xgP
open Nat.succ renaming inj->Ao
open Ne renaming symm->gu
open Option renaming some->aa,none->ak,map->ur,map_eq_some_iff->vN,map_some->Aa,isSome_iff_exists->CW,isNone_iff_eq_none->Uc
open Option.some renaming inj->nU,injEq->zX
open Or renaming elim->bw
open PUnit renaming unit->qI
open Prod renaming snd->qL,fst->Ge
open Prod.mk renaming inj->Mg,injEq->Zc
open PyProof.Rows renaming seqObj->cG,seen->tK,get?_update_seq->yl,listUpdate_at->yr,evalArgs_none->zP,Assign_Tuple->AB,seqEpoch_at->Fo,tail_any->G4,slot_tuple_getitem->Ku,listItems_at->OJ,size_push'->PJ,lt_int->Ua,entry_list_sort->xev,slot_list_sort->xgR,Attribute_any_->xgS,slicePart_none->xgU,gt_int->xhj,ge_int->xhk,eq_int->xhl,ne_int->xhm,neg_int->xhn,add_str->xhs
open PySem renaming Addr->ah,Str->ai,Value->aj,wpAny_bind->ao,Shared->aq,wpAny->au,model->az,Heap->aA,wpAny_mono->aB,Around->aF,wpAny_pure->aM,Env->aN,Pos->aR,Expr->aS,eval->aT,Sem->bg,starEach->bh,World->bF,OsState->bN,Obj->bR,execs->b8,callEnvC->cu,backTo->cM,wpAny_standAt->cV,Stmt->cZ,Program->dw,wpAny_holding->dH,sizeLine_eq->dJ,compEnvC->dN,call->dO,Scope->dW,exec->dY,Flow->ek,sysModules->eo,FuncData->eU,rawInt->e9,cLine->fy,standAt->fL,spliced->fN,assign->fV,DictEntry->gm,treeTable->gn,foldedSetIterable->g7,holding->ic,wpAny_execs_nil->iA,builtinLookup_eq_fast->iO,wpAny_loadPart_at->iQ,typeLookup_type->iR,wpAny_field->jr,strValues->jD,typeLookup->jQ,attributeBase->kJ,evalEach->kP,bindName->kQ,swapsWith->lJ,Params->lP,start->lT,Tok->mj,mainGlobals->mJ,GenState->mO,callWith->mP,Drawn->nC,wpAny_execs_cons->nV,keywordEach->n9,backToKw->oA,compTurn->oB,intKind->oE,mainNs->o8,wpAny_isSubtype_exc->pI,assignEach->pK,cellsFrom->pP,NameKind->pR,codeAny->pW,wpAny_newObj_type->qz,wpAny_listItems->qD,wpAny_rule->qJ,sizeLine->qS,strKind->rO,swapsWithSole->rT,swappedStores->rU,pyIter->sM,argsOk->sN,Slot->tH,wpAny_call_entry->tU,checkBuiltinCall->tV,letOwnedTupleGo->tZ,codeAny_builtin->t6,wpAny_seqItems->t8,wpAny_newList->uc,call_meetsIn->uf,newList->uH,Thread->uT,typeOf->uU,Model->vc,field->vd,IsZip->ve,plainId_quiet->v9,dictDisplay->wz,wpAny_of_eq->wA,call_meets->wC,isInstance->wD,pushCells->wU,handedOut->wV,newTuple->w7,subDict->w9,isTrue->xx,wpAny_callSpecial?_slot->x8,wpAny_truthy_bool->yg,assignInOrder->yq,builtinsNs->yG,noteFrame->yO,keeperOf->za,valueAt->zk,pyNext->zx,codeAny_call_builtin->zY,wpAny_setField_rec->z4,wpAny_pyIter_list->z7,exec_Assign_Name->Ac,wpAny_isInstance->Ad,entryFor_of_tree->Ae,setItem->An,wpAny_newTuple->Aq,wpAny_setField->Ar,wpAny_onRaise->As,mergeMapping->AA,unsupported->AO,wpAny_letGo->AP,wpAny_call->A8,wpAny_load->Ba,entryFor->Bp,newDict->BR,ItemsOf->BS,denote->Cj,stored->Ck,table->CL,wpAny_richCompare_same_room->CS,wpAny_tupleItemsOf->Du,wpAny_Return_some->DG,importedModules->D0,isSubtype_type->Ej,comprehension->Eo,Call_method0->EI,Call_method1->EJ,wpAny_typeOf->EK,concat_meets->EN,evalEachOpt->Fj,richCompare->Fl,excClassObj->Fp,importEnds->F9,PlainAttrs->Ga,strKind_is->Gb,refuseLoop->Gd,seqItems?->Gf,updateSeq->Gg,setFlight->Gh,compPost->G5,bindArgs->G6,handleBy->G7,dictPut->HO,getAttr->HQ,setAttr->HR,eqBool->IZ,IsEnum->I0,plainObj_wpAny_Assign_Attribute->I7,wpAny_list_append_plain->Jv,wpAny_Assign_Subscript->JE,wpAny_nextOf_list_item->JF,wpAny_getItem_list->Kq,slot_list_getitem->Ky,wpAny_pyIter_zip->K8,wpAny_madeBy_exc->K9,noFill_tuple_add->Lb,pushCells_keeps->Mi,codeAny_of_tree->Mj,wpAny_specialOf->Mm,wpAny_mroOf_exc->Mn,placesWithHash->Mw,wpAny_iadd_int->Mz,letTemporaryGo->MA,refuseLoop_ref->MC,arm_eval_Dict->Nn,behindInMarks->Np,Comprehension->Nq,wpAny_attempt->Nu,seq_tuple_add->Nz,firstIterPos->OI,lookupAlong->OM,moduleCode->PF,firstAsync->PG,intKind_is->PK,isSubtype->QO,seqIndex?->QS,clausesOf->QT,compStart->QU,firstIter->QV,binaryOp->Q5,wpAny_If->Q6,allTrue->SN,dunderI->SO,release->SQ,Keyword->SR,evalPart_none_step->Ux,evalPart_some_step->Uy,wpAny_AugAssign_SubscriptAny->Va,markedBehindIn_of_false->Xf,wpAny_pyNext_list_item->YU,exec_Assign_Name_used->Y8,codeAny_handlers_test->Ze,unbindBehindTheSuite->xaL,wpAny_pyIter_values->xaQ,wpAny_handleBy_cons->xaU,wpAny_assign_Tuple->xcD,arm_exec_AugAssign->xcG,wpAny_pyIter_tuple->xcJ,wpAny_pyIter_enum->xcN,meets_dict_values->xcO,wpAny_sequenceKey->xcP,slot_list_setitem->xcQ,fillsInplaceSlot->xeg,wpAny_eqBool_int->xek,wpAny_getItem_of->xel,wpAny_lookBehind->xeo,pastItsLine_dict->xep,wpAny_Try_except->xeq,isTrue_Compare1->xes,noFill_list_add->xet,wpAny_ite_split->xeu,wpAny_updateSeq->xew,wpAny_loadPart'->xex,newFunctionEnv->xgQ,firstArgMember->xgT
open PySem.Around renaming under_plainId->ya,frames_deeper->Vg
open PySem.AutoSeq1 renaming sub_tuple_tuple->TP,sub_list_list->Ui
open PySem.Bind renaming printed->Ms,check->NF,checkArgs->xaT
open PySem.Builtin renaming divisionGoesByPylong->CP
open PySem.Builtin.Int renaming intBits->zS
open PySem.Builtin.List renaming listFitsIndex->S4,listSubscript?->xho,listTooLong->xhq,listExtendWith->xhr
open PySem.Builtin.Range renaming rangeSize->pF,small->Jj,rangeFitsLong->S1
open PySem.Builtin.SmallTypes renaming nextOf->tM,ownedTupleIsFree->CN,ownedTupleHandOut->SS
open PySem.Builtin.Str renaming tooLong->CY
open PySem.Builtin.Tuple renaming tupleExact->x7,tupleItemsOf->xhe
open PySem.Calls renaming evalArgs_plain->mZ,spliced_cons->n8,spliced_nil->rV,callWith_function->DF
open PySem.Code renaming builtin->ue,compStart->DQ,quiet_builtin->JT,compLoop->xcE,weight->xen
open PySem.EntryCells renaming newEntry->xhB
open PySem.Expr renaming Compare->C6,Tuple->xhC,BoolOp->xhD
open PySem.F renaming slot_tuple_iterator_next->CV,slot_dict_values->Dp,slot_list_index->DA,slot_zip_next->DR,slot_gs_set->Ek,args_tuple_add_2->Je,entry_tuple_add->Ji,slot_tuple_add->Jk,typeOf_bexc_args->J7,plainAttrs_list->Kr,slot_list_ne->Ml,called_tuple->Mp,slot_dict_itemiterator_iter->Uh,args_tuple_iterator_next_1->Uw,slot_list_pop->UC,entry_tuple_iterator_next->UE,entry_list_iadd->V5,args_dict_values_1->YV,args_object_init_2->YZ,entry_dict_values->Y9,args_list_index_2->Za,type_dict_values->xaI,entry_list_index->xaJ,plainAttrs_dict->xaP,slot_dict_items->xaR,type_list_index->xaS,args_zip_next_1->xaV,plain_list_iadd->xaW,plain_tuple_new->xaX,slot_list_count->xaY,plainAttrs_str->xcF,args_list_ne_2->xcI,entry_zip_next->xcK,entry_list_ne->xcR,slot_tuple_eq->xcS,slot_tuple_ne->xcT,slot_int_rmul->xcU,slot_dict_get->xcV,slot_list_eq->xeh
open PySem.Heap renaming get?_push_of_some->bX,get?_push_size->cE,lt_size->dQ,size_push->mD,get?_update_self->qu,SameBut->ud,get?_update_other->x9,get?_update_ne->Dd,get?_push_ne->Dq,size_update->Kc,IsList->Nl,ExtBut->xei
open PySem.Heap.DictOf renaming new->Dl
open PySem.Heap.IsCell renaming keeps->xhu
open PySem.Heap.IsList renaming push->JG
open PySem.Heap.IsSliceOf renaming new->TQ
open PySem.Heap.Ns renaming of_isNs->J6
open PySem.Heap.SameBut renaming update->mX,refl->xhp
open PySem.IsRange renaming new->Mk
open PySem.IsiPair renaming int_tuple->xhc,int_int->xhd
open PySem.MeetsSeq renaming list_pop_at->xhb
open PySem.NameKind renaming free->mF,cell->m5
open PySem.Obj renaming mapSeq->c7,mapFields->i6,data_mapFields->vU,isFreed_of_fields->zU,cls_mapFields->J8
open PySem.Sem renaming bind->qQ,wp_operate->DY,wrap_wrap->Me,bind_eq_wrap->xaG
open PySem.Shared renaming heap->Mt
open PySem.Sre renaming Seen->kO,forSearch->rR,Frame->OL
open PySem.Str renaming ofString->n7
open PySem.Txt renaming join->yP,lower->A9,contains->xem
open PySem.Value renaming ref->bV,none->fk,builtin->vZ,str->Fq,isInt->MB,bool->Nt,isStrOf_shape->V4
open PySem.Value.ref renaming inj->Ko
open PySem.W renaming SharedT->iB,opening->jt,hideAll->kW,kas_sort->lK,deadEnd->nu,topRun->qc,hideAll_get->rW,segRunT->uF,absHeap->uG,hideAll_none->wg,of_hideAll->wF,kla_fn->zy,doneF->CJ,stepT->CK,WData->CM,boot_o_4->G3,topStub->HP,boot_o_10->QN,boot_o_0->QY,boot_o_5->QZ,boot_o_6->Q0,boot_o_7->Q2,boot_o_8->Q3,boot_o_9->Q4
open PySem.W.BT renaming set_node->um,get_set->Fi,get_node->xgO
open PySem.W.Fast renaming te14364793385576792824->tL,te10110043849684766642->vK,tw14364793385576792824->CO,tw10110043849684766642->I3,tw18129864485346669323->I9,te11913375310210876947->Ja,tw12563942051412417395->S3
open PySem.W.SharedT renaming abs->Mh
open PySem.W.WData renaming bool->yx
open PySem.W.WShape renaming hasItems->Kd
open PySem.Walks renaming list->Nr,dictValues->YW
open PySem.Within renaming cons->Mr,nil->xcW
open PySem.World renaming withFollow_self->Ve
namespace Mine
open PySem PySem.W PySem.Calls PyProof.Rows
theorem dR{a b:Bool}(x:a=af)(y:b=af):(a&&b)=af:=by rw[x,y,Bool.and_self]
theorem saidL:looksOpen (PySem.Challenge.rw_wz0025_01).row.prog=true:=dR (dR (dR (dR (dR (by decide+kernel) (by decide+kernel)) (by decide+kernel)) (by decide+kernel)) (by decide+kernel)) (by decide+kernel)
theorem saidP:(PySem.Challenge.rw_wz0025_01).row.partSaid=true:=dR (dR (dR (dR (dR (dR (dR (dR (dR (dR (dR (dR (dR saidL (by decide+kernel)) (by decide+kernel)) (by decide+kernel)) (by decide+kernel)) (by decide+kernel)) (by decide+kernel)) (by decide+kernel)) (by decide+kernel)) (by decide+kernel)) (by decide+kernel)) (by decide+kernel)) (by decide+kernel)) (by decide+kernel)
theorem said:(PySem.Challenge.rw_wz0025_01).wellSaid=true:=dR (dR (dR (dR (dR (dR (dR (dR (dR (dR (dR (dR (dR (dR (dR (dR (dR (dR (dR (dR saidP (by decide+kernel)) (by decide+kernel)) (by decide+kernel)) (by decide+kernel)) (by decide+kernel)) (by decide+kernel)) (by decide+kernel)) (by decide+kernel)) (by decide+kernel)) (by decide+kernel)) (by decide+kernel)) (by decide+kernel)) (by decide+kernel)) (by decide+kernel)) (by decide+kernel)) (by decide+kernel)) (by decide+kernel)) (by decide+kernel)) (by decide+kernel)) (by decide+kernel)
open Lean in
def yAR:Syntax:=Unhygienic.run `(Parser.Tactic.tacticSeq|rfl)
open Lean in
def yAK:Syntax:=Unhygienic.run `(Parser.Tactic.tacticSeq|kernel_rfl)
open Lean in
def yAD:Syntax:=Unhygienic.run `(Parser.Tactic.tacticSeq|decide)
open Lean in
def yAW:Syntax:=Unhygienic.run `(Parser.Tactic.tacticSeq|(intro _ _;with_unfolding_all rfl))
open Lean in
def yAI:Syntax:=Unhygienic.run `(Parser.Tactic.tacticSeq|(intro _;rfl))
@[elab_as_elim]theorem O{L:Sort _}{a b:L}{m:L->Prop}(h:b=a)(x:m a):m b:=h▸x
@[elab_as_elim]theorem aQ{L:Sort _}{a b:L}{m:L->Prop}(h:a=b)(x:m a):m b:=h▸x
theorem aC{b:Prop}{p:L->Prop}(h:∃x,p x)(k:∀x,p x->b):b:=h.elim λx h=>k x h
theorem aV{p q b:Prop}(h:p/\q)(k:p->q->b):b:=k h.1 h.2
theorem lu{b:Prop}{p:L->N->Prop}(h:∃x y,p x y)(k:∀x y,p x y->b):b:=h.elim λx h=>h.elim λy h=>k x y h
theorem aG{b:Prop}{p q:L->Prop}(h:∃x,p x/\q x)(k:∀x,p x->q x->b):b:=h.elim λx h=>k x h.1 h.2
theorem gW{p q r b:Prop}(h:p/\q/\r)(k:p->q->r->b):b:=k h.1 h.2.1 h.2.2
theorem iU{b:Prop}{p:L->N->a->Prop}(h:∃x y z,p x y z)(k:∀x y z,p x y z->b):b:=h.elim λx h=>h.elim λy h=>h.elim λz h=>k x y z h
theorem eK{b:Prop}{p q:L->N->Prop}(h:∃x y,p x y/\q x y)(k:∀x y,p x y->q x y->b):b:=h.elim λx h=>h.elim λy h=>k x y h.1 h.2
theorem dj{b:Prop}{p q r:L->Prop}(h:∃x,p x/\q x/\r x)(k:∀x,p x->q x->r x->b):b:=h.elim λx h=>k x h.1 h.2.1 h.2.2
theorem kZ{p q r f b:Prop}(h:p/\q/\r/\f)(k:p->q->r->f->b):b:=k h.1 h.2.1 h.2.2.1 h.2.2.2
theorem AQ{b:Prop}{p:L->N->a->i->Prop}(h:∃x y z u,p x y z u)(k:∀x y z u,p x y z u->b):b:=h.elim λx h=>h.elim λy h=>h.elim λz h=>h.elim λu h=>k x y z u h
theorem ow{b:Prop}{p q:L->N->a->Prop}(h:∃x y z,p x y z/\q x y z)(k:∀x y z,p x y z->q x y z->b):b:=h.elim λx h=>h.elim λy h=>h.elim λz h=>k x y z h.1 h.2
theorem wG{b:Prop}{p q r:L->N->Prop}(h:∃x y,p x y/\q x y/\r x y)(k:∀x y,p x y->q x y->r x y->b):b:=h.elim λx h=>h.elim λy h=>k x y h.1 h.2.1 h.2.2
theorem fU{b:Prop}{p q r f:L->Prop}(h:∃x,p x/\q x/\r x/\f x)(k:∀x,p x->q x->r x->f x->b):b:=h.elim λx h=>k x h.1 h.2.1 h.2.2.1 h.2.2.2
theorem qM{p q r f g b:Prop}(h:p/\q/\r/\f/\g)(k:p->q->r->f->g->b):b:=k h.1 h.2.1 h.2.2.1 h.2.2.2.1 h.2.2.2.2
theorem oh{b:Prop}{p:L->N->a->i->c->Prop}(h:∃x y z u v,p x y z u v)(k:∀x y z u v,p x y z u v->b):b:=h.elim λx h=>h.elim λy h=>h.elim λz h=>h.elim λu h=>h.elim λv h=>k x y z u v h
theorem Xl{b:Prop}{p q:L->N->a->i->Prop}(h:∃x y z u,p x y z u/\q x y z u)(k:∀x y z u,p x y z u->q x y z u->b):b:=h.elim λx h=>h.elim λy h=>h.elim λz h=>h.elim λu h=>k x y z u h.1 h.2
theorem AD{b:Prop}{p q r:L->N->a->Prop}(h:∃x y z,p x y z/\q x y z/\r x y z)(k:∀x y z,p x y z->q x y z->r x y z->b):b:=h.elim λx h=>h.elim λy h=>h.elim λz h=>k x y z h.1 h.2.1 h.2.2
theorem cH{b:Prop}{p q r f:L->N->Prop}(h:∃x y,p x y/\q x y/\r x y/\f x y)(k:∀x y,p x y->q x y->r x y->f x y->b):b:=h.elim λx h=>h.elim λy h=>k x y h.1 h.2.1 h.2.2.1 h.2.2.2
theorem oi{b:Prop}{p q r f g:L->Prop}(h:∃x,p x/\q x/\r x/\f x/\g x)(k:∀x,p x->q x->r x->f x->g x->b):b:=h.elim λx h=>k x h.1 h.2.1 h.2.2.1 h.2.2.2.1 h.2.2.2.2
theorem Xm{p q r f g i b:Prop}(h:p/\q/\r/\f/\g/\i)(k:p->q->r->f->g->i->b):b:=k h.1 h.2.1 h.2.2.1 h.2.2.2.1 h.2.2.2.2.1 h.2.2.2.2.2
theorem KA{b:Prop}{p q:L->N->a->i->c->Prop}(h:∃x y z u v,p x y z u v/\q x y z u v)(k:∀x y z u v,p x y z u v->q x y z u v->b):b:=h.elim λx h=>h.elim λy h=>h.elim λz h=>h.elim λu h=>h.elim λv h=>k x y z u v h.1 h.2
theorem KC{b:Prop}{p q r:L->N->a->i->Prop}(h:∃x y z u,p x y z u/\q x y z u/\r x y z u)(k:∀x y z u,p x y z u->q x y z u->r x y z u->b):b:=h.elim λx h=>h.elim λy h=>h.elim λz h=>h.elim λu h=>k x y z u h.1 h.2.1 h.2.2
theorem uo{b:Prop}{p q r f:L->N->a->Prop}(h:∃x y z,p x y z/\q x y z/\r x y z/\f x y z)(k:∀x y z,p x y z->q x y z->r x y z->f x y z->b):b:=h.elim λx h=>h.elim λy h=>h.elim λz h=>k x y z h.1 h.2.1 h.2.2.1 h.2.2.2
theorem V9{b:Prop}{p q r f g i:L->Prop}(h:∃x,p x/\q x/\r x/\f x/\g x/\i x)(k:∀x,p x->q x->r x->f x->g x->i x->b):b:=h.elim λx h=>k x h.1 h.2.1 h.2.2.1 h.2.2.2.1 h.2.2.2.2.1 h.2.2.2.2.2
theorem Vh{b:Prop}{p q r:L->N->a->i->c->Prop}(h:∃x y z u v,p x y z u v/\q x y z u v/\r x y z u v)(k:∀x y z u v,p x y z u v->q x y z u v->r x y z u v->b):b:=h.elim λx h=>h.elim λy h=>h.elim λz h=>h.elim λu h=>h.elim λv h=>k x y z u v h.1 h.2.1 h.2.2
theorem DT{b:Prop}{p q r f:L->N->a->i->Prop}(h:∃x y z u,p x y z u/\q x y z u/\r x y z u/\f x y z u)(k:∀x y z u,p x y z u->q x y z u->r x y z u->f x y z u->b):b:=h.elim λx h=>h.elim λy h=>h.elim λz h=>h.elim λu h=>k x y z u h.1 h.2.1 h.2.2.1 h.2.2.2
theorem DU{b:Prop}{p q r f g:L->N->a->Prop}(h:∃x y z,p x y z/\q x y z/\r x y z/\f x y z/\g x y z)(k:∀x y z,p x y z->q x y z->r x y z->f x y z->g x y z->b):b:=h.elim λx h=>h.elim λy h=>h.elim λz h=>k x y z h.1 h.2.1 h.2.2.1 h.2.2.2.1 h.2.2.2.2
theorem jP{b:Prop}{p q r f g i:L->N->Prop}(h:∃x y,p x y/\q x y/\r x y/\f x y/\g x y/\i x y)(k:∀x y,p x y->q x y->r x y->f x y->g x y->i x y->b):b:=h.elim λx h=>h.elim λy h=>k x y h.1 h.2.1 h.2.2.1 h.2.2.2.1 h.2.2.2.2.1 h.2.2.2.2.2
theorem Vi{p q r f g i j m b:Prop}(h:p/\q/\r/\f/\g/\i/\j/\m)(k:p->q->r->f->g->i->j->m->b):b:=k h.1 h.2.1 h.2.2.1 h.2.2.2.1 h.2.2.2.2.1 h.2.2.2.2.2.1 h.2.2.2.2.2.2.1 h.2.2.2.2.2.2.2
theorem v5{b:Prop}{p q r f g:L->N->a->i->Prop}(h:∃x y z u,p x y z u/\q x y z u/\r x y z u/\f x y z u/\g x y z u)(k:∀x y z u,p x y z u->q x y z u->r x y z u->f x y z u->g x y z u->b):b:=h.elim λx h=>h.elim λy h=>h.elim λz h=>h.elim λu h=>k x y z u h.1 h.2.1 h.2.2.1 h.2.2.2.1 h.2.2.2.2
theorem v7{b:Prop}{p q r f g i:L->N->a->Prop}(h:∃x y z,p x y z/\q x y z/\r x y z/\f x y z/\g x y z/\i x y z)(k:∀x y z,p x y z->q x y z->r x y z->f x y z->g x y z->i x y z->b):b:=h.elim λx h=>h.elim λy h=>h.elim λz h=>k x y z h.1 h.2.1 h.2.2.1 h.2.2.2.1 h.2.2.2.2.1 h.2.2.2.2.2
theorem one{L:Type _}{p:L->Prop}{c:L}(h:p c):∀a∈[c],p a:=λa m=>(aW.mp m).symm▸h
theorem gone{L:Type _}{x:Option L}{o:L}{b:Prop}(h:x=aa o)(k:x=ak):b:=nomatch h.symm.trans k
theorem both{L:Type _}{p:L->Prop}{c:L}{l:List L}(h:p c)(k:∀a∈l,p a):∀a∈c::l,p a:=λa m=>(bA.mp m).elim (λe=>e.symm▸h) (k a)
theorem each{L:Type _}{p:L->Prop}{l m:List L}(h:∀a∈l,p a)(k:∀a∈m,p a):∀a∈l++m,p a:=λa q=>(bC.mp q).elim (h a) (k a)
theorem mono{L:Type}{M:vc}{A:aF}{c:bg L}{P Q:L->aq->Prop}{E:aj->aq->Prop}{s:aq}(h:au M A c P E s)(k:∀v a,P v a->Q v a):au M A c Q E s:=aB h k λ_ _ e=>e
theorem Gi{L:Type}{M:vc}{A:aF}{c:bg L}{P R Q:L->aq->Prop}{E:aj->aq->Prop}{s:aq}(h:au M A c (λv S=>P v S/\R v S) E s)(k:∀v S,P v S->R v S->Q v S):au M A c Q E s:=aB h (λv S y=>k v S y.1 y.2) λ_ _ e=>e
theorem dk{p:Prop}[d:Decidable p](h:autoParam (decide p=af) yAR):p:=of_decide_eq_true h
theorem Cm{b s:Nat}(h:s<b):b-s=b-(s+1)+1:=(Vd (Y3 h)).symm
theorem Q7{f l a n w m:Nat}(h:n+l=m+w):f+l+a+n=f+w+a+m:=by rw[jL f l a,jL f w a,rQ (f+a),rQ (f+a),jm l,jm w,h]
theorem cC{a b c:Nat}(h:a<=b)(k:autoParam (kT b c=af) yAR):a<=c:=aZ h (nN k)
theorem eF{a b c:Int}(h:a<=b)(k:autoParam (decide (b<=c)=af) yAR):a<=c:=gG h (of_decide_eq_true k)
theorem jj{a b:Int}(k:autoParam (decide (a<=b)=af) yAR):a<=b:=of_decide_eq_true k
theorem ry{c:Nat}(b:Nat){a n:Nat}(h:a+8*(n+1)<2000)(k:autoParam (kT (1992+b) c=af) yAR):a+b<c:=iz (W0 (Nat.lt_of_add_lt_add_right (n:=8) (gO (iy (Nat.le_mul_of_pos_right 8 (qE n)) a) h):a<1992) b) (nN k)
theorem PN{c:Nat}(b:Nat){a n:Nat}(h:a+8*n<2000)(k:autoParam (kT (2000+b) c=af) yAR):a+b<c:=iz (W0 (gO (e7 ..) h) b) (nN k)
theorem G8{a n c:Nat}(h:a+8*(n+1)<2000)(k:autoParam (kT c 8=af) yAR):a+c+8*n<2000:=gO ((rQ a c (8*n)).symm▸iy ((jm c (8*n)).symm▸iy (nN k) (8*n)) a) h
theorem Q8{a b d:Nat}(h:a+b<=d):a<=d:=aZ (e7 ..) h
theorem HS{a b d:Nat}(h:a+b<=d):b<=d:=aZ (gQ ..) h
theorem PO{i:Nat}(k:i<4):i=0\/i=1\/i=2\/i=3:=(by decide:∀j,j<4->j=0\/j=1\/j=2\/j=3) i k
theorem iu{i:Int}{n:Nat}(h:0<=i)(k:i<n):i.toNat<n:=(Mu h).mpr k
theorem BU{i:Int}{n m:Nat}(h:0<=i)(k:i<n)(e:m=n):i.toNat<m:=e▸iu h k
theorem jk{i k:Int}{n m:Nat}(h:i<k)(e:n=m)(g:autoParam ((decide (0<k)&&k.toNat.ble m)=af) yAR):i.toNat<n:=e▸iz ((YS (of_decide_eq_true (vQ.mp g).1)).mpr h) (nN (vQ.mp g).2)
theorem o9{i:Int}{k:Int}{n:Nat}(h:i<k)(g:autoParam ((decide (0<k)&&k.toNat.ble n)=af) yAR):i.toNat<n:=jk h rfl g
theorem PR{i:Int}{k:Int}{n:Nat}(h:i<=k)(e:autoParam (kT k.toNat n=af) yAR):i.toNat<=n:=aZ (JV h) (nN e)
theorem lz{i:Int}(h:0<=i)(k:i<5):i=0\/i=1\/i=2\/i=3\/i=4:=mu h▸(by decide:∀n:Nat,n<5->(n:Int)=0\/(n:Int)=1\/(n:Int)=2\/(n:Int)=3\/(n:Int)=4) _ (o9 k)
theorem G9{i:Int}(h:i=0\/i=1\/i=2\/i=3\/i=4):0<=i/\i<5:=by rcases h with rfl|rfl|rfl|rfl|rfl<;>decide
theorem xeA{i:Int}(h:0<=i)(k:i<=4):i=0\/i=1\/i=2\/i=3\/i=4:=lz h (C7 k)
theorem PS{i:Int}(h:0<=i)(k:i<4):i=0\/i=1\/i=2\/i=3:=mu h▸(by decide:∀n:Nat,n<4->(n:Int)=0\/(n:Int)=1\/(n:Int)=2\/(n:Int)=3) _ (o9 k)
theorem BV{i k:Int}{n:Nat}(h:0<=i)(e:i<k)(g:autoParam (kT k.toNat n=af) yAR):i.natAbs<n:=gR.mp ((W2 h).symm▸qx e (gG (Y4 k) (nY.mpr (nN g))))
theorem OO{i k:Int}{n:Nat}(h:0<=i)(e:i<=k)(g:autoParam (kT (k.toNat+1) n=af) yAR):i.natAbs<n:=gR.mp ((W2 h).symm▸jM (gG e (Y4 k)) (gR.mpr (nN g)))
theorem je{i k:Int}(h:i<=k)(n:¬i=k):i<k:=W3.mpr ⟨h,n⟩
theorem PT{i:Int}(h:-1<=i)(n:i<0):i=-1:=yk (yb n) h
theorem xeB{i j k:Int}(h:i+k=j):j-k=i:=h▸ye i k
theorem sO{i j k:Nat}(h:i-j=k+1):j<i:=Nat.lt_of_sub_ne_zero (h▸Nat.succ_ne_zero k)
theorem BW{a b c:Nat}(h:a<=c):min a b<=c:=aZ (vY ..) h
theorem BX{a b c:Nat}(h:b<=c):min a b<=c:=aZ (tS ..) h
theorem HT{a b c:Nat}(h:a<min b c):a<c:=iz h (tS ..)
theorem Q9{a b:Nat}(h:a<=b):(a:Int)<=b:=nY.mpr h
theorem PU{a b:Nat}{c:Int}(h:a<=b)(k:autoParam (decide ((b:Int)<=c)=af) yAR):(a:Int)<=c:=gG (nY.mpr h) (of_decide_eq_true k)
theorem sP{i c:Int}{n m:Nat}(h:i<n)(g:n<=m)(k:autoParam (decide ((m:Int)<=c)=af) yAR):i<c:=qx h (gG (nY.mpr g) (of_decide_eq_true k))
theorem Bq{i:Int}{n m:Nat}(h:i<n)(g:m=n):i<m:=g▸h
theorem fW{a b:Int}(h:a<=b)(k:autoParam (decide (c<=a)=af) yAR):c<=b:=gG (of_decide_eq_true k) h
theorem PV{i:Int}(h:1<=i)(k:i<=4):i=1\/i=2\/i=3\/i=4:=(lz (fW h) (C7 k)).resolve_left λe=>absurd (e▸h) (by decide)
theorem tw{i j n m:Nat}(h:i<=n)(g:j<=m)(k:autoParam (kT (n+m) c=af) yAR):i+j<=c:=aZ (mE h g) (nN k)
theorem zl{i j n:Nat}(h:i<=n)(k:autoParam (kT (n+j) c=af) yAR):i+j<=c:=aZ (qv h j) (nN k)
theorem Hf{i j n m c d:Nat}(h:n+m<=d)(e:i=n)(f:j=m)(k:autoParam (kT d c=af) yAR):i+j<=c:=e▸f▸aZ h (nN k)
theorem iW{i n c d:Nat}(h:n<=d)(e:i=n)(k:autoParam (kT d c=af) yAR):i<=c:=e▸aZ h (nN k)
theorem HU{i j k:Int}{n m:Nat}(h:i<j)(l:j<=k)(e:n=m)(g:autoParam ((decide (0<k)&&k.toNat.ble m)=af) yAR):i.toNat<n:=jk (qx h l) e g
theorem zA{a b c:Nat}(h:a-b=c)(k:b<a):a-(b+1)<c:=h▸Nat.sub_lt_sub_left k (gA b)
theorem Cn{a b c d:Nat}(h:a-b=c)(k:c<=d+1):a-(b+1)<=d:=Nat.pred_le_pred (h▸k:a-b<=d+1)
theorem js4{a b c d:Nat}(h:a-b=c)(k:c<=d+1):a-(b+2)<=d:=aZ (Nm _) (Cn h k)
theorem js5{a b c:Nat}(h:a-b=c)(k:b<a):a-(b+2)<c:=gO (Nm _) (zA h k)
theorem HV{a b c:Nat}(h:a+(b+1)<c):a+1+b<c:=(jL a 1 b).symm▸h
theorem jm1{i j:Int}{n:Nat}(e:n=4)(D:0<=i)(h:i<j)(l:j<=4):i.toNat<min j.toNat n:=xgN.mpr ⟨(YS (jM D h)).mpr h,HU h l e⟩
theorem jm2{a n:Nat}{i:Int}(h:a<min i.toNat n):(a:Int)<i:=Mv.mp (iz h (vY ..))
theorem Ra{a b c n:Nat}(h:a<min b n)(e:c=a)(f:c=b):False:=bS (iz h (vY ..)) (e.symm.trans f)
theorem jx{M N x y:Nat}(h:y<N)(k:x<M):N*x+y<N*M:=iz (Xe h (N*x)) (mY N k)
theorem Rb{a b c d:Nat}(h:d<24)(i:c<24)(j:b<24)(k:a<24):13824*a+(576*b+(24*c+(1*d+0)))<331776:=jx (M:=24) (jx (M:=24) (jx (M:=24) ((yw d).symm▸h:1*d<24) i) j) k
theorem Gj{i j:Int}(h:0<=i)(g:0<=j)(n:¬j=i):i.toNat≠j.toNat:=λe=>n ((mu g).symm.trans ((congrArg (λx:Nat=>(x:Int)) e.symm).trans (mu h)))
theorem PX{a b c:Nat}(h:a+8*(c+2)<2000)(e:b=1):a+b+8*(c+1)<2000:=by subst e;exact G8 h
theorem PY{a b c:Nat}(h:a+(c+2)<660)(e:b=1):a+b+(c+1)<660:=by subst e;exact(rI a (c+1)).symm▸h
theorem lU{a b c d:Nat}(h:a+(b+c)<d):a+c<d:=gO (iy (gQ c b) a) h
theorem vf{k s n:Nat}(h:k+1+s=n):s<n:=h▸Nat.lt_add_of_pos_left (qE k)
theorem jo1{i:Int}(h:1<=i):i=((i.toNat-1+1:Nat):Int):=(qy (JV h)).symm▸(mu (gG (by decide) h)).symm
theorem jo2{i:Int}(h:0<=i)(l:i<=4):((min i.toNat 4:Nat):Int)=i:=(Kw (JV l)).symm▸mu h
theorem Rc{i:Int}{a b:Nat}(h:a<b)(e:i=0+(a:Int)):i-1<b:=m6 (Int.sub_lt_self i (by decide)) (e▸(mG _).symm▸gR.mpr h)
theorem Rd{i:Int}{a:Nat}(e:i=0+(a:Int))(n:¬i=0):0<=i-1:=JD (W3.mpr ⟨e▸(mG _).symm▸iP a,gu n⟩)
theorem jo7{i:Int}{a b:Nat}(h:a<b)(g:b=5)(e:i=0+(a:Int)):0<=i/\i<5:=⟨e▸(mG _).symm▸iP a,e▸(mG _).symm▸gR.mpr (iz h (dh g))⟩
theorem sQ{a:Int}{p:Prop}(h:a<a):p:=absurd h (yo _)
theorem rC{a b:Int}{p:Prop}(h:a<b)(e:a=b):p:=absurd e (Int.ne_of_lt h)
theorem BY{a b:Int}{p:Prop}(h:a<b)(e:b<=a):p:=absurd h (fD.mpr e)
theorem xcY{a b:Nat}{p:Prop}(h:a<b)(e:b<=a):p:=absurd h (rX.mpr e)
theorem jq{a b c:Nat}(e:b=c)(h:a<=c):a<=b:=e▸h
theorem jz{a b c:Nat}(e:a=c)(h:c<=b):a<=b:=e▸h
theorem Rf{a b c:Int}(e:b=c)(h:a<=c):a<=b:=e▸h
theorem PZ{a b c:Int}(e:a=c)(h:c<=b):a<=b:=e▸h
theorem jx3{b c d:Nat}(h:d<24)(i:c<24)(j:b<24):576*b+(24*c+(1*d+0))<13824:=jx (M:=24) (jx (M:=24) ((yw d).symm▸h:1*d<24) i) j
theorem jx2{c d:Nat}(h:d<24)(i:c<24):24*c+(1*d+0)<576:=jx (M:=24) ((yw d).symm▸h:1*d<24) i
theorem Rg{a b c d:Nat}(h:a<=b/\b<c/\c<=d):a<=b/\b<=d:=⟨h.1,eB (iz h.2.1 h.2.2)⟩
theorem jj2{i:Int}{n:Nat}(h:n<i.toNat)(k:i<5):(n:Int)<5:=m6 (Mv.mp h) k
theorem Rh{i:Int}{n:Nat}(h:0<=i)(k:i.toNat<n):0<=i/\i<(n:Int):=⟨h,(Mu h).mp k⟩
theorem jj4{i:Int}(h:i=0\/i=1\/i=2\/i=3\/i=4):i.toNat<=4:=El.mpr (yb (G9 h).2)
noncomputable def kS:cZ->List cZ×List aS×List ExceptHandler×dW×Arguments|.FunctionDef _ a b _ _ _ c _ _ _=>(b,[],[],c,a)|.ClassDef _ _ _ b _ _ _ _ _ _ _=>(b,[],[],default,default)|.For _ _ b _ _=>(b,[],[],default,default)|.Try b h _ _ _=>(b,[],h,default,default)|.If e b _ _=>(b,[e],[],default,default)|.Assign _ e _=>([],[e],[],default,default)|.Return (aa e) _=>([],[e],[],default,default)|_=>default
noncomputable def kE:aS->List aS×List (Option aS)|.Tuple l _ _=>(l,[])|.Call f l _ _=>(f::l,[])|.BoolOp _ l _=>(l,[])|.Compare l _ r _=>(l::r,[])|.Dict k v _=>(v,k)|_=>default
def sR(e:aS)(i:Nat):aS:=(kE e).1.getD i default
noncomputable def sS(l:List cZ)(i:Nat):cZ:=l.getD i (.Pass default)
def aO(p:dw)(i:Nat):cZ:=sS p.main.body i
def bodyOf(s:cZ):List cZ:=(kS s).1
def d9(s:cZ):dW:=(kS s).2.2.2.1
def valOf(s:cZ):aS:=(kS s).2.1.headD default
def fd(M:cZ)(n q:ai)(g:ah)(D i:aj):eU:={name:=n,qualname:=q,params:=(kS M).2.2.2.2,body:=.stmts (bodyOf M),scope:=d9 M,globals:=g,closure:=[],defaults:=.none,kwdefaults:=.none,doc:=.none,pyModule:=D,annotations:=ak,code:=i,closureTuple:=.none,builtins:=0}
theorem nD{L:Type _}{P:L->Prop}:∀x∈([]:List L),P x:=λ_ m=>absurd m b9
theorem dP{L:Type _}{P:L->Prop}{a:L}{l:List L}(h:P a)(t:∀x∈l,P x):∀x∈a::l,P x:=List.forall_mem_cons.mpr ⟨h,t⟩
theorem qN{L:Type _}{t l:List L}{a:L}(h:∃r,t=l++a::r):a∈t:=h.elim λr e=>e▸cJ _ (aP ..)
theorem MD{L:Type _}{t l:List L}{a:L}(h:∃r,t=l++a::r){x:L}(m:x∈l):x∈t:=h.elim λr e=>e▸bI _ m
theorem ME{L:Type _}{t l:List L}{a:L}(h:∃r,t=l++a::r):l.length<=t.length:=h.elim λr e=>by rw[e,cK];exact e7 ..
end Mine
namespace MineH
open PySem PySem.W Mine
noncomputable def P0:Nat->Nat->List Nat|0,_=>[]|k+1,n=>n%2097152::P0 k (n/2097152)
def S(k l:Nat):ai:=⟨⟨P0 k l⟩⟩
noncomputable def P1:Nat->Nat->List Nat|0,_=>[]|k+1,n=>n%128::P1 k (n/128)
def A(k l:Nat):ai:=⟨⟨P1 k l⟩⟩
noncomputable def vS(s:ai)(t:Nat):aj:=.str s t
noncomputable def vI(n t:Nat):aj:=.int (.ofNat n) t
noncomputable def vR(a:Nat):aj:=.ref a
noncomputable def vT(a:String):aj:=.type a
noncomputable def E(P:lP)(s:ai)(t:Nat)(v:aj):gm:=⟨PyData.keyHash P s,.str s t,v⟩
def pX(p:dw)(i j:Nat):cZ:=sS (bodyOf (aO p i)) j
noncomputable def gH:List bR->Nat->BT->BT|[],_,t=>t|o::r,i,t=>gH r (i+1) (t.ins i o)
def cj(l:List bR):BT:=gH l 0 .nil
noncomputable def P4:List (Option aS)->List aS->Nat->List gm|aa (.Constant (.int k) _ _)::y,.Constant (.str x) _ _::a,t=>⟨k,.int k t,.str x (t+1)⟩::P4 y a (bif ng t 2544 then t+3 else t+2)|_,_,_=>[]
def xd(p:dw):List gm:=P4 (kE (valOf (aO p 18))).2 (kE (valOf (aO p 18))).1 606
def cY(p:dw)(i n:Nat):List gm:=((xd p).drop i).take n
noncomputable def pk(o:bR):aj:=match o.data with|.dict D _=>I9 (Fast.tw16974681997125317408 D)|_=>.none
def s0:=A 1 12
def s1:=A 8 0xbf7f769c3b6fdf
def s2:=A 4 213694943
def s3:=S 0 0x0
def s4:=A 53 0x208505073c586620e997963cb4d079c48193060c96b772e58a0538d420e9a33e9e5e786f868192e64b99208b4a9a0
def s5:=A 17 0x62d3b3a72dfc36e9bfbb2fadfcb35f
def s6:=A 8 0xdda56f4d9a7ae2
def s7:=A 8 0xbf7fa63d392fdf
def s8:=A 11 0x17efe6cbcb5e1cbdefdf
def s9:=A 7 443303111193055
def Ri:=A 13 0x72e9d30e5d9a735fe9979df
def Rj:=A 25 0x73cbb3ae4dfb7175e77f265f5a7661d3d34eed3bbadf
def s12:=A 6 3944333473772
def Rk:=A 12 0xcbd30f4e77f965c9877ec
def Rl:=A 4 213610734
def Rm:=A 6 3807974685039
def Rn:=A 26 0x39eedfa7a61c7bf65fd18f961cbcefe5d9d726fdb8baf3
def Ro:=A 8 0x7d97675c9bf6bc
def HW:=A 13 0x79e0bba75c6bf6e9c3b31af
def mU:=A 13 0x73e987a73e0b99b167e7863
def vg:=A 9 0x70dbbe1e5d9c3ad4
def zB:=A 4 215692019
def Rp:=A 16 0xe9cf4ecbfd31e5d9979dfe1b77e3
def iI:=A 8 0xbf7fa69dda6fdf
def HX:=A 18 0x2fdfe9a7769bf7d770dbbe1e5d9c3ad4
def s25:=A 4 244953836
def s26:=A 5 31358317810
def s27:=A 5 32425719657
def s28:=A 9 0x6edfa7a63cbcb4e4
def s29:=A 1 108
def Rq:=A 1 114
def zC:=A 7 448145982715875
def HY:=A 17 0x65e58786ddf8d770dbbe1e5d9c3ad4
def Rr:=A 6 4013059518708
def Rt:=A 6 3497149691891
def s35:=A 2 12771
def Ru:=A 2 12782
def s37:=A 2 14964
def s38:=A 2 14947
def Rv:=A 7 509719699206371
def s40:=A 4 209252340
def s41:=A 4 209432564
def s42:=A 4 245182452
def s43:=A 4 244903924
def s44:=A 9 0x73e59766cc38eff4
def vh:=A 14 0x39f4c3d39dfc7bbae6bf93261
def s46:=A 11 0x1cf965d9b30e3bfdf2ee
def s47:=A 4 209435366
def s48:=A 6 3944350429411
def vj:=A 11 0x1cf965d9b30e3bf93261
def s50:=A 5 31098351843
def vm:=A 11 0x1cf66cc38eff4ddd77e3
def gy:=A 14 0x3169d9c3a6de6b99b167e7863
def s53:=A 7 0xbae5e53b5fa8
def s54:=A 20 0x52a775c42fd472b9f375cf9bae72b8e9fa8
def ql:=A 13 0x6edfa7a70cb8fc45a1526d3
def tB:=A 21 0x6edfa7a70cb8fc45cbcf76fe1cf2d2a1526d3
def Co:=A 4 213465059
def Rw:=A 3 1702381
def HZ:=A 30 0x2fdfe9a7769bf7d76edfa7a70cb8fc45cbcf76fe1cf2d2a1526d3
def H6:=A 4 242874721
def Rx:=A 9 0x65c9bf1dfe1d36f3
def Ry:=A 10 0x396fe5cb2dfe1d36f3
def xK:=A 17 0x64cbcfae6cb4b965c9bb2d3a1526d3
def Rz:=A 6 3944333685491
def H7:=A 26 0x2fdfe9a7769bf7d764cbcfae6cb4b965c9bb2d3a1526d3
def xM:=A 21 0x64cbcfae6cb4b9f4dd974f0d38f2d2a1526d3
def RA:=A 10 0x39f4dd974f0d38f2f2
def H8:=A 30 0x2fdfe9a7769bf7d764cbcfae6cb4b9f4dd974f0d38f2d2a1526d3
def s69:=A 4 205336804
def vo:=A 9 0x61e987265e9bfaf1
def vp:=A 17 0x70cbcb867dda7974e6b99b167e7863
def vq:=A 11 0xc715fcbb3161e97f769
def vt:=A 12 0x678afe5d98b0f4bfc30ed
def lD:=A 13 0x31617dab260c3d77bfdf0ec
def vz:=A 9 0x65db8775fef8765f
def vA:=A 11 0x1cf2e8e7a7bdfef8765f
def vB:=A 8 0xddd795fef8765f
def vD:=A 11 0x1cf26eebbf95fef8765f
def vE:=A 11 0x1cf2ecc7e71dfef8765f
def vF:=A 9 0x6de5a735fef8765f
def vG:=A 3 1962220
def s82:=A 2 1293
def s83:=A 8 0xe7bb4f4d9a7ae2
def RB:=A 18 0x32f2e77d764cb930efd8bba72dfc36e9
def RC:=A 39 0x1cb2f4e5bf86d93bb4f4d9a7ac25d8b4ece9cb7f0dba6feecbeb7f2cd7d773e787663
def RD:=A 14 0x3a72dfc36e95d932e8c7d30f7
def RE:=A 34 0x31e5e14f2eceb937cd5d8b4ece9cb7f0dba6feecbeb7f2cd7d773e787663
def RG:=A 24 0xd18f7f0cab7265d7bf7e25dcf2eceb937ed5dcfcf3
def RH:=A 22 0x32f2e77d764d38762de597a61d8bba72dfc36e9
def RJ:=A 15 0x1e7961e58b4ec5d932e8c7d30f7
def RK:=A 23 0x1cfa63cbab16f5be7961e58b4ec5d932e8c7d30f7
def RM:=A 25 0x65e5cefaee1972e45be7961e58b4ec5d932e8c7d30f7
def H9:=A 8 0xbf7f2edc3bafdf
def qm:=A 7 421105403244511
def Ia:=A 11 0x17efe5cf875e3c3c2fdf
def Ib:=A 10 0x2fdfe597261dfb2fdf
def Ic:=A 8 0xbf7f1e5e1cefdf
def RN:=A 7 447941971769315
def RO:=A 8 0xcbd30ece1b72f4
def P5:=A 11 0x197d69e79726fc7d32e7
def P6:=A 13 0x64cbcf0e3e7a6fe9d38f9e1
def P7:=A 15 0x1932f3c38f9e9bf9726fc7a7775
def P8:=A 13 0x72cbdf7ecdfd2fe9d38f9e1
def P9:=A 15 0x1cb2f7dfb37f4bf9726fc7a7775
def Qa:=A 5 18139439309
def Qc:=A 8 0x8b6a4d38b127c3
def Qd:=A 9 0x548316845a5620cd
def Qe:=A 9 0x53a1567d28f620cd
def Qf:=A 9 0x74d19f4f2f3c37e3
def nE:=A 10 0x2fdfcbb3ae4dfb6fdf
def nF:=A 15 0x17efefdd97769d9d39f2d39afdf
def xeC:=A 7 345575102130143
def xeD:=A 9 0x63cbc39dfc9bb4e6
def xeE:=A 13 0x65d9d726fdb7f2f4c397963
def xeF:=A 11 0x197675c9bf6dfc797c65
def xeG:=A 8 0xcb937e3bfd32e7
def xeH:=A 10 0x32e3e5d77f3bfd32e7
def xeI:=A 10 0x32e7c3af1e1e17f9e9
def xeJ:=A 11 0x197675c9bf6dfc9877ec
def nG:=A 21 0x5fbfcf2f4eb8b4f2e9d30dfc7a7a61e9cefdf
def xeK:=A 13 0x67dda7d69d9874f4d3bb4df
def xeL:=A 8 0xbf7f970cbcafdf
def xeM:=A 6 3289915158495
def xeN:=A 6 3463305556195
def xeO:=A 6 4015471243504
def xeP:=A 12 0xddbf4f4c38f7ecbfcf0e8
def xeQ:=A 8 0xbf7f473c3a2fdf
def zm:=A 12 0xbf7f2edc3bb661ebc6fdf
def xeR:=A 29 0x305dcb7f2e5169cf5d7eff3cbcf9e1d98f175e77efaecbc3cf4
def xeS:=A 29 0x6e5dcb7f2e5169cf5d7eff3cbcf9e1d98f175e77efaecbc3cf4
def xeT:=A 15 0x17eff3ddbf4f4c3d37eedd86fdf
def xeU:=A 12 0xbf7f9eed3d3669eb8afdf
def xeV:=A 8 0xbf7f2ecd39afdf
def xeW:=A 10 0x2fdfc997463c38efdf
def xeX:=A 10 0x18dfcbcafeed3dfa5f
def xeY:=A 10 0x195fcbcafeed3dfa5f
def xeZ:=A 4 148056387
def xfa:=A 6 4013084367074
def xfb:=A 13 0x73ddbf4f4e1971f8cb7d9e2
def xfc:=A 15 0x1cb2f4e5bf86d93bb4f4d9a7ac2
def xfd:=A 10 0x31e5e14f2eceb937cd
def cD(l:List gm)(n:Nat):bR:=⟨vT "dict",ak,.dict ⟨l⟩ n,⟨[]⟩⟩
noncomputable def oF(c:aj)(l:List aj):bR:=⟨c,ak,.fields ⟨l⟩,⟨[]⟩⟩
def oQ(c:String)(l:List aj)(n:Nat):bR:=⟨vT c,ak,.seq ⟨l⟩ n,⟨[]⟩⟩
def oK(M:cZ)(s S:ai):bR:=⟨.none,ak,.func (fd M s S 0 .none .none),⟨[]⟩⟩
def oN(M:cZ)(s S u:ai)(t c:Nat):bR:=⟨vT "function",ak,.func (fd M s S 3 (vS u t) (vR c)),⟨[]⟩⟩
def oC(s S:ai)(t u b n a:Nat)(k:Nat):bR:=oF (vT "code") [vS s t,vS S (t+1),vS HW (t+2),vI b 0,vI n 0,vI 0 0,vI 0 0,vI (bif k==0 then 0 else 3) 0,vR a,.bool (k !=0),vI 276 0,vR (a+1),.none,bif k==2 then vR (a+2)else .none,bif k==2 then vR (a+3)else .none,bif k==2 then vR (a+4)else bif k==1 then vR (a+2)else .none,vI u 0,vI b 0,vS HW (u+1)]
def oT(s:ai)(b m:List aj)(n:Nat)(u:List aj)(a:List (Option aj)):bR:=⟨vT "type",ak,.cls {name:=s,bases:=b,mro:=m,ns:=n,qualname:=s,hasDict:=af,slotNames:=[],subclasses:=u,abstract:=av,collection:=ak,hasDel:=av},⟨a⟩⟩
def xA:List aj:=[vT "OSError",vT "Exception",vT "BaseException",vT "object"]
def eA(r:Nat)(s:ai)(t u:Nat):List (Option aj):=[aa (vR r),ak,aa (vS s t),aa (vS s u),aa (.builtin "OSError.__new__"),aa (.bool af)]
def oR(a b:Nat)(s:ai)(t:Nat):bR:=⟨vT "frame",ak,.plain,⟨[aa (vR a),aa (vR 3),aa (vR b),ak,aa (vS s t),ak,aa (vR 0)]⟩⟩
def oY(t a:Nat):bR:=oF (vT "getset_descriptor") [vS s7 t,vR a,.builtin "function.__dict__",.builtin "function.__dict__#set"]
def oZ(t a:Nat):bR:=oF (vT "getset_descriptor") [vS s8 t,vR a,.builtin "ExceptionGroup.__weakref__",.none]
def oU(a:Nat):bR:=oF (vT "super") [vR a,vR a,vR a]
def oI(a:Nat):bR:=oF (vT "builtin_function_or_method") [.builtin "object.__init_subclass__",vR a]
section
variable(p:dw)(P:lP)
def BZ:=cD [E P s83 162 (vR 4),E P s1 163 (vR 5),E P s2 244 (vR 12)] 3
def Hg:bR:=⟨.none,ak,.dict ⟨[E P RB 183 (.bool af),E P RC 185 (vR 14),E P RD 206 (vR 18),E P RE 216 (vR 22),E P RG 245 (vI 3 0),E P RH 270 (.bool af),E P RJ 272 (vR 27),E P RK 0 (vS s0 0),E P RM 273 (I9 ⟨[vI 11 0,vI 11 0,vI 3 0,vI 11 0,vT "dict",.notImplemented]⟩)]⟩ 9,⟨[]⟩⟩
def l3:List gm:=[E P qm 166 .none,E P Ia 167 .none,E P Ib 168 (.builtin "__main__.__loader__#opaque"),E P Ic 169 .none,E P xeT 170 (vR 6),E P xeU 171 (vR 4),E P xeV 173 (vS HW 172),E P xeW 174 .none,E P s2 275 (vR 12),E P vg 325 (vR 55),E P vh 343 (vR 66),E P vj 354 (vR 73),E P vm 363 (vR 80),E P xeX 381 (vR 85),E P xeY 423 (vR 90),E P xeZ 425 (vS s82 424),E P ql 445 (vR 100),E P tB 473 (vR 120),E P xK 503 (vR 139),E P xM 529 (vR 158),E P vo 536 (vR 167),E P xfa 598 (vR 175),E P vq 605 (vR 185),E P xfb 2556 (vR 186),E P vt 2564 (vR 231),E P vz 2572 (vR 236),E P vA 2578 (vR 241),E P vB 2584 (vR 246),E P vD 2590 (vR 251),E P vE 2596 (vR 256),E P vF 2602 (vR 261),E P vG 2608 (vR 266)]
def oG(s:ai)(t n:Nat):bR:=cD (E P H9 165 (vS s t)::(l3 P).take n) (n+1)
def Hh:=oG P s1 164 9
def OP:=cD [E P H9 247 (vS s2 246),E P qm 248 .none,E P Ia 250 (vS s3 249),E P Ib 251 (vR 14),E P Ic 252 (vR 26),E P RN 253 (.builtin "_sre.compile"),E P RO 254 (.builtin "_sre.template"),E P P5 255 (.builtin "_sre.getcodesize"),E P P6 256 (.builtin "_sre.ascii_iscased"),E P P7 257 (.builtin "_sre.unicode_iscased"),E P P8 258 (.builtin "_sre.ascii_tolower"),E P P9 259 (.builtin "_sre.unicode_tolower"),E P Qa 261 (vI 20230612 260),E P Qc 263 (vI 4 262),E P Qd 265 (vI 4294967295 264),E P Qe 267 (vI 1073741823 266),E P Qf 269 (vS s4 268)] 17
def OQ:=cD [E P H9 247 (vS s2 246),E P qm 248 .none,E P Ia 250 (vS s3 249),E P Ib 251 (.builtin "off-the-table:_sre.__loader__:shared#opaque"),E P Ic 252 (.builtin "off-the-table:_sre.__spec__:shared#opaque"),E P RN 253 (.builtin "_sre.compile"),E P RO 254 (.builtin "off-the-table:_sre.template:shared#opaque"),E P P5 255 (.builtin "off-the-table:_sre.getcodesize:shared#opaque"),E P P6 256 (.builtin "off-the-table:_sre.ascii_iscased:shared#opaque"),E P P7 257 (.builtin "off-the-table:_sre.unicode_iscased:shared#opaque"),E P P8 258 (.builtin "off-the-table:_sre.ascii_tolower:shared#opaque"),E P P9 259 (.builtin "off-the-table:_sre.unicode_tolower:shared#opaque"),E P Qa 261 (vI 20230612 260),E P Qc 263 (vI 4 262),E P Qd 265 (vI 4294967295 264),E P Qe 267 (vI 1073741823 266),E P Qf 269 (vS s4 268)] 17
def Gk:bR:=⟨vT "module",aa 11,.plain,⟨[]⟩⟩
def Br:=cD [E P nE 189 (vS s5 186),E P nF 190 (vI 971 187),E P qm 191 (.builtin "_frozen_importlib.BuiltinImporter.__doc__:str#opaque"),E P xeC 192 (vS s6 188),E P xeD 193 (.builtin "_frozen_importlib.BuiltinImporter.find_spec#opaque"),E P xeE 194 (.builtin "_frozen_importlib.BuiltinImporter.create_module#opaque"),E P xeF 195 (.builtin "_frozen_importlib.BuiltinImporter.exec_module#opaque"),E P xeG 196 (.builtin "_frozen_importlib.BuiltinImporter.get_code#opaque"),E P xeH 197 (.builtin "_frozen_importlib.BuiltinImporter.get_source#opaque"),E P xeI 198 (.builtin "_frozen_importlib.BuiltinImporter.is_package#opaque"),E P xeJ 199 (.builtin "_frozen_importlib.BuiltinImporter.load_module#opaque"),E P nG 200 (vR 15),E P s7 202 (vR 16),E P s8 204 (vR 17)] 14
def Gl:=oT xfc [vT "object"] [vR 14,vT "object"] 13 [] []
def dB:=oQ "tuple" [] 0
def Gn:=oY 201 14
def Gp:=oZ 203 14
def Gq:=oQ "list" [] 0
def Gr:=cD [E P Rl 208 (vS s2 207),E P s12 209 (vR 14),E P Rm 210 (vS s6 184),E P Rk 211 .none,E P Rn 212 .none,E P Rj 213 (vR 19),E P Ri 214 (.bool av),E P s9 215 .none,E P xeK 243 (.bool av)] 9
def Bs:=cD [E P nE 227 (vS s5 217),E P nF 228 (vI 562 218),E P qm 229 (.builtin "_frozen_importlib.ModuleSpec.__doc__:str#opaque"),E P iI 230 (.builtin "_frozen_importlib.ModuleSpec.__init__#opaque"),E P xeL 231 (.builtin "_frozen_importlib.ModuleSpec.__repr__#opaque"),E P xeM 232 (.builtin "_frozen_importlib.ModuleSpec.__eq__#opaque"),E P xeN 233 (.builtin "_frozen_importlib.ModuleSpec.cached#opaque"),E P xeO 234 (.builtin "_frozen_importlib.ModuleSpec.parent#opaque"),E P xeP 235 (.builtin "_frozen_importlib.ModuleSpec.has_location#opaque"),E P nG 236 (vR 23),E P s7 238 (vR 24),E P s8 240 (vR 25),E P xeQ 241 .none] 13
def Gs:=oT xfd [vT "object"] [vR 22,vT "object"] 21 [] []
def Gu:=oQ "tuple" [vS s9 219,vS Ri 220,vS Rj 221,vS s12 222,vS Rk 223,vS Rl 224,vS Rm 225,vS Rn 226] 0
def Gv:=oY 237 22
def Gw:=oZ 239 22
def Gx:bR:=⟨vR 22,aa 20,.plain,⟨[]⟩⟩
def Gy:bR:=⟨.none,ak,.seq ⟨[vI 13 0,pk (Br P),.bool af,.bool af,vS s3 205,vI 21 0,pk (Bs P),.bool af,.bool af,vS s3 242]⟩ 1,⟨[]⟩⟩
def Gz:bR:=⟨.none,ak,.seq ⟨[vI 11 0,pk (OP P),.bool af,.bool av,vS s2 271]⟩ 0,⟨[]⟩⟩
def iJ:List aj:=[vI 3 0,vI 0 0,vR 37,vI 17 0,vI 0 0,vR 65,vI 21 0,vI 0 0,vR 72,vI 34 0,vI 0 0,vR 79,vI 43 0,vI 0 0,vR 96,vI 45 0,vI 0 0,vR 109,vI 51 0,vI 0 0,vR 128,vI 58 0,vI 0 0,vR 147,vI 63 0,vI 0 0,vR 166,vI 67 0,vI 0 0,vR 184,vI 70 0,vI 0 0,vR 230,vI 76 0,vI 0 0,vR 235,vI 79 0,vI 0 0,vR 240,vI 90 0,vI 0 0,vR 245,vI 113 0,vI 0 0,vR 250,vI 125 0,vI 0 0,vR 255,vI 134 0,vI 0 0,vR 260,vI 142 0,vI 0 0,vR 265]
def Ta(_:dw)(P:lP):=cj [QY P,BZ P,Hg P,Hh P,G3 P,QZ P,Q0 P,Q2 P,Q3 P,Q4 P,QN P,OQ P,Gk,Br P,Gl,dB,Gn,Gp,Gy P,Gq,Gr P,Bs P,Gs,Gu,Gv,Gw,Gx,Gz P]
def xN(_:dw)(P:lP):=cj [QY P,BZ P,Hg P,Hh P,G3 P,QZ P,Q0 P,Q2 P,Q3 P,Q4 P,QN P,OQ P,Gk,Br P,Gl,dB,Gn,Gp,Gy P,Gq,Gr P,Bs P,Gs,Gu,Gv,Gw,Gx,Gz P,dB,oF .none ((iJ).take 0),oC Ro Ro 277 280 1 0 28 0,oR 30 3 s1 164]
def Ie:=(xN p P).set 3 λ_=>oG P mU 282 9
def zb:=oF (vT "builtin_function_or_method") [.builtin "type.__prepare__",vT "type"]
def jd:=oF .none []
def OR:=oC iI HX 296 301 5 2 39 2
def zc:=oN (pX p 2 0) iI HX mU 282 44
def OS:=oC zC HY 304 314 8 3 46 2
def uI:=oN (pX p 2 1) zC HY mU 282 51
def nv:=oT vg [vT "object"] [vR 55,vT "object"] 54 [] [ak,ak,aa (vS vg 284),aa (vS vg 292),aa (.builtin "object.__new__"),aa (.bool af)]
def Ig:=gH [dB,zb,cD [E P nE 291 (vS mU 282),E P zm 293 (vS vg 292),E P nF 295 (vI 3 294),E P iI 303 (vR 45),E P zC 316 (vR 52),E P nG 318 (vR 53)] 6,dB,oF .none [vI 5 0,vI 4 0,vR 44,vI 8 0,vI 4 0,vR 51],oC vg vg 286 289 3 0 35 0,oR 37 34 mU 282,dB,jd,oQ "tuple" [vS zB 299,vS Rp 300] 0,dB,oK (pX p 2 0) iI HX,OR,zc p,dB,jd,oQ "tuple" [vS zB 307,vS s25 308,vS s26 309,vS s27 310,vS s28 311,vS s29 312,vS Rq 313] 0,dB,oK (pX p 2 1) zC HY,OS,uI p,oQ "tuple" [vS Rp 317] 0,cD [E P nE 291 (vS mU 282),E P nF 295 (vI 3 294),E P iI 303 (vR 45),E P zC 316 (vR 52),E P nG 318 (vR 53),E P s7 320 (vR 56),E P s8 322 (vR 57),E P qm 323 .none] 4,nv,oY 319 55,oZ 321 55,oU 55,oI 55] 32 (((Ie p P).set 3 λ_=>oG P mU 282 10).set 29 λ_=>oF .none ((iJ).take 3))
def OT:=oC vh vh 326 341 17 2 60 2
def GA:=oN (aO p 3) vh vh mU 282 65
def Ih:=gH [dB,jd,oQ "tuple" [vS Rr 329,vS Rt 330,vS s35 331,vS Ru 332,vS s37 333,vS s38 334,vS Rv 335,vS s40 336,vS s41 337,vS s42 338,vS s43 339,vS s44 340] 0,dB,oK (aO p 3) vh vh,OT,GA p] 60 (((Ig p P).set 3 λ_=>oG P mU 282 11).set 29 λ_=>oF .none ((iJ).take 6))
def OU:=oC vj vj 344 352 21 2 67 2
def GC:=oN (aO p 4) vj vj mU 282 72
def Ii:=gH [dB,jd,oQ "tuple" [vS Rr 347,vS Rt 348,vS s46 349,vS s47 350,vS s48 351] 0,dB,oK (aO p 4) vj vj,OU,GC p] 67 (((Ih p P).set 3 λ_=>oG P mU 282 12).set 29 λ_=>oF .none ((iJ).take 9))
def OV:=oC vm vm 355 361 34 1 74 2
def GD:=oN (aO p 5) vm vm mU 282 79
def Ij:=gH [dB,jd,oQ "tuple" [vS Rv 358,vS Ru 359,vS s50 360] 0,dB,oK (aO p 5) vm vm,OV,GD p] 74 (((Ii p P).set 3 λ_=>oG P mU 282 13).set 29 λ_=>oF .none ((iJ).take 12))
def Ik:=(Ij p P).set 3 λ_=>oG P gy 364 13
def OW:=cD [] 0
def OX:=oQ "tuple" [.none] 0
def OY:=oQ "tuple" [vI 14 0,vI 4 0,vI 0 0,vI 1 0,vI 1 0,vI 6 0,vI 1 0,vI 16 0,vI 46 0,vI 1 0] 0
def OZ:=oF (vT "re.Pattern") [vS s53 367,vI 40 380,vI 0 0,.none,.none,vR 84,vI 0 0]
def Il:=gH [oQ "list" [vI 14 369,vI 4 370,vI 0 371,vI 1 372,vI 1 373,vI 6 374,vI 1 375,vI 16 376,vI 46 377,vI 1 378] 0,OW,OX,OY,OZ] 81 ((Ik p P).set 3 λ_=>oG P gy 364 14)
def O0:=oQ "tuple" [vI 14 0,vI 9 0,vI 4 0,vI 1 0,vI 2 0,vI 16 0,vI 10 0,vI 16 0,vI 13 0,vI 0 0,vI 7 0,vI 7 0,vI 16 0,vI 13 0,vI 16 0,vI 10 0,vI 15 0,vI 18 0,vI 5 0,vI 16 0,vI 10 0,vI 15 0,vI 13 0,vI 11 0,vI 16 0,vI 13 0,vI 5 0,vI 5 0,vI 0 0,vI 16 0,vI 10 0,vI 1 0,vI 15 0,vI 2 0,vI 0 0,vI 1 0] 0
def O1:=oF (vT "re.Pattern") [vS s54 383,vI 32 422,vI 0 0,.none,.none,vR 89,vI 0 0]
def Im:=gH [oQ "list" [vI 14 385,vI 9 386,vI 4 387,vI 1 388,vI 2 389,vI 16 390,vI 10 391,vI 16 392,vI 13 393,vI 0 394,vI 7 395,vI 7 396,vI 16 397,vI 13 398,vI 16 399,vI 10 400,vI 15 401,vI 18 402,vI 5 403,vI 16 404,vI 10 405,vI 15 406,vI 13 407,vI 11 408,vI 16 409,vI 13 410,vI 5 411,vI 5 412,vI 0 413,vI 16 414,vI 10 415,vI 1 416,vI 15 417,vI 2 418,vI 0 419,vI 1 420] 0,OW,OX,O0,O1] 86 ((Il p P).set 3 λ_=>oG P gy 364 15)
def Io:=(Im p P).set 3 λ_=>oG P gy 364 16
def xfe:bR:=⟨.none,ak,.dict ⟨[E P RB 183 (.bool af),E P RC 185 (vR 14),E P RD 206 (vR 18),E P RE 216 (vR 22),E P RG 245 (vI 3 0),E P RH 270 (.bool af),E P RJ 272 (vR 27),E P RK 0 (vS s0 0),E P RM 273 (I9 ⟨[vI 11 0,vI 11 0,vI 3 0,vI 11 0,vT "dict",.notImplemented]⟩),E P xeR 442 (vI 100 0),E P xeS 443 (vI 1 0)]⟩ 11,⟨[]⟩⟩
def Hi:=gH [oQ "tuple" [vT "OSError"] 0,zb,cD [E P nE 433 (vS gy 364),E P zm 435 (vS ql 434),E P nF 437 (vI 43 436),E P nG 438 (vR 98)] 4,dB,jd,oC ql ql 428 431 43 0 94 0,oR 96 93 gy 364,dB,cD [E P nE 433 (vS gy 364),E P nF 437 (vI 43 436),E P nG 438 (vR 98),E P s8 440 (vR 101),E P qm 441 .none] 3,oT ql [vT "OSError"] (vR 100::xA) 99 [] (eA 91 ql 426 434),oZ 439 100,oU 100,oI 100] 91 ((((Io p P).set 2 λ_=>xfe P).set 3 λ_=>oG P gy 364 17).set 29 λ_=>oF .none ((iJ).take 15))
def NG:=oQ "tuple" [vR 100] 0
def Hj:=gH [NG,zb,cD [E P nE 453 (vS gy 364),E P zm 455 (vS tB 454),E P nF 457 (vI 45 456),E P iI 466 (vR 117),E P nG 470 (vR 118)] 5,dB,oF .none [vI 47 0,vI 4 0,vR 116],oC tB tB 448 451 45 0 107 0,oR 109 106 gy 364,dB,jd,oQ "tuple" [vS zB 461,vS Co 462,vS Rw 463] 0,dB,oK (pX p 11 0) iI HZ,oC iI HZ 458 464 47 3 111 2,oN (pX p 11 0) iI HZ gy 364 116,oQ "tuple" [vS H6 467,vS Rx 468,vS Ry 469] 0,cD [E P nE 453 (vS gy 364),E P nF 457 (vI 45 456),E P iI 466 (vR 117),E P nG 470 (vR 118),E P qm 471 .none] 2,oT tB [vR 100] (vR 120::vR 100::xA) 119 [] (eA 104 tB 446 454),oU 120,oI 120] 104 ((((Hi p P).set 3 λ_=>oG P gy 364 18).set 29 λ_=>oF .none ((iJ).take 18)).set 100 λ_=>oT ql [vT "OSError"] (vR 100::xA) 99 [vR 120] (eA 91 ql 426 434))
def Ft:=oT tB [vR 100] (vR 120::vR 100::xA) 119 [vR 139] (eA 104 tB 446 454)
def NH:=oC iI H7 486 493 53 4 130 2
def Bb:=oN (pX p 12 0) iI H7 gy 364 135
def Fv:=oT xK [vR 120] (vR 139::vR 120::vR 100::xA) 138 [] (eA 123 xK 474 482)
def Hl:=gH [oQ "tuple" [vR 120] 0,zb,cD [E P nE 481 (vS gy 364),E P zm 483 (vS xK 482),E P nF 485 (vI 51 484),E P iI 495 (vR 136),E P nG 500 (vR 137)] 5,dB,oF .none [vI 53 0,vI 4 0,vR 135],oC xK xK 476 479 51 0 126 0,oR 128 125 gy 364,dB,jd,oQ "tuple" [vS zB 489,vS Co 490,vS Rw 491,vS Rz 492] 0,dB,oK (pX p 12 0) iI H7,NH,Bb p,oQ "tuple" [vS H6 496,vS Rz 497,vS Rx 498,vS Ry 499] 0,cD [E P nE 481 (vS gy 364),E P nF 485 (vI 51 484),E P iI 495 (vR 136),E P nG 500 (vR 137),E P qm 501 .none] 2,Fv,oU 139,oI 139] 123 ((((Hj p P).set 3 λ_=>oG P gy 364 19).set 29 λ_=>oF .none ((iJ).take 21)).set 120 λ_=>Ft)
def Fw:=oT ql [vT "OSError"] (vR 100::xA) 99 [vR 120,vR 158] (eA 91 ql 426 434)
def NI:=oC iI H8 516 521 60 2 149 2
def Bc:=oN (pX p 13 0) iI H8 gy 364 154
def Fx:=oT xM [vR 100] (vR 158::vR 100::xA) 157 [] (eA 142 xM 504 512)
def Ho:=gH [NG,zb,cD [E P nE 511 (vS gy 364),E P zm 513 (vS xM 512),E P nF 515 (vI 58 514),E P iI 523 (vR 155),E P nG 526 (vR 156)] 5,dB,oF .none [vI 60 0,vI 4 0,vR 154],oC xM xM 506 509 58 0 145 0,oR 147 144 gy 364,dB,jd,oQ "tuple" [vS zB 519,vS RA 520] 0,dB,oK (pX p 13 0) iI H8,NI,Bc p,oQ "tuple" [vS H6 524,vS RA 525] 0,cD [E P nE 511 (vS gy 364),E P nF 515 (vI 58 514),E P iI 523 (vR 155),E P nG 526 (vR 156),E P qm 527 .none] 2,Fx,oU 158,oI 158] 142 ((((Hl p P).set 3 λ_=>oG P gy 364 20).set 29 λ_=>oF .none ((iJ).take 24)).set 100 λ_=>Fw)
def NJ:=oC vo vo 530 534 63 1 161 2
def Fy:=oN (aO p 14) vo vo gy 364 166
def Hp:=gH [dB,jd,oQ "tuple" [vS s69 533] 0,dB,oK (aO p 14) vo vo,NJ,Fy p] 161 (((Ho p P).set 3 λ_=>oG P gy 364 21).set 29 λ_=>oF .none ((iJ).take 27))
def uV:=(Hp p P).set 3 λ_=>oG P vp 537 21
def yQ:bR:=⟨vT "set",ak,.set ⟨[(65024,vI 65024 555),(65025,vI 65025 556),(65026,vI 65026 557),(65027,vI 65027 558),(65028,vI 65028 559),(65029,vI 65029 560),(6150,vI 6150 541),(65030,vI 65030 561),(65031,vI 65031 562),(65032,vI 65032 563),(65033,vI 65033 564),(6155,vI 6155 542),(6156,vI 6156 543),(6157,vI 6157 544),(8203,vI 8203 545),(8204,vI 8204 546),(8205,vI 8205 547),(65034,vI 65034 565),(65035,vI 65035 566),(65036,vI 65036 567),(65037,vI 65037 568),(65038,vI 65038 569),(65039,vI 65039 570),(173,vI 173 539),(847,vI 847 540),(8288,vI 8288 548),(65279,vI 65279 549)]⟩ 29 ⟨127,⟨[0,1,2,3,4,5,6,7,8,9,10,11,12,13,14,15,16,17,18,19,20,21,22,45,79,96,127]⟩,⟨[]⟩,0,!P.followText "set-order",2,af⟩,⟨[]⟩⟩
def uW:=gH [oQ "list" [vI 173 539,vI 847 540,vI 6150 541,vI 6155 542,vI 6156 543,vI 6157 544,vI 8203 545,vI 8204 546,vI 8205 547,vI 8288 548,vI 65279 549] 0,oF (vT "range") [vI 65024 550,vI 65040 551,vI 1 552],oQ "list" [vI 65024 555,vI 65025 556,vI 65026 557,vI 65027 558,vI 65028 559,vI 65029 560,vI 65030 561,vI 65031 562,vI 65032 563,vI 65033 564,vI 65034 565,vI 65035 566,vI 65036 567,vI 65037 568,vI 65038 569,vI 65039 570] 18,oF (vT "range_iterator") [vI 65040 0,vI 0 0,vI 1 0],dB,oF (vT "StopIteration") [vR 172,.none,.none,.none,.bool av,.none],oQ "list" [vI 173 539,vI 847 540,vI 6150 541,vI 6155 542,vI 6156 543,vI 6157 544,vI 8203 545,vI 8204 546,vI 8205 547,vI 8288 548,vI 65279 549,vI 65024 555,vI 65025 556,vI 65026 557,vI 65027 558,vI 65028 559,vI 65029 560,vI 65030 561,vI 65031 562,vI 65032 563,vI 65033 564,vI 65034 565,vI 65035 566,vI 65036 567,vI 65037 568,vI 65038 569,vI 65039 570] 0,yQ P,oF (vT "list_iterator") [.none,vI 27 0],dB,oF (vT "StopIteration") [vR 177,.none,.none,.none,.bool av,.none]] 168 ((uV p P).set 3 λ_=>oG P vp 537 22)
def NK:=oC vq vq 599 603 67 1 179 2
def Fz:=oN (aO p 17) vq vq vp 537 184
def qd:=gH [dB,jd,oQ "tuple" [vS Co 602] 0,dB,oK (aO p 17) vq vq,NK,Fz p] 179 (((uW p P).set 3 λ_=>oG P vp 537 23).set 29 λ_=>oF .none ((iJ).take 30))
def Bd:=cD (cY p 0 650) 650
def xy:=gH [Bd p,cD (cY p 17 17) 17,cD (cY p 34 17) 17,cD (cY p 51 17) 17,cD (cY p 68 17) 17,cD (cY p 85 17) 17,cD (cY p 102 17) 17,cD (cY p 119 17) 17,cD (cY p 136 17) 17,cD (cY p 153 17) 17,cD (cY p 170 17) 17,cD (cY p 187 17) 17,cD (cY p 204 17) 17,cD (cY p 221 17) 17,cD (cY p 238 17) 17,cD (cY p 255 17) 17,cD (cY p 272 17) 17,cD (cY p 289 17) 17,cD (cY p 306 17) 17,cD (cY p 323 17) 17,cD (cY p 340 17) 17,cD (cY p 357 17) 17,cD (cY p 374 17) 17,cD (cY p 391 17) 17,cD (cY p 408 17) 17,cD (cY p 425 17) 17,cD (cY p 442 17) 17,cD (cY p 459 17) 17,cD (cY p 476 17) 17,cD (cY p 493 17) 17,cD (cY p 510 17) 17,cD (cY p 527 17) 17,cD (cY p 544 17) 17,cD (cY p 561 17) 17,cD (cY p 578 17) 17,cD (cY p 595 17) 17,cD (cY p 612 17) 17,cD (cY p 629 17) 17,cD (cY p 646 4) 4] 186 ((qd p P).set 3 λ_=>oG P vp 537 24)
def NL:=oC vt vt 2557 2562 70 1 225 2
def FA:=oN (aO p 19) vt vt vp 537 230
def Hq:=gH [dB,jd,oQ "tuple" [vS Co 2560,vS Rq 2561] 0,dB,oK (aO p 19) vt vt,NL,FA p] 225 (((xy p P).set 3 λ_=>oG P vp 537 25).set 29 λ_=>oF .none ((iJ).take 33))
def Hr:=(Hq p P).set 3 λ_=>oG P lD 2565 25
def NN:=oC vz vz 2567 2570 76 1 232 1
def FD:=oN (aO p 21) vz vz lD 2565 235
def Hs:=gH [dB,jd,oK (aO p 21) vz vz,NN,FD p] 232 (((Hr p P).set 3 λ_=>oG P lD 2565 26).set 29 λ_=>oF .none ((iJ).take 36))
def wW:=oC vA vA 2573 2576 79 3 237 1
def Be:=oN (aO p 22) vA vA lD 2565 240
def Ht:=gH [dB,jd,oK (aO p 22) vA vA,wW,Be p] 237 (((Hs p P).set 3 λ_=>oG P lD 2565 27).set 29 λ_=>oF .none ((iJ).take 39))
def NO:=oC vB vB 2579 2582 90 4 242 1
def FE:=oN (aO p 23) vB vB lD 2565 245
def Hu:=gH [dB,jd,oK (aO p 23) vB vB,NO,FE p] 242 (((Ht p P).set 3 λ_=>oG P lD 2565 28).set 29 λ_=>oF .none ((iJ).take 42))
def NP:=oC vD vD 2585 2588 113 1 247 1
def FF:=oN (aO p 24) vD vD lD 2565 250
def Hv:=gH [dB,jd,oK (aO p 24) vD vD,NP,FF p] 247 (((Hu p P).set 3 λ_=>oG P lD 2565 29).set 29 λ_=>oF .none ((iJ).take 45))
def NQ:=oC vE vE 2591 2594 125 0 252 1
def FG:=oN (aO p 25) vE vE lD 2565 255
def Hw:=gH [dB,jd,oK (aO p 25) vE vE,NQ,FG p] 252 (((Hv p P).set 3 λ_=>oG P lD 2565 30).set 29 λ_=>oF .none ((iJ).take 48))
def NR:=oC vF vF 2597 2600 134 2 257 1
def FH:=oN (aO p 26) vF vF lD 2565 260
def Hx:=gH [dB,jd,oK (aO p 26) vF vF,NR,FH p] 257 (((Hw p P).set 3 λ_=>oG P lD 2565 31).set 29 λ_=>oF .none ((iJ).take 51))
def NS:=oC vG vG 2603 2606 142 1 262 1
def FI:=oN (aO p 27) vG vG lD 2565 265
def uX:=gH [dB,jd,oK (aO p 27) vG vG,NS,FI p] 262 (((Hx p P).set 3 λ_=>oG P lD 2565 32).set 29 λ_=>oF .none ((iJ).take 54))
end
noncomputable abbrev PQ:=PySem.Challenge.pw_wz0025_01
noncomputable def bodyOf(p:dw):List cZ:=behindTheImports p
noncomputable def gZ(p:dw):aN:={scope:=p.main.scope,locals:=o8,globals:=o8,cells:=[],code:=.ref 30,frame:=aa 31}
def cT(p:dw):Code:=.body (bodyOf p) (gZ p)
noncomputable def c6:List Frame:=[topFrame ⟨0,0,0,0⟩]
noncomputable abbrev kr(T:dw->lP->BT)(n G:Nat)(p:dw)(w:bF)(P:bN):iB:=⟨T p w.params,n,{},#[],{},G,P⟩
noncomputable abbrev PC(f j:Nat)(a:aR)(T:dw->lP->BT)(n t:Nat)(y:aR)(B:dw->lP->BT)(d g:Nat)(w:bF)(P:bN):Prop:=I3 CO PQ w 28 (aa (.ref 6)) 1 f (kr T n t PQ w P) ⟨(S3 [aO PQ j] (gZ PQ)).wrap CJ nu id id,cT PQ,a,c6⟩=aa (.next,kr B d g PQ w P,cT PQ,y)
theorem pq0(w:bF)(P:bN):PC 10 1 ⟨0,0,0,0⟩ xN 32 282 ⟨2,0,2,8⟩ Ie 32 284 w P:=by kernel_rfl
theorem pq1(w:bF)(P:bN):PC 260 2 ⟨2,0,2,8⟩ Ie 32 284 ⟨3,0,16,16⟩ Ig 60 326 w P:=by kernel_rfl
theorem pq2(w:bF)(P:bN):PC 41 3 ⟨3,0,16,16⟩ Ig 60 326 ⟨17,0,20,88⟩ Ih 67 344 w P:=by kernel_rfl
theorem pq3(w:bF)(P:bN):PC 34 4 ⟨17,0,20,88⟩ Ih 67 344 ⟨21,0,33,22⟩ Ii 74 355 w P:=by kernel_rfl
theorem pq4(w:bF)(P:bN):PC 32 5 ⟨21,0,33,22⟩ Ii 74 355 ⟨34,0,38,13⟩ Ij 81 364 w P:=by kernel_rfl
theorem pq5(w:bF)(P:bN):PC 10 6 ⟨34,0,38,13⟩ Ij 81 364 ⟨39,0,39,8⟩ Ik 81 366 w P:=by kernel_rfl
theorem pq6(w:bF)(P:bN):PC 60 7 ⟨39,0,39,8⟩ Ik 81 366 ⟨40,0,40,10⟩ Il 86 382 w P:=by kernel_rfl
theorem pq7(w:bF)(P:bN):PC 86 8 ⟨40,0,40,10⟩ Il 86 382 ⟨41,0,41,10⟩ Im 91 424 w P:=by kernel_rfl
theorem pq8(w:bF)(P:bN):PC 10 9 ⟨41,0,41,10⟩ Im 91 424 ⟨42,0,42,4⟩ Io 91 426 w P:=by kernel_rfl
theorem pq9(w:bF)(P:bN):PC 197 10 ⟨42,0,42,4⟩ Io 91 426 ⟨43,0,44,8⟩ Hi 104 446 w P:=by kernel_rfl
theorem xff(w:bF)(P:bN):PC 249 11 ⟨43,0,44,8⟩ Hi 104 446 ⟨45,0,50,31⟩ Hj 123 474 w P:=by kernel_rfl
theorem xfg(w:bF)(P:bN):PC 265 12 ⟨45,0,50,31⟩ Hj 123 474 ⟨51,0,57,39⟩ Hl 142 504 w P:=by kernel_rfl
theorem xfh(w:bF)(P:bN):PC 247 13 ⟨51,0,57,39⟩ Hl 142 504 ⟨58,0,62,33⟩ Ho 161 530 w P:=by kernel_rfl
theorem xfi(w:bF)(P:bN):PC 30 14 ⟨58,0,62,33⟩ Ho 161 530 ⟨63,0,64,59⟩ Hp 168 537 w P:=by kernel_rfl
theorem xfj(w:bF)(P:bN):PC 10 15 ⟨63,0,64,59⟩ Hp 168 537 ⟨65,0,65,8⟩ uV 168 539 w P:=by kernel_rfl
theorem xfk(w:bF)(P:bN):PC 30 17 ⟨66,0,66,6⟩ uW 179 599 ⟨67,0,68,30⟩ qd 186 606 w P:=by kernel_rfl
theorem xfl(w:bF)(P:bN):PC 31 19 ⟨69,0,69,13⟩ xy 225 2557 ⟨70,0,74,23⟩ Hq 232 2565 w P:=by kernel_rfl
theorem xfm(w:bF)(P:bN):PC 10 20 ⟨70,0,74,23⟩ Hq 232 2565 ⟨75,0,75,8⟩ Hr 232 2567 w P:=by kernel_rfl
theorem xfn(w:bF)(P:bN):PC 27 21 ⟨75,0,75,8⟩ Hr 232 2567 ⟨76,0,78,115⟩ Hs 237 2573 w P:=by kernel_rfl
theorem xfo(w:bF)(P:bN):PC 27 22 ⟨76,0,78,115⟩ Hs 237 2573 ⟨79,0,89,54⟩ Ht 242 2579 w P:=by kernel_rfl
theorem xfp(w:bF)(P:bN):PC 27 23 ⟨79,0,89,54⟩ Ht 242 2579 ⟨90,0,112,46⟩ Hu 247 2585 w P:=by kernel_rfl
theorem xfq(w:bF)(P:bN):PC 27 24 ⟨90,0,112,46⟩ Hu 247 2585 ⟨113,0,124,15⟩ Hv 252 2591 w P:=by kernel_rfl
theorem xfr(w:bF)(P:bN):PC 27 25 ⟨113,0,124,15⟩ Hv 252 2591 ⟨125,0,133,15⟩ Hw 257 2597 w P:=by kernel_rfl
theorem xfs(w:bF)(P:bN):PC 27 26 ⟨125,0,133,15⟩ Hw 257 2597 ⟨134,0,141,121⟩ Hx 262 2603 w P:=by kernel_rfl
theorem xft(w:bF)(P:bN):PC 27 27 ⟨134,0,141,121⟩ Hx 262 2603 ⟨142,0,180,144⟩ uX 267 2609 w P:=by kernel_rfl
section
variable{p:dw}{w:bF}
noncomputable abbrev Qg(p:dw)(w:bF):=qc gn p w 28 (aa (.ref 6))
noncomputable def Top(p:dw)(w:bF)(n:Nat)(s:iB)(t:uT)(S:iB)(g:uT):Prop:=∀N r,Qg p w N S.abs g=aa r->Qg p w (n+N) s.abs t=aa r
theorem Top.refl(s:iB)(t:uT):Top p w 0 s t s t:=λN r h=>by exact O (jn ..) h
theorem Top.trans(a:Top p w n s t U d)(b:Top p w m U d J c):Top p w (n+m) s t J c:=λN r h=>by exact O (rQ ..) (a _ _ (b _ _ h))
theorem Top.more(a:Top p w n s t b g)(h:n<=m):Top p w m s t b g:=λN r q=>by have:=topRun_mono (m-n) _ _ _ _ (a N r q);rwa[show n+N+(m-n)=m+N from(jL n N _).trans (congrArg (·+N) (Nat.add_sub_cancel' h))]at this
theorem Top.step(D:through t=av)(C:stepOk 28 (aa (.ref 6)) t=af)(J:CK (Cj gn) p w s t=aa (a,g)):Top p w 1 s t a g:=λN r h=>by refine O (jm ..) ?_;show qc gn p w 28 (aa (.ref 6)) (N+1) s.abs t=aa r;unfold qc;exact O D (O C (O (stepT_spec J) h))
theorem Top.seg{L:Type}{m:bg L}{res:L->ek}{n:Nat}{s S:iB}{E:Bool->Bool}{B:List aj->List aj}{R c:aR}{a:L}(l:∀b,res b=res a->b=a)(h:uF gn p w 28 (aa (.ref 6)) 1 n s ⟨m.wrap (λa=>.pure (.done (res a))) nu E B,cT p,R,c6⟩=aa (res a,S,cT p,c))(K:L->bg Fin)(H:aj->bg Fin):Top p w n s ⟨m.wrap K H E B,cT p,R,c6⟩ S ⟨K a,cT p,c,c6⟩:=λN r q=>by refine aG (seg_top (res:=res) (K':=K) (H':=H) (B:=c6) rfl n s.abs ⟨m.wrap (λa=>.pure (.done (res a))) nu E B,cT p,R,c6⟩ ⟨m.wrap K H E B,cT p,R,c6⟩ _ _ _ _ ⟨rfl,rfl,.inl ⟨rfl,rfl,m,rfl,rfl⟩⟩ (segRun_of h)) λb d t=>?_;replace t:=l b d▸t;exact t N r q
inductive cN{L:Type}(a:L)(S:iB):Nat->iB->bg L->Prop|pure:cN a S 0 S (.pure a)|load{n m:Nat}{T:BT}{c:Life}{g:Array mO}{d:nC}{G:Nat}{P:bN}{x:ah}{q:Option aj}{k:bR->bg L}{o W:bR}(A:ng x m=af)(e:T.get x=aa o)(i:alive o=aa W)(h:cN a S n ⟨T,m,c,g,d,G,P⟩ (k W)):cN a S (n+1) ⟨T,m,c,g,d,G,P⟩ (.load x q k)|upd{n m:Nat}{T:BT}{c:Life}{g:Array mO}{d:nC}{G:Nat}{P:bN}{x:ah}{q:Option aj}{f:bR->bR}{k:Unit->bg L}{o W:bR}(r:kT 28 x=af)(A:ng x m=af)(e:T.get x=aa o)(i:alive o=aa W)(h:cN a S n ⟨T.set x f,m,c,g,d,G,P⟩ (k ())):cN a S (n+1) ⟨T,m,c,g,d,G,P⟩ (.update x q f k)|rule{n:Nat}{s:iB}{t:String}{k:Unit->bg L}(h:cN a S n s (k ())):cN a S (n+1) s (.rule t k)
theorem cN.bind{L N:Type}{a:L}{b:N}{U J:iB}{m:Nat}{f:L->bg N}(g:cN b J m U (f a)):∀{n:Nat}{s:iB}{t:bg L},cN a U n s t->cN b J (n+m) s (t.bind f):=λ{n s t}h=>by induction h with|pure=>exact O (jn ..) g|load A e i h G=>rw[jL _ 1 m];exact .load A e i G|upd r A e i h G=>rw[jL _ 1 m];exact .upd r A e i G|rule h G=>rw[jL _ 1 m];exact .rule G
theorem cN.top{L:Type}{a:L}{S:iB}{n:Nat}{s:iB}{t:bg L}(h:cN a S n s t)(K:L->bg Fin)(H:aj->bg Fin)(E:Bool->Bool)(B:List aj->List aj)(R:aR):Top p w n s ⟨t.wrap K H E B,cT p,R,c6⟩ S ⟨K a,cT p,R,c6⟩:=by
 induction h with|pure=>exact .refl _ _|load A e i h G=>refine O (jm ..) ?_;refine Top.trans (Top.step (by rfl) (by rfl) ?_) G;simp only[CK,Sem.wrap,A,e,i]|upd r A e i h G=>
refine O (jm ..) ?_;refine Top.trans (Top.step (by rfl) ?_ ?_) G;.show(_&&(kT 28 _||_||_||_))=af;refine O r ?_;rfl
.simp only[CK,Sem.wrap,A,e,i]|rule h G=>exact O (jm ..) (Top.trans (Top.step (by rfl) (by rfl) (by rfl)) G)
end
section
theorem FJ(h:f o=o'):∀{T:BT}{a:Nat},T.get a=aa o->T.set a f=T.set a λ_=>o'
|.nil,a,_=>rfl|.node v l r,a,e=>by
 rw[xgO]at e;refine O (um ..) (O (um ..) ?_);by_cases D:a=0;.rw[if_pos D]at e⊢;refine O (if_pos D) ?_;cases e;exact O h rfl
 .rw[if_neg D]at e⊢;refine O (if_neg D) ?_;by_cases C:a%2=1;.rw[if_pos C]at e⊢;exact O (if_pos C) (O (FJ h e) rfl)
  .rw[if_neg C]at e⊢;exact O (if_neg C) (O (FJ h e) rfl)
theorem set_set:∀{T:BT}{a:Nat},(T.set a f).set a g=T.set a λo=>g (f o)
|.nil,a=>rfl|.node v l r,a=>by
 refine O (um ..) (O (um ..) ?_);by_cases D:a=0;.exact O (if_pos D) (O (if_pos D) (O (um ..) (O (if_pos D) rfl)))
 .refine O (if_neg D) (O (if_neg D) ?_);by_cases C:a%2=1;.exact O (if_pos C) (O (if_pos C) (O (um ..) (O (if_neg D) (O (if_pos C) (O set_set rfl)))))
  .exact O (if_neg C) (O (if_neg C) (O (um ..) (O (if_neg D) (O (if_neg C) (O set_set rfl)))))
theorem Ep:∀{T:BT}{a:Nat},T.get a=aa o->(T.set a λ_=>o)=T
|.nil,a,_=>rfl|.node v l r,a,e=>by
 rw[xgO]at e;refine O (um ..) ?_;by_cases D:a=0;.rw[if_pos D]at e⊢;cases e;rfl
 .rw[if_neg D]at e⊢;by_cases C:a%2=1;.rw[if_pos C]at e⊢;exact O (Ep e) rfl
  .rw[if_neg C]at e⊢;exact O (Ep e) rfl
def oD(l:List gm):bR:=⟨vT "dict",ak,.dict ⟨l⟩ l.length,⟨[]⟩⟩
theorem oj(l:List gm):alive (oD l)=aa (oD l):=rfl
theorem Vj(K:∀e∈l,e.hash≠h):Mw (⟨l⟩:Array gm).size (λi=>(⟨l⟩:Array gm)[i]?.map (·.hash)) h=[]:=by unfold Mw;refine vO.mpr λi E q=>?_;have q:=eq_of_beq q;refine aG (vN.mp q) λe H L=>?_;exact K e (eO (by simpa using H)) L
variable{m:Nat}{life:Life}{g:Array mO}{dr:nC}{tk:Nat}{os:bN}
theorem xfu{T:BT}{l:List gm}(r:kT 28 d=af)(A:ng d m=af)(e:T.get d=aa (oD l))(K:∀e∈l,e.hash≠h)(I:l.length<=1000):cN () ⟨T.set d λ_=>oD (l++[⟨h,.int k t,v⟩]),m,life,g,dr,tk,os⟩ 4 ⟨T,m,life,g,dr,tk,os⟩ (HO d h (.int k t) v):=by
 unfold HO;have f:cN (ak:Option Nat) ⟨T,m,life,g,dr,tk,os⟩ 1 ⟨T,m,life,g,dr,tk,os⟩ (dictFind d (.int k t) h):=by unfold dictFind;refine cN.load A e (oj l) ?_;show cN ak _ 0 _ (if((.int k t:aj)::(Mw (⟨l⟩:Array gm).size (λi=>(⟨l⟩:Array gm)[i]?.map (·.hash)) h).filterMap λi=>(⟨l⟩:Array gm)[i]?.map (·.key)).all carriedByValue=af then _ else _);exact O (Vj K) cN.pure
 refine cN.bind (n:=1) (m:=3) ?_ f;refine cN.load A e (oj l) (cN.upd r A e (oj l) ?_);rw[FJ (f:=Obj.mapDictKeys λx=>x.push ⟨h,.int k t,v⟩) (o':=oD (l++[⟨h,.int k t,v⟩])) ?_ e]
 .have U:(T.set d λ_=>oD (l++[⟨h,.int k t,v⟩])).get d=aa (oD (l++[⟨h,.int k t,v⟩])):=by refine O (Fi ..) (O (if_pos rfl) (O e ?_));rfl
  refine cN.load A U (oj _) ?_;have:(oD (l++[⟨h,.int k t,v⟩])).data.pastItsLine=ak:=by unfold oD Data.pastItsLine;simp only[iZ,cK,Js];exact if_neg (rX.mpr (cC (qA I)))
  show cN () _ 0 _ (match(oD (l++[⟨h,.int k t,v⟩])).data.pastItsLine with|aa a=>AO a|_=>pure ());exact O this cN.pure
 .show(⟨_,_,.dict ((⟨l⟩:Array gm).push _) (l.length+1),_⟩:bR)=_;unfold oD;simp
theorem KD(M:Nat->iB):∀(r j:Nat),(∀i,j<=i->i<j+r->cN (.yield qI) (M (i+1)) n (M i) (f i qI))->cN qI (M (j+r)) (r*n) (M j) (forIn (List.range' j r) qI f)|0,j,_=>by exact O (Nat.zero_mul ..) cN.pure|r+1,j,h=>by refine O List.range'_succ (O (tW ..) (O ((Nat.succ_mul r n).trans (jm ..)) ?_));refine cN.bind ?_ (h j (cQ _) (vM (qE r)));have:=KD M r (j+1) λi a b=>h i (nR a) (tP b (rI j r));rwa[rI j r]at this
theorem Xn{L:Type}(h:∀v∈b,∀a,v≠.ref a)(x:bg L):ic b x=x:=by
 unfold ic;split;.rfl
 .rename_i S;refine absurd (vO.mpr λv m q=>?_) S;cases v with|ref a=>exact h _ m a rfl|_=>cases q
theorem Vk{T:BT}{l D:List gm}(r:kT 28 d=af)(C:ng d m=af)(B:ng a m=af)(u:a≠d)(e:T.get d=aa (oD l))(U:T.get a=aa (oD D))(N:∀x∈D,(∃k t,x.key=.int k t)/\∀a,x.val≠.ref a)(K:((l++D).map (·.hash)).Nodup)(I:l.length+D.length<=1000)(A:∀i,f i qI=(dictEntries a).bind λxs=>match xs[i]? with|aa e=>(ic [e.key,e.val] (HO d e.hash e.key e.val)).bind λ_=>(dictEpoch a).bind λn=>if(n !=D.length)=af then(AO "dict.changed-during-merge").bind λ(_:Unit)=>.pure (.yield qI)else .pure (.yield qI)|none=>(AO "dict.changed-during-merge").bind λ(_:Unit)=>.pure (.yield qI)):cN qI ⟨T.set d λ_=>oD (l++D),m,life,g,dr,tk,os⟩ (D.length*6) ⟨T,m,life,g,dr,tk,os⟩ (forIn (gc D.length) qI f):=by
 have:=KD (f:=f) (n:=6) (λj=>⟨T.set d λ_=>oD (l++D.take j),m,life,g,dr,tk,os⟩) D.length 0 λi _ F=>by
  replace F:=jn ..▸F;refine O (A ..) ?_;have E:(T.set d λ_=>oD (l++D.take i)).get d=aa (oD (l++D.take i)):=by refine O (Fi ..) (O (if_pos rfl) (O e ?_));rfl
  have w:(T.set d λ_=>oD (l++D.take i)).get a=aa (oD D):=by exact O (Fi ..) (O (if_neg u) (O U rfl))
  refine aV (N D[i] (nT F)) λz c=>?_;obtain⟨k,t,J⟩:=z;refine cN.load B w (oj D) ?_;show cN _ _ 5 _ (match(⟨D⟩:Array gm)[i]? with|aa e=>_|none=>_);refine O (show(⟨D⟩:Array gm)[i]?=aa D[i]from by simp[F]) ?_;show cN _ _ 5 _ ((ic [D[i].key,D[i].val] (HO d D[i].hash D[i].key D[i].val)).bind _);rw[Xn (by
   intro v o b q;refine bw (bA.mp o) (λy=>?_) λo=>?_;.subst y;replace q:=J▸q;cases q
   .replace q:=aW.mp o▸q;exact c b q),J];have Z:∀x∈l++D.take i,x.hash≠D[i].hash:=λx S q=>by
   have H:l++D=l++D.take i++D[i]::D.drop (i+1):=by exact O (fT ..) (aQ (CT F) (O (List.take_append_drop ..) rfl))
   replace K:=nQ.mp (fY▸H▸K);exact K.2.2 _ (bE.mpr ⟨x,S,rfl⟩) _ (bE.mpr ⟨D[i],aP ..,rfl⟩) q
  have p:=xfu (life:=life) (g:=g) (dr:=dr) (tk:=tk) (os:=os) (k:=k) (t:=t) (v:=D[i].val) r C E Z (O cK (O jC (aZ (iy (tS ..) _) I)));replace p:=set_set▸p;have s:l++D.take (i+1)=l++D.take i++[D[i]]:=by exact O (I2 F) (O (fT ..) rfl)
  have h:(⟨D[i].hash,.int k t,D[i].val⟩:gm)=D[i]:=by exact aQ J rfl
  replace p:=s.symm▸h▸p;refine cN.bind (m:=1) ?_ p;have L:(T.set d λ_=>oD (l++D.take (i+1))).get a=aa (oD D):=by exact O (Fi ..) (O (if_neg u) (O U rfl))
  refine cN.load B L (oj D) ?_;show cN _ _ 0 _ (if(D.length !=D.length)=af then _ else _);exact O (bne_self_eq_false ..) cN.pure
 replace this:=Dv▸jn ..▸this;simp only[List.take_zero,g8]at this;replace this:=Ep e▸this;exact O List.range_eq_range' this
end
section
theorem qG{L N P:Type}(m:bg L)(f:L->bg N)(K:N->bg P)(H:aj->bg P)(E:Bool->Bool)(B:List aj->List aj):(m.bind f).wrap K H E B=m.wrap (λa=>(f a).wrap K H E B) H E B:=by refine O (xaG ..) (O (Me ..) ?_);rfl
theorem Xo:QO (.type "dict") (.type "dict")=pure af:=by kernel_rfl
theorem Wa:jQ (.type "dict") "__iter__"=pure (aa (.builtin "dict.__iter__")):=by kernel_rfl
variable{n:Nat}{life:Life}{g:Array mO}{dr:nC}{tk:Nat}{os:bN}
theorem Xp{T:BT}{l D:List gm}(r:kT 28 d=af)(A:ng d n=af)(B:ng a n=af)(u:a≠d)(W:(a==eo)=av)(e:T.get d=aa (oD l))(U:T.get a=aa (oD D))(N:∀x∈D,(∃k t,x.key=.int k t)/\∀a,x.val≠.ref a)(K:((l++D).map (·.hash)).Nodup)(I:l.length+D.length<=1000)(b:l≠[]):cN () ⟨T.set d λ_=>oD (l++D),n,life,g,dr,tk,os⟩ (1+(1+(D.length*6+3))) ⟨T,n,life,g,dr,tk,os⟩ (AA d (.ref a) av):=by unfold AA;simp only[rJ,if_false];refine cN.bind (a:=af) (n:=1) (m:=1+(D.length*6+3)) ?_ (cN.load B U (oj D) (show cN af _ 0 _ (QO (.type "dict") (.type "dict"))from by exact O Xo .pure));refine O (if_pos rfl) ?_;refine cN.bind (a:=aa (.builtin "dict.__iter__")) (n:=1) (m:=D.length*6+3) ?_ (cN.load B U (oj D) (show cN (aa (.builtin "dict.__iter__")) _ 0 _ (jQ (.type "dict") "__iter__")from by exact O Wa .pure));show cN () _ _ _ (qQ (.pure ((aa (vZ "dict.__iter__"):Option aj)==aa (.builtin "dict.__iter__"))) _);refine O (show((aa (vZ "dict.__iter__"):Option aj)==aa (.builtin "dict.__iter__"))=af from by kernel_rfl) ?_;show cN () _ (D.length*6+3) _ (if(a==eo)=af then _ else _);refine O W (O (if_neg qw) ?_);refine cN.load A e (oj l) ?_;show cN () _ (D.length*6+2) _ (if(⟨l⟩:Array gm).isEmpty=af then _ else _);refine O (if_neg (by simpa[Array.isEmpty]using b)) ?_;refine cN.load B U (oj D) (cN.load B U (oj D) ?_);exact cN.bind (m:=0) cN.pure (Vk r A B u e U N K I λi=>by refine congrArg (qQ (dictEntries a)) (funext λxs=>?_);show(match xs[i]? with|aa e=>_|x=>_)=_;cases xs[i]?<;>rfl)
end
def l5(p:dw):List aS×List aS:=((kE (valOf (aO p 18))).2.map (·.getD default),(kE (valOf (aO p 18))).1)
noncomputable abbrev gh:aR:=⟨69,16,69,8704⟩
noncomputable def cut(i n:Nat)(l:List aS):List aS:=(l.drop i).take n
def iC(p:dw)(i n:Nat):List (bg aj×bg aj):=(kP (cut i n (l5 p).1) (gZ p)).zip ((kP (cut i n (l5 p).2) (gZ p)).map λv=>v.bind λx=>(fL gh).bind λ_=>.pure x)
def qe(p:dw)(i:Nat):List gm:=cY p (17*i) 17
def lV(p:dw)(i:Nat):List gm:=cY p 0 (17*(i+1))
def TB(p:dw)(P:lP):Nat->BT|0=>(qd p P).ins 186 (oD (qe p 0))|i+1=>((TB p P i).ins (187+i) (oD (qe p (i+1)))).set 186 λ_=>oD (lV p (i+1))
def TC(p:dw)(P:lP)(i:Nat):BT:=(TB p P i).ins (187+i) (oD (qe p (i+1)))
noncomputable abbrev eg(w:bF)(b:Bool):bF:=w.withFollow "special-get-raises" b
noncomputable abbrev gI(T:BT)(n G:Nat)(P:bN):iB:=⟨T,n,{},#[],{},G,P⟩
noncomputable abbrev RP:List aj->List aj:=λl=>.ref 186::l
noncomputable abbrev B0:ah->bg Fin:=λd=>.pure (.done (.ret (.ref d)))
noncomputable abbrev Qh:Unit->bg Fin:=λ_=>.pure (.done .next)
theorem Wb(w:bF)(P:bN):uF gn PQ (eg w af) 28 (aa (.ref 6)) 1 1000 (gI (qd PQ (eg w af).params) 186 606 P) ⟨(w9 (iC PQ 0 17)).wrap B0 nu id id,cT PQ,gh,c6⟩=aa (.ret (.ref 186),gI (TB PQ (eg w af).params 0) 187 657 P,cT PQ,gh):=by refine O vK (O tL (O Ja ?_));kernel_rfl
theorem Vl(w:bF)(P:bN):uF gn PQ (eg w av) 28 (aa (.ref 6)) 1 1000 (gI (qd PQ (eg w av).params) 186 606 P) ⟨(w9 (iC PQ 0 17)).wrap B0 nu id id,cT PQ,gh,c6⟩=aa (.ret (.ref 186),gI (TB PQ (eg w av).params 0) 187 657 P,cT PQ,gh):=by refine O vK (O tL (O Ja ?_));kernel_rfl
noncomputable def mapR{L:Type}(f:Nat->L):List Nat->List L|[]=>[]|a::l=>f a::mapR f l
theorem AR{L:Type}{f g:Nat->L}:∀{l:List Nat},mapR f l=l.map g->∀i∈l,f i=g i|a::l,h,i,m=>(bA.mp m).elim (λe=>e▸(Af h).1) λm=>AR (Af h).2 i m
noncomputable def sU:List Nat:=(gc 38).map Nat.succ
theorem Er(C:1<=i)(J:i<=38):i∈sU:=bE.mpr ⟨i-1,rN.mpr (iz (xgP C xer) J),Vd C⟩
def qf(w:bF)(P:bN)(b:Bool)(i:Nat):Option (ek×iB×Code×aR):=I3 CO PQ (eg w b) 28 (aa (.ref 6)) 1 1000 (gI (TB PQ (eg w b).params (i-1)) (186+i) (606+51*i) P) ⟨(Fast.tw11913375310210876947 (iC PQ (17*i) 17)).wrap B0 nu id RP,cT PQ,gh,c6⟩
def qg(w:bF)(P:bN)(b:Bool)(i:Nat):Option (ek×iB×Code×aR):=aa (.ret (.ref (186+i)),gI (TC PQ (eg w b).params (i-1)) (187+i) (606+51*i+3*bif ng i 38 then 17 else 4) P,cT PQ,gh)
theorem uu{L:Type}{f g:Nat->L}{b:List Nat}(y:mapR f b=b.map g):∀{a:List Nat},mapR f a=a.map g->mapR f (a++b)=(a++b).map g|[],_=>y|c::a,x=>List.cons_eq_cons.mpr ⟨(Af x).1,uu y (Af x).2⟩
noncomputable def iY(k n:Nat):List Nat:=(gc n).map (k+·)
theorem NT:iY 1 10++(iY 11 10++(iY 21 9++iY 30 9))=sU:=by decide
theorem Zj(w:bF)(P:bN):mapR (qf w P af) (iY 1 10)=(iY 1 10).map (qg w P af):=by kernel_rfl
theorem Zk(w:bF)(P:bN):mapR (qf w P af) (iY 11 10)=(iY 11 10).map (qg w P af):=by kernel_rfl
theorem Zl(w:bF)(P:bN):mapR (qf w P af) (iY 21 9)=(iY 21 9).map (qg w P af):=by kernel_rfl
theorem Zm(w:bF)(P:bN):mapR (qf w P af) (iY 30 9)=(iY 30 9).map (qg w P af):=by kernel_rfl
theorem xbb(w:bF)(P:bN):mapR (qf w P af) sU=sU.map (qg w P af):=NT▸uu (uu (uu (Zm w P) (Zl w P)) (Zk w P)) (Zj w P)
theorem Zn(w:bF)(P:bN):mapR (qf w P av) (iY 1 10)=(iY 1 10).map (qg w P av):=by kernel_rfl
theorem Zo(w:bF)(P:bN):mapR (qf w P av) (iY 11 10)=(iY 11 10).map (qg w P av):=by kernel_rfl
theorem Zp(w:bF)(P:bN):mapR (qf w P av) (iY 21 9)=(iY 21 9).map (qg w P av):=by kernel_rfl
theorem Zq(w:bF)(P:bN):mapR (qf w P av) (iY 30 9)=(iY 30 9).map (qg w P av):=by kernel_rfl
theorem xbc(w:bF)(P:bN):mapR (qf w P av) sU=sU.map (qg w P av):=NT▸uu (uu (uu (Zq w P) (Zp w P)) (Zo w P)) (Zn w P)
theorem KG{L P:Type}(a:List aj)(m:bg L)(K:L->bg P)(H:aj->bg P)(E:Bool->Bool)(B:List aj->List aj):(m.keep a).wrap K H E B=m.wrap K H E λl=>B (a++l):=by refine O (Sem.keep_eq_wrap ..) (O (Me ..) ?_);rfl
theorem Ul{L P:Type}(m:bg L)(h:aj->bg Unit)(K:L->bg P)(H:aj->bg P)(E:Bool->Bool)(B:List aj->List aj):(m.onRaise h).wrap K H E B=m.wrap K (λe=>((h e).bind λ_=>.raise e).wrap K H E B) E B:=by refine O (Sem.onRaise_eq_wrap ..) (O (Me ..) ?_);rfl
noncomputable abbrev SP:=bg aj×bg aj
noncomputable def pY(a:List SP->Option ah->bg (Option ah)):List (List SP)->Option ah->bg (Option ah)|[],m=>.pure m|c::b,m=>(a c m).bind (pY a b)
theorem wH{L N P:Type}(m:bg L)(f:L->bg N)(g:N->bg P):(m.bind f).bind g=m.bind λa=>(f a).bind g:=bind_assoc m f g
section
variable{f:Option (bg aj)×bg aj->Option ah×List SP->bg (ForInStep (Option ah×List SP))}{fl:List SP->Option ah->bg (Option ah)}
theorem gather(C:∀(q:SP)(a:Option ah)(b:List SP),b.length+1≠17->f (aa q.1,q.2) (a,b)=.pure (.yield (a,b++[q]))):∀(l:List SP)(r:List (Option (bg aj)×bg aj))(a:Option ah)(b:List SP),b.length+l.length<17->forIn (l.map (λq=>(aa q.1,q.2))++r) (a,b) f=forIn r (a,b++l) f|[],r,a,b,_=>by exact O xcM (O (tX ..) (O (g8 ..) rfl))|q::l,r,a,b,h=>by rw[fC]at h;refine O f6 (O z6 (O (tW ..) (O (C q a b (bS (gO (iy (qA (jo _)) _) h))) ?_)));show forIn (l.map (λq=>(aa q.1,q.2))++r) (a,b++[q]) f=_;refine O (gather C l r a (b++[q]) (by rw[cK];exact gO (dh (rI _ _)) h)) (O (fT ..) ?_);rfl
theorem JK(C:∀(q:SP)(a:Option ah)(b:List SP),b.length+1≠17->f (aa q.1,q.2) (a,b)=.pure (.yield (a,b++[q])))(J:∀(q:SP)(a:Option ah)(b:List SP),b.length+1=17->f (aa q.1,q.2) (a,b)=(fl (b++[q]) a).bind λm=>.pure (.yield (m,[])))(v:List SP)(V:v.length<17):∀(F:List (List SP))(a:Option ah),(∀c∈F,c.length=17)->forIn ((F.flatten++v).map λq=>(aa q.1,q.2)) (a,[]) f=(pY fl F a).bind λm=>.pure (m,v)|[],a,_=>by have:=gather C v [] a [] (by simpa using V);rw[g8]at this;rw[Y5,tX,this];rfl|c::F,a,h=>by have Z:=h c (aP ..);obtain⟨M,q,rfl⟩:∃M q,c=M++[q]:=⟨c.dropLast,c.getLast (by intro z;rw[z]at Z;cases Z),(List.dropLast_concat_getLast _).symm⟩;rw[cK,Js]at Z;refine O YT (O (fT ..) (O (fT ..) (O fY (O (gather C M _ a [] (tP (tR (dh (jn _))) Z)) ?_))));rw[tX,List.singleton_append,f6,tW,J q a M Z];show((fl (M++[q]) a).bind _).bind _=((fl (M++[q]) a).bind _).bind _;refine O (wH ..) (O (wH ..) ?_);refine congrArg _ (funext λm=>?_);exact JK C J v V F m λx S=>h x (aY _ S)
end
noncomputable def rz(b:List SP)(a:Option ah):bg (Option ah):=match a with|none=>(w9 b).bind λd=>.pure (aa d)|aa d=>(ic [.ref d] (w9 b)).bind λT=>((ic [.ref d,.ref T] (AA d (.ref T) av)).onRaise λx=>(ic [.ref d,x] (runValue (.builtin "proto.let_go" {}))).bind λ_=>.pure ()).bind λ_=>.pure (aa d)
theorem xcZ(F:List (List SP))(v:List SP)(V:v.length<17)(f:v≠[])(h:∀c∈F,c.length=17):wz ((F.flatten++v).map λq=>(aa q.1,q.2))=(pY rz F none).bind λm=>(rz v m).bind λr=>match r with|aa d=>.pure (.ref d)|none=>BR:=by
 unfold wz;dsimp only;rw[JK (fl:=rz) (λq a b D=>?_) (λq a b D=>?_) v V F none h];.show((pY rz F none).bind _).bind _=_;refine O (wH ..) ?_;refine congrArg _ (funext λm=>?_);show qQ (if v.isEmpty=af then _ else _) _=_;refine O (if_neg (by simpa using f)) ?_;cases m<;>rfl
 .have:((b++[(q.1,q.2)]).length==17)=av:=by simp;exact λe=>D (congrArg (·+1) e)
  simp only[this,rJ,if_false];rfl
 .have:((b++[(q.1,q.2)]).length==17)=af:=by simp;exact Ao D
  simp only[this,if_true];have e:(b++[(q.1,q.2)]).isEmpty=av:=by simp
  simp only[e,rJ,if_false];cases a<;>rfl
section
theorem subs(w:bF)(P:bN)(b:Bool)(i:Nat)(C:1<=i)(J:i<=38):uF gn PQ (eg w b) 28 (aa (.ref 6)) 1 1000 (gI (TB PQ (eg w b).params (i-1)) (186+i) (606+51*i) P) ⟨(w9 (iC PQ (17*i) 17)).wrap B0 nu id RP,cT PQ,gh,c6⟩=aa (.ret (.ref (186+i)),gI (TC PQ (eg w b).params (i-1)) (187+i) (606+51*i+3*bif ng i 38 then 17 else 4) P,cT PQ,gh):=by
 refine O vK (O tL (O Ja ?_));cases b;.exact AR (xbc w P) i (Er C J)
 .exact AR (xbb w P) i (Er C J)
theorem Xq(P:lP):mapR (λi=>((TC PQ P (i-1)).get 186,(TC PQ P (i-1)).get (186+i))) sU=sU.map λi=>(aa (oD (lV PQ (i-1))),aa (oD (qe PQ i))):=by kernel_rfl
theorem xfv(P:lP)(i:Nat)(C:1<=i)(J:i<=38):(TC PQ P (i-1)).get 186=aa (oD (lV PQ (i-1)))/\(TC PQ P (i-1)).get (186+i)=aa (oD (qe PQ i)):=Mg (AR (Xq P) i (Er C J))
noncomputable def xC:List Int->Bool|a::b::l=>decide (a<b)&&xC (b::l)|_=>af
theorem O2:∀{l:List Int}{a:Int},xC (a::l)=af->∀x∈l,a<x
|b::l,a,h,x,m=>by
 unfold xC at h;replace h:=(dZ ..).mp h;have C:=of_decide_eq_true h.1;rcases bA.mp m with rfl|m;.exact C
 .exact m6 C (O2 h.2 x m)
theorem Le:∀{l:List Int},xC l=af->l.Nodup|[],_=>t7|[a],_=>by simp|a::b::l,h=>by refine mC.mpr ⟨λm=>absurd (O2 h a m) (yo _),Le ?_⟩;unfold xC at h;exact(vQ.mp h).2
theorem NU:(xd PQ).length=650:=by kernel_rfl
theorem xda:xC ((xd PQ).map (·.hash))=af:=by kernel_rfl
noncomputable def RQ:aj->Bool|.int _ _=>af|_=>av
noncomputable def isR:aj->Bool|.ref _=>af|_=>av
theorem xdb:(xd PQ).all (λx=>RQ x.key&&!isR x.val)=af:=by kernel_rfl
theorem xbd(h:RQ v=af):∃k t,v=.int k t:=by cases v<;>first|exact⟨_,_,rfl⟩|cases h
theorem xbe(x:gm)(m:x∈xd PQ):(∃k t,x.key=.int k t)/\∀a,x.val≠.ref a:=by have c:=vQ.mp (cg.mp xdb x m);exact⟨xbd c.1,λa q=>by replace c:=q▸c;cases c.2⟩
theorem xdc(i:Nat)(h:1<=i):lV PQ (i-1)++qe PQ i=lV PQ i:=by unfold lV qe cY;exact O Am (O (congrArg (17*·) (qy h)) (O (Mx 17 i) (O List.take_add rfl)))
theorem xdd(i:Nat):lV PQ i≠[]:=λq=>by have:=congrArg ug q;unfold lV cY at this;replace this:=qC▸NU▸jC▸Am▸this;exact gb (xgN.mpr ⟨Nat.mul_pos dk (qE i),dk⟩) this
variable{n:Nat}{life:Life}{g:Array mO}{dr:nC}{tk:Nat}{os:bN}
theorem Zr(P:lP)(i:Nat)(C:1<=i)(J:i<=38):∃k,k<=200/\cN () ⟨TB PQ P i,187+i,life,g,dr,tk,os⟩ k ⟨TC PQ P (i-1),187+i,life,g,dr,tk,os⟩ (AA 186 (.ref (186+i)) av):=by
 refine aV (xfv P i C J) λe U=>?_;have a:=xdc i C;have d:(lV PQ i).length<=650:=by unfold lV cY;exact O Am (O jC (O NU (tS _ _)))
 have c:=congrArg ug a;replace c:=cK▸c;have b:(qe PQ i).length<=17:=by unfold qe cY;exact O jC (vY _ _)
 have K:((lV PQ i).map (·.hash)).Nodup:=(Le xda).sublist ((show(lV PQ i).Sublist (xd PQ)from by unfold lV cY;exact O Am (Dm ..)).map _);have y:=Xp (n:=187+i) (life:=life) (g:=g) (dr:=dr) (tk:=tk) (os:=os) (d:=186) (a:=186+i) dk (Ju (e7 187 i)) (Ju (dh (My 186 i).symm)) (gb (vM C)) (beq_false_of_ne (by show¬186+i=1;exact gb (kI _ (gQ _ _)))) e U (λx m=>xbe x (List.mem_of_mem_drop (nO (by unfold qe cY at m;exact m)))) (by exact O a K) (jz c (cC d)) (xdd _);replace y:=a▸y;have:TB PQ P i=(TC PQ P (i-1)).set 186 λ_=>oD (lV PQ i):=by obtain⟨j,rfl⟩:∃j,i=j+1:=⟨i-1,i8 (qy C)⟩;rfl
 exact O this ⟨_,cC (iy (iy (qv (tN 6 b) 3) 1) 1),y⟩
end
theorem NV(w:bF)(P:bN)(b:Bool)(i:Nat)(C:1<=i)(J:i<=38)(K:Option ah->bg Fin)(H:aj->bg Fin):Top PQ (eg w b) (1000+200) (gI (TB PQ (eg w b).params (i-1)) (186+i) (606+51*i) P) ⟨(rz (iC PQ (17*i) 17) (aa 186)).wrap K H id id,cT PQ,gh,c6⟩ (gI (TB PQ (eg w b).params i) (187+i) (606+51*i+3*bif ng i 38 then 17 else 4) P) ⟨K (aa 186),cT PQ,gh,c6⟩:=by show Top _ _ _ _ ⟨(qQ (Sem.keep [.ref 186] (w9 (iC PQ (17*i) 17))) _).wrap K H id id,cT PQ,gh,c6⟩ _ _;refine O (qG ..) (O (KG ..) ?_);refine(Top.seg (res:=λd=>.ret (.ref d)) λa e=>by cases e;rfl (subs w P b i C J) _ _).trans (m:=200) ?_;show Top _ _ _ _ ⟨(qQ (Sem.onRaise (Sem.keep [.ref 186,.ref (186+i)] (AA 186 (.ref (186+i)) av)) _) _).wrap K H id id,cT PQ,gh,c6⟩ _ _;refine O (qG ..) (O (Ul ..) (O (KG ..) ?_));refine aG (Zr (life:={}) (g:=#[]) (dr:={}) (tk:=606+51*i+3*bif ng i 38 then 17 else 4) (os:=P) (eg w b).params i C J) λk N y=>?_;exact(y.top _ _ _ _ gh).more N
theorem Zs(w:bF)(P:bN)(b:Bool)(K:Option ah->bg Fin)(H:aj->bg Fin):Top PQ (eg w b) 1000 (gI (qd PQ (eg w b).params) 186 606 P) ⟨(rz (iC PQ 0 17) ak).wrap K H id id,cT PQ,gh,c6⟩ (gI (TB PQ (eg w b).params 0) 187 657 P) ⟨K (aa 186),cT PQ,gh,c6⟩:=by
 show Top _ _ _ _ ⟨(qQ (w9 (iC PQ 0 17)) _).wrap K H id id,cT PQ,gh,c6⟩ _ _;refine O (qG ..) ?_;cases b;.exact Top.seg (res:=λd=>.ret (.ref d)) λa e=>by cases e;rfl (Vl w P) _ _
 .exact Top.seg (res:=λd=>.ret (.ref d)) λa e=>by cases e;rfl (Wb w P) _ _
theorem Ke(a:List SP->Option ah->bg (Option ah))(c:List SP):∀(F:List (List SP))(m:Option ah),pY a (F++[c]) m=(pY a F m).bind (a c)|[],m=>by show(a c m).bind Sem.pure=a c m;exact bind_pure (a c m)|x::F,m=>by show(a x m).bind (pY a (F++[c]))=((a x m).bind (pY a F)).bind (a c);exact O (wH ..) (congrArg _ (funext λm=>Ke a c F m))
def nH(n:Nat):List (List SP):=(gc n).map λi=>iC PQ (17*i) 17
theorem chain(w:bF)(P:bN)(b:Bool):∀n,n<=37->∀(K:Option ah->bg Fin)(H:aj->bg Fin),Top PQ (eg w b) (1200*(n+1)) (gI (qd PQ (eg w b).params) 186 606 P) ⟨(pY rz (nH (n+1)) ak).wrap K H id id,cT PQ,gh,c6⟩ (gI (TB PQ (eg w b).params n) (187+n) (606+51*(n+1)) P) ⟨K (aa 186),cT PQ,gh,c6⟩
|0,_,K,H=>by show Top _ _ _ _ ⟨(qQ (rz (iC PQ (17*0) 17) ak) (pY rz [])).wrap K H id id,cT PQ,gh,c6⟩ _ _;exact O (qG ..) ((Zs w P b _ H).more dk)|n+1,h,K,H=>by
 have e:nH (n+1+1)=nH (n+1)++[iC PQ (17*(n+1)) 17]:=by unfold nH;refine O xaH (O fY ?_);rfl
 refine O e (O (Ke ..) (O (qG ..) (O (Mx 1200 (n+1)) ?_)));refine(chain w P b n (nR h) _ H).trans ?_;have:=NV w P b (n+1) (qE n) (nS h) K H;rw[show ng (n+1) 38=af from Ju (qA h)]at this;have L:606+51*(n+1)+3*(bif af then 17 else 4)=606+51*(n+1+1):=rQ 606 (51*(n+1)) 51;rw[L,show 186+(n+1)=187+n from(My 186 n).symm]at this;exact this
theorem yR(G:aN):∀l:List aS,(kP l G).length=l.length|[]=>rfl|a::l=>by show(kP l G).length+1=l.length+1;exact O (yR G l) rfl
theorem Es(G:aN):∀(n:Nat)(l:List aS),kP l G=kP (l.take n) G++kP (l.drop n) G|0,l=>rfl|n+1,[]=>rfl|n+1,a::l=>by show aT a G::kP l G=aT a G::(kP (l.take n) G++kP (l.drop n) G);exact aQ (Es G n l) rfl
theorem yH:(l5 PQ).1.length=650/\(l5 PQ).2.length=650:=⟨by kernel_rfl,by kernel_rfl⟩
def zF(i:Nat):List SP:=(kP ((l5 PQ).1.drop i) (gZ PQ)).zip ((kP ((l5 PQ).2.drop i) (gZ PQ)).map λv=>v.bind λx=>(fL gh).bind λ_=>.pure x)
theorem Lf(i:Nat):zF i=iC PQ i 17++zF (i+17):=by unfold zF iC cut;exact O (Es _ 17 ((l5 PQ).1.drop i)) (O (Es _ 17 ((l5 PQ).2.drop i)) (O fY (O xaO (O xaO (Kv (by rw[yR,aH,yR,jC,jC,Dw,Dw,yH.1,yH.2]))))))
theorem NW:∀n,zF 0=(nH n).flatten++zF (17*n)
|0=>rfl|n+1=>by
 have e:nH (n+1)=nH n++[iC PQ (17*n) 17]:=by unfold nH;refine O xaH (O fY ?_);rfl
 refine O (NW n) (O e (O List.flatten_append (O (fT ..) (O (Lf (17*n)) (O (Mx 17 n) ?_)))));congr 1;show _=([iC PQ (17*n) 17]:List (List SP)).flatten++_;exact O YT (O Y5 (O (g8 ..) rfl))
theorem EO(i:Nat):(iC PQ i 17).length=min 17 (650-i):=by unfold iC cut;exact O gP (O (aH ..) (O (yR ..) (O (yR ..) (O jC (O jC (O Dw (O Dw (O yH.1 (O yH.2 (O (nZ ..) rfl))))))))))
noncomputable abbrev sV:aR:=⟨69,0,69,13⟩
theorem xde:aO PQ 18=.Assign [.Name "b3_exceptions" sV] (.Dict ((l5 PQ).1.map aa) (l5 PQ).2 gh) ⟨69,0,69,8704⟩:=by kernel_rfl
theorem MG(G:aN):∀l:List aS,Fj (l.map aa) G=(kP l G).map aa|[]=>rfl|a::l=>by show aa (aT a G)::Fj (l.map aa) G=aa (aT a G)::(kP l G).map aa;exact O (MG G l) rfl
theorem Lg{L N:Type}:∀(l:List L)(r:List N),(l.map aa).zip r=(l.zip r).map λq=>(aa q.1,q.2)|[],_=>rfl|_::_,[]=>rfl|a::l,b::r=>by show(aa a,b)::(l.map aa).zip r=(aa a,b)::(l.zip r).map _;exact O (Lg l r) rfl
theorem Wc(w:bF)(P:bN):uF gn PQ (eg w af) 28 (aa (.ref 6)) 1 200 (gI (TB PQ (eg w af).params 38) 225 2556 P) ⟨(kQ (gZ PQ) "b3_exceptions" (.ref 186)).wrap Qh nu id id,cT PQ,sV,c6⟩=aa (.next,gI (xy PQ (eg w af).params) 225 2557 P,cT PQ,sV):=by refine O vK (O tL ?_);kernel_rfl
theorem Vm(w:bF)(P:bN):uF gn PQ (eg w av) 28 (aa (.ref 6)) 1 200 (gI (TB PQ (eg w av).params 38) 225 2556 P) ⟨(kQ (gZ PQ) "b3_exceptions" (.ref 186)).wrap Qh nu id id,cT PQ,sV,c6⟩=aa (.next,gI (xy PQ (eg w av).params) 225 2557 P,cT PQ,sV):=by refine O vK (O tL ?_);kernel_rfl
theorem Top.at{L:Type}(s:iB)(q R:aR)(f:Unit->bg L)(K:L->bg Fin)(H:aj->bg Fin)(E:Bool->Bool)(B:List aj->List aj):Top p w 1 s ⟨((fL q).bind f).wrap K H E B,cT p,R,c6⟩ s ⟨(f ()).wrap K H E B,cT p,q,c6⟩:=Top.step (by rfl) (by rfl) (by rfl)
theorem Zt:lJ (.Dict ((l5 PQ).1.map aa) (l5 PQ).2 gh) (aa (.Name "b3_exceptions" sV)) 69 (gZ PQ)=pure av:=by rfl
theorem Zu:(Fj ((l5 PQ).1.map aa) (gZ PQ)).zip ((kP (l5 PQ).2 (gZ PQ)).map λv=>do let x<-v;fL gh;pure x)=((nH 38).flatten++iC PQ 646 17).map λq=>(aa q.1,q.2):=by
 have e:zF 0=(nH 38).flatten++iC PQ 646 17:=by
  refine O (NW 38) (O (Lf (17*38)) ?_);have:zF (17*38+17)=[]:=by unfold zF;refine O (CZ (by rw[yH.1];decide)) ?_;rfl
  exact O this (O (g8 ..) rfl)
 refine aQ e (O (MG ..) (O (Lg ..) ?_));rfl
theorem xbf(w:bF)(b:Bool)(P:bN)(K:aj->bg Fin)(H:aj->bg Fin):Top PQ (eg w b) (1200*38+1200) (gI (qd PQ (eg w b).params) 186 606 P) ⟨(wz (((nH 38).flatten++iC PQ 646 17).map λq=>(aa q.1,q.2))).wrap K H id id,cT PQ,gh,c6⟩ (gI (TB PQ (eg w b).params 38) 225 2556 P) ⟨K (.ref 186),cT PQ,gh,c6⟩:=by rw[xcZ (nH 38) (iC PQ 646 17) (by refine O (EO ..) ?_;decide) (λq=>by have:=congrArg ug q;rw[EO]at this;cases this) λc m=>by refine aG (bE.mp m) λi E z=>?_;subst z;refine O (EO ..) ?_;exact Kw (Nat.le_sub_of_add_le (cC (iy (mY 17 (Y6 (rN.mp E))) 17))),qG];refine(chain w P b 37 (cQ _) _ H).trans ?_;exact O (qG ..) (NV w P b 38 dk dk _ H)
theorem Zv(w:bF)(b:Bool)(P:bN)(R:aR)(K:ek->bg Fin)(H:aj->bg Fin):Top PQ (eg w b) 50000 (gI (qd PQ (eg w b).params) 186 606 P) ⟨(dY (aO PQ 18) (gZ PQ)).wrap K H id id,cT PQ,R,c6⟩ (gI (xy PQ (eg w b).params) 225 2557 P) ⟨K .next,cT PQ,sV,c6⟩:=by
 refine O xde (O (Ac (hs:=Zt)) ?_);refine Top.more (n:=1+(1+(1200*38+1200+(1+200)))) ?_ dk;refine(Top.at _ _ _ _ _ _ _ _).trans ?_;show Top _ _ _ _ ⟨(qQ (aT _ (gZ PQ)) _).wrap K H id id,cT PQ,_,c6⟩ _ _;refine O (qG ..) (O (Nn ..) ?_);refine(Top.at _ _ _ _ _ _ _ _).trans ?_;refine O Zu ?_;refine(xbf w b P _ H).trans ?_;refine(Top.at _ _ _ _ _ _ _ _).trans ?_;show Top _ _ _ _ ⟨(qQ (kQ (gZ PQ) "b3_exceptions" (.ref 186)) _).wrap K H id id,cT PQ,_,c6⟩ _ _;refine O (qG ..) ?_;cases b;.exact Top.seg (a:=()) (res:=λ_=>.next) (λ_ _=>rfl) (Vm w P) _ H
 .exact Top.seg (a:=()) (res:=λ_=>.next) (λ_ _=>rfl) (Wc w P) _ H
theorem Tp(w:bF)(P:bN):PC 1200 16 ⟨65,0,65,8⟩ uV 168 539 ⟨66,0,66,6⟩ uW 179 599 ((w.withFollow "set-order" af).withFollow "special-get-raises" af) P:=by kernel_rfl
theorem Td(w:bF)(P:bN):PC 1200 16 ⟨65,0,65,8⟩ uV 168 539 ⟨66,0,66,6⟩ uW 179 599 ((w.withFollow "set-order" af).withFollow "special-get-raises" av) P:=by kernel_rfl
theorem Tf(w:bF)(P:bN):PC 1200 16 ⟨65,0,65,8⟩ uV 168 539 ⟨66,0,66,6⟩ uW 179 599 ((w.withFollow "set-order" av).withFollow "special-get-raises" af) P:=by kernel_rfl
theorem S5(w:bF)(P:bN):PC 1200 16 ⟨65,0,65,8⟩ uV 168 539 ⟨66,0,66,6⟩ uW 179 599 ((w.withFollow "set-order" av).withFollow "special-get-raises" av) P:=by kernel_rfl
theorem xdf(h:uF gn p w 28 (aa (.ref 6)) 1 n s ⟨(b8 [st] G).wrap CJ nu id id,cT p,a,c6⟩=aa (.next,b,cT p,c))(K:ek->bg Fin)(H:aj->bg Fin):Top p w n s ⟨(b8 (st::u) G).wrap K H id id,cT p,a,c6⟩ b ⟨(b8 u G).wrap K H id id,cT p,c,c6⟩:=by exact O (show st::u=[st]++u from rfl) (O (execs_app_wrap ..) (Top.seg (res:=id) (λ_ e=>e) h _ H))
theorem xbg(w:bF)(b:Bool)(P:bN)(R:aR)(u:List cZ)(K:ek->bg Fin)(H:aj->bg Fin):Top PQ (eg w b) 50000 (gI (qd PQ (eg w b).params) 186 606 P) ⟨(b8 (aO PQ 18::u) (gZ PQ)).wrap K H id id,cT PQ,R,c6⟩ (gI (xy PQ (eg w b).params) 225 2557 P) ⟨(b8 u (gZ PQ)).wrap K H id id,cT PQ,sV,c6⟩:=by exact O (execs_cons_wrap ..) (Zv w b P R _ H)
theorem fG(h:I3 CO p w 28 (aa (.ref 6)) 1 n s ⟨(S3 [st] G).wrap CJ nu id id,cT p,a,c6⟩=aa (.next,b,cT p,c))(K:ek->bg Fin)(H:aj->bg Fin):Top p w n s ⟨(b8 (st::u) G).wrap K H id id,cT p,a,c6⟩ b ⟨(b8 u G).wrap K H id id,cT p,c,c6⟩:=by replace h:=Fast.te12563942051412417395.symm▸tL.symm▸vK.symm▸h;exact xdf h K H
theorem Wd:bodyOf PQ=[aO PQ 1,aO PQ 2,aO PQ 3,aO PQ 4,aO PQ 5,aO PQ 6,aO PQ 7,aO PQ 8,aO PQ 9,aO PQ 10,aO PQ 11,aO PQ 12,aO PQ 13,aO PQ 14,aO PQ 15,aO PQ 16,aO PQ 17,aO PQ 18,aO PQ 19,aO PQ 20,aO PQ 21,aO PQ 22,aO PQ 23,aO PQ 24,aO PQ 25,aO PQ 26,aO PQ 27]:=by kernel_rfl
noncomputable abbrev eW(w:bF)(a b:Bool):bF:=(w.withFollow "set-order" a).withFollow "special-get-raises" b
theorem xbh(w:bF)(a b:Bool)(P:bN)(u:List cZ)(K:ek->bg Fin)(H:aj->bg Fin):Top PQ (eW w a b) 1200 (kr uV 168 539 PQ (eW w a b) P) ⟨(b8 (aO PQ 16::u) (gZ PQ)).wrap K H id id,cT PQ,⟨65,0,65,8⟩,c6⟩ (kr uW 179 599 PQ (eW w a b) P) ⟨(b8 u (gZ PQ)).wrap K H id id,cT PQ,⟨66,0,66,6⟩,c6⟩:=by
 cases a<;>cases b;.exact fG (S5 w P) K H
 .exact fG (Tf w P) K H
 .exact fG (Td w P) K H
 .exact fG (Tp w P) K H
theorem Vn(w:bF)(a b:Bool)(P:bN)(K:ek->bg Fin)(H:aj->bg Fin):Top PQ (eW w a b) 60000 (kr xN 32 282 PQ (eW w a b) P) ⟨(b8 (bodyOf PQ) (gZ PQ)).wrap K H id id,cT PQ,⟨0,0,0,0⟩,c6⟩ (kr uX 267 2609 PQ (eW w a b) P) ⟨K .next,cT PQ,⟨142,0,180,144⟩,c6⟩:=by refine O Wd ?_;refine Top.more (n:=10+(260+(41+(34+(32+(10+(60+(86+(10+(197+(249+(265+(247+(30+(10+(1200+(30+(50000+(31+(10+(27+(27+(27+(27+(27+(27+(27+0))))))))))))))))))))))))))) ?_ dk;refine Top.trans (fG (pq0 (eW w a b) P) K H) ?_;refine Top.trans (fG (pq1 (eW w a b) P) K H) ?_;refine Top.trans (fG (pq2 (eW w a b) P) K H) ?_;refine Top.trans (fG (pq3 (eW w a b) P) K H) ?_;refine Top.trans (fG (pq4 (eW w a b) P) K H) ?_;refine Top.trans (fG (pq5 (eW w a b) P) K H) ?_;refine Top.trans (fG (pq6 (eW w a b) P) K H) ?_;refine Top.trans (fG (pq7 (eW w a b) P) K H) ?_;refine Top.trans (fG (pq8 (eW w a b) P) K H) ?_;refine Top.trans (fG (pq9 (eW w a b) P) K H) ?_;refine Top.trans (fG (xff (eW w a b) P) K H) ?_;refine Top.trans (fG (xfg (eW w a b) P) K H) ?_;refine Top.trans (fG (xfh (eW w a b) P) K H) ?_;refine Top.trans (fG (xfi (eW w a b) P) K H) ?_;refine Top.trans (fG (xfj (eW w a b) P) K H) ?_;refine Top.trans (xbh w a b P _ K H) ?_;refine Top.trans (fG (xfk (eW w a b) P) K H) ?_;refine Top.trans (xbg (w.withFollow "set-order" a) b P _ _ K H) ?_;refine Top.trans (fG (xfl (eW w a b) P) K H) ?_;refine Top.trans (fG (xfm (eW w a b) P) K H) ?_;refine Top.trans (fG (xfn (eW w a b) P) K H) ?_;refine Top.trans (fG (xfo (eW w a b) P) K H) ?_;refine Top.trans (fG (xfp (eW w a b) P) K H) ?_;refine Top.trans (fG (xfq (eW w a b) P) K H) ?_;refine Top.trans (fG (xfr (eW w a b) P) K H) ?_;refine Top.trans (fG (xfs (eW w a b) P) K H) ?_;refine Top.trans (fG (xft (eW w a b) P) K H) ?_;exact Top.refl _ _
noncomputable def xD(p:dw):bg (aj×ah):=(PF p.main).bind λi=>(newBodyFrame i o8 o8).bind λK=>.pure (i,K)
noncomputable def B3:aj×ah->ek|(.ref c,a)=>if a=c+1 then .ret (.ref c)else .brk|_=>.next
theorem Xr(x:aj×ah)(h:B3 x=.ret (.ref 30)):x=(.ref 30,31):=by
 obtain⟨v,K⟩:=x;cases v with|ref c=>
have h:(if K=c+1 then Flow.ret (.ref c)else .brk)=.ret (.ref 30):=h;by_cases e:K=c+1;.replace h:=if_pos e▸h;obtain rfl:c=30:=Ko (Flow.ret.inj h);exact O e rfl
.replace h:=if_neg e▸h;cases h|_=>cases h
theorem Zw(w:bF)(P:bN):uF gn PQ w 28 (aa (.ref 6)) 0 40 (kr Ta 28 276 PQ w P) ⟨(xD PQ).wrap (λa=>.pure (.done (B3 a))) nu id id,.builtin "claim.caller" {},default,[]⟩=aa (.ret (.ref 30),kr xN 32 282 PQ w P,.builtin "claim.caller" {},default):=by refine O vK (O tL ?_);kernel_rfl
theorem xbi:blockStart (bodyOf PQ) (gZ PQ)=.pure ():=by kernel_rfl
theorem Zx(w:bF)(s:aq)(R:aR):qc gn PQ w 28 (aa (.ref 6)) 10 s ⟨CJ .next,cT PQ,R,c6⟩=aa s:=by rfl
theorem Vo(w:bF):∃a b,eW w a b=w:=⟨w.params.followText "set-order",w.params.followText "special-get-raises",by have C:=Ve w "set-order";have J:=Ve w "special-get-raises";show(w.withFollow _ _).withFollow _ _=w;exact O C (O J rfl)⟩
theorem Zy:HP PQ=⟨(xD PQ).bind λc=>(run (.body (bodyOf PQ) {scope:=PQ.main.scope,locals:=o8,globals:=o8,cells:=[],code:=c.1,frame:=aa c.2})).bind λ_=>(ret .none:bg Fin),.builtin "claim.caller" {},default,[]⟩:=by unfold xD;refine O (wH ..) ?_;show _=(⟨(PF PQ.main).bind λi=>((newBodyFrame i o8 o8).bind λK=>.pure (i,K)).bind _,_,_,_⟩:uT);unfold HP;congr 1;refine congrArg (qQ (PF PQ.main)) (funext λi=>?_);refine O (wH ..) ?_;rfl
theorem UH(D:through t=av)(C:stepOk 28 (aa (.ref 6)) t=af)(J:step (Cj gn) p w s t=.go a g)(h:qc gn p w 28 (aa (.ref 6)) N a g=aa r):qc gn p w 28 (aa (.ref 6)) (N+1) s t=aa r:=by unfold qc;exact O D (O C (O J h))
theorem Zz(w:bF)(P:bN):qc gn PQ w 28 (aa (.ref 6)) (40+(1+(60000+10))) (kr Ta 28 276 PQ w P).abs (HP PQ)=aa (kr uX 267 2609 PQ w P).abs:=by
 refine O Zy ?_;refine lu (Vo w) λa b e=>?_;have A:=Vn w a b P CJ (leaveH (gZ PQ));replace A:=e▸A;have E:=Zx w (kr uX 267 2609 PQ w P).abs ⟨142,0,180,144⟩;have S:=A 10 _ E;refine aG (seg_top (res:=B3) (K':=λc=>(run (.body (bodyOf PQ) {scope:=PQ.main.scope,locals:=o8,globals:=o8,cells:=[],code:=c.1,frame:=aa c.2})).bind λ_=>(ret .none:bg Fin)) (H':=Sem.raise) (gd:=id) (lv:=id) (B:=[]) rfl 40 (kr Ta 28 276 PQ w P).abs ⟨(xD PQ).wrap (λa=>.pure (.done (B3 a))) nu id id,.builtin "claim.caller" {},default,[]⟩ ⟨(xD PQ).bind λc=>(run (.body (bodyOf PQ) {scope:=PQ.main.scope,locals:=o8,globals:=o8,cells:=[],code:=c.1,frame:=aa c.2})).bind λ_=>(ret .none:bg Fin),.builtin "claim.caller" {},default,[]⟩ _ _ _ _ ⟨rfl,rfl,.inl ⟨rfl,rfl,xD PQ,rfl,by exact O (xaG ..) rfl⟩⟩ (segRun_of (Zw w P))) λx Y t=>?_;have Y:=Xr x Y;subst Y;have d:qc gn PQ w 28 (aa (.ref 6)) (1+(60000+10)) (kr xN 32 282 PQ w P).abs ⟨(run (.body (bodyOf PQ) (gZ PQ))).bind λ_=>(ret .none:bg Fin),.builtin "claim.caller" {},default,[]⟩=aa (kr uX 267 2609 PQ w P).abs:=by
  have:qc gn PQ w 28 (aa (.ref 6)) (60000+10) (kr xN 32 282 PQ w P).abs ⟨Cj gn (.body (bodyOf PQ) (gZ PQ)),cT PQ,⟨0,0,0,0⟩,c6⟩=aa (kr uX 267 2609 PQ w P).abs:=by exact O (body_wrap ..) (O xbi S)
  exact O (jm ..) (UH (by rfl) (by rfl) (by rfl) this)
 exact t _ _ d
def Te(p:dw)(P:lP):BT:=cj [QY P,BZ P,Hg P,Hh P,G3 P,QZ P,Q0 P,Q2 P,Q3 P,Q4 P,QN P,OP P,Gk,Br P,Gl,dB,Gn,Gp,Gy P,Gq,Gr P,Bs P,Gs,Gu,Gv,Gw,Gx,Gz P]
noncomputable def AU(M:dw->bF->iB->uT->Option (iB×uT))(p:dw)(w:bF):Nat->iB->uT->Option iB|0,_,_=>none|n+1,s,t=>match t.atExitBegin with|aa []=>aa s|aa (_::_)=>none|none=>match M p w s t with|aa (a,g)=>AU M p w n a g|none=>none
theorem KH{p:dw}{w:bF}:∀{n:Nat}{s S:iB}{t:uT},AU (CK (Cj gn)) p w n s t=some S->F9 gn p w n s.abs t=some S.abs|0,_,_,_,h=>by cases h|n+1,s,S,t,h=>by unfold AU at h;unfold F9;cases L:t.atExitBegin with
|some x=>replace h:=L▸h;cases x with|nil=>cases h;rfl|cons=>cases h
|none=>replace h:=L▸h;cases W:CK (Cj gn) p w s t with|none=>replace h:=W▸h;cases h|some r=>obtain⟨J,c⟩:=r;replace h:=W▸h;dsimp only;exact O (stepT_spec W) (KH h)
theorem ZA(w:bF):AU (Fast.tw10156331382660048174 (Fast.tw11892475500146522536 CO)) (jt PQ) w 900 ⟨.nil,0,(lT (jt PQ)).1.heap.life,#[],(lT (jt PQ)).1.drawn,(lT (jt PQ)).1.toks,(lT (jt PQ)).1.os⟩ (lT (jt PQ)).2=aa ⟨Te PQ w.params,28,{},#[],{},276,(lT (jt PQ)).1.os⟩:=by kernel_rfl
theorem We(w:bF):(λP=>(fenceModules? PQ ⟨uG (Te PQ w.params) 28 {},#[],{},276,P⟩).map λs=>(s.heap,s.gens,s.drawn,s.toks))=λ_=>aa (uG (Ta PQ w.params) 28 {},#[],{},276):=by kernel_rfl
def H0(P:lP):aA:=uG (Ta PQ P) 28 {}
def H1(P:lP):aA:=uG (uX PQ P) 267 {}
def qV:dw:=view PQ [27]
noncomputable def qX:List ai:=PQ.main.scope.names.map (·.1)
end MineH
namespace Mine
open PySem PySem.W PySem.Calls PyProof.Rows
noncomputable abbrev RL:RowW:=OpenRow.toRowW (OpenLaw.row PySem.Challenge.rw_wz0025_01)
def dL:DefRec×List (ai×aS):=(defOf MineH.qV "law").getD ⟨⟨"",default,[],default,default⟩,[]⟩
noncomputable def WalkAt(w:bF):Prop:=WalkO MineH.qV MineH.qX (λ_ _=>True) (λA h=>A=w/\∀b o,(MineH.H1 w.params).get? b=aa o->h.get? b=aa o) RL dL.1 dL.2 λf K=>dO f K
theorem RS:∃w,WalkAt w->∀a,WalkAt a:=(Classical.em (∀a,WalkAt a)).elim (λh=>⟨⟨default,{strHash:=default,shareClass:=default,mergeTok:=default,idOf:=default,idOfShared:=default,followText:=default,idOfImm:=default}⟩,λ_=>h⟩) λh=>(Classical.not_forall.mp h).imp λw n x=>absurd x n
noncomputable def w:bF:=Classical.choose RS
theorem Xs(h:WalkAt w):∀a,WalkAt a:=Classical.choose_spec RS h
end Mine
namespace MineH
open PySem PySem.W Mine
theorem xfw(T:BT)(P:bN):Mh ⟨T,28,{},#[],{},276,P⟩=⟨uG T 28 {},#[],{},276,P⟩:=rfl
theorem Xu(w:bF):F9 gn (jt PQ) w 900 (lT (jt PQ)).1 (lT (jt PQ)).2=aa ⟨uG (Te PQ w.params) 28 {},#[],{},276,(lT (jt PQ)).1.os⟩:=by
 have h:=ZA w;replace h:=tL.symm▸Fast.te11892475500146522536.symm▸Fast.te10156331382660048174.symm▸h;have k:=@KH (jt PQ) w 900 _ _ _ h;have e:Mh ⟨.nil,0,(lT (jt PQ)).1.heap.life,#[],(lT (jt PQ)).1.drawn,(lT (jt PQ)).1.toks,(lT (jt PQ)).1.os⟩=(lT (jt PQ)).1:=by kernel_rfl
 exact(congrArg (λs=>F9 gn (jt PQ) w 900 s (lT (jt PQ)).2) e).symm.trans (k.trans (congrArg aa (xfw _ _)))
theorem ZC(w:bF):(fencedOpening gn PQ w 60051).map (λs=>(s.heap,s.gens,s.drawn,s.toks))=aa (H0 w.params,#[],{},276):=open_cut (M:=900) (He:=λP=>uG (Te PQ P) 28 {}) Xu (by rfl) We w
theorem ZD(w:bF):((H0 w.params).isNs mJ&&(#[]:Array mO).size==0,(H0 w.params).objs.size,(H0 w.params).nsMap mJ "__annotations__")=(af,28,aa (.ref 6)):=by kernel_rfl
theorem xbj(w:bF):(staticsOk (D0 PQ.main.body) (H0 w.params) (H1 w.params)&&namesBound PQ (H1 w.params)&&laidKept (H0 w.params) (H1 w.params))=af:=by kernel_rfl
theorem xbk(w:bF):(λP=>openSeen qV qX (D0 PQ.main.body) (λ_=>af) af ⟨H1 w.params,#[],{},2609,P⟩)=λ_=>openGood qV qX:=by kernel_rfl
theorem Qi(T:BT)(n G:Nat)(P:bN):Mh ⟨T,n,{},#[],{},G,P⟩=⟨uG T n {},#[],{},G,P⟩:=rfl
theorem xbl(w:bF)(P:bN):qc gn PQ w 28 (aa (.ref 6)) (40+(1+(60000+10))) ⟨H0 w.params,#[],{},276,P⟩ (HP PQ)=aa ⟨H1 w.params,#[],{},2609,P⟩:=by have r:=Zz w P;rewrite[Qi,Qi]at r;exact r
theorem xfx{a b c d:Bool}(h:(a&&b&&d)=af)(Z:c=af):(a&&b&&c&&d)=af:=by subst Z;rw[t9];exact h
theorem pr3{L N P:Type}{a y:L}{b g:N}{c:P}(C:a=y)(J:b=g):(a,b,c)=(y,g,c):=by rw[C,J]
theorem Xv(w:bF):(λP=>(staticsOk (D0 PQ.main.body) (H0 w.params) (H1 w.params)&&namesBound PQ (H1 w.params)&&gensDone ⟨H1 w.params,#[],{},2609,P⟩&&laidKept (H0 w.params) (H1 w.params),openSeen qV qX (D0 PQ.main.body) (λ_=>af) af ⟨H1 w.params,#[],{},2609,P⟩,H1 w.params))=λ_=>(af,openGood qV qX,H1 w.params):=funext λP=>@pr3 _ _ _ _ _ _ _ _ (@xfx _ _ _ _ (xbj w) (@rfl _ af)) (congrFun (xbk w) P)
theorem left:LeftO PQ qV qX (λ_=>af) (λs=>s.heap) (λw=>H1 w.params) 60051:=@LeftO.of_pieces PQ qV qX (λ_=>af) aA (λs=>s.heap) (λw=>H1 w.params) 60051 af H0 H1 #[] #[] {} {} 276 2609 28 (aa (.ref 6)) 60051 ZC ZD xbl (@rfl _ af) Xv
end MineH
namespace Mine
open PySem PySem.W PySem.Calls PyProof.Rows
section
inductive T where|none|bool(b:Bool)|int(i:Int)|str(x:ai)|bytes(b:Array UInt8)|list(l:List T)|tup(l:List T)|dS(y:List ai)(K:List T)|dI(y:List Int)(K:List T)|aI(v:aj)
noncomputable abbrev PW:Program:=PySem.Challenge.pw_wz0025_01
mutual
noncomputable def Rep(X:List ah)(h:aA):T->aj->Prop|.none,v=>v=.none|.bool b,v=>v=.bool b|.int i,v=>∃t,v=.int i t|.str x,v=>∃t,v=.str x t|.bytes b,v=>∃t,v=.bytes b t|.list l,v=>∃a xs,v=.ref a/\a∉X/\h.PlainList a xs/\ay X h l xs.toList|.tup l,v=>∃a xs,v=.ref a/\a∉X/\h.IsTuple a xs/\ay X h l xs.toList|.dS ks vs,v=>∃a us,v=.ref a/\a∉X/\(a==eo)=av/\h.DictOf (strKind PW w) a (ks.zip us)/\us.length=ks.length/\ay X h vs us|.dI ks vs,v=>∃a us,v=.ref a/\a∉X/\(a==eo)=av/\h.DictOf (oE PW w) a (ks.zip us)/\us.length=ks.length/\ay X h vs us|.aI u,v=>v=u
noncomputable def ay(X:List ah)(h:aA):List T->List aj->Prop|[],[]=>True|t::ts,v::vs=>Rep X h t v/\ay X h ts vs|[],_::_=>False|_::_,[]=>False
end
noncomputable def Kp(h h':aA):Prop:=∀b o,h.get? b=aa o->h'.get? b=aa o
noncomputable def bf(X:List ah)(h h':aA):Prop:=∀b o,b∉X->h.get? b=aa o->h'.get? b=aa o
theorem Kp.bL(k:Kp h h')(X:List ah):bf X h h':=λb o _ e=>k b o e
theorem Kp.trans(x:Kp a b)(y:Kp b c):Kp a c:=λd o e=>y d o (x d o e)
theorem bf.trans(x:bf X a b)(y:bf X b c):bf X a c:=λd o n e=>y d o n (x d o n e)
theorem D4{K:Type}[DecidableEq K]{s:KeyKind PW w K}{h h':aA}{a:ah}{b:List (K×aj)}(x:h.DictOf s a b)(k:∀o,h.get? a=aa o->h'.get? a=aa o):h'.DictOf s a b:=x.at k
theorem Au{K:Type}[DecidableEq K]{s:KeyKind PW w K}{h:aA}{a:ah}{b:List (K×aj)}(x:h.DictOf s a b):∃o,h.get? a=aa o:=x.imp λo q=>q.elim λ_ q=>q.elim λ_ q=>q.1
theorem Rep.map{X Y:List ah}{h h':aA}(k:∀a o,a∉X->h.get? a=aa o->a∉Y/\h'.get? a=aa o)(t:T):∀v,Rep X h t v->Rep Y h' t v:=T.rec (motive_1:=λt=>∀v,Rep X h t v->Rep Y h' t v) (motive_2:=λF=>∀K,ay X h F K->ay Y h' F K) (λ_ r=>r) (λ_ _ r=>r) (λ_ _ r=>r) (λ_ _ r=>r) (λ_ _ r=>r) (λ_ G _ r=>cH r λa W e n p q=>⟨a,W,e,p.elim λ_ x=>(k a _ n x).1,p.at λo x=>(k a o n x).2,G _ q⟩) (λ_ G _ r=>cH r λa W e n p q=>⟨a,W,e,p.elim λ_ x=>(k a _ n x.1).1,p.at λo x=>(k a o n x).2,G _ q⟩) (λ_ _ G _ r=>jP r λa W e n m p z q=>⟨a,W,e,(Au p).elim λ_ x=>(k a _ n x).1,m,p.at λo x=>(k a o n x).2,z,G _ q⟩) (λ_ _ G _ r=>jP r λa W e n m p z q=>⟨a,W,e,(Au p).elim λ_ x=>(k a _ n x).1,m,p.at λo x=>(k a o n x).2,z,G _ q⟩) (λ_ _ r=>r) λK r=>by cases K with|nil=>trivial|cons=>exact r
 (λt F i j K r=>by cases K with|nil=>exact r|cons v K=>exact⟨i v r.1,j K r.2⟩) t
@[elab_as_elim]theorem ay.ind{X:List ah}{h:aA}{P:List T->List aj->Prop}(n:P [] [])(c:∀t v F K,Rep X h t v->ay X h F K->P F K->P (t::F) (v::K)){F:List T}:∀{K:List aj},ay X h F K->P F K:=by induction F with
|nil=>intro K r;cases K with|nil=>exact n|cons=>exact r.elim
|cons t F G=>intro K r;cases K with|nil=>exact r.elim|cons v K=>exact c t v F K r.1 r.2 (G r.2)
theorem ay.map{X Y:List ah}{h h':aA}(k:∀a o,a∉X->h.get? a=aa o->a∉Y/\h'.get? a=aa o){F:List T}{K:List aj}(r:ay X h F K):ay Y h' F K:=ay.ind (P:=λF K=>ay Y h' F K) trivial (λt v _ _ x _ i=>⟨Rep.map k t v x,i⟩) r
theorem Rep.kp(k:bf X h h')(t:T)(v:aj)(r:Rep X h t v):Rep X h' t v:=Rep.map (λa o n e=>⟨n,k a o n e⟩) t v r
theorem ay.kp(k:bf X h h')(F:List T)(K:List aj)(r:ay X h F K):ay X h' F K:=ay.map (λa o n e=>⟨n,k a o n e⟩) r
theorem get?_none_of_le{h:aA}(k:h.objs.size<=a):h.get? a=none:=by cases e:h.get? a with|none=>rfl|some o=>exact absurd (dQ e) (rX.mpr k)
theorem g9{h h':aA}(k:Kp h h')(n:h'.get? a=none):h.get? a=none:=by cases q:h.get? a with|none=>rfl|some z=>rw[k a z q]at n;cases n
noncomputable def bJ(X:List ah)(h:aA):Prop:=∀a∈X,∃o,h.get? a=aa o
theorem bJ.kp(l:bJ X h)(k:Kp h h'):bJ X h':=λa m=>(l a m).imp λo e=>k a o e
theorem bJ.new{h:aA}(l:bJ X h):h.objs.size∉X:=λm=>by refine aC (l _ m) λo e=>?_;exact v8 _ (dQ e)
theorem O3{X Y:List ah}{h:aA}(y:∀a∈Y,h.get? a=ak\/a∈X)(a:ah)(o:bR)(n:a∉X)(e:h.get? a=aa o):a∉Y/\h.get? a=aa o:=⟨λm=>(y a m).elim (λz=>gone e z) n,e⟩
theorem Rep.wide{X Y:List ah}{h:aA}(y:∀a∈Y,h.get? a=ak\/a∈X)(t:T)(v:aj)(r:Rep X h t v):Rep Y h t v:=Rep.map (O3 y) t v r
theorem ay.wide{X Y:List ah}{h:aA}(y:∀a∈Y,h.get? a=ak\/a∈X)(F:List T)(K:List aj)(r:ay X h F K):ay Y h F K:=ay.map (O3 y) r
theorem ay.length{X:List ah}{h:aA}{F:List T}{K:List aj}(r:ay X h F K):K.length=F.length:=ay.ind (P:=λF K=>K.length=F.length) rfl (λ_ _ _ _ _ _ i=>congrArg (·+1) i) r
theorem jY{L:Type}{l:List L}(h:l.length=n+1):∃a r,l=a::r/\r.length=n:=by cases l with|nil=>cases h|cons a r=>exact⟨a,r,rfl,Ao h⟩
theorem O4{L:Type}{l:List L}(h:l.length=1):∃a,l=[a]:=Jo.mp h
theorem O5{L:Type}{l:List L}(h:l.length=2):∃a b,l=[a,b]:=by refine eK (jY h) λa r I C=>?_;subst I;refine aC (O4 C) λb I=>?_;subst I;exact⟨a,b,rfl⟩
theorem zd{L:Type}{l:List L}(h:l.length=3):∃a b c,l=[a,b,c]:=by refine eK (jY h) λa r I C=>?_;subst I;refine lu (O5 C) λb c I=>?_;subst I;exact⟨a,b,c,rfl⟩
theorem xdg{L:Type}{l:List L}(h:l.length=4):∃a b c d,l=[a,b,c,d]:=by refine eK (jY h) λa r I C=>?_;subst I;refine iU (zd C) λb c d I=>?_;subst I;exact⟨a,b,c,d,rfl⟩
theorem oV{L:Type}{l:List L}(h:l.length=5):∃a b c d e,l=[a,b,c,d,e]:=by refine eK (jY h) λa r I C=>?_;subst I;refine eK (jY C) λb q I J=>?_;subst I;refine iU (zd J) λc d e I=>?_;subst I;exact⟨a,b,c,d,e,rfl⟩
section
variable{X:List ah}{h:aA}{t u x:T}{K:List aj}
theorem ay.jy(r:ay X h [t] K):∃a,K=[a]:=O4 r.length
theorem ay.nI(r:ay X h [t,u] K):∃a b,K=[a,b]:=O5 r.length
theorem ay.zo(r:ay X h [t,u,x] K):∃a b c,K=[a,b,c]:=zd r.length
end
theorem ay.at{X:List ah}{h:aA}{F:List T}{K:List aj}(r:ay X h F K):∀{i:Nat}{t:T},F[i]?=aa t->∃v,K[i]?=aa v/\Rep X h t v:=ay.ind (P:=λF K=>∀{i:Nat}{t:T},F[i]?=aa t->∃v,K[i]?=aa v/\Rep X h t v) (λe=>gone e rfl) (λt v F K x _ G=>λ{i u}e=>by cases i with|zero=>exact⟨v,rfl,nU e▸x⟩|succ i=>exact G e) r
theorem ay.append{X:List ah}{h:aA}{F W:List T}{K a:List aj}(r:ay X h F K)(q:ay X h W a):ay X h (F++W) (K++a):=ay.ind (P:=λF K=>ay X h (F++W) (K++a)) q (λ_ _ _ _ x _ i=>⟨x,i⟩) r
structure Ks(s s':aq):Prop where
kp:Kp s.heap s'.heap
eq:s'={s with heap:=s'.heap,toks:=s'.toks}
theorem Ks.refl(s:aq):Ks s s:=⟨λ_ _ e=>e,rfl⟩
theorem Ks.trans(x:Ks a b)(y:Ks b c):Ks a c:=by refine⟨x.kp.trans y.kp,?_⟩;have e:=x.eq;have U:=y.eq;refine O U ?_;exact O e rfl
theorem Ks.tok(s:aq)(t:Nat):Ks s {s with toks:=t}:=⟨λ_ _ e=>e,rfl⟩
theorem Ks.mk'(s:aq)(h:aA)(t:Nat)(k:Kp s.heap h):Ks s {s with heap:=h,toks:=t}:=⟨k,rfl⟩
theorem Ks.push(s:aq)(o:bR):Ks s {s with heap:=s.heap.push o}:=⟨λ_ _ e=>bX _ e,rfl⟩
structure cF(A:aF)(k:Nat):Prop where
hd:A.handled=ak
dep:A.depth+k<660
jJ:A.units+8*k<2000
theorem cF.deep{A:aF}(u:cF A (n+1))(G:aN):cF (A.deeper G) n:=⟨u.hd,HV u.dep,G8 u.jJ⟩
noncomputable def EV(A:aF)(G:aN)(X:List ah)(B:aA)(e:aS)(t:T):Prop:=∀(s:aq)(E:aj->aq->Prop),Kp B s.heap->au (az PW w) A (aT e G) (λv S=>Ks s S/\Rep X S.heap t v) E s
noncomputable def TV(A:aF)(G:aN)(B:aA)(e:aS)(b:Bool):Prop:=∀(s:aq)(E:aj->aq->Prop),Kp B s.heap->au (az PW w) A (xx e G (aT e G)) (λr S=>Ks s S/\r=b) E s
section
variable{A:aF}{G:aN}{X:List ah}{B:aA}
theorem EV.int{i:Int}{k R}:EV A G X B (.Constant (.int i) k R) (.int i):=λs E q=>wpAny_Constant_int ⟨.tok ..,⟨_,rfl⟩⟩
theorem EV.str{x:ai}{k R}:EV A G X B (.Constant (.str x) k R) (.str x):=λs E q=>Constant_str ⟨.tok ..,⟨_,rfl⟩⟩
theorem EV.bool{k R}:EV A G X B (.Constant (.bool b) k R) (.bool b):=λs E q=>λ_ _ _=>⟨.refl _,rfl⟩
theorem EV.none{k R}:EV A G X B (.Constant .none k R) .none:=λs E q=>λ_ _ _=>⟨.refl _,rfl⟩
theorem EV.bytes{b:List UInt8}{k R}:EV A G X B (.Constant (.bytes b) k R) (.bytes b.toArray):=λs E q=>λ_ _ _=>⟨.tok ..,⟨_,rfl⟩⟩
noncomputable def bD(A:aF)(X:List ah)(B:aA)(n:Operator)(t u r:T):Prop:=∀(s:aq)(E:aj->aq->Prop)(a b:aj),Kp B s.heap->Rep X s.heap t a->Rep X s.heap u b->au (az PW w) A (Q5 n a b) (λv S=>Ks s S/\Rep X S.heap r v) E s
noncomputable def aX(A:aF)(X:List ah)(B:aA)(n:CmpOp)(t u:T)(r:Bool):Prop:=∀(s:aq)(E:aj->aq->Prop)(a b:aj),Kp B s.heap->Rep X s.heap t a->Rep X s.heap u b->au (az PW w) A (compareOp n a b) (λv S=>Ks s S/\v=.bool r) E s
theorem EV.bin{l n r R}{t u v:T}(V:EV A G X B l t)(D:EV A G X B r u)(g:bD A X B n t u v):EV A G X B (.BinOp l n r R) v:=λs E q=>wpAny_BinOp (aB (V s E q) (λa U x=>aB (D U E (q.trans x.1.kp)) (λb J y=>aB (g J E a b (q.trans (x.1.trans y.1).kp) (Rep.kp (y.1.kp.bL X) _ _ x.2) y.2) (λc j z=>⟨(x.1.trans y.1).trans z.1,z.2⟩) λ_ _ e=>e) λ_ _ e=>e) λ_ _ e=>e)
theorem EV.cmp{l n r R}{t u:T}{b:Bool}(V:EV A G X B l t)(D:EV A G X B r u)(g:aX A X B n t u b)(Q:Np n r=av:=by with_unfolding_all rfl):EV A G X B (.Compare l [n] [r] R) (.bool b):=λs E q=>wpAny_Compare1 (aB (V s E q) (λa U x=>aB (D U E (q.trans x.1.kp)) (λb J y=>aB (g J E a b (q.trans (x.1.trans y.1).kp) (Rep.kp (y.1.kp.bL X) _ _ x.2) y.2) (λc j z=>⟨(x.1.trans y.1).trans z.1,z.2⟩) λ_ _ e=>e) λ_ _ e=>e) λ_ _ e=>e) Q
end
end
noncomputable def jV{L:Type}(A:Nat->Nat->Bool):KasT L->L|.ret a=>a|.ask i j k=>jV A (k (A i j))
noncomputable abbrev Gm:=ai->Option T
noncomputable def upd(P:Gm)(x:ai)(t:T):Gm:=λy=>if y=x then aa t else P y
theorem pL(P:Gm)(x:ai)(t:T):upd P x t x=aa t:=by simp[upd]
theorem eE(P:Gm)(t:T)(h:y≠x):upd P x t y=P y:=by simp[upd,h]
noncomputable def bq(i P:Gm):Prop:=∀x t,i x=aa t->P x=aa t
theorem bq.refl(P:Gm):bq P P:=λ_ _ e=>e
theorem bq.iM(h:bq i a)(e:a x=aa t):bq (upd i x t) a:=λy u q=>by
 by_cases p:y=x;.subst p;replace q:=pL ..▸q;cases q;exact e
 .replace q:=eE _ _ p▸q;exact h y u q
theorem bq.out(h:bq i a)(e:i x=ak):bq i (upd a x t):=λy u q=>by
 by_cases p:y=x;.subst p;exact gone q e
 .exact O (eE _ _ p) (h y u q)
noncomputable def uY(h:aA)(G:aN)(x:ai)(v:aj):Prop:=∃u,h.Ns G.globals u/\(u x=aa v\/u x=ak/\∃j,h.Ns G.builtins j/\j x=aa v)
theorem uY.at{h h':aA}{G:aN}(g:uY h G x v)(k:∀o,h.get? G.globals=aa o->h'.get? G.globals=aa o)(w:∀o,h.get? G.builtins=aa o->h'.get? G.builtins=aa o):uY h' G x v:=g.imp λu z=>⟨z.1.at' k,z.2.imp id λz=>⟨z.1,z.2.imp λj z=>⟨z.1.at' w,z.2⟩⟩⟩
noncomputable def l6(k:Option pR):Bool:=k==ak||k==aa .globalImplicit
noncomputable def iV(h:aA)(G:aN)(x:ai)(v:aj):Prop:=l6 (G.kindOf x)=af/\uY h G x v\/(G.kindOf x=aa .local/\∃m,h.Ns G.locals m/\m x=aa v)\/(G.kindOf x=aa .cell\/G.kindOf x=aa .free)/\∃c,G.cells.lookup x=aa c/\h.IsCell c (aa v)
theorem iV.map{h h':aA}{G:aN}(g:∀o,h.get? G.globals=aa o->h'.get? G.globals=aa o)(b:∀o,h.get? G.builtins=aa o->h'.get? G.builtins=aa o)(l:∀m,h.Ns G.locals m->m x=aa v->∃m,h'.Ns G.locals m/\m x=aa v)(c:∀c,(x,c)∈G.cells->h.IsCell c (aa v)->h'.IsCell c (aa v))(n:iV h G x v):iV h' G x v:=n.imp (λq=>⟨q.1,q.2.at g b⟩) (Or.imp (λq=>⟨q.1,q.2.elim λm y=>l m y.1 y.2⟩) λq=>⟨q.1,q.2.imp λd y=>⟨y.1,c d (mem_of_lookup y.1) y.2⟩⟩)
def isVar(G:aN)(x:ai):Bool:=!l6 (G.kindOf x)&&(!x==("__classdict__":ai)&&!x==("__debug__":ai))
noncomputable def mS(G:aN)(x:ai):Bool:=G.kindOf x==aa .globalImplicit&&!x==("__debug__":ai)
theorem GF{a b:Bool}(h:(a&&!b)=af):a=af/\b=av:=(dZ _ _).mp h|>.imp id (tQ _).mp
theorem Lh{G:aN}(h:G.kindOf x=aa .local\/G.kindOf x=aa .cell):l6 (G.kindOf x)=av:=h.elim (λh=>O h rfl) λh=>O h rfl
theorem EP{G:aN}(h:isVar G x=af):l6 (G.kindOf x)=av/\(x==("__classdict__":ai))=av/\(x==("__debug__":ai))=av:=have h:=(dZ _ _).mp h
have k:=GF h.2
⟨(tQ _).mp h.1,(tQ _).mp k.1,k.2⟩
structure lQ(X:List ah)(h:aA)(G:aN):Prop where
fn:G.scope.kind=.function
ns:∃m,h.Ns G.locals m
loc:G.locals∈X
eN:G.globals∉X
blt:G.builtins∉X
cell:∀x,G.kindOf x=aa .cell->∃c F,G.cells.lookup x=aa c/\h.IsCell c F
own:∀x c,(x,c)∈G.cells->c∈X
apart:G.cells.Pairwise λx y=>x.2≠y.2
off:∀x c,(x,c)∈G.cells->c≠G.locals
structure CX(X:List ah)(h:aA)(G:aN)(P:Gm):Prop where
ok:lQ X h G
live:bJ X h
eZ:(∃o,h.get? G.globals=aa o)/\∃o,h.get? G.builtins=aa o
val:∀x t,P x=aa t->∃v,Rep X h t v/\iV h G x v
theorem iV.kp(k:Kp h h')(n:iV h G x v):iV h' G x v:=n.map (k _) (k _) (λm a b=>⟨m,a.keeps k,b⟩) λ_ _ b=>b.keeps k
theorem lQ.kp(k:Kp h h')(n:lQ X h G):lQ X h' G:=⟨n.fn,(n.ns).imp λm a=>a.keeps k,n.loc,n.eN,n.blt,λx e=>(n.cell x e).imp λc z=>z.imp λF z=>⟨z.1,z.2.keeps k⟩,n.own,n.apart,n.off⟩
theorem CX.kp(k:Kp h h')(c:CX X h G a):CX X h' G a:=⟨c.ok.kp k,c.live.kp k,⟨c.eZ.1.imp λ_ e=>k _ _ e,c.eZ.2.imp λ_ e=>k _ _ e⟩,λx t e=>(c.val x t e).imp λv z=>⟨Rep.kp (k.bL X) t v z.1,z.2.kp k⟩⟩
theorem CX.less(c:CX X h G a)(k:∀x t,δ x=aa t->a x=aa t):CX X h G δ:=⟨c.ok,c.live,c.eZ,λx t e=>c.val x t (k x t e)⟩
noncomputable def aK(G:aN):List ah:=G.locals::G.cells.map (·.2)
noncomputable def dg(G:aN)(x:ai):ah:=if G.kindOf x=aa .local then G.locals else(G.cells.lookup x).getD 0
theorem D5{env:aN}(h:env.kindOf x=aa .local):dg env x=env.locals:=if_pos h
theorem Jx:aa m5≠aa .local:=nofun
theorem Et{env:aN}(h:env.kindOf x=aa .cell)(e:env.cells.lookup x=aa c):dg env x=c:=by rw[dg,if_neg (h▸Jx),e];rfl
theorem lQ.iX(e:lQ X h G):∀a∈aK G,a∈X:=λa m=>by
 refine bw (bA.mp m) (λb=>?_) λm=>?_;.subst b;exact e.loc
 .refine aG (bE.mp m) λI p N=>?_;subst N;obtain⟨x,c⟩:=I;exact e.own x c p
theorem bf.mono(k:bf X h h')(s:∀a∈X,a∈Y):bf Y h h':=λb o n e=>k b o (λm=>n (s b m)) e
theorem qn(B:ud D h h'):bf [D] h h':=λb o n e=>(B.2 b λq=>n (aW.mpr q)).trans e
structure br(X:List ah)(s s':aq):Prop where
kp:bf X s.heap s'.heap
eq:s'={s with heap:=s'.heap,toks:=s'.toks}
theorem br.of(k:Ks s a):br X s a:=⟨k.kp.bL X,k.eq⟩
theorem br.trans(x:br X a b)(y:br X b c):br X a c:=by refine⟨x.kp.trans y.kp,?_⟩;have e:=x.eq;have U:=y.eq;refine O U ?_;exact O e rfl
theorem br.mono(x:br X a b)(s:∀a∈X,a∈Y):br Y a b:=⟨x.kp.mono s,x.eq⟩
theorem br.refl(X:List ah)(s:aq):br X s s:=.of (.refl s)
section
variable{A:aF}{E:aj->aq->Prop}{G:aN}{X:List ah}{B:aA}{P:Gm}
theorem Dg{s:aq}(N:G.scope.kind=.function)(n:iV s.heap G x v)(h:Q v s)(K:(x==("__classdict__":ai))=av)(V:l6 (G.kindOf x)=av):au (az PW w) A (loadName G x) Q E s:=by
 rcases n with⟨e,_⟩|⟨e,m,a,b⟩|⟨e|e,c,a,b⟩;.exact Y7 (V.symm.trans e)
 .exact wpAny_loadName_local N e a b h
 .exact wpAny_loadName_cell N e a b h
 .exact wpAny_loadName_free N e a b h K
theorem EV.name(c:CX X B G P)(e:autoParam (P x=aa t) yAR)(V:autoParam (isVar G x=af) yAK):EV A G X B (.Name x pos) t:=λs E k=>(c.val x t e).elim λv q=>wpAny_Name (Dg c.ok.fn (q.2.kp k) ⟨.refl s,Rep.kp (k.bL X) t v q.1⟩ (EP V).2.1 (EP V).1) (EP V).2.2
theorem iV.gv(g:l6 (G.kindOf x)=af)(n:iV h G x v):uY h G x v:=by
 refine bw n (λn=>?_) λH=>bw H (λn=>?_) λn=>?_;.exact n.2
 .replace g:=n.1▸g;cases g
 .rcases n.1 with e|e<;>replace g:=e▸g<;>cases g
theorem EV.glob(c:CX X B G P)(e:P x=aa t)(g:autoParam (mS G x=af) yAK):EV A G X B (.Name x pos) t:=λs E k=>by
 have H:=eq_of_beq (GF g).1;refine aG (c.val x t e) λv r n=>?_;refine aG ((n.kp k).gv (by refine O H ?_;rfl)) λu a b=>?_;refine Name_function_global c.ok.fn H ?_ (GF g).2;refine bw b (λb=>?_) λp=>?_;.exact loadGlobal_global a b ⟨.refl s,Rep.kp (k.bL X) t v r⟩
 .obtain⟨b,j,d,f⟩:=p;exact loadGlobal_builtin a b d f ⟨.refl s,Rep.kp (k.bL X) t v r⟩
theorem iV.cellOf{h:aA}(g:G.kindOf x=aa .cell\/G.kindOf x=aa .free)(n:iV h G x v):∃c,G.cells.lookup x=aa c/\h.IsCell c (aa v):=by
 rcases n with n|n|n;.rcases g with e|e<;>replace n:=e▸n<;>cases n.1
 .rcases g with e|e<;>replace e:=n.1▸e<;>cases e
 .exact n.2
theorem Jp{s:aq}(c:CX X s.heap G P)(Y:G.kindOf x=aa .local\/G.kindOf x=aa .cell)(r:Rep X s.heap t v)(h:∀l,br [dg G x] s l->CX X l.heap G (upd P x t)->Q () l):au (az PW w) A (storeName G x v) Q E s:=by
 have f:∀(h':aA)(tk:Nat)(a:ah),dg G x=a->a∈X->ud a s.heap h'->lQ X h' G->iV h' G x v->(∃o,h'.get? a=aa o)->(∀y u,y≠x->(∀m,s.heap.Ns G.locals m->m y=aa u->∃m,h'.Ns G.locals m/\m y=aa u)/\∀c,(y,c)∈G.cells->s.heap.IsCell c (aa u)->h'.IsCell c (aa u))->Q () {s with heap:=h',toks:=tk}:=by
  intro h' tk a N ha sb ok nx ex L;have T:bf [dg G x] s.heap h':=λb o R e=>(sb.2 b λq=>R (by exact O N (O q (aP ..)))).trans e;have U:bf X s.heap h':=T.mono λb m=>aW.mp m▸N.symm▸ha;refine h _ ⟨T,rfl⟩ ⟨ok,λb R=>?_,⟨c.eZ.1.imp λ_ e=>U _ _ c.ok.eN e,c.eZ.2.imp λ_ e=>U _ _ c.ok.blt e⟩,λy u e=>?_⟩
  .by_cases q:b=a;.exact q▸ex
   .exact(c.live b R).imp λo C=>(sb.2 b q).trans C
  .by_cases q:y=x;.subst q;replace e:=pL ..▸e;exact⟨v,nU e▸Rep.kp U t v r,nx⟩
   .replace e:=eE _ _ q▸e;exact(c.val y u e).imp λi z=>⟨Rep.kp U u i z.1,z.2.map (λo=>U _ o c.ok.eN) (λo=>U _ o c.ok.blt) (L y i q).1 (L y i q).2⟩
 refine aC c.ok.ns λm K=>?_;rcases Y with Y|Y
 .refine wpAny_storeName_local Y K (λh' k I=>?_) (by refine O c.ok.fn ?_;rfl);have d:∀y j F,(y,j)∈G.cells->s.heap.IsCell j F->h'.IsCell j F:=λy j F g Z=>Z.sameBut I (c.ok.off y j g);refine f h' _ G.locals (D5 Y) c.ok.loc I ⟨c.ok.fn,⟨_,k⟩,c.ok.loc,c.ok.eN,c.ok.blt,λy e=>(c.ok.cell y e).imp λj z=>z.imp λF z=>⟨z.1,d y j F (mem_of_lookup z.1) z.2⟩,c.ok.own,c.ok.apart,c.ok.off⟩ (.inr (.inl ⟨Y,_,k,if_pos rfl⟩)) (k.elim λo z=>z.elim λ_ z=>z.elim λ_ z=>⟨o,z.1⟩) λy u q=>⟨λH a b=>⟨_,k,?_⟩,λj=>d y j _⟩;have:m=H:=by funext z;refine uo K λo es ep C hd hk hf=>?_;refine uo a λo' es' qo p J hk' D=>?_;replace p:=C▸p;cases p;replace J:=hd▸J;cases J;exact aQ (hf ..) (aQ (D ..) rfl)
  subst this;exact(if_neg q).trans b
 .refine eK (c.ok.cell x Y) λj F a b=>?_;have S:=mem_of_lookup a;refine wpAny_storeName_cell c.ok.fn Y a b λh' M I=>?_;have W:G.locals≠j:=gu (c.ok.off x j S);have d:∀y V n,y≠x->(y,V)∈G.cells->s.heap.IsCell V n->h'.IsCell V n:=λy V n q g Z=>Z.sameBut I λe=>q (name_of_addr c.ok.apart g (e▸S));refine f h' s.toks j (Et Y a) (c.ok.own x j S) I ⟨c.ok.fn,⟨m,K.sameBut I W⟩,c.ok.loc,c.ok.eN,c.ok.blt,λy e=>?_,c.ok.own,c.ok.apart,c.ok.off⟩ (.inr (.inr ⟨.inl Y,j,a,M⟩)) (M.imp λ_ z=>z.1) λy u q=>⟨λH a b=>⟨H,a.sameBut I W,b⟩,λV=>d y V _ q⟩;by_cases q:y=x;.subst q;exact⟨j,_,a,M⟩
  .exact(c.ok.cell y e).imp λV z=>z.imp λn z=>⟨z.1,d y V n q (mem_of_lookup z.1) z.2⟩
theorem z5{s:aq}(c:CX X s.heap G P)(Y:G.kindOf x=aa .local\/G.kindOf x=aa .cell)(r:Rep X s.heap t v)(h:∀a,br [dg G x] s a->CX X a.heap G (upd P x t)->Q () a):au (az PW w) A (kQ G x v) Q E s:=wpAny_bindName (Jp c Y r h)
end
section
variable{A:aF}{G:aN}{X:List ah}{h₀:aA}{d:Gm}
theorem Rep.Eu(r:Rep X h (.bool b) v):v=.bool b:=r
theorem Rep.cL(r:Rep X h (.int i) v):∃t,v=.int i t:=r
theorem Rep.eV(r:Rep X h (.str x) v):∃t,v=.str x t:=r
theorem Rep.d8{h:aA}(r:Rep X h (.list l) v):∃a xs,v=.ref a/\a∉X/\h.PlainList a xs/\ay X h l xs.toList:=r
theorem Rep.jS{h:aA}(r:Rep X h (.tup l) v):∃a xs,v=.ref a/\a∉X/\h.IsTuple a xs/\ay X h l xs.toList:=r
theorem Rep.fO(i:Int)(t:mj):Rep X h (.int i) (.int i t):=⟨t,rfl⟩
theorem Rep.AV(b:Bool):Rep X h (.bool b) (.bool b):=rfl
theorem Rep.ni(x:ai)(t:mj):Rep X h (.str x) (.str x t):=⟨t,rfl⟩
theorem Rep.ie(v:aj):Rep X h (.aI v) v:=rfl
@[elab_as_elim]theorem ints2{h:aA}{i j:Int}{a b:aj}{P:aj->aj->Prop}(Y:Rep X h (.int i) a)(o:Rep X h (.int j) b)(f:∀t u,P (.int i t) (.int j u)):P a b:=Y.elim λt e=>o.elim λu U=>e.symm▸U.symm▸f t u
theorem bD.add{i j:Int}:bD A X h₀ .Add (.int i) (.int j) (.int (i+j)):=λs E a b k Y o=>ints2 Y o λt u=>add_int ⟨.tok ..,.fO _ _⟩
theorem bD.sub{i j:Int}:bD A X h₀ .Sub (.int i) (.int j) (.int (i-j)):=λs E a b k Y o=>ints2 Y o λt u=>sub_int ⟨.tok ..,.fO _ _⟩
theorem bD.mul{i j:Int}(h:IntMulOk i j):bD A X h₀ .Mult (.int i) (.int j) (.int (i*j)):=λs E a b k Y o=>ints2 Y o λt u=>mul_int ⟨.tok ..,.fO _ _⟩ h
theorem bD.fdiv{i j:Int}(h:j≠0)(Q:CP i j=av):bD A X h₀ .FloorDiv (.int i) (.int j) (.int (i.fdiv j)):=λs E a b k Y o=>ints2 Y o λt u=>floordiv_int h ⟨.tok ..,.fO _ _⟩ (.inl Q)
theorem bD.fmod{i j:Int}(h:j≠0):bD A X h₀ .Mod (.int i) (.int j) (.int (i.fmod j)):=λs E a b k Y o=>ints2 Y o λt u=>mod_int' h ⟨.tok ..,.fO _ _⟩
theorem bD.shr{i j:Int}(h:0<=j):bD A X h₀ .RShift (.int i) (.int j) (.int (i.fdiv (2^j.toNat))):=λs E a b k Y o=>ints2 Y o λt u=>rshift_int h ⟨.tok ..,.fO _ _⟩
theorem bD.pow{i j:Int}(h:0<=j)(I:(zS i:Int)*j<=2^27):bD A X h₀ .Pow (.int i) (.int j) (.int (i^j.toNat)):=λs E a b k Y o=>ints2 Y o λt u=>pow_int h I ⟨.tok ..,.fO _ _⟩
theorem aX.lt{i j:Int}:aX A X h₀ .Lt (.int i) (.int j) (decide (i<j)):=λs E a b k Y o=>ints2 Y o λt u=>Ua ⟨.refl _,rfl⟩
theorem aX.gt{i j:Int}:aX A X h₀ .Gt (.int i) (.int j) (decide (j<i)):=λs E a b k Y o=>ints2 Y o λt u=>xhj ⟨.refl _,rfl⟩
theorem aX.ge{i j:Int}:aX A X h₀ .GtE (.int i) (.int j) (decide (j<=i)):=λs E a b k Y o=>ints2 Y o λt u=>xhk ⟨.refl _,rfl⟩
theorem aX.eq{i j:Int}:aX A X h₀ .Eq (.int i) (.int j) (i==j):=λs E a b k Y o=>ints2 Y o λt u=>xhl ⟨.refl _,rfl⟩
theorem aX.ne{i j:Int}:aX A X h₀ .NotEq (.int i) (.int j) (i !=j):=λs E a b k Y o=>ints2 Y o λt u=>xhm ⟨.refl _,rfl⟩
theorem EV.neg{e R}(h:EV A G X h₀ e (.int i)):EV A G X h₀ (.UnaryOp .USub e R) (.int (-i)):=λs E k=>by show au _ _ (do let v<-aT e G;fL R;ic [v] (unaryOp .USub v)) _ _ _;refine ao (aB (h s E k) (λv U x=>?_) λ_ _ e=>e);obtain⟨t,rfl⟩:=x.2.cL;exact ao (cV (dH (xhn ⟨x.1.trans (.tok ..),.fO _ _⟩)))
theorem TV.of{e:aS}(h:EV A G X h₀ e (.bool b))(W:autoParam (xx e G (aT e G)=do let v<-aT e G;fL e.pos;ic [v] (truthy v)) yAR):TV A G h₀ e b:=λs E k=>by refine O W ?_;refine ao (aB (h s E k) (λv U x=>?_) λ_ _ e=>e);obtain rfl:=x.2.Eu;exact ao (cV (dH (yg ⟨x.1,rfl⟩)))
theorem TV.cmp{l n r R}(V:EV A G X h₀ l t)(D:EV A G X h₀ r u)(g:aX A X h₀ n t u b)(Q:Np n r=av:=by with_unfolding_all rfl):TV A G h₀ (.Compare l [n] [r] R) b:=λs E k=>by refine O (xes ..) (O (Xf Q) ?_);refine ao (aB (V s E k) (λa U x=>?_) λ_ _ e=>e);refine ao (dH (aB (D U E (k.trans x.1.kp)) (λb J y=>?_) λ_ _ e=>e));refine ao (cV (ao ?_));refine λm p W=>?_;refine O (DY ..) ?_;refine(aB (g J E a b (k.trans (x.1.trans y.1).kp) (Rep.kp (y.1.kp.bL X) _ _ x.2) y.2) (λc j z=>?_) λ_ _ e=>e) m p W;obtain⟨z,rfl⟩:=z;exact dH (yg ⟨(x.1.trans y.1).trans z,rfl⟩)
theorem TV.not{e R}(h:TV A G h₀ e b):TV A G h₀ (.UnaryOp .Not e R) !b:=λs E k=>by show au _ _ (do return !(<-xx e G (aT e G))) _ _ _;exact ao (Gi (h s E k) λr U x e=>aM ⟨x,congrArg _ e⟩)
noncomputable def AT(A:aF)(G:aN)(h₀:aA)(n:BoolOp)(D:List aS)(b:Bool):Prop:=∀(s:aq)(E:aj->aq->Prop),Kp h₀ s.heap->au (az PW w) A (SN n D G) (λr S=>Ks s S/\r=b) E s
theorem AT.yS:AT A G h₀ .And [] af:=λs E k=>aM ⟨.refl s,rfl⟩
theorem AT.Bt:AT A G h₀ .Or [] av:=λs E k=>aM ⟨.refl s,rfl⟩
theorem AT.and{e D}(h:TV A G h₀ e b)(r:b=true->AT A G h₀ .And D c):AT A G h₀ .And (e::D) (b&&c):=λs E k=>by show au _ _ (xx e G (aT e G)>>=λx=>match BoolOp.And,x with|.And,false=>pure false|.Or,true=>pure true|_,_=>SN .And D G) _ _ _;refine ao (aB (h s E k) (λf U x=>?_) λ_ _ e=>e);obtain⟨x,rfl⟩:=x;cases f with|false=>exact aM ⟨x,rfl⟩|true=>exact aB (r rfl U E (k.trans x.kp)) (λq J y=>⟨x.trans y.1,y.2⟩) λ_ _ e=>e
theorem AT.or{e D}(h:TV A G h₀ e b)(r:b=false->AT A G h₀ .Or D c):AT A G h₀ .Or (e::D) (b||c):=λs E k=>by show au _ _ (xx e G (aT e G)>>=λx=>match BoolOp.Or,x with|.And,false=>pure false|.Or,true=>pure true|_,_=>SN .Or D G) _ _ _;refine ao (aB (h s E k) (λf U x=>?_) λ_ _ e=>e);obtain⟨x,rfl⟩:=x;cases f with|true=>exact aM ⟨x,rfl⟩|false=>exact aB (r rfl U E (k.trans x.kp)) (λq J y=>⟨x.trans y.1,y.2⟩) λ_ _ e=>e
theorem TV.rD{n D R}(h:AT A G h₀ n D b):TV A G h₀ (.BoolOp n D R) b:=h
theorem EV.ite{a x y R}(h:TV A G h₀ a b)(Y:b=true->EV A G X h₀ x t)(w:b=false->EV A G X h₀ y t):EV A G X h₀ (.IfExp a x y R) t:=λs E k=>by show au _ _ (xx a G (aT a G)>>=λc=>if c then aT x G else aT y G) _ _ _;refine ao (aB (h s E k) (λr U z=>?_) λ_ _ e=>e);obtain⟨z,rfl⟩:=z;cases r with|true=>exact aB (Y rfl U E (k.trans z.kp)) (λq J y=>⟨z.trans y.1,y.2⟩) λ_ _ e=>e|false=>exact aB (w rfl U E (k.trans z.kp)) (λq J y=>⟨z.trans y.1,y.2⟩) λ_ _ e=>e
theorem EV.uZ{x y R}{b c:Bool}(Y:EV A G X h₀ x (.bool b))(w:b=true->EV A G X h₀ y (.bool c)):EV A G X h₀ (.BoolOp .And [x,y] R) (.bool (b&&c)):=λs E k=>by refine ao (aB (Y s E k) (λv U z=>?_) λ_ _ e=>e);obtain rfl:=z.2.Eu;refine ao (cV (ao (dH (yg ?_))));cases b with|false=>exact aM ⟨z.1,.AV _⟩|true=>exact aB (w rfl U E (k.trans z.1.kp)) (λq J y=>⟨z.1.trans y.1,y.2⟩) λ_ _ e=>e
noncomputable def EL(A:aF)(G:aN)(X:List ah)(h₀:aA)(R:aR)(D:List aS)(F:List T):Prop:=∀(s:aq)(E:aj->aq->Prop),Kp h₀ s.heap->au (az PW w) A (fN (cM R (bh D G))) (λK S=>Ks s S/\ay X S.heap F K) E s
theorem EL.nil{pos}:EL A G X h₀ pos [] []:=λs E k=>rV ⟨.refl s,trivial⟩
theorem EL.cons{R e D t ts}(h:EV A G X h₀ e t)(r:EL A G X h₀ R D ts)(W:autoParam (bh (e::D) G=(av,aT e G)::bh D G) yAR):EL A G X h₀ R (e::D) (t::ts):=λs E k=>by refine O W ?_;show au _ _ (fN ((av,aT e G)::cM R (bh D G))) _ _ _;refine n8 (aB (h s E k) (λv U x=>?_) λ_ _ e=>e);exact aB (r U E (k.trans x.1.kp)) (λK J y=>⟨x.1.trans y.1,⟨Rep.kp (y.1.kp.bL X) _ _ x.2,y.2⟩⟩) λ_ _ e=>e
theorem Vp{s:aq}{F:List T}(l:bJ X s.heap)(r:ay X s.heap F a)(n:F.length<=100000):au (az PW w) A (uH a) (λv S=>Ks s S/\Rep X S.heap (.list F) v) E s:=by refine uc ⟨.push ..,?_⟩ (O dJ (iW n r.length));exact⟨_,_,rfl,l.new,⟨0,cE _ rfl⟩,ay.kp (λb o _ e=>bX _ e) _ _ r⟩
theorem Ag{s:aq}{F:List T}(l:bJ X s.heap)(r:ay X s.heap F a)(n:F.length<=100000):au (az PW w) A (w7 a) (λv S=>Ks s S/\Rep X S.heap (.tup F) v) E s:=by refine Aq ⟨.push ..,?_⟩ (O dJ (iW n r.length));exact⟨_,_,rfl,l.new,⟨_,cE _ rfl,rfl,0,rfl⟩,ay.kp (λb o _ e=>bX _ e) _ _ r⟩
theorem EV.list{D R ts}(l:bJ X h₀)(h:EL A G X h₀ R D ts)(n:ts.length<=100000:=by first|decide|simp):EV A G X h₀ (.List D R) (.list ts):=λs E k=>by show au _ _ (do fL R;uH (<-fN (cM R (bh D G)))) _ _ _;refine ao (cV (ao (aB (h s E k) (λK U x=>?_) λ_ _ e=>e)));exact aB (Vp ((l.kp k).kp x.1.kp) x.2 n) (λv J y=>⟨x.1.trans y.1,y.2⟩) λ_ _ e=>e
theorem EV.tup{D c R F}(l:bJ X h₀)(h:EL A G X h₀ R D F)(n:F.length<=100000:=by first|decide|simp):EV A G X h₀ (.Tuple D c R) (.tup F):=λs E k=>by show au _ _ (do fL R;w7 (<-fN (cM R (bh D G)))) _ _ _;refine ao (cV (ao (aB (h s E k) (λK U x=>?_) λ_ _ e=>e)));exact aB (Ag ((l.kp k).kp x.1.kp) x.2 n) (λv J y=>⟨x.1.trans y.1,y.2⟩) λ_ _ e=>e
end
section
variable{A:aF}{G:aN}{X:List ah}{B:aA}{P:Gm}
noncomputable def cS(A:aF)(X:List ah)(B:aA)(f h:aS)(t u r:T):Prop:=∀(s:aq)(E:aj->aq->Prop)(a b:aj),Kp B s.heap->Rep X s.heap t a->Rep X s.heap u b->au (az PW w) A (subscriptTail f h a b) (λv S=>Ks s S/\Rep X S.heap r v) E s
theorem EV.sub{f h R}{t u r:T}(K:EV A G X B f t)(W:EV A G X B h u)(g:cS A X B f h t u r):EV A G X B (.Subscript f h R) r:=λs E q=>Subscript_ (aB (K s E q) (λa U x=>aB (W U E (q.trans x.1.kp)) (λb J y=>aB (g J E a b (q.trans (x.1.trans y.1).kp) (Rep.kp (y.1.kp.bL X) _ _ x.2) y.2) (λc j z=>⟨(x.1.trans y.1).trans z.1,z.2⟩) λ_ _ e=>e) λ_ _ e=>e) λ_ _ e=>e)
noncomputable abbrev jT(h:aS):Prop:=∀o i,subscripted h av o i=operate [o,i] (getItem o i)
theorem cS.list{f h}{k:Int}(D:0<=k)(C:k<2^63)(e:l[k.toNat]?=aa t)(hs:autoParam (jT h) yAW):cS A X B f h (.list l) (.int k) t:=λs E a b q Y o=>by refine cH Y.d8 λL xs I n p r=>?_;subst I;refine aC o.cL λu I=>?_;subst I;refine aG (r.at e) λv d c=>?_;exact G4 p.isList.typeIs Ky.lookup (Kq p.isList D C (by exact aQ gM d) ⟨.refl s,c⟩) (hs _ _)
theorem cS.ZE{f h}{l:List T}(D:k<0)(C:-(l.length:Int)<=k)(d:l.length<100000)(e:l[(k+l.length).toNat]?=aa t)(hs:autoParam (jT h) yAW):cS A X B f h (.list l) (.int k) t:=λs E a b q Y o=>by refine cH Y.d8 λL xs I n p r=>?_;subst I;refine aC o.cL λu I=>?_;subst I;refine aG (r.at e) λv g c=>?_;have V:=r.length;rw[dm]at V;exact G4 p.isList.typeIs Ky.lookup (wpAny_getItem_list_neg p.isList D (by exact O V C) (gG (xcB (PU (eB d))) C) (by exact O V (aQ gM g)) ⟨.refl s,c⟩) (hs _ _)
theorem cS.tup{f h}{k:Int}(D:0<=k)(C:k<2^63)(e:l[k.toNat]?=aa t)(x:autoParam (jT h) yAW):cS A X B f h (.tup l) (.int k) t:=λs E a b q Y w=>by
 refine cH Y.jS λL xs I n p r=>?_;subst I;refine aC w.cL λu I=>?_;subst I;refine aG (r.at e) λv i j=>?_;have d:IsTup s.heap L xs.toList.toArray:=by obtain⟨o,a,b,m,c⟩:=p;exact⟨o,a,b,m,by simpa using c⟩
 have W:k.toNat<xs.toList.length:=by
  refine bw (yt k.toNat xs.toList.length) (λg=>?_) λg=>?_;.exact g
  .exact gone i (pH g)
 refine item_tupleT d (fW D) C (j:=k.toNat) ?_ i ⟨.refl s,j⟩ (x _ _);unfold QS;have:¬k<0:=fD.mpr D;simp only[this,if_false];exact O (if_pos (by simp only[dZ,decide_eq_true_eq];exact Rh D W)) rfl
theorem Rep.cR(r:Rep X h (.aI u) v):v=u:=r
noncomputable def CA(A:aF)(X:List ah)(B:aA)(f:aj)(F:List T)(r:T):Prop:=∀(s:aq)(E:aj->aq->Prop)(K:List aj),Kp B s.heap->ay X s.heap F K->au (az PW w) A (dO f K []) (λv S=>Ks s S/\Rep X S.heap r v) E s
theorem mz{i:List (Bool×bg aj)}(N:za f=pure .machine)(p:i.any (·.1)=av)(h:au M A (evalArgs f af i []) (λa U=>au M A (dO f (b++a.pos) a.kw) Q E U) E s):au M A (mP c f b i []) Q E s:=by unfold mP;refine ao (dH (aB h (λa U Z=>ao (cV ?_)) λ_ _ x=>x));simp only[p,List.any_nil,xcC];refine O N ?_;refine ao (aM ?_);exact ao (aB Z (λr J D=>ao (dH (wpAny_point (aM D)))) λ_ _ x=>x)
theorem EV.cP(l:EV A G X B (.Name x b) (.aI f))(K:za f=pure .machine)(V:EL A G X B a (e::D) d)(g:CA A X B f d r)(hs:autoParam (bh (e::D) G=(av,aT e G)::bh D G) yAR)(p:autoParam ((cM a (bh D G)).any (·.1)=av) yAR):EV A G X B (.Call (.Name x b) (e::D) [] a) r:=λs E k=>by show au _ _ (do mP a (<-aT (.Name x b) G) [] (cM a (bh (e::D) G)) (oA a (n9 [] G))) _ _ _;refine ao (aB (l s E k) (λv U x=>?_) λ_ _ e=>e);obtain rfl:=x.2.cR;have M:=V U E (k.trans x.1.kp);rw[hs]at M⊢;refine mz K (by show(av||(cM a (bh D G)).any (·.1))=av;refine O p ?_;rfl) (mZ (aB M (λh J y=>?_) λ_ _ e=>e));exact aB (g J E h (k.trans (x.1.trans y.1).kp) y.2) (λc j z=>⟨(x.1.trans y.1).trans z.1,z.2⟩) λ_ _ e=>e
theorem EV.uJ{x:ai}{b R:aR}{e:aS}{D:List aS}{a:ah}{o:bR}{fd:eU}{F:List T}{r:T}(l:EV A G X B (.Name x b) (.aI (.ref a)))(g:B.get? a=aa o)(d:o.data=.func fd)(V:EL A G X B R (e::D) F)(Z:CA A X B (.ref a) F r)(W:autoParam (bh (e::D) G=(av,aT e G)::bh D G) yAR):EV A G X B (.Call (.Name x b) (e::D) [] R) r:=λs E k=>by show au _ _ (do mP R (<-aT (.Name x b) G) [] (cM R (bh (e::D) G)) (oA R (n9 [] G))) _ _ _;refine ao (aB (l s E k) (λv U x=>?_) λ_ _ e=>e);obtain rfl:=x.2.cR;have M:=V U E (k.trans x.1.kp);rw[W]at M⊢;refine DF (o:=o) (fd:=fd) (mZ (aB M (λK J y=>?_) λ_ _ e=>e));refine⟨⟨k.trans (x.1.trans y.1).kp _ _ g,d⟩,?_⟩;exact aB (Z J E K (k.trans (x.1.trans y.1).kp) y.2) (λc j z=>⟨(x.1.trans y.1).trans z.1,z.2⟩) λ_ _ e=>e
end
theorem Rep.less(y:∀a∈Y,a∈X)(t:T)(v:aj)(r:Rep X h t v):Rep Y h t v:=Rep.map (λa _ n e=>⟨λm=>n (y a m),e⟩) t v r
theorem ay.less(y:∀a∈Y,a∈X)(F:List T)(K:List aj)(r:ay X h F K):ay Y h F K:=ay.map (λa _ n e=>⟨λm=>n (y a m),e⟩) r
noncomputable def fz(X:List ah)(D:ah)(h:aA):T->Prop|.list l=>∃xs,h.PlainList D xs/\ay X h l xs.toList|.dS y a=>(D==eo)=av/\∃W,h.DictOf (strKind PW w) D (y.zip W)/\W.length=y.length/\ay X h a W|.dI y a=>(D==eo)=av/\∃W,h.DictOf (oE PW w) D (y.zip W)/\W.length=y.length/\ay X h a W|_=>False
theorem fz.map{h h':aA}(k:∀a o,a∉X->h.get? a=aa o->a∉Y/\h'.get? a=aa o)(T:∀o,h.get? D=aa o->h'.get? D=aa o)(x:fz X D h t):fz Y D h' t:=by cases t with|list l=>exact x.imp λxs q=>⟨q.1.at T,ay.map k q.2⟩|dS y K=>exact⟨x.1,x.2.imp λW q=>⟨q.1.at T,q.2.1,ay.map k q.2.2⟩⟩|dI y K=>exact⟨x.1,x.2.imp λW q=>⟨q.1.at T,q.2.1,ay.map k q.2.2⟩⟩|_=>exact x
theorem fz.kp{h h':aA}(k:bf X h h')(T:∀o,h.get? D=aa o->h'.get? D=aa o)(x:fz X D h t):fz X D h' t:=x.map (λa o n e=>⟨n,k a o n e⟩) T
theorem fz.less(y:∀a∈Y,a∈X)(x:fz X D h t):fz Y D h t:=x.map (λa o n e=>⟨λm=>n (y a m),e⟩) λ_ e=>e
theorem fz.rep(n:D∉X)(x:fz X D h t):Rep X h t (.ref D):=by cases t with|list l=>exact x.elim λxs q=>⟨D,xs,rfl,n,q⟩|dS y K=>exact x.2.elim λW q=>⟨D,W,rfl,n,x.1,q⟩|dI y K=>exact x.2.elim λW q=>⟨D,W,rfl,n,x.1,q⟩|_=>exact x.elim
theorem fz.up{h:aA}(x:fz X D h t):∃o,h.get? D=aa o:=by cases t with|list l=>exact x.elim λxs q=>q.1.elim λ_ e=>⟨_,e⟩|dS y K=>exact x.2.elim λW q=>Au q.1|dI y K=>exact x.2.elim λW q=>Au q.1|_=>exact x.elim
section
variable{X Y:List ah}{h h':aA}{G:aN}{P:Gm}
theorem MH(k:bf Y h h')(g:∀a∈aK G,a∉Y)(o:bR):h.get? G.locals=aa o->h'.get? G.locals=aa o:=k _ o (g _ (aP ..))
theorem Li(k:bf Y h h')(g:∀a∈aK G,a∉Y)(m:(x,c)∈G.cells)(o:bR):h.get? c=aa o->h'.get? c=aa o:=k c o (g _ (aY _ (bE.mpr ⟨(x,c),m,rfl⟩)))
theorem iV.dK(k:bf Y h h')(H:lQ X h G)(g:∀a∈aK G,a∉Y)(w:∀a∈Y,a∈X)(n:iV h G x v):iV h' G x v:=n.map (λo=>k _ o λm=>H.eN (w _ m)) (λo=>k _ o λm=>H.blt (w _ m)) (λm a b=>⟨m,a.at' (MH k g),b⟩) λ_ m y=>y.imp λo z=>⟨Li k g m o z.1,z.2⟩
theorem lQ.dK(k:bf Y h h')(H:lQ X h G)(g:∀a∈aK G,a∉Y):lQ X h' G:=⟨H.fn,(H.ns).imp λm a=>a.at' (MH k g),H.loc,H.eN,H.blt,λx e=>(H.cell x e).imp λc z=>z.imp λF z=>⟨z.1,z.2.imp λo y=>⟨Li k g (mem_of_lookup z.1) o y.1,y.2⟩⟩,H.own,H.apart,H.off⟩
theorem CX.shift(k:bf Y h h')(c:CX X h G P)(g:∀a∈aK G,a∉Y)(w:∀a∈Y,a∈X)(Z:∀a∈U,a∈X)(b:∀a∈aK G,a∈U)(l:bJ U h'):CX U h' G P:=have q:=c.ok.dK k g
⟨⟨q.fn,q.ns,b _ (aP ..),λm=>c.ok.eN (Z _ m),λm=>c.ok.blt (Z _ m),q.cell,λx j m=>b _ (aY _ (bE.mpr ⟨(x,j),m,rfl⟩)),q.apart,q.off⟩,l,⟨c.eZ.1.imp λ_ e=>k _ _ (λm=>c.ok.eN (w _ m)) e,c.eZ.2.imp λ_ e=>k _ _ (λm=>c.ok.blt (w _ m)) e⟩,λx t e=>(c.val x t e).imp λv n=>⟨Rep.less Z _ _ (Rep.kp (k.mono w) t v n.1),n.2.dK k c.ok g w⟩⟩
theorem CX.dK(k:bf Y h h')(c:CX X h G P)(g:∀a∈aK G,a∉Y)(w:∀a∈Y,a∈X)(l:bJ X h'):CX X h' G P:=c.shift k g w (λ_ m=>m) c.ok.iX l
theorem bJ.dK(l:bJ X h)(k:bf Y h h')(u:∀a∈Y,∃o,h'.get? a=aa o):bJ X h':=λa m=>by
 by_cases q:a∈Y;.exact u a q
 .refine aC (l a m) λo e=>?_;exact⟨o,k a o q e⟩
theorem CX.widen(c:CX X h G P)(k:Kp h h')(K:∀a∈Y,h.get? a=ak)(i:∀a∈Y,∃o,h'.get? a=aa o):CX (Y++X) h' G P:=by
 have H:=c.eZ.1;have R:=c.eZ.2;have s:∀a o,h.get? a=aa o->a∉Y:=λa o e m=>by exact gone e (K a m)
 have d:∀{a},a∈X->a∈Y++X:=λm=>cJ _ m;refine⟨⟨c.ok.fn,(c.ok.ns).imp λm a=>a.keeps k,d c.ok.loc,λm=>?_,λm=>?_,λx e=>let⟨j,F,a,b⟩:=c.ok.cell x e;⟨j,F,a,b.keeps k⟩,λx j m=>d (c.ok.own x j m),c.ok.apart,c.ok.off⟩,λa m=>?_,⟨H.imp λ_ e=>k _ _ e,R.imp λ_ e=>k _ _ e⟩,λx t e=>?_⟩
 .refine bw (bC.mp m) (λm=>?_) λm=>?_;.refine aC H λo e=>?_;exact s _ o e m
  .exact c.ok.eN m
 .refine bw (bC.mp m) (λm=>?_) λm=>?_;.refine aC R λo e=>?_;exact s _ o e m
  .exact c.ok.blt m
 .refine bw (bC.mp m) (λm=>?_) λm=>?_;.exact i a m
  .exact(c.live.kp k) a m
 .refine aG (c.val x t e) λv r n=>?_;exact⟨v,Rep.kp (k.bL _) t v (Rep.wide (λa m=>(bC.mp m).elim (λm=>.inl (K a m)) .inr) t v r),n.kp k⟩
theorem CX.narrow(c:CX X h G P)(w:∀a∈Y,a∈X)(g:∀a∈aK G,a∈Y)(l:bJ Y h):CX Y h G P:=c.shift (Y:=[]) (λ_ _ _ e=>e) (λ_ _=>b9) (λ_ m=>absurd m b9) w g l
end
structure gz(A:aF)(I:ah)(S z:List ah)(X:List ah)(Z:aS)(Q:List T)(p:Nat->aA->Prop):Prop where
sub:∀b∈z,b∈S
frame:∀i h h',p i h->(∀b∈S,∀o,h.get? b=aa o->h'.get? b=aa o)->bf X h h'->p i h'
up:∀i h,p i h->∀b∈z,∃o,h.get? b=aa o
item:∀i t(s:aq)(E:aj->aq->Prop),Q[i]?=aa t->p i s.heap->bJ X s.heap->au (az PW w) A (zx (.ref I)) (λr U=>∃v,r=aa v/\au (az PW w) A (tZ Z (.ref I) v) (λ_ J=>br z s J/\p (i+1) J.heap/\Rep X J.heap t v) E U) E s
done:∀(s:aq)(E:aj->aq->Prop),p Q.length s.heap->au (az PW w) A (zx (.ref I)) (λr U=>r=ak/\br z s U) E s
self:∀i(s:aq)(E:aj->aq->Prop),p i s.heap->au (az PW w) A (sM (.ref I)) (λv U=>v=.ref I/\U=s) E s
structure jG(A:aF)(X:List ah)(B h:aA)(I:ah)(S z:List ah)(Z:aS)(Q:List T):Prop where
up:∀b∈S,∃o,h.get? b=aa o
off:∀b∈S,b∉X
new:∀b∈z,B.get? b=ak
sub:∀b∈z,b∈S
st:∀Y,(∀a∈Y,h.get? a=ak\/a∈X\/a∈z)->(∀a∈z,a∈Y)->∃p,gz A I S z Y Z Q p/\p 0 h
noncomputable def IT(A:aF)(G:aN)(X:List ah)(B:aA)(u Z:aS)(Q:List T):Prop:=∀(s:aq)(E:aj->aq->Prop),Kp B s.heap->au (az PW w) A (aT u G) (λx U=>au (az PW w) A (sM x) (λv J=>Ks s J/\∃I S z,v=.ref I/\jG A X s.heap J.heap I S z Z Q) E U) E s
noncomputable def AS(A:aF)(G:aN)(V:List ah)(Z:aS)(t:T)(P r:Gm):Prop:=∀(X:List ah)(s:aq)(E:aj->aq->Prop)(v:aj),(∀a∈V,a∈X)->CX X s.heap G P->Rep X s.heap t v->au (az PW w) A (fV Z G v) (λ_ S=>br V s S/\CX X S.heap G r) E s
section
variable{A:aF}{G:aN}{V:List ah}{P d:Gm}
theorem AS.name(Y:G.kindOf x=aa .local\/G.kindOf x=aa .cell)(K:dg G x∈V):AS A G V (.Name x pos) t P (upd P x t):=λX s E v i c r=>by show au _ _ (do fL pos;kQ G x v) _ _ _;exact ao (cV (z5 c Y r λS k M=>⟨k.mono (one K),M⟩))
def bQ(P:Gm):List ai->List T->Gm|x::xs,t::a=>bQ (upd P x t) xs a|_,_=>P
theorem Jh(i:∀a∈V,a∈X){l:List (ai×(aj->bg Unit))}:∀{F:List T}{K:List aj}{s:aq}{P:Gm},l.length=F.length->(∀p∈l,((G.kindOf p.1=aa .local\/G.kindOf p.1=aa .cell)/\dg G p.1∈V)/\∀v s(Q:Unit->aq->Prop),au (az PW w) A (kQ G p.1 v) Q E s->au (az PW w) A (p.2 v) Q E s)->CX X s.heap G P->ay X s.heap F K->au (az PW w) A (yq (l.map (·.2)) K) (λ_ S=>br V s S/\CX X S.heap G (bQ P (l.map (·.1)) F)) E s:=by induction l with
|nil=>intro F K s P e _ c r;cases F with|cons=>cases e|nil=>cases K with|cons=>exact r.elim|nil=>exact aM ⟨.refl _ s,c⟩
|cons p l f=>intro F K s P e N c r;cases F with|nil=>cases e|cons t F=>cases K with|nil=>exact r.elim|cons v K=>have h:=N p (aP ..);refine ao (dH (h.2 v s _ (z5 c h.1.1 r.1 λU k b=>?_)));have k:br V s U:=k.mono λa m=>aW.mp m▸h.1.2;exact aB (f (Ao e) (λy m=>N y (aY _ m)) b (ay.kp (k.kp.mono i) _ _ r.2)) (λ_ J q=>⟨k.trans q.1,q.2⟩) λ_ _ e=>e
theorem I6(i:∀a∈V,a∈X){xs:List ai}{ps:List aR}{F:List T}{s:aq}(e:xs.length=F.length)(U:ps.length=xs.length)(N:∀x∈xs,(G.kindOf x=aa .local\/G.kindOf x=aa .cell)/\dg G x∈V)(c:CX X s.heap G P)(r:ay X s.heap F b):au (az PW w) A (yq ((xs.zip ps).map λy=>fV (.Name y.1 y.2) G) b) (λ_ S=>br V s S/\CX X S.heap G (bQ P xs F)) E s:=by have h:=Jh (A:=A) (E:=E) (l:=(xs.zip ps).map λy=>(y.1,fV (.Name y.1 y.2) G)) i (by exact O (aH ..) (O gP (O U (O (nZ ..) (O e rfl))))) (λp m=>by refine aG (bE.mp m) λy Z I=>?_;subst I;exact⟨N _ (Ab Z).1,λv s Q h=>ao (cV h)⟩) c r;rw[bO,bO,show(xs.zip ps).map (Ge∘λy=>(y.1,fV (.Name y.1 y.2) G))=xs from J9 (dh U.symm)]at h;exact h
theorem AS.tup(h:A.handled=ak){xs:List ai}{ps:List aR}{F:List T}(Y:∀x∈xs,(G.kindOf x=aa .local\/G.kindOf x=aa .cell)/\dg G x∈V)(e:xs.length=F.length)(U:ps.length=xs.length)(g:pK D G=(xs.zip ps).map λy=>(av,fV (.Name y.1 y.2) G)):AS A G V (.Tuple D k f) (.tup F) P (bQ P xs F):=λX s E v i c r=>by
 obtain⟨L,K,rfl,n,p,r⟩:=r.jS;have a:=r.length;rw[dm]at a;refine xcD h p ?_ ?_ λh' m=>?_;.exact O g (O (aH ..) (O gP (O U (O (nZ ..) (O a (O e rfl))))))
 .refine O g ?_;have:∀l:List (ai×aR),(l.map λy:ai×aR=>(av,fV (.Name y.1 y.2) G)).findIdx? (·.1)=ak:=λl=>by refine Uu.mpr ?_;intro z I;obtain⟨y,_,rfl⟩:=bE.mp I;rfl
  exact this _
 .have k:Kp s.heap h':=λb o e=>m b o (bS (dQ e)) e;refine O g (O bO ?_);refine aB (I6 (s:={s with heap:=h'}) i e U Y (c.kp k) (ay.kp (k.bL X) _ _ r)) (λ_ J q=>⟨(br.of (⟨k,rfl⟩:Ks s {s with heap:=h'})).trans q.1,q.2⟩) λ_ _ e=>e
end
noncomputable def ER(q:List aS)(G:aN):bg Bool:=forIn q af λc r=>if r=af then do let H<-xx c G (aT c G);pure (V2 H)else pure (V2 r)
def oH(Z u:aS)(q:List aS)(a:aj)(G:aN)(f:bg Fin->bg Fin)(c:Code):bg Fin:=do fL u.pos;match<-zx a with|none=>pure (.done .next)|aa v=>tZ Z a v;fV Z G v;let H<-ER q G;if H then f (again c)else again c
noncomputable def pZ(l:aS)(D:ah)(G:aN)(k:bg Fin):bg Fin:=do(do let _<-dO (.builtin "list.append") [.ref D,<-aT l G])k
noncomputable def ze(U n:aS)(D:ah)(G:aN)(k:bg Fin):bg Fin:=do(do let i<-aT U G;let v<-ic [i] (aT n G)fL {U.pos with endLine:=n.pos.endLine,endCol:=n.pos.endCol}ic [i,v] (dictSet D i v))k
noncomputable def Bu(e:aS)(d:Nat)(u:aS)(D:ah)(G:aN)(k:bg Fin):bg Fin:=do let x<-aT u G;fL u.pos;let x<-g7 u G x;let _<-runOwn (.compStart e d (<-ic [x] (sM x)) (.ref D) G) G;k
theorem D6{l Z u q p R a D G}:oB (.ListComp l [⟨Z,u,q,0⟩] p R) 0 a (.ref D) G=oH Z u q a G (pZ l D G) (.compLoop (.ListComp l [⟨Z,u,q,0⟩] p R) 0 a (.ref D) G):=by rfl
theorem KI{l Z u q b n d r p R a D G}:oB (.ListComp l (⟨Z,u,q,0⟩::⟨b,n,d,0⟩::r) p R) 0 a (.ref D) G=oH Z u q a G (Bu (.ListComp l (⟨Z,u,q,0⟩::⟨b,n,d,0⟩::r) p R) 1 n D G) (.compLoop (.ListComp l (⟨Z,u,q,0⟩::⟨b,n,d,0⟩::r) p R) 0 a (.ref D) G):=by rfl
theorem UI{l g b n d p R a D G}:oB (.ListComp l [g,⟨b,n,d,0⟩] p R) 1 a (.ref D) G=oH b n d a G (pZ l D G) (.compLoop (.ListComp l [g,⟨b,n,d,0⟩] p R) 1 a (.ref D) G):=by rfl
theorem UJ{l g Z u q b n d p R a D G}:oB (.ListComp l [g,⟨Z,u,q,0⟩,⟨b,n,d,0⟩] p R) 1 a (.ref D) G=oH Z u q a G (Bu (.ListComp l [g,⟨Z,u,q,0⟩,⟨b,n,d,0⟩] p R) 2 n D G) (.compLoop (.ListComp l [g,⟨Z,u,q,0⟩,⟨b,n,d,0⟩] p R) 1 a (.ref D) G):=by rfl
theorem UK{l g s b n d p R a D G}:oB (.ListComp l [g,s,⟨b,n,d,0⟩] p R) 2 a (.ref D) G=oH b n d a G (pZ l D G) (.compLoop (.ListComp l [g,s,⟨b,n,d,0⟩] p R) 2 a (.ref D) G):=by rfl
theorem Wf{U n Z u q p R a D G}:oB (.DictComp U n [⟨Z,u,q,0⟩] p R) 0 a (.ref D) G=oH Z u q a G (ze U n D G) (.compLoop (.DictComp U n [⟨Z,u,q,0⟩] p R) 0 a (.ref D) G):=by rfl
noncomputable def TS(A:aF)(G:aN)(B:aA)(q:List aS)(b:Bool):Prop:=∀(s:aq)(E:aj->aq->Prop),Kp B s.heap->au (az PW w) A (ER q G) (λr S=>Ks s S/\r=b) E s
theorem TS.nil{A:aF}{G:aN}{B:aA}:TS A G B [] af:=λs E k=>aM ⟨.refl s,rfl⟩
theorem TS.one{A:aF}{G:aN}{B:aA}{c:aS}{b:Bool}(t:TV A G B c b):TS A G B [c] b:=λs E k=>by unfold ER;simp only[tW,K6,if_true];exact ao (ao (aB (t s E k) (λb S R=>aM (aM R)) λ_ _ x=>x))
noncomputable def CE(A:aF)(e:aS):Prop:=∀d a i G,(xcE e d a i G).isFrame=av/\(DQ e d a i G).isFrame=av/\A.under (.compLoop e d a i G)=A/\A.under (.compStart e d a i G)=A
theorem CE.list{A:aF}{l a p R}:CE A (.ListComp l a p R):=λ_ _ _ _=>⟨rfl,rfl,rfl,rfl⟩
theorem CE.dict{A:aF}{k v a p R}:CE A (.DictComp k v a p R):=λ_ _ _ _=>⟨rfl,rfl,rfl,rfl⟩
noncomputable def fl{L N:Type}(p:L->Bool)(g:L->List N)(t:List L):List N:=t.flatMap λa=>if p a=af then g a else[]
theorem yT{L N:Type}{p:L->Bool}{g:L->List N}{l m:List L}:fl p g (l++m)=fl p g l++fl p g m:=JH
theorem qY{L N:Type}{p:L->Bool}{f:L->N}:∀{l:List L},fl p (λa=>[f a]) l=(l.filter p).map f:=λ{l}=>by induction l with|nil=>rfl|cons a l G=>refine O Dy (O (show a::l=[a]++l from rfl) (O yT (O G ?_)));cases h:p a<;>simp[fl,h]
theorem ET{L N:Type}{f:L->N}{l:List L}:fl (λ_=>af) (λa=>[f a]) l=l.map f:=by exact O qY (O (zW.mpr λ_ _=>rfl) rfl)
structure xe{N:Type}(g:List ah)(R:ah->List N->List ah->aA->Prop)(H:List N->Prop):Prop where
kp:∀{D l Y h h'},bf Y h h'->(∀b∈D::g,∀o,h.get? b=aa o->h'.get? b=aa o)->R D l Y h->R D l Y h'
less:∀{D l Y q h},(∀a∈q,a∈Y)->R D l Y h->R D l q h
pre:∀{l m},H (l++m)->H l
noncomputable def Out{N:Type}(A:aF)(G:aN)(B:aA)(g V X:List ah)(D:ah)(R:ah->List N->List ah->aA->Prop)(H:List N->Prop)(P:Gm)(f:bg Fin->bg Fin)(z:List N):Prop:=∀(l:List N)(Y:List ah)(s:aq)(E:aj->aq->Prop)(k:bg Fin)(Q:Fin->aq->Prop),H (l++z)->(∀a∈X,a∈Y)->CX Y s.heap G P->bf g B s.heap->R D l Y s.heap->(∀b,br (D::(V++g)) s b->CX Y b.heap G P->R D (l++z) Y b.heap->au (az PW w) A k Q E b)->au (az PW w) A (f k) Q E s
section
variable{A:aF}
theorem KJ{α β:Type}{e:aS}{d:Nat}{I D:ah}{G:aN}{tg iter:aS}{ifs:List aS}{F:bg Fin->bg Fin}{fp f X V PP:List ah}{E:List α}{kf:α->T}{p:α->Bool}{g:α->List β}{St:Nat->aA->Prop}{uK:Gm}{cU:α->Gm}{AC:ah->List β->List ah->aA->Prop}{ok:List β->Prop}{l₀:List β}{h₀:aA}{R:Result->aq->Prop}(hturn:oB e d (.ref I) (.ref D) G=oH tg iter ifs (.ref I) G F (.compLoop e d (.ref I) (.ref D) G))(ce:CE A e)(W:gz A I fp f (f++X) tg (E.map kf) St)(RT:∀a∈D::(V++PP),a∈X)(Cp:∀a∈aK G,a∈X)(hKV:∀b∈D::PP,b∉V)(Ip:∀b∈fp,b∉X)(mk:xe PP AC ok)(has:∀a∈E,AS A G V tg (kf a) uK (cU a))(hle:∀a∈E,∀x t,uK x=aa t->cU a x=aa t)(htest:∀a∈E,∀Y h,CX Y h G (cU a)->bf PP h₀ h->TS A G h ifs (p a))(hin:∀a∈E,p a=true->Out A G h₀ PP V X D AC ok (cU a) F (g a))(hok:ok (l₀++fl p g E)){s:aq}(c:CX (f++X) s.heap G uK)(st:St 0 s.heap)(ac:AC D l₀ (f++X) s.heap)(old:∀h,bf (f++D::(V++PP)) s.heap h->bf PP h₀ h)(hR:∀s',br (f++D::(V++PP)) s s'->CX X s'.heap G uK->AC D (l₀++fl p g E) X s'.heap->R (.ok .next) s'):pW (az PW w) A (.compLoop e d (.ref I) (.ref D) G) R s:=by have Cq:∀a∈f,a∈f++X:=λa=>bI _;have P:∀a∈X,a∈f++X:=λa=>cJ _;have Qj:∀a∈D::(V++PP),a∈f++X:=λa m=>P a (RT a m);have Iq:∀a∈V,a∈D::(V++PP):=λa m=>aY _ (bI _ m);have Ir:∀b∈fp,b∉D::(V++PP):=λb m n=>Ip b m (RT b n);have RU:∀a∈D::PP,a∉f:=λa m n=>Ir a (W.sub a n) ((bA.mp m).elim (λe=>e▸aP ..) λm=>aY _ (cJ _ m));have xO:∀a∈f,a∈f++D::(V++PP):=λa=>bI _;have RV:∀a∈D::(V++PP),a∈f++D::(V++PP):=λa=>cJ _;have how:∀a∈aK G,a∉f:=λa m n=>Ip a (W.sub a n) (Cp a m);have RW:∀a∈V,a∈f++X:=λa m=>Qj a (Iq a m);refine kZ (ce d (.ref I) (.ref D) G) λhf _ hA _=>?_;refine codeAny_loop rfl (λk s'=>∃l r,E=l++r/\k=r.length+1/\br (f++D::(V++PP)) s s'/\CX (f++X) s'.heap G uK/\St l.length s'.heap/\AC D (l₀++fl p g l) (f++X) s'.heap) (λk U hI=>?_) (E.length+1) ⟨[],E,rfl,rfl,.refl _ s,c,st,by exact O (show fl p g []=[]from rfl) (O (g8 ..) ac)⟩;refine jP hI λl r ha hk ks i S O6=>?_;refine O hA ?_;show au _ A (if(xcE e d (.ref I) (.ref D) G).isFrame=true then(oB e d (.ref I) (.ref D) G).onRaise (leaving G)else(oB e d (.ref I) (.ref D) G).onRaise λx=>do yO x G;theTreesLotGoes x) _ _ U;refine O hf (O (if_neg dk) ?_);refine wpAny_noted ?_;refine O hturn ?_;unfold oH;refine ao (cV (ao ?_));cases r with|nil=>rw[g8]at ha;subst ha;refine aB (W.done U _ (by exact O (aH ..) S)) (λq Z x=>?_) λ_ _ e=>e;obtain⟨rfl,x⟩:=x;have kX:bf (f++X) U.heap Z.heap:=x.kp.mono Cq;exact aM (hR Z (ks.trans (x.mono xO)) (i.shift x.kp how Cq P Cp λa m=>(i.live a (P a m)).imp λo e=>x.kp a o (λq=>Ip a (W.sub a q) m) e) (mk.less P (mk.kp kX (λb m o e=>x.kp b o (RU b m) e) O6)))|cons a r=>
have hai:(E.map kf)[l.length]?=aa (kf a):=by refine O ha ?_;simp
have Q:a∈E:=by refine O ha ?_;simp
refine aB (W.item l.length (kf a) U _ hai S i.live) (λq Z x=>?_) λ_ _ e=>e;obtain⟨v,rfl,x⟩:=x;refine ao (aB x (λ_ s₃ y=>?_) λ_ _ e=>e);refine gW y λj O7 xfy=>?_;refine ao (aB (has a Q _ s₃ _ v RW (i.dK j.kp how Cq (i.live.dK j.kp (W.up _ _ O7))) xfy) (λ_ H y=>?_) λ_ _ e=>e);refine aV y λB c₄=>?_;have RX:bf (f++X) s₃.heap H.heap:=B.kp.mono RW;have M:br (f++D::(V++PP)) s H:=ks.trans ((j.mono xO).trans (B.mono λa m=>RV a (Iq a m)));refine ao (aB (htest a Q _ _ c₄ (old _ M.kp) H _ λ_ _ e=>e) (λok L y=>?_) λ_ _ e=>e);refine aV y λC z=>?_;try clear y;subst z
have c₅:=c₄.kp C.kp;have K:St (l.length+1) L.heap:=W.frame _ _ _ O7 (λb m o e=>C.kp b o (B.kp b o (λn=>Ir b m (Iq b n)) e)) (RX.trans (C.kp.bL _));have J:=mk.kp (C.kp.bL _) (λb m o e=>C.kp b o e) (mk.kp ((j.kp.mono Cq).trans RX) (λb m o e=>B.kp b o (hKV b m) (j.kp b o (RU b m) e)) O6);have u:br (f++D::(V++PP)) s L:=M.trans (.of C);have hlen:(l++[a]).length=l.length+1:=by simp
have Hy:E=l++[a]++r:=by refine O ha ?_;simp
cases hp:p a with|false=>refine O (if_neg dk) ?_;refine aM ⟨rfl,r.length+1,by refine O hk ?_;simp,l++[a],r,Hy,rfl,u,c₅.less (hle a Q),by exact O hlen K,?_⟩;exact O yT (O (show fl p g [a]=[]by simp[fl,hp]) (O (g8 ..) J))|true=>
 refine O (if_pos rfl) ?_;have e1:fl p g [a]=g a:=by simp[fl,hp]
 refine hin a Q hp (l₀++fl p g l) _ L _ _ _ ?_ P c₅ (old _ u.kp) J λs₆ N c₆ xdh=>?_;.rw[Hy,yT,yT,e1,<-fT,<-fT]at hok;exact mk.pre hok
 .refine aM ⟨rfl,r.length+1,by refine O hk ?_;simp,l++[a],r,Hy,rfl,u.trans (N.mono RV),c₆.less (hle a Q),?_,by exact O yT (O e1 (aQ (fT ..) xdh))⟩;exact O hlen (W.frame _ _ _ K (λb m o e=>N.kp b o (Ir b m) e) (N.kp.mono Qj))
end
noncomputable def dX(g:List (ai×pR))(G:aN):List (ai×ah):=((g.filter λp=>p.2==.free).map λp=>(p.1,(G.cells.lookup p.1).getD 0)).reverse
noncomputable def i9:List ai->Bool|[]=>af|x::r=>!r.contains x&&i9 r
def jb(j:dW)(G:aN):Bool:=j.kind==.function&&(G.scope.kind==.function&&(i9 (j.names.map (·.1))&&j.names.all λp=>if p.2=.free then G.kindOf p.1==aa .cell||G.kindOf p.1==aa .free&&(G.cells.lookup p.1).isSome else if p.2=.globalImplicit then l6 (G.kindOf p.1)else p.2==.local||p.2==.cell))
theorem wh{j:dW}{G:aN}(K:lQ X h G)(H:jb j G=af):j.kind=.function/\i9 (j.names.map (·.1))=af/\(∀x,(x,mF)∈j.names->(∃c,G.cells.lookup x=aa c)/\(G.kindOf x=aa .cell\/G.kindOf x=aa .free))/\∀x,(x,NameKind.globalImplicit)∈j.names->l6 (G.kindOf x)=af:=by
 refine aV ((dZ _ _).mp H) λT o=>?_;refine aV ((dZ _ _).mp o) λ_ o=>?_;refine aV ((dZ _ _).mp o) λE o=>?_;refine⟨eq_of_beq T,E,λx m=>?_,λx m=>cg.mp o _ m⟩;refine bw ((yi _ _).mp (cg.mp o _ m)) (λq=>?_) λq=>?_;.exact(K.cell x (eq_of_beq q)).elim λc z=>z.elim λ_ z=>⟨⟨c,z.1⟩,.inl (eq_of_beq q)⟩
 .have q:=(dZ _ _).mp q;exact⟨CW.mp q.2,.inr (eq_of_beq q.1)⟩
theorem rS(h:i9 (x::r)=af):x∉r/\i9 r=af:=((dZ _ _).mp h).imp (λa m=>by replace a:=jB.mpr m▸a;cases a) id
theorem Wg{l:List ai}(h:i9 l=af):l.Nodup:=by induction l with|nil=>exact .nil|cons x r G=>exact mC.mpr ⟨(rS h).1,G (rS h).2⟩
theorem KL{L:Type}{l:List (ai×L)}(h:i9 (l.map (·.1))=af):l.Pairwise λx y=>x.1≠y.1:=Dn.mp (Wg h)
theorem JL{L:Type}{l:List (ai×L)}{x:ai}{c:L}(h:l.Pairwise λx y=>x.1≠y.1)(m:(x,c)∈l):l.lookup x=aa c:=by induction l with|nil=>cases m|cons p l G=>
refine aV (De.mp h) λa b=>?_;rcases bA.mp m with e|m;.subst e;exact C2
.show Nk x ((p.1,p.2)::l)=_;rewrite[Dz,beq_false_of_ne (a _ m).symm];exact G b m
theorem Dh{L:Type}{l:List (ai×L)}{x:ai}{k:L}(h:i9 (l.map (·.1))=af)(m:(x,k)∈l):l.lookup x=aa k:=JL (KL h) m
theorem Tg{L:Type}{l:List (ai×L)}{x:ai}{c:L}(m:(x,c)∈l):∃M,l.lookup x=some M:=by cases e:l.lookup x with|some M=>exact⟨M,rfl⟩|none=>exact absurd (List.lookup_eq_none_iff.mp e _ m) (by simp)
theorem Xw{G:aN}(m:p∈dX names G):(p.1,mF)∈names/\p.2=(G.cells.lookup p.1).getD 0:=by refine aG (bE.mp (Ka.mp m)) λq j e=>?_;refine aV (d7.mp j) λU s=>?_;subst e;exact⟨eq_of_beq s▸U,rfl⟩
theorem Lj{G:aN}(g:List (ai×pR))(m:(x,mF)∈g):(x,(G.cells.lookup x).getD 0)∈dX g G:=Ka.mpr (bE.mpr ⟨_,d7.mpr ⟨m,rfl⟩,rfl⟩)
theorem Xx{g:List (ai×pR)}(h:i9 (g.map (·.1))=af):(dX g G).Pairwise λx y=>x.1≠y.1:=List.pairwise_reverse.mpr (Dn.mpr (((KL h).filter _).imp λe=>e.symm))
theorem Wh{env:aN}(l:∀n k a,f (n,k) a=if k==.free then do pure (.yield ((n,<-cellOf env n)::a))else pure (.yield a))(g:List (ai×pR)):∀(i:List (ai×ah)),(∀p∈g,p.2=.free->(env.cells.lookup p.1).isSome=af)->forIn g i f=pure (dX g env++i):=by induction g with|nil=>intro _ _;rfl|cons p r G=>
intro i h;have D:=λq m=>h q (aY p m);refine O (tW ..) (O (show p=(p.1,p.2)from rfl) (O (l ..) ?_));by_cases N:(p.2==mF)=af;.refine aC (CW.mp (h p (aP ..) (eq_of_beq N))) λc Z=>?_;rw[if_pos N,show cellOf env p.1=pure c by unfold cellOf;rw[Z],pure_bind,pure_bind];show forIn r _ f=_;rw[G _ D,dX,dX,Dy,if_pos N,f6,J4,fT,Z];rfl
.refine O (if_neg N) (O (pure_bind ..) ?_);show forIn r _ f=_;rw[G _ D,dX,dX,Dy,if_neg N]
theorem Di{j:dW}{G:aN}(h:∀p∈j.names,p.2=.free->(G.cells.lookup p.1).isSome=af):closureFor j G=pure (dX j.names G):=by simp only[closureFor];refine O (Wh (env:=G) λn k F=>by cases t:k==mF<;>simp j.names [] h) (O (g8 ..) ?_);rfl
theorem DH(g:List (ai×pR)):∀n:Nat,∃o:List (ai×ah),(∀i,pP n g i=o++i)/\(∀p∈o,n<=p.2/\(p.1,m5)∈g)/\(o.Pairwise λx y=>x.2≠y.2)/\(∀x,(x,m5)∈g->∃c,(x,c)∈o)/\∀h:aA,h.objs.size=n->∀p∈o,(wU h g).IsCell p.2 ak:=by induction g with|nil=>exact λn=>⟨[],λ_=>rfl,λ_ m=>absurd m b9,C4,λ_ m=>absurd m b9,λ_ _ _ m=>absurd m b9⟩|cons q r G=>
intro n;by_cases N:(q.2==m5)=af
.refine oi (G (n+1)) λo e a b c d=>?_;refine⟨o++[(q.1,n)],λi=>(if_pos N).trans (by refine O (e ..) (O (fT ..) ?_);rfl),λp m=>?_,?_,λy m=>?_,λh W p m=>?_⟩
 .refine bw (bC.mp m) (λm=>?_) λm=>?_;.exact⟨nR (a p m).1,aY _ (a p m).2⟩
  .rw[aW]at m;subst m;exact⟨cQ _,eq_of_beq N▸aP ..⟩
 .exact V3.mpr ⟨b,List.pairwise_singleton ..,λp m q H e=>v8 n (by rw[aW.mp H]at e;exact aZ (a p m).1 (dh e))⟩
 .refine bw (bA.mp m) (λe=>?_) λm=>?_;.exact⟨n,cJ _ (aW.mpr (congrArg (·,n) (congrArg Ge e)))⟩
  .exact(c y m).imp λ_=>bI _
 .rw[show wU h (q::r)=wU (h.push {cls:=.type "cell",data:=.cell ak}) r from if_pos N];refine bw (bC.mp m) (λm=>?_) λm=>?_;.exact d _ (by exact O (mD ..) (O W rfl)) p m
  .refine O (aW.mp m) ?_;exact xhu (h:=h.push {cls:=.type "cell",data:=.cell ak}) ⟨_,by exact aQ W (cE _ rfl),rfl⟩ (Mi _ _)
.refine oi (G n) λo e a b c d=>?_;refine⟨o,λi=>(if_neg N).trans (e i),λp m=>⟨(a p m).1,aY _ (a p m).2⟩,b,λy m=>?_,λh W=>by rw[show wU h (q::r)=wU h r from if_neg N];exact d h W⟩;refine bw (bA.mp m) (λe=>?_) λm=>?_;.subst e;exact absurd rfl N
 .exact c y m
theorem TU{g:List (ai×pR)}(h:i9 (g.map (·.1))=af):∀{n:Nat}{i:List (ai×ah)},(∀p∈i,p.1∉g.map (·.1))->(i.Pairwise λx y=>x.1≠y.1)->(pP n g i).Pairwise λx y=>x.1≠y.1:=by induction g with|nil=>exact λ_ h=>h|cons q r G=>
intro n i K Q;refine aV (rS h) λU P=>?_;have D:∀p∈i,p.1∉r.map (·.1):=λp m z=>K p m (aY _ z);by_cases N:(q.2==m5)=af;.rw[show pP n (q::r) i=pP (n+1) r ((q.1,n)::i)from if_pos N];exact G P (λp m=>(bA.mp m).elim (λe=>e▸U) (D p)) (De.mpr ⟨λy m e=>K y m (e▸aP ..),Q⟩)
.rw[show pP n (q::r) i=pP n r i from if_neg N];exact G P D Q
theorem Vq{L:Type}{f:ai->L->L}{l:List (ai×L)}{x:ai}:(l.map λp=>(p.1,f p.1 p.2)).lookup x=(l.lookup x).map (f x):=by induction l with|nil=>rfl|cons p l G=>
by_cases e:x=p.1;.subst e;refine O (show p::l=(p.1,p.2)::l from rfl) (O f6 (O C2 (O C2 ?_)));rfl
.rewrite[show p::l=(p.1,p.2)::l from rfl,f6,Dz,Dz,beq_false_of_ne e];exact G
theorem Tq{G:aN}{g:List (ai×pR)}{x:ai}:(g.map λ(n,k)=>if(k==mF&&G.scope.kind==.function&&G.kindOf n==aa .cell)then(n,m5)else(n,k)).lookup x=(g.lookup x).map λk=>if(k==mF&&G.scope.kind==.function&&G.kindOf x==aa .cell)then m5 else k:=by exact aQ (Vq (f:=λx k=>if(k==mF&&G.scope.kind==.function&&G.kindOf x==aa .cell)then m5 else k)) (congrArg (Nk x) (congrArg (List.map · g) (funext λp=>(apply_ite (Prod.mk p.1) _ _ _).symm)))
def dU(j:dW)(G:aN)(P:Gm):Gm:=λx=>if j.names.lookup x=aa .free\/j.names.lookup x=aa .globalImplicit\/j.names.lookup x=ak/\l6 (G.kindOf x)=af then P x else ak
theorem Vr{s:aq}{G:aN}{scope:dW}(X:Q {scope,locals:=s.heap.objs.size,globals:=G.globals,cells:=pP (s.heap.objs.size+1) scope.names b,qual:=G.qual,func:=ak,code:=G.code,frame:=G.frame,builtins:=G.builtins} {s with heap:=wU (s.heap.push {cls:=.type "dict",data:=.dict #[]}) scope.names}):au M A (xgQ scope G.globals b [] G.qual ak .none (aa G)) Q E s:=by simp only[xgQ,Option.isSome_some,if_true];refine ao (wpAny_alloc ?_);refine ao (wpAny_layCells _ λi a f=>by cases t:a==m5<;>simp[t] _ _ _ _ ?_);refine ao (aM (aM ?_));exact O (show({s with heap:=s.heap.push {cls:=.type "dict",data:=.dict #[]}}:aq).heap.objs.size=s.heap.objs.size+1 from mD ..) X
structure Hz(j:dW)(F:List (ai×ah))(C:ah)(G:aN)(V:List ah):Prop where ok:∀x,j.names.lookup x=aa .local\/j.names.lookup x=aa .cell->((dN j F C G).kindOf x=aa .local\/(dN j F C G).kindOf x=aa .cell)/\dg (dN j F C G) x∈V
theorem Um{l:List (ai×ah)}(h:l.Pairwise λx y=>x.1≠y.1)(k:∀p∈l,∀q∈l,p.2=q.2->p.1=q.1):l.Pairwise λx y=>x.2≠y.2:=by induction l with|nil=>exact C4|cons p r G=>refine aV (De.mp h) λa b=>?_;exact De.mpr ⟨λq m e=>a q m (k p (aP ..) q (aY _ m) e),G b λp m q H=>k p (aY _ m) q (aY _ H)⟩
theorem AW{L:Type}{F:List (ai×L)}{P:L->Prop}{x:ai}{c:L}(m:(x,c)∈F)(h:∀q,(x,q)∈F->P q):∃q,F.lookup x=aa q/\P q:=(Tg m).imp λq e=>⟨e,h q (mem_of_lookup e)⟩
theorem CX.frame{h C:aA}{env:aN}{o cl:List (ai×ah)}(k:Kp h C)(l:bJ X h)(H:env.scope.kind=.function)(D:env.cells=o++cl)(i:∀q∈env.locals::o.map (·.2),h.get? q=ak)(g:∀p∈o,p.2≠env.locals)(B:∃o,h.get? env.globals=aa o)(r:∃o,h.get? env.builtins=aa o)(E:env.globals∉X)(G:env.builtins∉X)(s:∃m,C.Ns env.locals m)(w:∀p∈o,∃F,C.IsCell p.2 F)(S:o.Pairwise λx y=>x.2≠y.2)(b:∀p∈cl,p.2∈X)(I:cl.Pairwise λx y=>x.2≠y.2)(a:∀x,env.kindOf x=aa .cell->∃c F,env.cells.lookup x=aa c/\C.IsCell c F)(f:∀x t,j x=aa t->∃v,Rep X h t v/\iV C env x v):CX (env.locals::o.map (·.2)++X) C env j:=by
 have A:∀q z,h.get? q=aa z->q∉X->q∉env.locals::o.map (·.2)++X:=λq z e n m=>(bC.mp m).elim (λm=>gone e (i q m)) n;have d:∀p∈o,p.2∈env.locals::o.map (·.2):=λp m=>aY _ (bE.mpr ⟨p,m,rfl⟩);have u:∀p∈cl,∀q∈env.locals::o.map (·.2),q≠p.2:=λp m q n e=>(l _ (b p m)).elim λz y=>gone y (e▸i q n);refine⟨⟨H,s,bI _ (aP ..),B.elim λz e=>A _ z e E,r.elim λz e=>A _ z e G,a,λx q m=>?_,D▸V3.mpr ⟨S,I,λp m q n=>u q n _ (d p m)⟩,λx q m=>?_⟩,λq m=>?_,⟨B.imp λ_=>k _ _,r.imp λ_=>k _ _⟩,λx t e=>(f x t e).imp λv z=>⟨Rep.kp (k.bL _) t v (Rep.wide (λq m=>(bC.mp m).imp (i q) id) t v z.1),z.2⟩⟩;.exact(bC.mp (D▸m)).elim (λm=>bI _ (d _ m)) λm=>cJ _ (b _ m)
 .exact(bC.mp (D▸m)).elim (g _) λm=>(u _ m _ (aP ..)).symm
 .refine bw (bC.mp m) (λm=>?_) λm=>?_
  .rcases bA.mp m with e|m;.exact e▸s.elim λ_ z=>z.imp λ_ z=>z.elim λ_ z=>z.elim λ_ z=>z.1
   .refine aG (bE.mp m) λp Q e=>?_;exact e▸(w p Q).elim λ_ z=>z.imp λ_ z=>z.1
  .exact(l.kp k) q m
theorem EU{G:aN}{g:List (ai×pR)}(c:CX X h G a)(l:i9 (g.map (·.1))=af)(K:∀x,(x,mF)∈g->∃c,G.cells.lookup x=aa c):(∀p∈dX g G,g.lookup p.1=aa .free/\G.cells.lookup p.1=aa p.2)/\(∀p∈dX g G,p.2∈X)/\(dX g G).Pairwise λx y=>x.2≠y.2:=by
 have h:∀p∈dX g G,g.lookup p.1=aa .free/\G.cells.lookup p.1=aa p.2:=λp m=>by refine aV (Xw m) λm e=>?_;exact⟨Dh l m,(K _ m).elim λz I=>by refine O e (O I ?_);rfl⟩
 exact⟨h,λp m=>c.ok.own p.1 p.2 (mem_of_lookup (h p m).2),Um (Xx l) λp m q H e=>name_of_addr c.ok.apart (mem_of_lookup (h p m).2) (e▸mem_of_lookup (h q H).2)⟩
theorem JM:aa mF≠aa .cell:=nofun
theorem CX.comp{X:List ah}{h:aA}{G:aN}{P:Gm}{scope:dW}(c:CX X h G P)(H:jb scope G=af){C:ah}{cs:List (ai×ah)}{h₂:aA}(hC:C=h.objs.size)(D:cs=pP (C+1) scope.names (dX scope.names G))(j:h₂=wU (h.push {cls:=.type "dict",data:=.dict #[]}) scope.names):∃V,CX (V++X) h₂ (dN scope cs C G) (dU scope G P)/\Kp h h₂/\(∀a∈V,h.get? a=none)/\(∀a∈V,C<=a)/\C∈V/\Hz scope cs C G V:=by
 refine kZ (wh c.ok H) λW E l M=>?_;refine oi (DH scope.names (C+1)) λo e a b J d=>?_;have i:cs=o++dX scope.names G:=D.trans (e _);subst hC;have k:Kp h h₂:=λb x e=>j▸Mi _ _ b x (bX _ e);refine gW (EU c E λx m=>(l x m).1) λA K I=>?_;have w:∀p∈o,h₂.IsCell p.2 none:=λp m=>j▸d _ (mD ..) p m;have R:∀x,scope.names.lookup x=some .cell->∃q,cs.lookup x=some q/\(x,q)∈o:=λx Y=>(J x (mem_of_lookup Y)).elim λq B=>AW (i▸bI _ B) λq m=>(bC.mp (i▸m)).elim id λm=>absurd ((A _ m).1.symm.trans Y) JM;have n:∀x,scope.names.lookup x=some .free->cs.lookup x=G.cells.lookup x:=λx Y=>(AW (P:=λq=>G.cells.lookup x=some q) (i▸cJ _ (Lj _ (mem_of_lookup Y))) λq m=>(bC.mp (i▸m)).elim (λm=>absurd (Y.symm.trans (Dh E (a _ m).2)) JM) λm=>(A _ m).2).elim λq z=>z.1.trans z.2.symm;have f:∀x,(dN scope cs h.objs.size G).kindOf x=(scope.names.lookup x).map λk=>if(k==mF&&G.scope.kind==.function&&G.kindOf x==some .cell)then m5 else k:=λx=>Tq;have r:∀q∈h.objs.size::o.map (·.2),h.objs.size<=q:=λq m=>by
  refine bw (bA.mp m) (λe=>?_) λm=>?_;.exact dh e.symm
  .refine aG (bE.mp m) λp Q e=>?_;exact e▸nR (a p Q).1
 refine⟨_,CX.frame (env:=dN scope cs h.objs.size G) k c.live W i (λq m=>get?_none_of_le (r q m)) (λp m=>gb (a p m).1) c.eZ.1 c.eZ.2 c.ok.eN c.ok.blt ⟨_,j▸(Heap.Ns.new h (.type "dict")).keeps (Mi _ _)⟩ (λp m=>⟨_,w p m⟩) b K I (λx e=>?_) λx t e=>?_,k,λq m=>get?_none_of_le (r q m),r,aP ..,⟨λx Y=>?_⟩⟩;.replace e:=f ..▸e;cases Y:scope.names.lookup x with|none=>replace e:=Y▸e;cases e|some T=>
  replace e:=Y▸e;have e:=nU e;by_cases Z:(T==mF&&G.scope.kind==.function&&G.kindOf x==some .cell)=af;.refine aV ((dZ _ _).mp Z) λZ U=>?_;refine eK (c.ok.cell x (eq_of_beq U)) λq F N h2=>?_;exact⟨q,F,(n x (Y.trans (congrArg some (eq_of_beq ((dZ _ _).mp Z).1)))).trans N,h2.keeps k⟩
  .exact(R x (Y.trans (congrArg some ((if_neg Z).symm.trans e)))).imp λq z=>⟨none,z.1,w _ z.2⟩
 .unfold dU at e;by_cases Z:scope.names.lookup x=some .free\/scope.names.lookup x=some .globalImplicit\/scope.names.lookup x=none/\l6 (G.kindOf x)=af
  .replace e:=if_pos Z▸e;refine(c.val x t e).imp λv z=>⟨z.1,?_⟩;have L:l6 (G.kindOf x)=af->l6 ((dN scope cs h.objs.size G).kindOf x)=af->iV h₂ (dN scope cs h.objs.size G) x v:=λg s=>.inl ⟨s,(z.2.gv g).at (k _) (k _)⟩;refine bw Z (λY=>?_) λzz=>bw zz (λY=>?_) λu=>?_
   .have S:=(l x (mem_of_lookup Y)).2;refine .inr (.inr ⟨?_,(z.2.cellOf S).imp λq y=>⟨(n x Y).trans y.1,y.2.keeps k⟩⟩);refine O (f ..) (O Y ?_);show some (if _ then _ else _)=_\/some (if _ then _ else _)=_;by_cases Z:(mF==mF&&G.scope.kind==.function&&G.kindOf x==some .cell)=af;.exact O (if_pos Z) (.inl rfl)
    .exact O (if_neg Z) (.inr rfl)
   .exact L (M x (mem_of_lookup Y)) (by refine O (f ..) (O Y ?_);rfl)
   .obtain⟨Y,g⟩:=u;exact L g (by refine O (f ..) (O Y ?_);rfl)
  .replace e:=if_neg Z▸e;cases e
 .refine bw Y (λY=>?_) λY=>?_;.have:=(f x).trans (by refine O Y ?_;rfl:_=some NameKind.local);exact⟨.inl this,D5 this▸aP ..⟩
  .have:=(f x).trans (by refine O Y ?_;rfl:_=some m5);exact⟨.inr this,(R x Y).elim λq z=>Et this z.1▸aY _ (bE.mpr ⟨_,z.2,rfl⟩)⟩
section
variable{A:aF}
theorem Jy{g:Nq}(H:(QT e)[d]?=aa g)(K:g.is_async=0)(F:(DQ e d a i G).isFrame=av)(Z:∀h,A.under (DQ e d a i G)=h->h=A)(b:∀E,au (az PW w) A (sM a) (λv U=>v=a/\U=s) E s)(D:pW (az PW w) A (.compLoop e d a i G) R s):pW (az PW w) A (.compStart e d a i G) R s:=by
 refine Mj ?_;refine O (Z _ rfl) ?_;show au _ A (if(DQ e d a i G).isFrame=af then(QU e d a i G).onRaise (leaving G)else(QU e d a i G).onRaise λx=>do yO x G;fL theWindowsPlace) _ _ s;refine O F (O (if_neg dk) ?_);refine wpAny_notedAt ?_;unfold QU;refine O H ?_;have I:Option.elim (aa g) av λx=>x.is_async !=0=av:=by simp[K]
 refine O I ?_;show au _ A (ask>>=_) _ _ s;refine ao (wpAny_askSetting (wpAny_ite ?_));split;.first|exact ao (aM (aM (iT rfl D)))|exact aM (iT rfl D)
 .refine ao (qJ ?_);show au _ _ (fL g.iter.pos>>=_) _ _ s;refine ao (cV (ao (aB (b _) (λv U x=>?_) λ_ _ e=>e)));refine aV x λy u=>?_;try clear x;subst y;subst u
  exact aM (iT rfl D)
theorem jG.wide{B h h':aA}(i:jG A X B h I c z d Q)(k:Kp h h')(w:∀a∈Y,h.get? a=ak\/a∈X):∃p,gz A I c z (z++Y) d Q p/\p 0 h'/\∀b∈c,b∉Y:=by
 obtain⟨p,W,M⟩:=i.st (z++Y) (λa m=>by
rcases bC.mp m with m|m;.exact .inr (.inr m)
.exact(w a m).elim .inl λm=>.inr (.inl m)) λa m=>bI _ m;refine⟨p,W,W.frame 0 h h' M (λb m o e=>k b o e) (k.bL _),λb m n=>?_⟩;rcases w b n with q|q;.refine aC (i.up b m) λo e=>?_;exact gone e q
 .exact i.off b m q
theorem Xy{j:dW}(c:CX X h G b)(H:jb j G=af)(m:a∈aK (dN j (pP (C+1) j.names (dX j.names G)) C G)):a=C\/C<a\/a∈aK G:=by
 refine kZ (wh c.ok H) λ_ E l _=>?_;rcases bA.mp m with e|m;.exact .inl e
 .refine aG (bE.mp m) λp D e=>?_;refine dj (DH j.names (C+1)) λr K f _=>?_;have D:p∈pP (C+1) j.names (dX j.names G):=D;rw[K]at D;rcases bC.mp D with z|z;.exact .inr (.inl (e▸(f _ z).1))
  .exact .inr (.inr (aY _ (bE.mpr ⟨p,mem_of_lookup ((EU c E λx m=>(l x m).1).1 p z).2,e⟩)))
structure TG(A:aF)(j:dW)(G:aN)(Z:aS)(t:T)(P r:Gm):Prop where
as:∀C cs V,Hz j cs C G V->AS A (dN j cs C G) V Z t P r
le:bq P r
structure Spot(j:dW)(G:aN)(g:List ah)(B:aA)(C:ah)(F:List (ai×ah))(V:List ah)(D:ah):Prop where
wo:Hz j F C G V
new:∀a∈D::V,B.get? a=ak
off:∀b∈D::g,b∉V/\b∉aK (dN j F C G)nP:D∉g
theorem Av{α β:Type}{e:aS}{j:dW}{G:aN}{pos:aR}{tg u:aS}{N:List aS}{rest:List Nq}{use:Option (aj->bg Unit)}{t:bg aj}{f:bR}{F:ah->aN->bg Fin->bg Fin}{X PP:List ah}{as:List α}{kf:α->T}{p:α->Bool}{g:α->List β}{γ:Gm}{cU:α->Gm}{AC:ah->List β->List ah->aA->Prop}{ok:List β->Prop}{Q E:aj->aq->Prop}{s:aq}(hPP:∀a∈PP,a∈X)(Iu:∀a∈PP,a∉aK G)(mk:xe PP AC ok)(c:CX X s.heap G γ)(S:jb j G=af)(ce:CE A e)(hi:IT A G X s.heap u tg (as.map kf))(hcl:QT e=⟨tg,u,N,0⟩::rest)(hturn:∀I D r,oB e 0 (.ref I) (.ref D) r=oH tg u N (.ref I) r (F D r) (.compLoop e 0 (.ref I) (.ref D) r))(hnew:∀(s:aq)(Q E:aj->aq->Prop),Q (.ref s.heap.objs.size) {s with heap:=s.heap.push f}->au (az PW w) A t Q E s)(R:∀h:aA,(h.push f).get? h.objs.size=aa f)(hacc:∀(h:aA)Y,Kp s.heap h->(∀a∈Y,s.heap.get? a=ak\/a∈X)->AC h.objs.size [] Y (h.push f))(RY:∀a∈as,TG A j G tg (kf a) (dU j G γ) (cU a))(U:∀a∈as,∀C y Y h,CX Y h (dN j y C G) (cU a)->bf PP s.heap h->TS A (dN j y C G) h N (p a))(hin:∀C y V D,Spot j G PP s.heap C y V D->∀a∈as,p a=af->Out A (dN j y C G) s.heap PP V (D::(V++X)) D AC ok (cU a) (F D (dN j y C G)) (g a))(hok:ok (fl p g as))(post:∀D C s' m,br PP s s'->s.heap.get? D=ak->s.heap.get? C=ak->D≠C->s'.heap.Ns C m->AC D (fl p g as) (D::C::X) s'.heap->G5 (az PW w) A E use Q (.ref D) C (.ok .next) s')(hs:∀x,g7 u G x=pure x):au (az PW w) A (Eo e j G pos t av (aT u G) use) Q E s:=by
 refine kZ (wh c.ok S) λo1 o3 o4 _=>?_;refine wpAny_comprehension_free (cl:=dX j.names G) hcl hs (Di λq m hq=>CW.mpr (o4 q.1 (hq▸m)).1) o1 (λx m e=>Dh o3 (e▸m)) ?_;refine aB (hi s E λ_ _ e=>e) (λxv s₁ h₁=>aB h₁ (λit J h₂=>?_) λ_ _ e=>e) λ_ _ e=>e;obtain⟨ks,I,fp,wr,rfl,i⟩:=h₂;refine hnew _ _ _ (Vr ?_);generalize hD:J.heap.objs.size=D;generalize L:J.heap.push f=d;have k3:Kp J.heap d:=λb o e=>by exact aQ L (bX _ e)
 have fr:∀{b},D<=b->J.heap.get? b=ak:=λhb=>get?_none_of_le (hD▸hb);have frs:∀{b},J.heap.get? b=ak->s.heap.get? b=ak:=λe=>g9 ks.kp e;have l:s.heap.get? D=ak:=frs (fr (cQ _));have hDu:d.get? D=aa f:=by exact aQ L (aQ hD (R _))
 have xfz:d.objs.size=D+1:=by exact aQ L (O (mD ..) (O hD rfl))
 have ka:Kp s.heap d:=ks.kp.trans k3;have c3:CX (D::wr++X) d G γ:=c.widen ka (λa m=>(bA.mp m).elim (λe=>e▸l) (i.new a)) λa m=>(bA.mp m).elim (λe=>⟨_,e▸hDu⟩) λm=>(i.up a (i.sub a m)).imp λo=>k3 a o;dsimp only;refine V9 (CX.comp (scope:=j) c3 S (C:=d.objs.size) (cs:=cellsFrom (d.objs.size+1) j.names (dX j.names G)) (h₂:=pushCells (d.push {cls:=.type "dict",data:=.dict #[]}) j.names) rfl rfl rfl) λV c4 k4 vn vC RZ wo=>?_;rw[xfz]at c4 vC RZ wo⊢;generalize hh4:pushCells (d.push {cls:=.type "dict",data:=.dict #[]}) j.names=P at c4 k4⊢;have H:=λa=>Xy (a:=a) (C:=D+1) c S;generalize cellsFrom (D+1+1) j.names (dX j.names G)=y at c4 wo H⊢;have R0:∀a∈V,J.heap.get? a=ak:=λa m=>fr (nR (vC a m));have K:∀a∈V,s.heap.get? a=ak:=λa m=>frs (R0 a m);have Iv:D∉V:=λm=>W4 _ (vC D m);obtain⟨St,W,st,tC⟩:=i.wide (h':=P) (Y:=D::(V++X)) (k3.trans k4) λa m=>by
  refine bw (bA.mp m) (λq1=>?_) λm=>?_;.subst q1;exact .inl (fr (cQ _))
  .exact(bC.mp m).imp (R0 a) id
 have B:∀a,a∈wr++D::(V++X)↔a∈V++(D::wr++X):=λa=>by simp only[bC,bA];exact⟨λh=>by rcases h with h|h|h|h<;>simp[h],λh=>by rcases h with h|(h|h)|h<;>simp[h]⟩
 have M:∀{a},(∃o,J.heap.get? a=aa o)->a∈aK (dN j y (D+1) G)->a∈aK G:=λ{a}h m=>by
  refine aC h λo e=>?_;have no:¬D<=a:=λz=>by exact gone e (fr z)
  refine bw (H a m) (λq=>?_) λzz=>bw zz (λq=>?_) λq=>?_;.exact absurd (q▸dM _) no
  .exact absurd (nR (nR q)) no
  .exact q
 have Cp:∀a∈aK (dN j y (D+1) G),a∈D::(V++X):=λa m=>(bC.mp ((B a).mpr (c4.ok.iX a m))).elim (λq=>absurd (c.ok.iX a (M (i.up _ (i.sub _ q)) m)) (i.off a (i.sub _ q))) id;have hDo:D∉aK (dN j y (D+1) G):=λm=>by
  refine bw (H D m) (λq=>?_) λzz=>bw zz (λq=>?_) λq=>?_;.exact DC _ q.symm
  .exact W4 _ (nR q)
  .refine aC (c.live D (c.ok.iX D q)) λo e=>?_;exact gone e l
 have Z:∀b∈PP,∃o,s.heap.get? b=aa o:=λb m=>c.live b (hPP b m);have hDP:D∉PP:=λm=>by refine aC (Z D m) λo e=>?_;exact gone e l
 have off:∀b∈D::PP,b∉V/\b∉aK (dN j y (D+1) G):=λb m=>by
  refine bw (bA.mp m) (λq1=>?_) λm=>?_;.subst q1;exact⟨Iv,hDo⟩
  .exact⟨λn=>by refine aC (Z b m) λo e=>?_;exact gone e (K b n),λn=>Iu b m (M ((Z b m).imp λo=>ks.kp b o) n)⟩
 have old:∀h,bf (wr++D::(V++PP)) s.heap h->bf PP s.heap h:=λh k b o np e=>k b o (λm=>by
refine bw (bC.mp m) (λm=>?_) λm=>?_;.exact gone e (i.new b m)
.refine bw (bA.mp m) (λq1=>?_) λm=>?_;.subst q1;exact gone e l
 .refine bw (bC.mp m) (λm=>?_) λm=>?_;.exact gone e (K b m)
  .exact np m) e;have R1:Kp s.heap P:=ka.trans k4;refine Jy (by refine O hcl ?_;rfl) rfl (ce _ _ _ _).2.1 (λh e=>e.symm.trans (ce _ _ _ _).2.2.2) (λE'=>aB (W.self 0 _ E' st) (λv s₁ x=>x) λ_ _ e=>e) ?_;refine KJ (h₀:=s.heap) (V:=V) (PP:=PP) (X:=D::(V++X)) (kf:=kf) (uK:=dU j G γ) (cU:=cU) (l₀:=[]) (hturn ..) ce W (λa m=>(bA.mp m).elim (λe=>e▸aP ..) λm=>aY _ ((bC.mp m).elim (bI _) λm=>cJ _ (hPP a m))) Cp (λb m=>(off b m).1) tC mk (λa m=>(RY a m).as _ y V wo) (λa m=>(RY a m).le) (λa m Y h c' k'=>U a m _ y Y h c' k') (hin _ y V D ⟨wo,λa m=>(bA.mp m).elim (λe=>e▸l) (K a),off,hDP⟩) hok (c4.narrow (λa m=>(B a).mp m) (λa m=>(B a).mpr (c4.ok.iX a m)) λa m=>c4.live a ((B a).mp m)) st ?_ (λh k=>old h ((R1.bL _).trans k)) ?_
 .have:=hacc J.heap (wr++D::(V++X)) ks.kp λa m=>by
   refine bw (bC.mp m) (λm=>?_) λm=>?_;.exact .inl (i.new a m)
   .refine bw (bA.mp m) (λq1=>?_) λm=>?_;.subst q1;exact .inl l
    .exact(bC.mp m).imp (K a) id
  rw[hD,L]at this;exact mk.kp (k4.bL _) (λb _ o e=>k4 b o e) this
 .intro s' kx cx ax;refine aC cx.ok.ns λm hm=>?_;refine post D (D+1) s' m ⟨old _ ((R1.bL _).trans kx.kp),?_⟩ l (frs (fr (dM _))) (DC _).symm hm (mk.less (λa m=>?_) ax);.have e1:=kx.eq;have e2:=ks.eq;refine O e1 ?_;dsimp only;exact O e2 rfl
  .rcases bA.mp m with ea|m;.exact O ea (aP ..)
   refine bw (bA.mp m) (λea=>?_) λm=>?_;.exact O ea (aY _ (bI _ RZ))
   .exact aY _ (cJ _ m)
theorem Out.next{L β:Type}{e:aS}{d:Nat}{D:ah}{G:aN}{V X:List ah}{Z u:aS}{r:List aS}{f:bg Fin->bg Fin}{z:List L}{S:L->T}{p:L->Bool}{g:L->List β}{P:Gm}{j:L->Gm}{R:ah->List β->List ah->aA->Prop}{ok:List β->Prop}{B:aA}(ce:CE A e)(hg:(QT e)[d]?=aa ⟨Z,u,r,0⟩)(y:∀I,oB e d (.ref I) (.ref D) G=oH Z u r (.ref I) G f (.compLoop e d (.ref I) (.ref D) G))(hn:∀a∈D::V,B.get? a=ak)(Iv:D∉V)(hX:∀a∈D::V,a∈X)(mk:xe [] R ok)(J:∀{D l Y M h},(∀a∈M,h.get? a=ak\/a∈Y)->R D l Y h->R D l M h)(hi:∀Y h,CX Y h G P->Kp B h->IT A G Y h u Z (z.map S))(has:∀a∈z,AS A G V Z (S a) P (j a))(hle:∀a∈z,∀x t,P x=aa t->j a x=aa t)(w:∀a∈z,∀Y h,CX Y h G (j a)->Kp B h->TS A G h r (p a))(hin:∀a∈z,p a=af->Out A G B [] V X D R ok (j a) f (g a))(hs:∀x,g7 u G x=pure x):Out A G B [] V X D R ok P (Bu e d u D G) (fl p g z):=λl Y U E k Q N hY c H ac hk=>by
 have H:Kp B U.heap:=λb o e=>H b o b9 e;unfold Bu;refine ao (aB (hi Y _ c H U E λ_ _ e=>e) (λxv s₂ F=>?_) λ_ _ e=>e);refine ao (cV (ao (wA (hs xv) (ao (dH (aB F (λit q K=>?_) λ_ _ e=>e))))));obtain⟨C,I,fp,wr,rfl,i⟩:=K;refine dj (i.wide (h':=q.heap) (Y:=Y) (λ_ _ e=>e) λa m=>.inr m) λSt W st tC=>?_;have old:∀h,bf (wr++D::(V++[])) q.heap h->bf [] B h:=λh k b o _ e=>k b o (λm=>by
refine bw (bC.mp m) (λm=>?_) λm=>?_;.have:=H b o e;exact gone this (i.new b m)
.replace m:=g8 ..▸m;exact gone e (hn b m)) (C.kp b o (H b o e));refine ao (wpAny_runOwn (Jy hg rfl (ce _ _ _ _).2.1 (λh e=>e.symm.trans (ce _ _ _ _).2.2.2) (λE'=>aB (W.self 0 _ E' st) (λv U x=>x) λ_ _ e=>e) ?_));refine KJ (h₀:=B) (V:=V) (PP:=[]) (X:=Y) (kf:=S) (uK:=P) (cU:=j) (l₀:=l) (y I) ce W (λa m=>hY a (hX a (by replace m:=g8 ..▸m;exact m))) c.ok.iX (λb m=>by exact O (aW.mp m) Iv) tC mk has hle (λa m Y h c' k'=>w a m Y h c' λb o e=>k' b o b9 e) (λa m hp l' M s E k Q h1 h2=>hin a m hp l' M s E k Q h1 λa m=>h2 a (hY a m)) N (c.widen C.kp (λa m=>i.new a m) λb m=>i.up b (i.sub b m)) st (mk.kp (C.kp.bL _) (λb _ o e=>C.kp b o e) (J (λa m=>(bC.mp m).imp (i.new a) id) ac)) old λs' kx cx ax=>?_;refine hk s' ⟨λb o n e=>kx.kp b o (λm=>?_) (C.kp b o e),?_⟩ cx ax
 .refine bw (bC.mp m) (λm=>?_) λm=>?_;.exact gone e (i.new b m)
  .exact n m
 .have e1:=kx.eq;have e2:=C.eq;refine O e1 ?_;dsimp only;exact O e2 rfl
end
noncomputable def EF(A:aF)(G:aN)(X:List ah)(B:aA)(e:aS)(t:T):Prop:=∀(s:aq)(E:aj->aq->Prop),Kp B s.heap->au (az PW w) A (aT e G) (λv S=>Ks s S/\Rep X S.heap t v/\∃a,v=.ref a/\s.heap.get? a=ak) E s
theorem EF.ev(x:EF A G X B e t):EV A G X B e t:=λs E k=>aB (x s E k) (λv S h=>⟨h.1,h.2.1⟩) λ_ _ e=>e
noncomputable def flat:T->Bool|.none=>af|.bool _=>af|.int _=>af|.str _=>af|.bytes _=>af|.aI _=>af|_=>av
theorem Rep.flat(f:Mine.flat t=af)(r:Rep X h t v):Rep Y h t v:=by cases t<;>first|exact r|cases f
theorem ay.flat(f:∀t∈a,Mine.flat t=af)(r:ay X h a b):ay Y h a b:=ay.ind (P:=λa b=>(∀t∈a,Mine.flat t=af)->ay Y h a b) (λ_=>trivial) (λt _ _ _ x _ i f=>⟨Rep.flat (f t (aP ..)) x,i λu m=>f u (aY _ m)⟩) r f
theorem EV.flat(x:EV A G X B e t)(f:Mine.flat t=af):EV A G Y B e t:=λs E k=>aB (x s E k) (λv S h=>⟨h.1,h.2.flat f⟩) λ_ _ e=>e
theorem EF.flat(x:EF A G X B e (.list c))(l:bJ Y B)(f:∀t∈c,Mine.flat t=af):EF A G Y B e (.list c):=λs E k=>aB (x s E k) (λv S h=>by obtain⟨y,r,a,rfl,n⟩:=h;refine cH r.d8 λb xs e d p q=>?_;cases e;refine⟨y,?_,a,rfl,n⟩;exact⟨a,xs,rfl,λm=>let⟨o,e⟩:=(l.kp k) a m;by exact gone e n,p,ay.flat f q⟩) λ_ _ e=>e
section
variable{A:aF}{G:aN}{X:List ah}{B:aA}{P:Gm}
theorem Ah(s:aq)(Q E:aj->aq->Prop)(h:Q (.ref s.heap.objs.size) {s with heap:=s.heap.push {cls:=.type "list",data:=.seq #[] 0}}):au (az PW w) A (uH []) Q E s:=uc h (by refine O dJ ?_;decide)
theorem DJ(s:aq)(Q E:aj->aq->Prop)(h:Q (.ref s.heap.objs.size) {s with heap:=s.heap.push {cls:=.type "dict",data:=.dict #[]}}):au (az PW w) A BR Q E s:=qz h
noncomputable def aL(I:List ah->aA->Prop)(D:ah)(l:List T)(Y:List ah)(h:aA):Prop:=fz Y D h (.list l)/\I Y h
noncomputable def xP(l:List T):Prop:=l.length<=100000
section
variable{g V:List ah}{I:List ah->aA->Prop}
theorem aL.ok(v:∀Y h h',bf Y h h'->(∀b∈g,∀o,h.get? b=aa o->h'.get? b=aa o)->I Y h->I Y h')(z:∀Y q h,(∀a∈q,a∈Y)->I Y h->I q h):xe g (aL I) xP where kp k c a:=⟨a.1.kp k (c _ (aP ..)),v _ _ _ k (λb m=>c b (aY _ m)) a.2⟩;less y a:=⟨a.1.less y,z _ _ _ y a.2⟩;pre h:=aZ (by exact O cK (e7 ..)) h
theorem Out.pZ(he:∀Y(s:aq)(E:aj->aq->Prop),CX Y s.heap G P->(∀a∈X,a∈Y)->bf g B s.heap->I Y s.heap->au (az PW w) A (aT r G) (λv S=>br g s S/\I Y S.heap/\(∀b∈g,∃o,S.heap.get? b=aa o)/\Rep Y S.heap t v) E s)(iK:∀Y h h',bf Y h h'->(∀b∈g,∀o,h.get? b=aa o->h'.get? b=aa o)->I Y h->I Y h')(L:∀b∈D::g,b∈X)(N:∀b∈D::g,b∉V/\b∉aK G)(i:D∉g):Out A G B g V X D (aL I) xP P (pZ r D G) [t]:=λl Y U E k Q H j c kk C hk=>by
 unfold Mine.pZ;refine ao (ao (aB (he Y U _ c j kk C.2) (λv J x=>?_) λ_ _ e=>e));refine kZ x λM W u2 Z=>?_;refine aV C λz _=>?_;refine aG z λxs p R=>?_;have F:=L D (aP ..);have y:∀a∈g,a∈Y:=λa m=>j a (L a (aY _ m));refine ao (Jv (hsz:=by refine O dJ (aQ dm (O R.length ?_));have H:(l++[t]).length<=100000:=H;rw[cK]at H;exact aZ (eB H) (gQ _ _)) (p.at λo e=>M.kp _ _ i e) λh' T sb=>aM ?_);have d:bf [D] J.heap h':=λb o n e=>(sb.2 b λq=>n (q▸aP ..)).trans e;have f:∀a∈[D],a=D:=λa=>aW.mp;have u:bf Y J.heap h':=d.mono λa m=>f a m▸j D F;have K:CX Y J.heap G P:=c.dK M.kp (λa m n=>(N a (aY _ n)).2 m) y (c.live.dK M.kp u2);refine hk _ ((M.mono λb m=>aY _ (cJ _ m)).trans ⟨d.mono λa m=>f a m▸aP ..,rfl⟩) ?_ ⟨⟨xs.push v,T,?_⟩,iK _ _ _ u (λb m o e=>d b o (λn=>i (f b n▸m)) e) W⟩;.exact K.dK d (λa m n=>(N D (aP ..)).2 (f a n▸m)) (λa m=>f a m▸j D F) (K.live.dK d λa m=>f a m▸T.elim λ_ e=>⟨_,e⟩)
 .exact O Xg (ay.append (ay.kp u _ _ (ay.kp (M.kp.mono y) _ _ R)) ⟨Rep.kp u _ _ Z,trivial⟩)
theorem bf.nil(k:bf [] h h'):Kp h h':=λb o e=>k b o b9 e
theorem br.nil(k:br [] s a):Ks s a:=⟨k.kp.nil,k.eq⟩
theorem Out.ev(L:∀Y h,CX Y h G P->(∀a∈X,a∈Y)->Kp B h->EV A G Y h l t)(d:D∈X)(f:D∉V/\D∉aK G):Out A G B [] V X D (aL λ_ _=>True) xP P (Mine.pZ l D G) [t]:=.pZ (λY s E c J k _=>aB (L Y _ c J k.nil s E λ_ _ e=>e) (λv S y=>⟨.of y.1,trivial,λ_ m=>absurd m b9,y.2⟩) λ_ _ e=>e) (λ_ _ _ _ _ i=>i) (λb m=>aW.mp m▸d) (λb m=>aW.mp m▸f) b9
end
theorem Ks.tail{s S:aq}(k:Ks s S)(a:ud C S.heap h')(J:s.heap.get? C=ak):Ks s {S with heap:=h'}:=by refine⟨λb o e=>(a.2 b λq=>gone (q▸e) J).trans (k.kp b o e),?_⟩;have e:=k.eq;dsimp only;exact O e rfl
noncomputable def xg(G:aN)(e:aS)(j:Option (aj->bg Unit)->bg aj):Prop:=∀(A:aF)(s:aq)(E:aj->aq->Prop),(∀Q:aj->aq->Prop,au (az PW w) A (j ak) Q E s->au (az PW w) A (aT e G) Q E s)/\∀(Q:ek->aq->Prop)(x:ai)(c R:aR),lJ e (aa (.Name x c)) R.line G=pure af->au (az PW w) A (j (aa (fV (.Name x c) G))) (λ_ S=>Q .next S) E s->au (az PW w) A (dY (.Assign [.Name x c] e R) G) Q E s
theorem xg.list{l a j R}:xg G (.ListComp l a j R) λo=>Eo (.ListComp l a j R) j G (OI a R) (uH []) (PG a) (QV a G) o:=λA s E=>⟨λQ h=>h,λQ x c R W h=>by rewrite[Y8 _ _ _ _ W];exact ao (cV (ao (ao (mono h λ_ _ q=>aM (aM q)))))⟩
theorem xg.dict{U n a j R}:xg G (.DictComp U n a j R) λo=>Eo (.DictComp U n a j R) j G (OI a R) BR (PG a) (QV a G) o:=λA s E=>⟨λQ h=>h,λQ x c R W h=>by rewrite[Y8 _ _ _ _ W];exact ao (cV (ao (ao (mono h λ_ _ q=>aM (aM q)))))⟩
noncomputable def CU(A:aF)(G:aN)(X:List ah)(B:aA)(e:aS)(t:T):Prop:=∃j,xg G e j/\∀(s:aq)(o:Option (aj->bg Unit))(Q E:aj->aq->Prop),Kp B s.heap->(∀D C a m,Ks s a->s.heap.get? D=ak->s.heap.get? C=ak->D≠C->a.heap.Ns C m->fz (D::C::X) D a.heap t->G5 (az PW w) A E o Q (.ref D) C (.ok .next) a)->au (az PW w) A (j o) Q E s
noncomputable def EM(A:aF)(G:aN)(X:List ah)(B:aA)(e:aS)(t:T):Prop:=∀(s:aq)(E:aj->aq->Prop),Kp B s.heap->au (az PW w) A (aT e G) (λv S=>Ks s S/\∃a,v=.ref a/\s.heap.get? a=ak/\fz (a::X) a S.heap t) E s
theorem CU.em(x:CU A G X B e t):EM A G X B e t:=λs E k=>x.elim λj x=>(x.1 A s E).1 _ (x.2 s ak _ E k λD C S m y f J K d r=>⟨m,d,λh' c=>⟨y.tail c J,D,rfl,f,(r.kp (λb o n e=>(c.2 b λq=>n (q▸aY _ (aP ..))).trans e) λo e=>(c.2 D K).trans e).less (both (aP ..) λa m=>aY _ (aY _ m))⟩⟩)
theorem EM.ef(x:EM A G X B e t)(l:bJ X B):EF A G X B e t:=λs E k=>mono (x s E k) λv S y=>by obtain⟨c,a,rfl,n,r⟩:=y;exact⟨c,(r.less λb m=>aY _ m).rep λm=>((l.kp k) a m).elim λo e=>gone e n,a,rfl,n⟩
theorem CU.ef(x:CU A G X B e t)(l:bJ X B):EF A G X B e t:=x.em.ef l
noncomputable def mV(A:aF)(j:dW)(G:aN)(B:aA)(i:Gm)(q:List aS)(b:Bool):Prop:=∀C a Y h,CX Y h (dN j a C G) i->Kp B h->TS A (dN j a C G) h q b
noncomputable def xQ(A:aF)(j:dW)(G:aN)(B:aA)(i:Gm)(e:aS)(t:T):Prop:=∀C a Y h,CX Y h (dN j a C G) i->Kp B h->EV A (dN j a C G) Y h e t
noncomputable def pB(A:aF)(j:dW)(G:aN)(X:List ah)(B:aA)(i:Gm)(e:aS)(t:T):Prop:=∀C a Y h,CX Y h (dN j a C G) i->(∀x∈X,x∈Y)->Kp B h->EV A (dN j a C G) Y h e t
theorem CU.lists{L:Type}{l Z u:aS}{q:List aS}{e:List Nq}{j:dW}{R:aR}{t:List L}{J:L->T}{p:L->Bool}{g:L->List T}{n:L->Gm}{f:ah->aN->bg Fin->bg Fin}(c:CX X B G P)(M:jb j G=af)(hi:IT A G X B u Z (t.map J))(r:∀I D d,oB (.ListComp l (⟨Z,u,q,0⟩::e) j R) 0 (.ref I) (.ref D) d=oH Z u q (.ref I) d (f D d) (.compLoop (.ListComp l (⟨Z,u,q,0⟩::e) j R) 0 (.ref I) (.ref D) d))(F:∀a∈t,TG A j G Z (J a) (dU j G P) (n a))(o:∀a∈t,mV A j G B (n a) q (p a))(H:∀b,Kp B b->∀C v V D,Spot j G [] b C v V D->∀a∈t,p a=af->Out A (dN j v C G) b [] V (D::(V++X)) D (aL λ_ _=>True) xP (n a) (f D (dN j v C G)) (g a))(S:xP (fl p g t))(hs:∀x,g7 u G x=pure x):CU A G X B (.ListComp l (⟨Z,u,q,0⟩::e) j R) (.list (fl p g t)):=⟨_,.list,λs use Q E k N=>by exact Av (PP:=[]) (λ_ m=>absurd m b9) (λ_ m=>absurd m b9) (aL.ok (λ_ _ _ _ _ i=>i) λ_ _ _ _ i=>i) (c.kp k) M .list (λU z w=>hi U z (k.trans w)) rfl r Ah (λh=>cE _ rfl) (λh Y _ _=>⟨⟨#[],⟨0,cE _ rfl⟩,trivial⟩,trivial⟩) F (λa m C v Y h c' k'=>o a m C v Y h c' (k.trans k'.nil)) (H _ k) S (λD C s' m W hD hC hn y K=>N D C s' m W.nil hD hC hn y K.1) hs⟩
theorem CU.yy{L:Type}{l Z u:aS}{q:List aS}{j:dW}{R:aR}{t:List L}{kf:L->T}{p:L->Bool}{f:L->T}{cU:L->Gm}(c:CX X B G P)(H:jb j G=af)(e:IT A G X B u Z (t.map kf))(b:∀a∈t,TG A j G Z (kf a) (dU j G P) (cU a))(i:∀a∈t,mV A j G B (cU a) q (p a))(s:∀a∈t,p a=af->pB A j G X B (cU a) l (f a))(I:t.length<=100000)(W:autoParam (∀x,g7 u G x=pure x) yAI):CU A G X B (.ListComp l [⟨Z,u,q,0⟩] j R) (.list ((t.filter p).map f)):=by refine aQ qY ?_;refine CU.lists c H e (λ_ _ _=>D6) b i (λd k C F V D S a m Q=>.ev (λY h M J w=>s a m Q C F Y h M (λx m=>J x (aY _ (cJ _ m))) (k.trans w)) (aP ..) (S.off D (aP ..))) ?_ W;exact O qY (aZ (by rw[aH];exact nM ..) I)
end
theorem yp{L N:Type}{f:L->List N}{n:Nat}:∀{l:List L},(∀a∈l,(f a).length<=n)->(l.flatMap f).length<=l.length*n|[],_=>by simp|a::l,h=>by exact O zZ (O cK (O fC (O (Nat.add_mul ..) (O (yw ..) (O (jm ..) (mE (yp λb m=>h b (aY _ m)) (h a (aP ..))))))))
theorem Dj{L N:Type}{f:L->N}{p:L->Bool}{l:List L}:((l.filter p).map f).length<=l.length:=by exact O (aH ..) (nM ..)
section
variable{A:aF}{G:aN}{X:List ah}{B:aA}{P:Gm}
theorem FL{L N:Type}{p:L->Bool}{g:L->List N}{n:Nat}{l:List L}(h:∀a∈l,(g a).length<=n):(fl p g l).length<=l.length*n:=yp λa m=>by
 split;.exact h a m
 .exact jo _
theorem aL.wide{h:aA}(y:∀a∈q,h.get? a=ak\/a∈Y)(a:aL (λ_ _=>True) D l Y h):aL (λ_ _=>True) D l q h:=⟨a.1.imp λxs x=>⟨x.1,ay.wide y _ _ x.2⟩,trivial⟩
theorem aL.mk:xe [] (aL λ_ _=>True) xP:=aL.ok (λ_ _ _ _ _ i=>i) λ_ _ _ _ i=>i
theorem Cr{a:ah}{D:ah}{V X Y:List ah}(h:∀a∈D::(V++X),a∈Y):∀a∈X,a∈Y:=λa m=>h a (aY _ (cJ _ m))
theorem Iw:∀a∈D::V,a∈D::(V++X):=λa m=>(bA.mp m).elim (λe=>e▸aP ..) λm=>aY _ (bI _ m)
noncomputable def aD{K:Type}[DecidableEq K](s:KeyKind PW w K)(D:ah)(l:List (K×T))(Y:List ah)(h:aA):Prop:=(D==eo)=av/\∃W,h.DictOf s D ((l.map (·.1)).zip W)/\W.length=l.length/\ay Y h (l.map (·.2)) W
noncomputable def R2{K:Type}(l:List (K×T)):Prop:=l.length<=100000/\(l.map (·.1)).Nodup
theorem NX{K L:Type}[DecidableEq K]{s:KeyKind PW w K}{D:ah}{b:List L}{g:L->K}{f:L->T}{l:List (K×T)}{Y:List ah}{h:aA}(e:l=b.map λa=>(g a,f a))(a:aD s D l Y h):(D==eo)=av/\∃W,h.DictOf s D ((b.map g).zip W)/\W.length=(b.map g).length/\ay Y h (b.map f) W:=by subst e;obtain⟨m,W,p,q,r⟩:=a;rw[bO]at p r;exact⟨m,W,p,q.trans ((aH ..).trans (aH ..).symm),r⟩
theorem aD.mk{K:Type}[DecidableEq K]{knd:KeyKind PW w K}:xe [] (aD knd) R2 where kp k b a:=⟨a.1,a.2.imp λW x=>⟨x.1.at (b _ (aP ..)),x.2.1,ay.kp k _ _ x.2.2⟩⟩;less y a:=⟨a.1,a.2.imp λW x=>⟨x.1,x.2.1,ay.less y _ _ x.2.2⟩⟩;pre h:=⟨aZ (by exact O cK (e7 ..)) h.1,by have:=h.2;rw[fY]at this;exact(nQ.mp this).1⟩
theorem Out.ze{K:Type}[DecidableEq K]{s:KeyKind PW w K}{kx vx:aS}{D:ah}{V:List ah}{x:K}{N t:T}(d:∀Y h v,Rep Y h N v->s.is x v=af)(hx:∀Y h,CX Y h G P->(∀a∈X,a∈Y)->Kp B h->EV A G Y h kx N)(he:∀Y h,CX Y h G P->(∀a∈X,a∈Y)->Kp B h->EV A G Y h vx t)(hD:D∈X)(ho:D∉V/\D∉aK G):Out A G B [] V X D (aD s) R2 P (Mine.ze kx vx D G) [(x,t)]:=λl Y U E k Q ok L c kk ac hk=>by
 unfold Mine.ze;refine ao (ao (aB (hx Y _ c L kk.nil U E λ_ _ e=>e) (λkv J y=>?_) λ_ _ e=>e));refine aV y λM r2=>?_;refine ao (dH (aB (he Y _ c L kk.nil J E M.kp) (λH j y=>?_) λ_ _ e=>e));refine aV y λR r3=>?_;obtain⟨sm,W,p,e,rl⟩:=ac;refine aV ok λi S=>?_;rw[cK]at i;rw[fY]at S;have I:Kp U.heap j.heap:=M.kp.trans R.kp;have el:(l.map (·.1)).length=W.length:=by exact O (aH ..) (O e rfl)
 have C:Ck ((l.map (·.1)).zip W) x H=((l++[(x,t)]).map (·.1)).zip (W++[H]):=by
  unfold Ck;rw[if_neg,fY,Kv el];.rfl
  .intro q;rw[vX]at q;refine aG q λu m q=>?_;obtain⟨y,z⟩:=u;simp only[decide_eq_true_eq]at q;exact(nQ.mp S).2.2 x (q▸(Ab m).1) x (aP ..) rfl
 refine ao (cV (dH (wpAny_dictSet_pairs (hsz:=O dJ (O gP (BX (iW (nR i) e)))) (d _ _ _ r2) (p.at λo e=>I _ _ e) λh' F sb=>?_)));rw[C]at F;have r:bf [D] j.heap h':=λb o n e=>(sb.2 b λq=>n (q▸aP ..)).trans e;have f:∀a∈[D],a=D:=λa=>aW.mp;have g:∀a∈[D],a∈Y:=λa m=>f a m▸L D hD;have Z:bf Y j.heap h':=r.mono g;have c2:=c.kp I;refine hk _ ((br.of (M.trans R)).trans ⟨r.mono λa m=>f a m▸aP ..,rfl⟩) ?_ ⟨sm,W++[H],F,by refine O cK (O cK (O e ?_));rfl,?_⟩;.exact c2.dK r (λa m n=>ho.2 (f a n▸m)) g (c2.live.dK r λa m=>f a m▸F.imp λ_⟨_,_,e,_⟩=>e)
 .exact O fY (ay.append (ay.kp Z _ _ (ay.kp (I.bL _) _ _ rl)) ⟨Rep.kp Z _ _ r3,trivial⟩)
theorem CU.O8{L K:Type}[DecidableEq K]{knd:KeyKind PW w K}{tk:K->T}{kx vx Z u:aS}{q:List aS}{j:dW}{R:aR}{t:List L}{kf:L->T}{p:L->Bool}{g:L->K}{f:L->T}{b:L->Gm}{r:T}(d:∀x Y h v,Rep Y h (tk x) v->knd.is x v=af)(hr:∀D l Y h,l=(t.filter p).map (λa=>(g a,f a))->aD knd D l Y h->fz Y D h r)(c:CX X B G P)(ok:jb j G=af)(hi:IT A G X B u Z (t.map kf))(W:∀a∈t,TG A j G Z (kf a) (dU j G P) (b a))(i:∀a∈t,mV A j G B (b a) q (p a))(hk:∀a∈t,p a=af->xQ A j G B (b a) kx (tk (g a)))(n:∀a∈t,p a=af->pB A j G X B (b a) vx (f a))(I:((t.filter p).map g).Nodup)(hz:t.length<=100000)(hsm:∃o,B.get? eo=aa o)(hs:∀x,g7 u G x=pure x):CU A G X B (.DictComp kx vx [⟨Z,u,q,0⟩] j R) r:=⟨_,.dict,λs use Q E k N=>by
refine Av (PP:=[]) (g:=λa=>[(g a,f a)]) (λ_ m=>absurd m b9) (λ_ m=>absurd m b9) (aD.mk (knd:=knd)) (c.kp k) ok .dict (λU z y=>hi U z (k.trans y)) rfl (λ_ _ _=>Wf) DJ (λh=>cE _ rfl) (λh Y kh _=>⟨?_,[],by simpa using Dl h,rfl,trivial⟩) W (λa m C H Y h M F=>i a m C H Y h M (k.trans F.nil)) (λC H V D S a m hp=>.ze (d (g a)) (λY h M hY F=>hk a m hp C H Y h M (k.trans F)) (λY h M hY F=>n a m hp C H Y h M (Cr (a:=0) hY) (k.trans F)) (aP ..) (S.off D (aP ..))) ?_ (λD C s' m ks hD hC hn J ac=>N D C s' m ks.nil hD hC hn J (hr D _ _ _ qY ac)) hs;.refine aC hsm λo ho=>?_;have:=dQ (kh _ _ (k _ _ ho));exact beq_eq_false_iff_ne.mpr λe=>by rw[e]at this;exact v8 _ this
.refine O qY ?_;exact⟨aZ Dj hz,by exact O bO I⟩⟩
end
noncomputable abbrev isNm(Z:aS):Prop:=tZ Z=λ_ _=>pure ()
noncomputable abbrev B4(Z:aS):Prop:=tZ Z=tZ (.Tuple [] 0 default)
section
variable{A:aF}
theorem Lk(h:isNm b)(a v:aj):tZ b a v=pure ():=congrFun (congrFun h a) v
theorem ay.get{Y:List ah}{h:aA}{F:List T}{K:List aj}(r:ay Y h F K){i:Nat}{t:T}{v:aj}(c:F[i]?=aa t)(a:K[i]?=aa v):Rep Y h t v:=by refine aG (r.at c) λq e f=>?_;replace e:=a▸e;cases e;exact f
theorem gz.ofWalks{Z:aS}{I:ah}{S z Y:List ah}{n:Nat}{P:Nat->aj->Prop}{p:Nat->aA->Prop}{Q:List T}(d:aA->Prop)(f:isNm Z)(W:Walks PW w A I S z n P p)(K:n=Q.length)(a:∀h h',d h->bf Y h h'->d h')(X:∀i v t h,P i v->Q[i]?=aa t->d h->Rep Y h t v)(V:∀i h,p i h->∀b∈z,∃o,h.get? b=aa o)(C:∀b∈z,b∈Y):gz A I S z Y Z Q λi h=>p i h/\d h where
sub:=W.sub;frame:=λi h h' M k U=>⟨W.frame i h h' M.1 k,a h h' M.2 U⟩;up:=λi h M=>V i h M.1;item:=λi t s E c M l=>by
 have F:i<n:=by
  refine O K ?_;refine bw (yt i Q.length) (λg=>?_) λg=>?_;.exact g
  .exact gone c (pH g)
 refine W.item i s _ E F M.1 λv h' G j st' k=>⟨v,rfl,?_⟩;rw[Lk f];have U:bf z s.heap h':=λb o n e=>k b o n e;exact aM ⟨⟨U,rfl⟩,⟨st',a _ _ M.2 (U.mono C)⟩,X i v t _ j c (a _ _ M.2 (U.mono C))⟩
done:=λs E M=>W.done s _ E (K▸M.1) λh' G k=>⟨rfl,λb o n e=>k b o n e,rfl⟩;self:=λi s E M=>W.self i s _ E M.1 ⟨rfl,rfl⟩
theorem gz.AE{D:List aS}{G:Nat}{N:aR}{I:ah}{S z Y:List ah}{n:Nat}{P:Nat->Array aj->Prop}{p:Nat->aA->Prop}{B:Nat->ah->aA->Prop}{Q:List T}(d:aA->Prop)(W:WalksT PW w A I S z n P p B)(K:n=Q.length)(a:∀h h',d h->bf Y h h'->d h')(X:∀i v t h,P i v->Q[i]?=aa t->d h->∃F,t=.tup F/\ay Y h F v.toList)(V:∀i h,p i h->∀b∈z,∃o,h.get? b=aa o)(C:∀b∈z,b∈Y):gz A I S z Y (.Tuple D G N) Q λi h=>p i h/\d h where
sub:=W.sub;frame:=λi h h' M k U=>⟨W.frame i h h' M.1 k,a h h' M.2 U⟩;up:=λi h M=>V i h M.1;item:=λi t s E H M l=>by
 have hi:i<n:=by
  refine O K ?_;refine bw (yt i Q.length) (λg=>?_) λg=>?_;.exact g
  .exact gone H (pH g)
 refine W.item i s _ E hi M.1 λL J h' Z hp f hT j k=>⟨.ref L,rfl,?_⟩;have U:bf z s.heap h':=λb o n e=>k b o n e;refine W.go D G N i L _ _ E j λR q c=>?_;have x:bf z h' R:=λb o n e=>c b o n e;have y:d R:=a _ _ (a _ _ M.2 (U.mono C)) (x.mono C);refine⟨⟨U.trans x,rfl⟩,⟨q,y⟩,?_⟩;refine aG (X i J t _ hp H y) λF u r=>?_;subst u;refine⟨L,J,rfl,λm=>?_,hT.at λo e=>c L o (W.apart i L _ j) e,r⟩;refine aC (l L m) λo e=>?_;exact rX.mpr f (dQ e)
done:=λs E M=>W.done s _ E (K▸M.1) λh' Z k=>⟨rfl,λb o n e=>k b o n e,rfl⟩;self:=λi s E M=>W.self i s _ E M.1 ⟨rfl,rfl⟩
theorem letGo_listiter(f:isNm a\/B4 a){s:aq}(P:s.heap.IsListIter I l i)(X:Q () s):au (az PW w) A (tZ a (.ref I) v) Q E s:=by
 refine bw f (λh=>?_) λh=>?_;.rw[Lk h];exact aM X
 .refine O h ?_;cases v<;>first|exact wpAny_letOwnedTupleGo_listiter P X|(unfold tZ;exact aM X)
theorem gz.list(d:A.handled=ak){Z:aS}(f:isNm Z\/B4 Z){I y:ah}(S:y≠I){xs:Array aj}{Q:List T}{Y:List ah}(u:I∈Y)(V:xs.size=Q.length):gz A I [I,y] [I] Y Z Q λi h=>(h.IsListIter I y i/\h.IsList y xs)/\ay Y h Q xs.toList where
sub:=(Nr (prog:=PW) (w:=w) d I y S xs).sub;frame:=λi h h' M k U=>⟨(Nr (prog:=PW) (w:=w) d I y S xs).frame i h h' M.1 k,Mine.ay.kp U _ _ M.2⟩;up:=λi h M b m=>by replace m:=aW.mp m;subst m;refine aG M.1.1 λo j _=>?_;exact⟨o,j⟩
item:=λi t s E g M l=>by refine aG (M.2.at g) λv K _=>?_;replace K:=gM▸K;refine YU M.1.1 M.1.2 K λh' x a=>⟨v,rfl,letGo_listiter f x ?_⟩;have U:bf [I] s.heap h':=λb o n e=>a.extBut b o (λq=>n (by exact O q (aP ..))) e;have z:bf Y s.heap h':=U.mono (one u);have c:=Mine.ay.kp z _ _ M.2;exact⟨⟨U,rfl⟩,⟨⟨x,M.1.2.extBut a.extBut S⟩,c⟩,c.get g (by exact O gM K)⟩
done:=λs E M=>(Nr (prog:=PW) (w:=w) d I y S xs).done s _ E (by exact O V M.1) λh' G k=>⟨rfl,λb o n e=>k b o n e,rfl⟩;self:=λi s E M=>wpAny_pyIter_listiter M.1.1 ⟨rfl,rfl⟩
theorem om{X Y b:List ah}{h h':aA}{F:List T}{K:List aj}(k:Kp h h')(J:∀a∈Y,h'.get? a=ak\/a∈X\/a∈b)(C:∀a∈b,h.get? a=ak)(r:ay X h F K):ay Y h' F K:=ay.map (λa o n e=>⟨λm=>(J a m).elim (λz=>gone (k a o e) z) λz=>z.elim n λz=>gone e (C a z),k a o e⟩) r
theorem jG.two{B h:aA}(P:bJ X B)(u:B.get? I=ak)(b:∃o,h.get? I=aa o)(d:∃o,h.get? D=aa o)(n:D∉X)(M:∀Y,(∀a∈Y,h.get? a=ak\/a∈X\/a∈[I])->(∀a∈[I],a∈Y)->∃p,gz A I [I,D] [I] Y c Q p/\p 0 h):jG A X B h I [I,D] [I] c Q:=⟨both b (one d),both (λm=>(P I m).elim λo e=>gone e u) (one n),one u,one (aP ..),M⟩
theorem Tr(d:A.handled=ak){Z:aS}(f:isNm Z\/B4 Z){X:List ah}{s:aq}{E:aj->aq->Prop}{v:aj}{F:List T}(P:bJ X s.heap)(r:Rep X s.heap (.list F) v):au (az PW w) A (sM v) (λv J=>Ks s J/\∃I S z,v=.ref I/\jG A X s.heap J.heap I S z Z F) E s:=by refine cH r.d8 λy xs u n p R=>?_;subst u;refine z7 p.isList ⟨.push ..,s.heap.objs.size,[s.heap.objs.size,y],[s.heap.objs.size],rfl,?_⟩;refine aC p λq B=>?_;have K:s.heap.get? s.heap.objs.size=ak:=get?_none_of_le (cQ _);have k:Kp s.heap (s.heap.push {cls:=.type "list_iterator",data:=.fields #[.ref y,.int 0 0]}):=λb o e=>bX _ e;exact .two P K ⟨_,cE _ rfl⟩ ⟨_,k _ _ B⟩ n λY a C=>⟨_,gz.list d f (bS (dQ B)) (C _ (aP ..)) R.length,⟨⟨_,cE _ rfl,rfl,rfl⟩,⟨_,k _ _ B,rfl,q,rfl⟩⟩,om k a (one K) R⟩
theorem jG.mono(i:jG A X h₁ h I c z a Q)(k:Kp B h₁):jG A X B h I c z a Q:=⟨i.up,i.off,λb m=>g9 k (i.new b m),i.sub,i.st⟩
variable{G:aN}{X:List ah}{B:aA}
theorem IT.list(d:A.handled=ak)(f:isNm a\/B4 a)(l:bJ X B)(h:EV A G X B iter (.list ts)):IT A G X B iter a ts:=λs E k=>aB (h s E k) (λv U x=>aB (Tr d f ((l.kp k).kp x.1.kp) x.2) (λv J y=>by obtain⟨M,I,S,z,rfl,i⟩:=y;exact⟨x.1.trans M,I,S,z,rfl,i.mono x.1.kp⟩) λ_ _ e=>e) λ_ _ e=>e
noncomputable def IC(A:aF)(X:List ah)(B:aA)(f:aj)(F:List T)(Z:aS)(Q:List T):Prop:=∀(s:aq)(E:aj->aq->Prop)(K:List aj),Kp B s.heap->ay X s.heap F K->au (az PW w) A (dO f K []) (λx U=>au (az PW w) A (sM x) (λv J=>Ks s J/\∃I S z,v=.ref I/\jG A X s.heap J.heap I S z Z Q) E U) E s
theorem IT.cP(o:EV A G X B (.Name x b) (.aI f))(K:za f=pure .machine)(V:EL A G X B a (e::D) n)(m:IC A X B f n d its)(hs:autoParam (bh (e::D) G=(av,aT e G)::bh D G) yAR)(p:autoParam ((cM a (bh D G)).any (·.1)=av) yAR):IT A G X B (.Call (.Name x b) (e::D) [] a) d its:=λs E k=>by show au _ _ (do mP a (<-aT (.Name x b) G) [] (cM a (bh (e::D) G)) (oA a (n9 [] G))) _ _ _;refine ao (aB (o s E k) (λv U x=>?_) λ_ _ e=>e);obtain rfl:=x.2.cR;have M:=V U E (k.trans x.1.kp);rw[hs]at M⊢;refine mz K (by show(av||(cM a (bh D G)).any (·.1))=av;refine O p ?_;rfl) (mZ (aB M (λq J y=>?_) λ_ _ e=>e));refine aB (m J E q (k.trans (x.1.trans y.1).kp) y.2) (λc j z=>aB z (λv g z=>?_) λ_ _ e=>e) λ_ _ e=>e;obtain⟨h,I,S,l,rfl,i⟩:=z;exact⟨(x.1.trans y.1).trans h,I,S,l,rfl,i.mono (x.1.trans y.1).kp⟩
end
theorem bJ.above{h:aA}(l:bJ X h)(k:h.objs.size<=a):a∉X:=λm=>by refine aC (l a m) λo e=>?_;exact gone e (get?_none_of_le k)
section
variable{A:aF}{X:List ah}{h₀:aA}{G:aN}
noncomputable def pC(a c:Int)(n:Nat):List T:=(gc n).map λi:Nat=>.int (a+(i:Int)*c)
theorem ZF{a c:Int}{n i:Nat}{t:T}(h:(pC a c n)[i]?=aa t):t=.int (a+(i:Int)*c):=by
 unfold pC at h;rw[eS]at h;refine bw (yt i n) (λg=>?_) λg=>?_;.rw[List.getElem?_range g]at h;simpa using h.symm
 .rw[pH (by simpa using g)]at h;cases h
theorem C3(g:A.handled=ak){Z:aS}(f:isNm Z){s:aq}{E:aj->aq->Prop}{r:ah}{a b c:Int}{t u v:mj}{n:Nat}(P:bJ X s.heap)(D:IsRange s.heap r a b c t u v)(W:Jj a b c=af)(K:pF a b c=n):au (az PW w) A (sM (.ref r)) (λv J=>Ks s J/\∃I S z,v=.ref I/\jG A X s.heap J.heap I S z Z (pC a c n)) E s:=by refine wpAny_pyIter_range D W ⟨.push ..,s.heap.objs.size,[s.heap.objs.size],[s.heap.objs.size],rfl,?_⟩;refine⟨one ⟨_,cE _ rfl⟩,one P.new,one (get?_none_of_le (cQ _)),λb m=>m,λY k C=>⟨_,gz.ofWalks (λ_=>True) f (Walks.range g s.heap.objs.size a c n) (by simp[pC]) (λ_ _ _ _=>trivial) (λi v t h q d _=>q.elim λj e=>(ZF d).symm▸e.symm▸.fO _ _) (λi h M=>one ⟨_,M⟩) C,?_,trivial⟩⟩;have:=cE s.heap (o:={cls:=.type "range_iterator",data:=.fields #[e9 a,e9 (pF a b c),e9 c]}) rfl;show IsRangeIter _ _ (a+((0:Nat):Int)*c) ((n:Int)-((0:Nat):Int)) c;exact O (show a+((0:Nat):Int)*c=a by simp) (O (show(n:Int)-((0:Nat):Int)=pF a b c by rw[K];simp) this)
theorem IC.oJ(d:A.handled=ak){Z:aS}(f:isNm Z){n:Nat}(l:bJ X h₀)(b:n<2^60):IC A X h₀ (.type "range") [.int n] Z (pC 0 1 n):=λs E K k r=>by
 refine aC (ay.jy r) λv N=>?_;subst N;refine aC r.1.cL λt N=>?_;subst N;refine call_range_1 ?_;refine aB (C3 (X:=X) d f (n:=n) (λa m=>?_) (Mk ..) (small_one dk dk (fW (iP _)) (qx (gR.mpr b) jj)) (by
refine O (rangeSize_one ..) ?_;split;.exact Int.sub_zero _
.exact yk (iP n) (fD.mp ‹¬(0:Int)<n›))) (λv J y=>?_) λ_ _ e=>e;.refine aC ((l.kp k) a m) λo e=>?_;exact⟨o,bX _ e⟩
 .obtain⟨M,I,S,z,rfl,i⟩:=y;have V:Ks s {s with heap:=s.heap.push {cls:=.type "range",data:=.fields #[.int 0 s.toks,.int n t,.int 1 (s.toks+1)]},toks:=s.toks+1+1}:=.mk' s _ _ λ_ _ e=>bX _ e;exact⟨V.trans M,I,S,z,rfl,i.mono V.kp⟩
theorem IC.xbm(h:A.handled=ak){Z:aS}(f:isNm Z){a b:Int}{n:Nat}(l:bJ X h₀)(K:0<=a)(R:b<2^60)(d:a<2^60)(g:(n:Int)=if a<b then b-a else 0)(c:-2^60<=b):IC A X h₀ (.type "range") [.int a,.int b] Z (pC a 1 n):=λs E j k r=>by
 obtain⟨v,q,rfl⟩:=ay.nI r;obtain⟨t,rfl⟩:=r.1.cL;obtain⟨u,rfl⟩:=r.2.1.cL;refine call_range_2 ?_;refine aB (C3 (X:=X) h f (n:=n) (λa m=>?_) (Mk ..) (small_one (fW K) (eF d) (fW c) (eF R)) (by exact O (rangeSize_one ..) g.symm)) (λv J y=>?_) λ_ _ e=>e;.obtain⟨o,e⟩:=(l.kp k) a m;exact⟨o,bX _ e⟩
 .obtain⟨M,I,S,z,rfl,i⟩:=y;have V:Ks s {s with heap:=s.heap.push {cls:=.type "range",data:=.fields #[.int a t,.int b u,.int 1 s.toks]},toks:=s.toks+1}:=.mk' s _ _ λ_ _ e=>bX _ e;exact⟨V.trans M,I,S,z,rfl,i.mono V.kp⟩
theorem IC.xbn(j:A.handled=ak){Z:aS}(f:isNm Z){a b c:Int}{n:Nat}(l:bJ X h₀)(h:c≠0)(W:Jj a b c=af)(K:pF a b c=n)(Q:CP (b-a) c=av):IC A X h₀ (.type "range") [.int a,.int b,.int c] Z (pC a c n):=λs E p k r=>by
 refine iU (ay.zo r) λv q g d=>?_;subst d;refine aC r.1.cL λt d=>?_;subst d;refine aC r.2.1.cL λu d=>?_;subst d;refine aC r.2.2.1.cL λx d=>?_;subst d;refine call_range_3 h ?_ (.inl Q);refine aB (C3 (X:=X) j f (n:=n) (λa m=>?_) (Mk ..) W K) (λv J y=>?_) λ_ _ e=>e;.refine aC ((l.kp k) a m) λo e=>?_;exact⟨o,bX _ e⟩
 .obtain⟨M,I,S,z,rfl,i⟩:=y;have V:Ks s {s with heap:=s.heap.push {cls:=.type "range",data:=.fields #[.int a t,.int b u,.int c x]},toks:=s.toks}:=.mk' s _ _ λ_ _ e=>bX _ e;exact⟨V.trans M,I,S,z,rfl,i.mono V.kp⟩
noncomputable def jZ(i:Int):List T->List T|[]=>[]|t::a=>.tup [.int i,t]::jZ (i+1) a
theorem KN:∀{j:Int}{i:Nat}{t:T},(jZ j c)[i]?=aa t->∃u,c[i]?=aa u/\t=.tup [.int (j+i),u]:=by induction c with|nil=>intro j i t h;simp[jZ]at h|cons u c d=>intro j i t h;cases i with|zero=>simp only[jZ,List.getElem?_cons_zero,zX]at h;exact⟨u,rfl,by refine aQ h ?_;simp⟩|succ i=>rw[jZ,List.getElem?_cons_succ]at h;refine aG (d h) λv a b=>?_;refine⟨v,a,?_⟩;exact O b (O (show j+1+(i:Int)=j+((i+1:Nat):Int)from(nX j 1 i).trans (congrArg (j+·) (jO 1 (i:Int)))) rfl)
theorem wj{F:List T}:∀{j:Int},(jZ j F).length=F.length:=by induction F with|nil=>intro j;rfl|cons u F a=>intro j;rw[jZ,fC,fC,a]
theorem PlainList.exact{h:aA}(p:h.PlainList a xs):∃n,h.get? a=aa {cls:=.type "list",dict:=ak,data:=.seq xs n,slots:=#[]}:=p
theorem IC.enumerate(d:A.handled=ak)(l:bJ X h₀):IC A X h₀ (.type "enumerate") [.list b] (.Tuple D j N) (jZ 0 b):=λs E w k r=>by
 refine aC (ay.jy r) λv I=>?_;subst I;refine cH r.1.d8 λy xs I n p R=>?_;subst I;refine aC (PlainList.exact p) λq B=>?_;have W:=dQ B;refine call_enumerate_1 B λh' L P T V=>?_;refine xcN L ?_;have H:s.heap.get? s.heap.objs.size=ak:=get?_none_of_le (cQ _);have g:s.heap.get? (s.heap.objs.size+1)=ak:=get?_none_of_le (dM _);have K:∀a∈[s.heap.objs.size+1,s.heap.objs.size],s.heap.get? a=ak:=both (get?_none_of_le (dM _)) (one (get?_none_of_le (cQ _)));refine⟨.mk' s h' s.toks V,_,[s.heap.objs.size+1,s.heap.objs.size,y],[s.heap.objs.size+1,s.heap.objs.size],rfl,both ⟨_,L⟩ (both (P.imp λo z=>z.1) (one ⟨_,V _ _ B⟩)),both ((l.kp k).above (dM _)) (both ((l.kp k).above (cQ _)) (one n)),K,both (aP ..) (one (aY _ (aP ..))),λY J C=>⟨_,gz.AE (λh=>ay Y h b xs.toList) (WalksT.enumerate d (s.heap.objs.size+1) s.heap.objs.size y (DC _) (bS (vW W)) (bS W) xs) (R.length.trans wj.symm) (λh h' r k=>Mine.ay.kp k _ _ r) (λi v t h Q f r=>?_) (λi h M=>M.1.elim λe x=>both ⟨_,x⟩ (one (M.2.1.imp λo z=>z.1))) C,⟨⟨_,L⟩,P,⟨_,V _ _ B,rfl,q,rfl⟩⟩,om V J K R⟩⟩;refine eK Q λm x c I=>?_;try clear Q;subst I
 refine aG (KN f) λu Z I=>?_;subst I;exact⟨_,rfl,(mG (i:Int)).symm▸.fO _ _,r.get Z (by exact O gM c),trivial⟩
end
structure FS(H:List ah)(N B s:aq)(Z:List ah)(G:aN)(P:Gm)(M:List (ah×T)):Prop where
ks:Ks N s
kx:br (aK G++M.map (·.1)) B s
new:∀a∈Z,N.heap.get? a=ak
own:∀a∈aK G,a∈Z
cx:CX (Z++H) s.heap G P
acc:∀p∈M,p.1∈Z/\p.1∉aK G/\fz (Z++H) p.1 s.heap p.2
nd:(M.map (·.1)).Nodup
section
variable{A:aF}{H:List ah}{N B s S:aq}{Z:List ah}{G:aN}{d:Gm}{M:List (ah×T)}{E:aj->aq->Prop}
theorem FS.step(f:FS H N B s Z G d M)(k:Ks s S):FS H N B S Z G d M:=⟨f.ks.trans k,f.kx.trans (.of k),f.new,f.own,f.cx.kp k.kp,λp m=>⟨(f.acc p m).1,(f.acc p m).2.1,(f.acc p m).2.2.kp (k.kp.bL _) λo e=>k.kp _ _ e⟩,f.nd⟩
theorem FS.less(f:FS H N B s Z G d M)(k:∀x t,δ x=aa t->d x=aa t):FS H N B s Z G δ M:=⟨f.ks,f.kx,f.new,f.own,f.cx.less k,f.acc,f.nd⟩
theorem FS.O9(f:FS H N B s Z G d M):bJ H s.heap:=λa m=>f.cx.live a (cJ _ m)
theorem Ks.qp{N s S:aq}(k:Ks N s)(x:br Z s S)(n:∀a∈Z,N.heap.get? a=ak):Ks N S:=by refine⟨λb o e=>x.kp b o (λm=>by exact gone e (n b m)) (k.kp b o e),?_⟩;have c:=k.eq;have L:=x.eq;refine O L ?_;dsimp only;exact O c rfl
theorem FS.bind(f:FS H N B s Z G d M)(Y:G.kindOf x=aa .local\/G.kindOf x=aa .cell)(C:dg G x∈aK G)(r:Rep (Z++H) s.heap t v)(h:∀S,br (aK G) s S->FS H N B S Z G (upd d x t) M->Q () S):au (az PW w) A (kQ G x v) Q E s:=z5 f.cx Y r λS k c=>by have b:br (aK G) s S:=k.mono (one C);have g:br Z s S:=b.mono λa m=>f.own a m;refine h S b ⟨f.ks.qp g f.new,f.kx.trans (b.mono λa m=>bC.mpr (.inl m)),f.new,f.own,c,λp m=>⟨(f.acc p m).1,(f.acc p m).2.1,?_⟩,f.nd⟩;exact(f.acc p m).2.2.kp (b.kp.mono f.cx.ok.iX) λo e=>b.kp _ _ (f.acc p m).2.1 e
theorem FS.write(f:FS H N B s Z G d M)(F:M[i]?=aa (D,t))(k:br [D] s S)(r:fz (Z++H) D S.heap t'):FS H N B S Z G d (M.set i (D,t')):=by
 have g:(D,t)∈M:=eO F;have c:=f.acc _ g;have h:br Z s S:=k.mono (one c.1);have T:∀a∈[D],a∈Z++H:=one (bC.mpr (.inl c.1));have b:(M.set i (D,t')).map (·.1)=M.map (·.1):=by
  refine O wc ?_;have J:(M.map (·.1))[i]?=aa D:=by refine O eS (O F ?_);rfl
  obtain⟨V,L⟩:=rH.mp J;have:=VY V;replace this:=L▸this;exact this
 refine⟨f.ks.qp h f.new,by exact O b (f.kx.trans (k.mono (one (bC.mpr (.inr (bE.mpr ⟨_,g,rfl⟩)))))),f.new,f.own,f.cx.dK k.kp (λa m n=>?_) T (f.cx.live.dK k.kp λa m=>?_),λp m=>?_,by exact O b f.nd⟩;.replace n:=aW.mp n;exact c.2.1 (n▸m)
 .replace m:=aW.mp m;exact O m r.up
 .rcases List.getElem?_of_mem m with⟨j,Y⟩;by_cases e:i=j;.subst e;have V:i<M.length:=(rH.mp F).1;replace Y:=zR V▸Y;cases Y;exact⟨c.1,c.2.1,r⟩
  .replace Y:=C5 e▸Y;have Q:=f.acc p (eO Y);refine⟨Q.1,Q.2.1,Q.2.2.kp (k.kp.mono T) λo K=>k.kp _ _ (λn=>?_) K⟩;replace n:=aW.mp n;have C:(M.map (·.1))[i]?=aa D:=by refine O eS (O F ?_);rfl
   have J:(M.map (·.1))[j]?=aa D:=by refine O eS (O Y (aQ n ?_));rfl
   have V:i<(M.map (·.1)).length:=(rH.mp C).1;exact e ((List.getElem?_inj V f.nd).mp (C.trans J.symm))
theorem FS.B5(f:FS H N B s Z G d M)(k:Ks s S)(n:s.heap.get? D=none)(c:fz (D::(Z++H)) D S.heap t):FS H N B S (D::Z) G d ((D,t)::M):=by
 have i:N.heap.get? D=none:=by cases q:N.heap.get? D with|none=>rfl|some z=>rw[f.ks.kp D z q]at n;cases n
 have K:D∉Z:=λm=>by refine aC (f.cx.live D (bI _ m)) λo e=>?_;exact gone e n
 have h:∀a∈D::(Z++H),s.heap.get? a=none\/a∈Z++H:=λa m=>(bA.mp m).elim (λe=>.inl (by exact O e n)) .inr;have g:∀{P:ah}{u:T},fz (Z++H) P s.heap u->fz (D::(Z++H)) P S.heap u:=by intro P u c;cases u with|list l=>refine aG c λxs F r=>?_;exact⟨xs,F.at λo e=>k.kp _ _ e,Mine.ay.kp (k.kp.bL _) _ _ (Mine.ay.wide h _ _ r)⟩|dS a b=>obtain⟨z,W,F,e,r⟩:=c;exact⟨z,W,F.at λo e=>k.kp _ _ e,e,Mine.ay.kp (k.kp.bL _) _ _ (Mine.ay.wide h _ _ r)⟩|dI a b=>obtain⟨z,W,F,e,r⟩:=c;exact⟨z,W,F.at λo e=>k.kp _ _ e,e,Mine.ay.kp (k.kp.bL _) _ _ (Mine.ay.wide h _ _ r)⟩|_=>exact c.elim
 refine⟨f.ks.trans k,(f.kx.trans (.of k)).mono λa m=>(bC.mp m).elim (λm=>bI _ m) λm=>cJ _ (by exact O f6 (aY _ m)),λa m=>(bA.mp m).elim (λe=>by exact O e i) (f.new a),λa m=>aY _ (f.own a m),?_,λp m=>?_,?_⟩;.exact f.cx.widen (Y:=[D]) k.kp (one n) (one c.up)
 .rcases bA.mp m with rfl|m;.exact⟨aP ..,λq=>K (f.own _ q),c⟩
  .exact⟨aY _ (f.acc p m).1,(f.acc p m).2.1,g (f.acc p m).2.2⟩
 .refine O f6 ?_;refine mC.mpr ⟨λq=>?_,f.nd⟩;refine aG (bE.mp q) λp m e=>?_;have C:=(f.acc p m).1;have U:p.1=D:=e;rw[U]at C;exact K C
theorem EM.nil{pos}:EM A G X a (.List [] pos) (.list []):=λs E k=>by show au _ _ (do fL pos;uH (<-fN (cM pos (bh [] G)))) _ _ _;refine ao (cV (ao (rV (Ah _ _ _ ⟨.push ..,_,rfl,get?_none_of_le (cQ _),#[],⟨0,cE _ rfl⟩,trivial⟩))))
theorem EF.em(x:EF A G X c e (.list g))(f:∀t∈g,Mine.flat t=af):EM A G X c e (.list g):=λs E k=>aB (x s E k) (λv S h=>by obtain⟨y,r,a,rfl,n⟩:=h;refine cH r.d8 λb xs e i p q=>?_;cases e;exact⟨y,a,rfl,n,xs,p,ay.flat f q⟩) λ_ _ e=>e
theorem FS.set{x:ai}{e:aS}{c R:aR}{t:T}{Q:ek->aq->Prop}(f:FS H N B s Z G d M)(Y:G.kindOf x=aa .local\/G.kindOf x=aa .cell)(C:dg G x∈aK G)(L:EV A G (Z++H) s.heap e t)(X:∀S,br (aK G) s S->FS H N B S Z G (upd d x t) M->Q .next S)(W:autoParam (lJ e (aa (.Name x c)) R.line G=pure av) yAR):au (az PW w) A (dY (.Assign [.Name x c] e R) G) Q E s:=by rw[Ac G x c e R W];refine ao (cV (ao (aB (L s E λ_ _ e=>e) (λv U y=>?_) λ_ _ e=>e)));exact ao (cV (ao ((f.step y.1).bind Y C y.2 λS k h=>aM (X S ((br.of y.1).trans k) h))))
theorem FS.NY{c R:aR}(f:FS H N B s Z G d M)(Y:G.kindOf x=aa .local\/G.kindOf x=aa .cell)(C:dg G x∈aK G)(L:EM A G (Z++H) s.heap e t)(X:∀D S,FS H N B S (D::Z) G (upd d x (.aI (.ref D))) ((D,t)::M)->Q .next S)(W:autoParam (lJ e (aa (.Name x c)) R.line G=pure av) yAR):au (az PW w) A (dY (.Assign [.Name x c] e R) G) Q E s:=by refine O (Ac G x c e R W) ?_;refine ao (cV (ao (aB (L s E λ_ _ e=>e) (λv U y=>?_) λ_ _ e=>e)));obtain⟨k,D,rfl,n,r⟩:=y;exact ao (cV (ao ((f.B5 k n r).bind Y C (.ie _) λS _ h=>aM (X D S h))))
theorem CX.shrink(c:CX i h G d)(k:bf Y h h')(w:∀a∈Y,a∈i)(g:∀a∈aK G,a∉Y)(f:∀a∈X,a∈i)(b:∀a∈aK G,a∈X)(l:bJ X h'):CX X h' G d:=⟨⟨c.ok.fn,(c.ok.dK k g).ns,b _ (aP ..),λm=>c.ok.eN (f _ m),λm=>c.ok.blt (f _ m),(c.ok.dK k g).cell,λx j m=>b _ (aY _ (bE.mpr ⟨(x,j),m,rfl⟩)),c.ok.apart,c.ok.off⟩,l,⟨c.eZ.1.imp λ_ e=>k _ _ (λm=>c.ok.eN (w _ m)) e,c.eZ.2.imp λ_ e=>k _ _ (λm=>c.ok.blt (w _ m)) e⟩,λx t e=>let⟨v,r,n⟩:=c.val x t e;⟨v,Rep.less f t v (Rep.kp (k.mono w) t v r),n.dK k c.ok g w⟩⟩
end
section
variable{A:aF}{H:List ah}{g B s S:aq}{Z:List ah}{G:aN}{F K:Gm}{M:List (ah×T)}{E:aj->aq->Prop}
theorem bY{a:cZ}{u:List cZ}{Q:ek->aq->Prop}(h:au (az PW w) A (dY a G) (λf S=>f=.next/\au (az PW w) A (b8 u G) Q E S) E s):au (az PW w) A (b8 (a::u) G) Q E s:=nV (aB h (λf S x=>by obtain⟨rfl,x⟩:=x;exact x) λ_ _ e=>e)
theorem di{a:cZ}{Q:ek->aq->Prop}(h:au (az PW w) A (dY a G) Q E s):au (az PW w) A (b8 [a] G) Q E s:=nV (aB h (λf S x=>by cases f<;>first|exact x|exact iA x) λ_ _ e=>e)
theorem fz.NZ{h h':aA}(k:Kp h h')(i:∀a∈Y,h.get? a=ak):∀{t:T},fz X D h t->fz (Y++X) D h' t:=by have f:∀a∈Y++X,h.get? a=ak\/a∈X:=λa m=>(bC.mp m).elim (λm=>.inl (i a m)) .inr;intro t d;cases t with|list l=>refine aG d λxs c r=>?_;exact⟨xs,c.at λo e=>k _ _ e,Mine.ay.kp (k.bL _) _ _ (Mine.ay.wide f _ _ r)⟩|dS a b=>obtain⟨z,W,c,e,r⟩:=d;exact⟨z,W,c.at λo e=>k _ _ e,e,Mine.ay.kp (k.bL _) _ _ (Mine.ay.wide f _ _ r)⟩|dI a b=>obtain⟨z,W,c,e,r⟩:=d;exact⟨z,W,c.at λo e=>k _ _ e,e,Mine.ay.kp (k.bL _) _ _ (Mine.ay.wide f _ _ r)⟩|_=>exact d.elim
theorem br.R3{a b c:aq}(x:br V a b)(k:br Y b c)(n:∀p∈Y,a.heap.get? p=ak):br V a c:=by refine⟨λp o d e=>k.kp p o (λm=>by exact gone e (n p m)) (x.kp p o d e),?_⟩;have f:=x.eq;have L:=k.eq;refine O L ?_;dsimp only;exact O f rfl
theorem FS.B6(f:FS H g B s Z G F M)(n:s.heap.get? a=none):B.heap.get? a=none:=by cases q:B.heap.get? a with|none=>rfl|some z=>
by_cases b:a∈aK G++M.map (·.1)
.have:∃o,s.heap.get? a=some o:=by
  refine bw (bC.mp b) (λC=>?_) λC=>?_;.exact f.cx.live a (f.cx.ok.iX a C)
  .refine aG (bE.mp C) λp Q t=>?_;have i:p.1=a:=t;exact aQ i (f.acc p Q).2.2.up
 refine aC this λo e=>?_;exact gone e n
.have:=f.kx.kp a z b q;exact gone this n
theorem FS.rebase(f:FS H g B s Z G F M):FS H g s s Z G F M:=⟨f.ks,.refl _ s,f.new,f.own,f.cx,f.acc,f.nd⟩
theorem FS.B7{a:List (ah×T)}(f:FS H g B s Z G F M)(h:FS H g s S Z G b a)(e:a.map (·.1)=M.map (·.1)):FS H g B S Z G b a:=⟨h.ks,by have:=h.kx;rw[e]at this⊢;exact f.kx.trans this,h.new,h.own,h.cx,h.acc,h.nd⟩
theorem FS.Bf(f:FS H g B s Z G F M)(k:Ks s S)(b:∀a∈Y,s.heap.get? a=ak)(i:∀a∈Y,∃o,S.heap.get? a=aa o):FS H g B S (Y++Z) G F M:=by
 refine⟨f.ks.trans k,f.kx.trans (.of k),λa m=>(bC.mp m).elim (λm=>g9 f.ks.kp (b a m)) (f.new a),λa m=>cJ _ (f.own a m),?_,λp m=>⟨cJ _ (f.acc p m).1,(f.acc p m).2.1,?_⟩,f.nd⟩;.exact O (fT ..) (f.cx.widen k.kp b i)
 .exact O (fT ..) ((f.acc p m).2.2.NZ k.kp b)
theorem FS.GG(f:FS H g B s Z G F M)(W:∀a∈Z',a∈Z)(b:∀a∈aK G,a∈Z')(I:∀p∈M,p.1∈Z'):FS H g B s Z' G F M:=by have T:∀a∈Z'++H,a∈Z++H:=λa m=>(bC.mp m).elim (λm=>bI _ (W a m)) λm=>cJ _ m;exact⟨f.ks,f.kx,λa m=>f.new a (W a m),b,f.cx.narrow T (λa m=>bI _ (b a m)) λa m=>f.cx.live a (T a m),λp m=>⟨I p m,(f.acc p m).2.1,(f.acc p m).2.2.less T⟩,f.nd⟩
theorem FS.other(f:FS H g B s Z G F M)(k:br Y s S)(J:∀a∈Y,a∈Z)(b:∀a∈aK G,a∉Y)(I:∀p∈M,p.1∉Y)(i:∀a∈Y,∃o,S.heap.get? a=aa o)(R:∀a∈Y,B.heap.get? a=ak):FS H g B S Z G F M:=by have T:∀a∈Y,a∈Z++H:=λa m=>bI _ (J a m);exact⟨f.ks.qp k λa m=>f.new a (J a m),f.kx.R3 k R,f.new,f.own,f.cx.dK k.kp b T (f.cx.live.dK k.kp i),λp m=>⟨(f.acc p m).1,(f.acc p m).2.1,(f.acc p m).2.2.kp (k.kp.mono T) λo e=>k.kp _ _ (I p m) e⟩,f.nd⟩
theorem FS.re(f:FS H g B s Z G F M)(k:br (aK G) s S)(c:CX (Z++H) S.heap G K):FS H g B S Z G K M:=⟨f.ks.qp k λa m=>f.new a (f.own a m),f.kx.trans (k.mono λa m=>bI _ m),f.new,f.own,c,λp m=>⟨(f.acc p m).1,(f.acc p m).2.1,(f.acc p m).2.2.kp (k.kp.mono λa m=>bI _ (f.own a m)) λo e=>k.kp _ _ (f.acc p m).2.1 e⟩,f.nd⟩
theorem FS.xbo(f:FS H g B s Z G F M)(k:br Y s S)(J:∀a∈Y,a∈Z)(b:∀a∈aK G,a∉Y)(I:∀p∈M,p.1∉Y)(i:∀a∈Y,∃o,S.heap.get? a=aa o):FS H g S S Z G F M:=by have T:∀a∈Y,a∈Z++H:=λa m=>bI _ (J a m);exact⟨f.ks.qp k λa m=>f.new a (J a m),.refl _ _,f.new,f.own,f.cx.dK k.kp b T (f.cx.live.dK k.kp i),λp m=>⟨(f.acc p m).1,(f.acc p m).2.1,(f.acc p m).2.2.kp (k.kp.mono T) λo e=>k.kp _ _ (I p m) e⟩,f.nd⟩
noncomputable def EW(N:aq->Prop)(Q:ek->aq->Prop)(fl:ek)(s:aq):Prop:=match fl with|.next|.cont=>N s|.brk=>Q .next s|.ret v=>Q (.ret v) s
theorem FS.Qk{α:Type}{tg X:aS}{body:List cZ}{pos:aR}{t:List α}{kf:α->T}{h:List α->Gm}{iw:List α->α->Gm}{j:List α->List (ah×T)}{Q:ek->aq->Prop}(V:List ah)(J:aq->Prop)(P:List α->Prop)(hP:P [])(f:FS H g B s Z G (h []) (j []))(hV:∀b∈V,b∈Z++H)(hi:IT A G (Z++H) s.heap X tg (t.map kf))(hM:∀l,(j l).map (·.1)=(j []).map (·.1))(has:∀l a,(∃r,t=l++a::r)->AS A G (aK G) tg (kf a) (h l) (iw l a))(j0:∀S,Ks s S->J S)(jw:∀z U c,(∀b∈z,s.heap.get? b=ak)->J U->br z U c->J c)(ja:∀U c,J U->br (aK G) U c->J c)(hbody:∀l a,(∃r,t=l++a::r)->P l->∀z U E,(∀b∈z,s.heap.get? b=ak)->J U->FS H g U U (z++Z) G (iw l a) (j l)->(∀{c:aq}{R:Gm}{j6:List (ah×T)},j6.map (·.1)=(j []).map (·.1)->FS H g c c (z++Z) G R j6->FS H g c c Z G R j6)->au (az PW w) A (b8 body G) (EW (λc=>P (l++[a])/\FS H g c c (z++Z) G (h (l++[a])) (j (l++[a]))/\bf V U.heap c.heap/\J c) Q) E U)(hend:∀S,P t->FS H g S S Z G (h t) (j t)->J S->Q .next S)(hs:∀x,g7 X G x=pure x):au (az PW w) A (dY (.For tg X body [] pos) G) Q E s:=by
 refine wpAny_For (mono (hi s E λ_ _ e=>e) λx U h₁=>mono h₁ λit c h₂=>?_) hs;obtain⟨ks,I,fp,z,rfl,i⟩:=h₂;refine dj (i.wide (h':=c.heap) (Y:=Z++H) (λ_ _ e=>e) λa m=>.inr m) λSt W st tC=>?_;have xO:∀a∈z,a∉Z:=λa m n=>tC a (i.sub a m) (bI _ n);have Cs:∀M':List (ah×T),M'.map (·.1)=(j []).map (·.1)->∀p∈M',p.1∈Z:=λM' e p m=>by refine aG (bE.mp (e▸bE.mpr ⟨p,m,rfl⟩:p.1∈(j []).map (·.1))) λq mq e=>?_;exact(show q.1=p.1 from e)▸(f.acc q mq).1
 have Y:z++Z++H=z++(Z++H):=fT ..;have R4:∀a∈z,a∈z++Z++H:=λa m=>bI _ (bI _ m);have sub:∀a∈Z++H,a∈z++Z++H:=λa m=>Y▸cJ _ m;refine codeAny_forLoop_any (λk S=>∃l r,t=l++r/\k=r.length+1/\P l/\FS H g S S (z++Z) G (h l) (j l)/\J S/\St l.length S.heap) (λk U hI=>?_) (t.length+1) ⟨[],t,rfl,rfl,hP,(f.Bf ks i.new λb m=>i.up b (i.sub b m)).rebase,j0 _ ks,st⟩;refine jP hI λl r ha hk R5 fs Ql Pa=>?_;cases r with|nil=>rw[g8]at ha;subst ha;refine Gi (W.done U _ (aH (f:=kf) (as:=t).symm▸Pa)) λq s₃ e x=>e▸?_;have R6:∀a∈Z,a∉z:=λa m n=>xO a n m;exact iA (hend s₃ R5 ⟨fs.ks.qp (x.mono λa m=>bI Z m) fs.new,.refl _ _,f.new,f.own,fs.cx.shrink x.kp R4 (λa m=>R6 a (f.own a m)) sub (λa m=>bI _ (f.own a m)) λa m=>(fs.cx.live a (sub a m)).imp λo=>x.kp a o λn=>tC a (i.sub a n) m,λp m=>⟨Cs _ (hM t) p m,(fs.acc p m).2.1,((fs.acc p m).2.2.kp (x.kp.mono R4) λo e=>x.kp _ _ (R6 _ (Cs _ (hM t) p m)) e).less sub⟩,fs.nd⟩ (jw z _ _ i.new Ql x))|cons a r=>refine mono (W.item l.length (kf a) U _ (by refine O ha ?_;simp) Pa (Y▸fs.cx.live)) λq s₃ x=>?_;obtain⟨v,rfl,x⟩:=x;refine mono x λ_ u y=>?_;refine gW y λQm L xfA=>?_;have N:FS H g u u (z++Z) G (h l) (j l):=fs.xbo Qm (λa m=>bI _ m) (λa m n=>xO a n (f.own a m)) (λp m n=>xO _ n (Cs _ (hM l) p m)) (W.up _ _ L);refine Gi (has l a ⟨r,ha⟩ (z++Z++H) u _ v N.cx.ok.iX N.cx (Y.symm▸xfA)) λ_ D C c₅=>?_;have xdi:St (l.length+1) D.heap:=W.frame _ _ _ L (λb m o e=>C.kp b o (λn=>tC b m (bI _ (f.own b n))) e) (C.kp.mono λa m=>cJ _ (bI _ (f.own a m)));refine mono (hbody l a ⟨r,ha⟩ R5 z D _ i.new (ja _ _ (jw z _ _ i.new Ql Qm) C) (N.re C c₅).rebase λe f₂=>(f₂.GG (λa m=>cJ _ m) f.own (Cs _ e)).rebase) λfl d y=>?_;have key:P (l++[a])/\FS H g d d (z++Z) G (h (l++[a])) (j (l++[a]))/\bf V D.heap d.heap/\J d->∃m,m<k/\∃l r,t=l++r/\m=r.length+1/\P l/\FS H g d d (z++Z) G (h l) (j l)/\J d/\St l.length d.heap:=λy=>⟨r.length+1,hk▸gA _,l++[a],r,ha.trans (fT l [a] r).symm,rfl,y.1,y.2.1,y.2.2.2,cK (as:=l)▸W.frame _ _ _ xdi (λb m o e=>y.2.2.1 b o (λn=>tC b m (hV b n)) e) (y.2.2.1.mono λa m=>cJ _ (hV a m))⟩;cases fl with|next=>exact key y|cont=>exact key y|brk=>exact y|ret v=>exact y
theorem mem_keys{M M':List (ah×T)}(e:M'.map (·.1)=M.map (·.1))(h:∀p∈M,p.1∈Z)(b:ah)(m:b∈M'.map (·.1)):b∈Z:=by refine aG (bE.mp (e▸m)) λp Q e=>?_;exact e▸h p Q
theorem FS.for{L:Type}{W u:aS}{d:List cZ}{V:aR}{as:List L}{kf:L->T}{cU:List L->Gm}{iw:List L->L->Gm}{Mf:List L->List (ah×T)}{Q:ek->aq->Prop}(P:List L->Prop)(hP:P [])(f:FS H g B s Z G (cU []) (Mf []))(hi:IT A G (Z++H) s.heap u W (as.map kf))(R:∀l,(Mf l).map (·.1)=(Mf []).map (·.1))(Y:∀l a,(∃r,as=l++a::r)->AS A G (aK G) W (kf a) (cU l) (iw l a))(h:∀l a,(∃r,as=l++a::r)->P l->∀z U E,FS H g U U (z++Z) G (iw l a) (Mf l)->(∀{J:aq}{c:Gm}{j6:List (ah×T)},j6.map (·.1)=(Mf []).map (·.1)->FS H g U J (z++Z) G c j6->FS H g B J Z G c j6)->au (az PW w) A (b8 d G) (EW (λJ=>P (l++[a])/\FS H g U J (z++Z) G (cU (l++[a])) (Mf (l++[a]))) Q) E U)(q:∀S,P as->FS H g B S Z G (cU as) (Mf as)->Q .next S)(hs:autoParam (∀x,g7 u G x=pure x) yAI):au (az PW w) A (dY (.For W u d [] V) G) Q E s:=by
 have up:∀{U J:aq}{C:List ah}{c:Gm}{j6:List (ah×T)},j6.map (·.1)=(Mf []).map (·.1)->br (aK G++(Mf []).map (·.1)) B U->FS H g U J C G c j6->br (aK G++(Mf []).map (·.1)) B J:=λe j f=>j.trans (e▸f.kx);refine FS.Qk (aK G++(Mf []).map (·.1)) (λS=>br (aK G++(Mf []).map (·.1)) B S) P hP f (λb m=>bI _ ((bC.mp m).elim (f.own b) (mem_keys rfl (λp m=>(f.acc p m).1) b))) hi R Y (λS k=>f.kx.trans (.of k)) (λz U J n j k=>j.R3 k λb m=>f.B6 (n b m)) (λU J j k=>j.trans (k.mono λa m=>bI _ m)) (λl a hl X z U E hw j t N=>mono (h l a hl X z U E t λe D=>?_) λfl J y=>?_) (λS hPs i j=>q S hPs ⟨i.ks,R as▸j,i.new,i.own,i.cx,i.acc,i.nd⟩) hs;.have o:=N e D.rebase;exact⟨o.ks,e.symm▸up e j D,o.new,o.own,o.cx,o.acc,o.nd⟩
 .have I:P (l++[a])/\FS H g U J (z++Z) G (cU (l++[a])) (Mf (l++[a]))->P (l++[a])/\FS H g J J (z++Z) G (cU (l++[a])) (Mf (l++[a]))/\bf (aK G++(Mf []).map (·.1)) U.heap J.heap/\br (aK G++(Mf []).map (·.1)) B J:=λy=>⟨y.1,y.2.rebase,R (l++[a])▸y.2.kx.kp,up (R _) j y.2⟩;cases fl with|next=>exact I y|cont=>exact I y|brk=>exact y|ret v=>exact y
noncomputable def MT(t:T)(i:ai)(id:String):Prop:=∀(X:List ah)(s:aq)(v:aj),Rep X s.heap t v->∃l:String,Ga l/\tH l i id/\uU (.builtin id)=pure (.type "method_descriptor")/\s.TypeIs v l/\∀a,v=.ref a->∃b,s.heap.get? a=aa b/\b.dict=ak
variable{X:List ah}{C:aA}
theorem EV.xdj{o:aS}{name:ai}{m R:aR}{id:String}{t r:T}(h:EV A G X C o t)(Q:MT t name id)(i:CA A X C (.builtin id) [t] r)(P:autoParam (kJ o name G (aT o G)=aT o G) yAR)(u:autoParam ((m.endLine==R.line)=af) yAR):EV A G X C (.Call (.Attribute o name m) [] [] R) r:=λs E k=>by refine EI P u (aB (h s E k) (λf U x=>?_) λ_ _ e=>e);refine oi (Q X U f x.2) λl a b c d e=>?_;refine⟨l,id,a,b,c,d,e,mz rfl rfl (zP ?_)⟩;exact aB (i U E [f] (k.trans x.1.kp) ⟨x.2,trivial⟩) (λc j z=>⟨x.1.trans z.1,z.2⟩) λ_ _ e=>e
theorem EV.Bv{o e:aS}{name:ai}{m R:aR}{id:String}{t u r:T}(h:EV A G X C o t)(L:EV A G X C e u)(Q:MT t name id)(i:CA A X C (.builtin id) [t,u] r)(hbase:autoParam (kJ o name G (aT o G)=aT o G) yAR)(hs:autoParam (bh [e] G=[(av,aT e G)]) yAR)(hline:autoParam ((m.endLine==R.line)=af) yAR):EV A G X C (.Call (.Attribute o name m) [e] [] R) r:=λs E k=>by refine EJ hbase hs hline (aB (h s E k) (λf U x=>?_) λ_ _ e=>e);refine oi (Q X U f x.2) λl a b c d e=>?_;refine⟨l,id,a,b,c,d,e,mz rfl rfl (mZ (n8 (aB (L U E (k.trans x.1.kp)) (λv J y=>rV ?_) λ_ _ e=>e)))⟩;exact aB (i J E [f,v] (k.trans (x.1.trans y.1).kp) ⟨Rep.kp (y.1.kp.bL X) _ _ x.2,y.2,trivial⟩) (λc j z=>⟨(x.1.trans y.1).trans z.1,z.2⟩) λ_ _ e=>e
end
structure FnAt(h:aA)(a:ah)(fd:eU)(body:List cZ)(M:List ai):Prop where
obj:∃o,h.get? a=aa o/\o.data=.func fd
code:h.CodeRec fd.code fd.qualname
Pb:h.NoLimit
body:fd.body=.stmts body
R7:fd.closure=[]bind:∀vals,vals.length=M.length->G6 fd ⟨vals,[]⟩=pure (M.zip vals)kinds:∀x∈M,fd.scope.names.lookup x=aa .local\/fd.scope.names.lookup x=aa .cell
nd:i9 M=af
nn:i9 (fd.scope.names.map (·.1))=af
kind:fd.scope.kind=.function
co:fd.scope.isCoroutine=av
gen:fd.scope.isGenerator=av
theorem FnAt.kp{h h':aA}{a:ah}{fd:eU}{d:List cZ}{M:List ai}(f:FnAt h a fd d M)(k:Kp h h'):FnAt h' a fd d M:=⟨f.obj.imp λo z=>⟨k _ _ z.1,z.2⟩,f.code.keeps k,f.Pb.keeps k,f.body,f.R7,f.bind,f.kinds,f.nd,f.nn,f.kind,f.co,f.gen⟩
structure GX(h:aA)(g b:ah)(G:Gm):Prop where
gU:∃o,h.get? g=aa o
bU:∃o,h.get? b=aa o
val:∀x t,G x=aa t->∃v,(∀X h',Rep X h' t v)/\∃u,h.Ns g u/\(u x=aa v\/u x=ak/\∃j,h.Ns b j/\j x=aa v)
theorem GX.kp(x:GX h g b G)(k:Kp h h'):GX h' g b G:=⟨x.gU.imp λ_ e=>k _ _ e,x.bU.imp λ_ e=>k _ _ e,λy t e=>(x.val y t e).imp λv z=>⟨z.1,z.2.imp λu z=>⟨z.1.keeps k,z.2.imp id λz=>⟨z.1,z.2.imp λj z=>⟨z.1.keeps k,z.2⟩⟩⟩⟩⟩
def eX(j:dW)(G:Gm):Gm:=λx=>if l6 (j.names.lookup x)=af then G x else ak
theorem Vs{xs:List ai}:∀{F:List T}{P:Gm}{x:ai}{t:T},i9 xs=af->xs.length=F.length->bQ P xs F x=aa t->(∃i:Nat,xs[i]?=aa x/\F[i]?=aa t)\/x∉xs/\P x=aa t:=by induction xs with|nil=>exact λ_ _ h=>.inr ⟨b9,h⟩|cons y f G=>intro F P x t n l h;cases F with|nil=>cases l|cons u W=>
rcases G (rS n).2 (Ao l) h with q|⟨a,b⟩;.exact .inl (q.elim λi z=>⟨i+1,z⟩)
.by_cases q:x=y;.subst q;exact .inl ⟨0,rfl,(pL ..).symm.trans b⟩
 .exact .inr ⟨λm=>(bA.mp m).elim q a,(eE _ _ q).symm.trans b⟩
section
variable{a:ai->Option pR}{x:ai}{v:aj}
theorem Wi{z:List (ai×aj)}:∀{m:ai->Option aj},x∉z.map (·.1)->bindL a z m x=m x:=by induction z with|nil=>exact λ_=>rfl|cons p r G=>
intro m h;obtain⟨n,v⟩:=p;refine(G λq=>h (aY _ q)).trans ?_;by_cases k:a n=aa .local;.exact O (if_pos k) (if_neg λe:x=n=>h (e▸aP ..))
.exact O (if_neg k) rfl
theorem Wj{z:List (ai×aj)}:∀{m:ai->Option aj},x∉z.map (·.1)->bindC a z m x=m x:=by induction z with|nil=>exact λ_=>rfl|cons p r G=>
intro m h;obtain⟨n,v⟩:=p;refine(G λq=>h (aY _ q)).trans ?_;by_cases k:a n=aa .local;.exact O (if_pos k) rfl
.exact O (if_neg k) (if_neg λe:x=n=>h (e▸aP ..))
theorem Wk{z:List (ai×aj)}:∀{m:ai->Option aj},i9 (z.map (·.1))=af->(x,v)∈z->a x=aa .local->bindL a z m x=aa v:=by induction z with|nil=>exact λ_ m=>absurd m b9|cons p r G=>
intro m h Q N;refine bw (bA.mp Q) (λe=>?_) λQ=>?_;.subst e;exact(Wi (rS h).1).trans ((congrFun (if_pos N) x).trans (if_pos rfl))
.exact G (rS h).2 Q N
theorem Wl{z:List (ai×aj)}:∀{m:ai->Option aj},i9 (z.map (·.1))=af->(x,v)∈z->a x≠aa .local->bindC a z m x=aa v:=by induction z with|nil=>exact λ_ m=>absurd m b9|cons p r G=>
intro m h Q N;refine bw (bA.mp Q) (λe=>?_) λQ=>?_;.subst e;exact(Wj (rS h).1).trans ((congrFun (if_neg N) x).trans (if_pos rfl))
.exact G (rS h).2 Q N
end
section
variable{A:aF}{X:List ah}{B:aA}
theorem wk{fd:eU}{M:List ai}{ts:List T}{s:aq}(j:FnAt s.heap a fd D M)(g:GX s.heap fd.globals fd.builtins G)(rm:cF A (n+1))(lX:bJ X s.heap)(V:fd.globals∉X)(S:fd.builtins∉X)(hl:M.length=ts.length)(W:ay X s.heap ts r)(h:∀(U:aq)(E:aj->aq->Prop)(Z:List ah)(L:ah),FS X s U U Z (cu fd L a) (bQ (eX fd.scope G) M ts) []->cF (A.deeper (cu fd L a)) n->(∀x,fd.scope.names.lookup x=aa .local\/fd.scope.names.lookup x=aa .cell->((cu fd L a).kindOf x=aa .local\/(cu fd L a).kindOf x=aa .cell)/\dg (cu fd L a) x∈aK (cu fd L a))->au (az PW w) (A.deeper (cu fd L a)) (b8 D (cu fd L a)) (λf s'=>Q (match f with|.ret v=>v|_=>.none) s') E U):au (az PW w) A (dO (.ref a) r []) Q E s:=by
 refine aG j.obj λo ho hd=>?_;have C:r.length=M.length:=by exact O W.length (O hl rfl)
 refine oi (DH fd.scope.names (s.heap.objs.size+1)) λu e Y bo co _=>?_;have e:=(e []).trans (g8 _);have R:∀x,fd.scope.names.lookup x=aa .cell->∃q,(pP (s.heap.objs.size+1) fd.scope.names []).lookup x=aa q/\(x,q)∈u:=λx hx=>(co x (mem_of_lookup hx)).elim λq hq=>AW (e▸hq) λq m=>e▸m;have c:(M.zip r).map (·.1)=M:=J9 (dh C.symm);refine A8 (codeAny_call_cells (gO (e7 _ _) (cC rm.dep)) ho hd j.Pb j.code j.body (j.bind r C) j.R7 (λp m=>?_) ?_ j.co j.gen j.kind)
 .refine bw (j.kinds p.1 (c▸bE.mpr ⟨p,m,rfl⟩)) (λq=>?_) λq=>?_;.exact .inl q
  .exact .inr ⟨q,(R _ q).elim λz I=>by refine O I.1 ?_;rfl⟩
 intro U x;generalize hL:s.heap.objs.size=L at*;refine eK x.done λP tk es kk=>?_;have K:Ks s U:=es▸⟨kk,rfl⟩;have H:u.Pairwise λx y=>x.1≠y.1:=e▸TU j.nn (λp m=>absurd m b9) C4;have k:∀p∈u,U.heap.IsCell p.2 (bindC (cu fd L a).kindOf (M.zip r) (λ_=>ak) p.1):=λp m=>x.cell p.1 p.2 ((congrArg (Nk p.1) e).trans (JL H m));have d:aK (cu fd L a)=L::u.map (·.2):=congrArg (λl:List (ai×ah)=>L::l.map qL) e;have F:∀q∈L::u.map (·.2),s.heap.get? q=ak:=λq m=>get?_none_of_le (by
  refine O hL ?_;refine bw (bA.mp m) (λe=>?_) λm=>?_;.exact dh e.symm
  .refine aG (bE.mp m) λp mp e=>?_;exact e▸nR (Y p mp).1);have cx:CX (L::u.map (·.2)++X) U.heap (cu fd L a) (bQ (eX fd.scope G) M ts):=by
  refine CX.frame (env:=cu fd L a) K.kp lX j.kind (e.trans (g8 _).symm) F (λp m=>gb (Y p m).1) g.gU g.bU V S ⟨_,x.toInCall.ns⟩ (λp m=>⟨_,k p m⟩) bo (λp m=>absurd m b9) .nil (λy b=>(R y b).imp λq z=>⟨_,z.1,k _ z.2⟩) λy t b=>?_;refine bw (Vs j.nd hl b) (λq1=>?_) λq2=>?_
  .obtain⟨i,P,J⟩:=q1;refine aG (W.at J) λv hv r1=>?_;refine⟨v,r1,?_⟩;have I:(y,v)∈M.zip r:=eO (i:=i) (Jf.mpr ⟨P,hv⟩);have hn:i9 ((M.zip r).map (·.1))=af:=c.symm▸j.nd;rcases j.kinds y (eO P)with b|b;.exact .inr (.inl ⟨b,_,x.toInCall.ns,Wk hn I b⟩)
   .refine .inr (.inr ⟨.inl b,(R y b).imp λq z=>⟨z.1,?_⟩⟩);have:=k _ z.2;rw[Wl (v:=v) hn I λq=>Jx (b.symm.trans q)]at this;exact this
  .obtain⟨_,J⟩:=q2;unfold eX at J;by_cases N:l6 (fd.scope.names.lookup y)=af;.replace J:=if_pos N▸J;exact((g.kp K.kp).val y t J).imp λv z=>⟨z.1 _ _,.inl ⟨N,z.2⟩⟩
   .replace J:=if_neg N▸J;cases J
 refine h U _ _ L ⟨K,.refl _ _,F,λ_ m=>d▸m,cx,λ_ m=>absurd m b9,t7⟩ (rm.deep _) λy b=>⟨b,?_⟩;refine bw b (λb=>?_) λb=>?_;.exact D5 (env:=cu fd L a) b▸aP ..
 .exact(R y b).elim λq z=>Et (env:=cu fd L a) b z.1▸d▸aY _ (bE.mpr ⟨_,z.2,rfl⟩)
theorem CA.body{a:ah}{fd:eU}{body:List cZ}{M:List ai}{F:List T}{r:T}{G:Gm}{n:Nat}(j:FnAt B a fd body M)(g:GX B fd.globals fd.builtins G)(u:cF A (n+1))(P:bJ X B)(d:fd.globals∉X)(b:fd.builtins∉X)(V:M.length=F.length)(h:∀(s U:aq)(E:aj->aq->Prop)(Z:List ah)(L:ah),FS X s U U Z (cu fd L a) (bQ (eX fd.scope G) M F) []->Kp B s.heap->cF (A.deeper (cu fd L a)) n->(∀x,fd.scope.names.lookup x=aa .local\/fd.scope.names.lookup x=aa .cell->((cu fd L a).kindOf x=aa .local\/(cu fd L a).kindOf x=aa .cell)/\dg (cu fd L a) x∈aK (cu fd L a))->au (az PW w) (A.deeper (cu fd L a)) (b8 body (cu fd L a)) (λf S=>Ks s S/\Rep X S.heap r (match f with|.ret v=>v|_=>.none)) E U):CA A X B (.ref a) F r:=λs E K k c=>wk (j.kp k) (g.kp k) u (P.kp k) d b V c λU E Z L f i C=>h s U E Z L f k i C
end
theorem Tt:Bp CL "dict_itemiterator.__iter__"=aa Builtin.«dict_keyiterator.__iter__»:=entryFor_alias (id':="dict_keyiterator.__iter__") (by kernel_rfl) rfl (by decide+kernel) (by kernel_rfl)
section
variable{A:aF}{X:List ah}{B:aA}{G:aN}
theorem Rep.qZ{h:aA}{y:List ai}(r:Rep X h (.dS y b) v):∃a W,v=.ref a/\a∉X/\(a==eo)=av/\h.DictOf (rO PW w) a (y.zip W)/\W.length=y.length/\ay X h b W:=r
theorem Rep.xbp{h:aA}{y:List Int}(r:Rep X h (.dI y b) v):∃a W,v=.ref a/\a∉X/\(a==eo)=av/\h.DictOf (oE PW w) a (y.zip W)/\W.length=y.length/\ay X h b W:=r
theorem MT.dict{y:List ai}{K:List T}{i:ai}{id:String}(c:tH "dict" i id)(d:uU (.builtin id)=pure (.type "method_descriptor")):MT (.dS y K) i id:=λX s v r=>by refine jP r.qZ λa W N n C p e r=>?_;subst N;refine AD p λo D t g Y _=>?_;refine⟨"dict",xaP,c,d,⟨o,g,Y.1⟩,λb R=>?_⟩;cases R;exact⟨o,g,Y.2.1⟩
theorem MT.list{l:List T}{i:ai}{id:String}(c:tH "list" i id)(d:uU (.builtin id)=pure (.type "method_descriptor")):MT (.list l) i id:=λX s v r=>by refine cH r.d8 λa xs N n p r=>?_;subst N;refine⟨"list",Kr,c,d,p.isList.typeIs,λb R=>?_⟩;cases R;refine aC p λq e=>?_;exact⟨_,e,rfl⟩
theorem MT.str{x:ai}{i:ai}{id:String}(c:tH "str" i id)(a:uU (.builtin id)=pure (.type "method_descriptor")):MT (.str x) i id:=λX s v r=>by refine aC r.eV λt p=>?_;subst p;exact⟨"str",xcF,c,a,rfl,λb R=>by cases R⟩
theorem zip_get{L N:Type}{y:List L}{W:List N}{i:Nat}{k:L}{u:N}(h:(y.zip W)[i]?=aa (k,u)):y[i]?=aa k/\W[i]?=aa u:=by replace h:=Jf.mp h;exact h
theorem IT.ZG(hh:A.handled=ak)(j:isNm tg){m R:aR}{y:List ai}{K:List T}(l:bJ X B)(h:EV A G X B o (.dS y K))(hl:y.length=K.length)(P:autoParam (kJ o "values" G (aT o G)=aT o G) yAR)(u:autoParam ((m.endLine==R.line)=af) yAR):IT A G X B (.Call (.Attribute o "values" m) [] [] R) tg K:=λs E k=>by
 refine EI P u (aB (h s E k) (λN U x=>?_) λ_ _ e=>e);refine aV x λV S=>?_;refine oi (MT.dict Dp xaI X U N S) λQ a b c d e=>?_;refine⟨Q,_,a,b,c,d,e,mz rfl rfl (zP ?_)⟩;refine jP S.qZ λD W q2 n sm p eu ru=>?_;subst q2;refine uf Dp p.typeIs Y9 (YV _) (xcO (rO PW w) D sm) ⟨⟨_,p⟩,?_⟩;refine aC p.dictAt λH q=>?_;have f:Kp U.heap (U.heap.push {cls:=.type "dict_values",data:=.fields #[.ref D]}):=λ_ _ e=>bX _ e;have I:=q.at' (h':=U.heap.push {cls:=.type "dict_values",data:=.fields #[.ref D]}) λo e=>f _ _ e;refine xaQ ⟨_,cE _ rfl,rfl,rfl⟩ I ?_;generalize hh1:U.heap.push {cls:=.type "dict_values",data:=.fields #[.ref D]}=Z at*;have J:Kp Z (Z.push {cls:=.type "dict_valueiterator",data:=.fields #[.ref D,.int 0 0,.int (y.zip W).length 0,.int H 0]}):=λ_ _ e=>bX _ e;have g:D<Z.objs.size:=by refine eK I λo _ C _=>?_;exact dQ C
 have M:Kp U.heap (Z.push {cls:=.type "dict_valueiterator",data:=.fields #[.ref D,.int 0 0,.int (y.zip W).length 0,.int H 0]}):=f.trans J;have e1:Z.get? Z.objs.size=ak:=get?_none_of_le (cQ _);have L:U.heap.get? Z.objs.size=ak:=g9 f e1;refine eK (id I) λo _ C _=>?_;refine⟨V.trans (.mk' U _ _ M),Z.objs.size,[Z.objs.size,D],[Z.objs.size],rfl,.two (l.kp k) (g9 V.kp L) ⟨_,cE _ rfl⟩ ⟨o,J _ _ C⟩ n λY hY hw=>⟨_,gz.ofWalks (λh=>ay Y h K W) j (YW hh Z.objs.size D (bS g) (y.zip W) H) (by exact O gP (O eu (O hl (nZ _)))) (λh h' r k=>Mine.ay.kp k _ _ r) (λi v t h hp ht r=>hp.elim λkk hk=>r.get ht (zip_get hk).2) (λi h st=>one (st.1.imp λo z=>z.1)) hw,⟨⟨_,cE _ rfl,rfl,rfl⟩,I.at' λo e=>J _ _ e⟩,om M hY (one L) ru⟩⟩
theorem IT.Pc(w:A.handled=ak){Z u:aS}(f:isNm Z){y:List ai}{q:List T}(l:bJ X B)(h:EV A G X B u (.dS y q)):IT A G X B u Z (y.map .str):=λs E k=>by
 refine aB (h s E k) (λF U x=>?_) λ_ _ e=>e;refine aV x λV S=>?_;refine jP S.qZ λD W N n m p j P=>?_;subst N;refine aC p.dictAt λa I=>?_;refine wpAny_pyIter_dict m I ?_;have r:Kp U.heap (U.heap.push {cls:=.type "dict_keyiterator",data:=.fields #[.ref D,.int 0 0,.int (y.zip W).length 0,.int a 0]}):=λ_ _ e=>bX _ e;have b:D<U.heap.objs.size:=by refine eK I λo _ g _=>?_;exact dQ g
 have L:U.heap.get? U.heap.objs.size=ak:=get?_none_of_le (cQ _);refine eK (id I) λo _ g _=>?_;refine⟨V.trans (.mk' U _ _ r),U.heap.objs.size,[U.heap.objs.size,D],[U.heap.objs.size],rfl,.two (l.kp k) (g9 V.kp L) ⟨_,cE _ rfl⟩ ⟨o,r _ _ g⟩ n λY R C=>⟨_,gz.ofWalks (λ_=>True) f (Walks.dictKeys w U.heap.objs.size D (bS b) (y.zip W) a) (by exact O gP (O j (O (aH ..) (nZ _)))) (λ_ _ _ _=>trivial) (λi v t h Q c _=>?_) (λi h M=>one (M.1.imp λo z=>z.1)) C,⟨⟨_,cE _ rfl,rfl,rfl⟩,I.at' λo e=>r _ _ e⟩,trivial⟩⟩;refine eK Q λJ x d K=>?_;rw[eS,(zip_get d).1]at c;refine aC (V4 K) λH N=>?_;subst N;exact nU c▸.ni _ _
noncomputable def r7(y:List ai)(K:List T):List T:=(y.zip K).map λp=>.tup [.str p.1,p.2]
theorem Vt{y:List ai}{K:List T}:(r7 y K).length=min y.length K.length:=(aH ..).trans gP
theorem Vu{y:List ai}{K:List T}{i:Nat}{t:T}(h:(r7 y K)[i]?=aa t):∃k v,y[i]?=aa k/\K[i]?=aa v/\t=.tup [.str k,v]:=by unfold r7 at h;rw[eS]at h;refine aG (vN.mp h) λp e N=>?_;subst N;exact⟨p.1,p.2,(zip_get e).1,(zip_get e).2,rfl⟩
theorem gz.items(hh:A.handled=ak){V:List aS}{kk:Nat}{pp:aR}{I D:ah}{y:List ai}{K:List T}{us:List aj}{ep:Nat}{Y:List ah}(S:D≠I)(W:I∈Y)(eu:us.length=y.length)(hl:y.length=K.length):gz A I [I,D] [I] Y (.Tuple V kk pp) (r7 y K) λi h=>((∃H f,IsItemIter h I D i (y.zip us).length ep H f)/\h.DictAt (rO PW w) D (y.zip us) ep)/\ay Y h K us where
sub:=one (aP ..);frame:=λi h h' M k kx=>⟨⟨let⟨H,f,e⟩:=M.1.1;⟨H,f,k I (aP ..) _ e⟩,M.1.2.at' λo e=>k D (aY _ (aP ..)) o e⟩,Mine.ay.kp kx _ _ M.2⟩;up:=λi h M b m=>by replace m:=aW.mp m;refine O m ?_;refine lu M.1.1 λH f e=>?_;exact⟨_,e⟩
item:=λi t s E ht M l=>by
 refine aV M λN J=>?_;refine aV N λp U=>?_;obtain⟨H,f,P⟩:=p;refine wG (Vu ht) λk v hk z N=>?_;subst N;refine aG (J.at z) λu Z ruv=>?_;have c:(y.zip us)[i]?=aa (k,u):=by exact Jf.mpr ⟨hk,Z⟩
 refine wpAny_pyNext_items_item P U c λkey h' a x L hsz kp=>⟨_,rfl,?_⟩;have Q:I<s.heap.objs.size:=dQ P;refine wpAny_letOwnedTupleGo_items x λR g j=>?_;have k1:bf [I] s.heap h':=λb o n e=>kp b o (λq=>n (by exact O q (aP ..))) e;have k2:bf [I] h' R:=qn j;have r:=k1.trans k2;have kY:bf Y s.heap R:=r.mono (one W);have C:=Mine.ay.kp kY _ _ J;refine⟨⟨r,rfl⟩,⟨⟨⟨_,_,g⟩,U.at' λo e=>r D o (λq=>S (aW.mp q)) e⟩,C⟩,?_⟩;refine⟨_,_,rfl,l.new,⟨_,(j.2 _ (gb Q)).trans L,rfl,_,rfl⟩,?_⟩;refine aC (V4 a) λtk N=>?_;subst N;exact⟨.ni _ _,C.get z Z,trivial⟩
done:=λs E M=>by
 refine aV M λN J=>?_;refine aV N λp U=>?_;obtain⟨H,f,P⟩:=p;have hz:(r7 y K).length=(y.zip us).length:=by exact O Vt (O gP (O eu (O hl rfl)))
 replace P:=hz▸P;exact wpAny_pyNext_items_end hh P U (pH (cQ _)) λh' c=>⟨rfl,λb o n e=>c b o (λq=>n (by exact O q (aP ..))) e,rfl⟩
self:=λi s E M=>by refine aV M λN J=>?_;refine aV N λp U=>?_;obtain⟨H,f,P⟩:=p;have d:s.TypeIs (.ref I) "dict_itemiterator":=⟨_,P,rfl⟩;refine wpAny_pyIter_slot d Uh (tU Uh d Tt ?_ (F.args_dict_itemiterator_iter_1 _));show au _ _ (ret (.ref I)) _ _ s;exact aM ⟨_,rfl,"dict_itemiterator",_,d,F.slot_dict_itemiterator_next.lookup,rfl,rfl⟩
theorem IT.N1(J:A.handled=ak){m R:aR}{y:List ai}{K:List T}(l:bJ X B)(h:EV A G X B o (.dS y K))(Q:y.length=K.length)(P:autoParam (kJ o "items" G (aT o G)=aT o G) yAR)(u:autoParam ((m.endLine==R.line)=af) yAR):IT A G X B (.Call (.Attribute o "items" m) [] [] R) (.Tuple es kk pp) (r7 y K):=λs E k=>by
 refine EI P u (aB (h s E k) (λj U x=>?_) λ_ _ e=>e);refine aV x λV S=>?_;refine oi (MT.dict xaR F.type_dict_items X U j S) λv a b c d e=>?_;refine⟨v,_,a,b,c,d,e,mz rfl rfl (zP ?_)⟩;refine jP S.qZ λD W q2 n sm p N ru=>?_;subst q2;refine uf xaR p.typeIs F.entry_dict_items (F.args_dict_items_1 _) (meets_dict_items (rO PW w) D sm) ⟨⟨_,p⟩,?_⟩;refine aC p.dictAt λt q=>?_;have i:Kp U.heap (U.heap.push {cls:=.type "dict_items",data:=.fields #[.ref D]}):=λ_ _ e=>bX _ e;have I:=q.at' (h':=U.heap.push {cls:=.type "dict_items",data:=.fields #[.ref D]}) λo e=>i _ _ e;refine wpAny_pyIter_items ⟨_,cE _ rfl,rfl,rfl⟩ I ?_;generalize z:U.heap.push {cls:=.type "dict_items",data:=.fields #[.ref D]}=Z at*;have r:Kp Z (Z.push {cls:=.type "dict_itemiterator",data:=.fields #[.none,.bool av,.ref D,.int 0 0,.int (y.zip W).length 0,.int t 0,.none,.none]}):=λ_ _ e=>bX _ e;have f:D<Z.objs.size:=by refine eK I λo _ g _=>?_;exact dQ g
 have M:=i.trans r;have H:Z.get? Z.objs.size=ak:=get?_none_of_le (cQ _);have L:U.heap.get? Z.objs.size=ak:=g9 i H;refine eK (id I) λo _ g _=>?_;exact⟨V.trans (.mk' U _ _ M),Z.objs.size,[Z.objs.size,D],[Z.objs.size],rfl,.two (l.kp k) (g9 V.kp L) ⟨_,cE _ rfl⟩ ⟨o,r _ _ g⟩ n λY hY C=>⟨_,gz.items (us:=W) (ep:=t) J (bS f) (C _ (aP ..)) N Q,⟨⟨_,_,cE _ rfl⟩,I.at' λo e=>r _ _ e⟩,om M hY (one L) ru⟩⟩
theorem IT.str(n:A.handled=ak)(f:isNm j){x:ai}(l:bJ X B)(h:EV A G X B iter (.str x)):IT A G X B iter j (x.cps.toList.map λc=>.str ⟨#[c]⟩):=λs E k=>by
 refine aB (h s E k) (λF U y=>?_) λ_ _ e=>e;refine aV y λV p=>?_;refine aC p.eV λt N=>?_;subst N;have L:U.heap.get? U.heap.objs.size=ak:=get?_none_of_le (cQ _);have P:=(l.kp k).kp V.kp;have a:∀(T:String)(o:bR),(∀h:aA,(h.push o).IsStrIter h.objs.size T x t 0)->Walks PW w A U.heap.objs.size [U.heap.objs.size] [U.heap.objs.size] x.cps.size (SignAt x) (λi h=>h.IsStrIter U.heap.objs.size T x t i)->Ks s {U with heap:=U.heap.push o}/\∃I S z,bV U.heap.objs.size=.ref I/\jG A X s.heap (U.heap.push o) I S z j (x.cps.toList.map λc=>.str ⟨#[c]⟩):=λT o D W=>by
  have r:Kp U.heap (U.heap.push o):=λ_ _ e=>bX _ e;have D:=D U.heap;refine⟨V.trans (.mk' U _ _ r),U.heap.objs.size,[U.heap.objs.size],[U.heap.objs.size],rfl,λb m=>?_,λb m=>?_,λb m=>?_,λb m=>m,λY J C=>⟨_,gz.ofWalks (λ_=>True) f W (by simp) (λ_ _ _ _=>trivial) (λi v t h Q g _=>?_) (λi h M b m=>?_) C,D,trivial⟩⟩;.rw[aW]at m;refine O m ?_;refine aG D λq d _=>?_;exact⟨q,d⟩
  .rw[aW]at m;exact O m P.new
  .rw[aW]at m;exact O m (g9 V.kp L)
  .refine eK Q λc u Z N=>?_;try clear Q;subst N
   rw[eS,gM,Z]at g;simp only[Aa,zX]at g;exact aQ g (.ni _ _)
  .rw[aW]at m;refine O m ?_;refine aG M λq d _=>?_;exact⟨q,d⟩
 cases K:x.cps.all (·<128);.exact wpAny_pyIter_wide K (a _ _ (λh=>⟨_,cE _ rfl,rfl,rfl⟩) (Walks.strWide n _ x t))
 .exact wpAny_pyIter_ascii K (a _ _ (λh=>⟨_,cE _ rfl,rfl,rfl⟩) (Walks.strAscii n _ x t))
end
theorem slot_list_iadd:tH "list" (SO "add") "list.__iadd__":=.of (owner:="list") (n:="__iadd__") (by refine O (iR ..) (O iO ?_);kernel_rfl) (by decide+kernel) (by decide+kernel) (by decide+kernel) (by first|exact .inl (by decide+kernel)|exact .inr (by decide+kernel)) (by refine O (Ej ..) ?_;kernel_rfl)
theorem Tu(a b:aj):sN "list.__iadd__" ⟨[a,b],[]⟩:=by unfold sN;kernel_rfl
theorem JN(f:Array aj->Array aj)(Q:Array aj)(n:Nat):∃d,c7 f {cls:=.type "list",data:=.seq Q n}={cls:=.type "list",data:=.seq (f Q) d}:=by exact⟨_,rfl⟩
section
variable{A:aF}{H:List ah}{N B s S:aq}{Z:List ah}{G:aN}{P c:Gm}{M:List (ah×T)}{E:aj->aq->Prop}
theorem Un{xs f:Array aj}(V:s.heap.PlainList l xs)(R:s.heap.PlainList b f)(I:xs.size+f.size<=qS)(X:∀h',h'.PlainList l (xs++f)->ud l s.heap h'->Q (.ref l) {s with heap:=h'}):au (az PW w) A (inplaceOp .Add (.ref l) (.ref b)) Q E s:=by
 refine aC V λn a=>?_;refine aC R λi y=>?_;have K:s.TypeIs (.ref l) "list":=⟨_,a,rfl⟩;have d:s.TypeIs (.ref b) "list":=⟨_,y,rfl⟩;unfold inplaceOp;refine dH ?_;have u:xeg (.type "list") "add" (Operator.Add==.Add)=pure av:=by unfold xeg;show(jQ (.type "list") (SO "add")>>=λh=>pure (h.isSome&&!isSeqSlot h))=pure av;refine O slot_list_iadd.lookup ?_;rfl
 have g:seqSlot? (.type "list") (SO "add")=pure (aa (.builtin "list.__iadd__")):=by unfold seqSlot?;refine O slot_list_iadd.lookup ?_;rfl
 refine ao (EK K (ao (wA u ?_)));show au _ A (if av=af then _ else _) Q E s;refine O (if_neg qw) ?_;refine ao (wpAny_binaryOp1_none (nm:="add") K d xet ?_);refine ao (wA g ?_);refine ao (qJ ?_);refine wC slot_list_iadd K V5 (Tu _ _) (AutoSeq1.list___iadd___list_list_0 l xs n b f i (extend_door I) (Q8 I) (nS I)) ⟨a,y,?_⟩;refine aC (JN (λx=>x++f) xs n) λj e=>?_;exact X _ ⟨j,by rw[qu _ a (by refine O e ?_;rfl),e]⟩ (mX ..)
theorem FS.q8(f:FS H N B s Z G P M)(e:P x=aa (.aI (.ref D)))(V:autoParam (isVar G x=af) yAK):EV A G X s.heap (.Name x a) (.aI (.ref D)):=(EV.name f.cx e V).flat rfl
theorem FS.iadd{l ts:List T}(f:FS H N B s Z G P M)(Y:G.kindOf x=aa .local\/G.kindOf x=aa .cell)(L:dg G x∈aK G)(K:P x=aa (.aI (.ref D)))(I:M[i]?=aa (D,.list l))(he:EV A G (Z++H) s.heap e (.list ts))(hz:l.length+ts.length<=100000)(X:∀S,FS H N B S Z G P (M.set i (D,.list (l++ts)))->Q .next S)(hn:autoParam ((x==("__classdict__":ai))=av) yAD):au (az PW w) A (dY (.AugAssign (.Name x V) .Add e pos) G) Q E s:=by
 refine O (xcG ..) ?_;refine aG (f.cx.val x _ K) λv r n=>?_;obtain rfl:=r.cR;refine ao (cV (ao (Dg f.cx.ok.fn n ?_ hn (Lh Y))));refine ao (dH (aB (he s E λ_ _ e=>e) (λu U y=>?_) λ_ _ e=>e));refine aV y λk ru=>?_;refine cH ru.d8 λb F q1 nb pb o=>?_;subst q1;have h:=f.step k;have g:=h.acc _ (eO I);refine aG g.2.2 λxs R j=>?_;refine ao (cV (ao λΓ p W=>?_));refine O (DY ..) ?_;have d:xs.size+F.size<=qS:=by have C:=j.length;have J:=o.length;rw[dm]at C J;exact O dJ (Hf hz C J)
 refine Un (Q:=λv S=>au (az PW w) A (do fL V;kQ G x v;pure .next) Q E S) R pb d (λh' ph a=>?_) Γ p W;have m:br [D] U {U with heap:=h'}:=⟨qn a,rfl⟩;have z:bf (Z++H) U.heap h':=m.kp.mono (one (bC.mpr (.inl g.1)));have f2:FS H N B {U with heap:=h'} Z G P (M.set i (D,.list (l++ts))):=h.write I m ⟨xs++F,ph,by refine O tO ?_;exact ay.append (Mine.ay.kp z _ _ j) (Mine.ay.kp z _ _ o)⟩;refine ao (cV (ao (f2.bind Y L (.ie _) λS _ f'=>aM (X S (f'.less λy t e=>?_)))));by_cases q:y=x;.subst q;exact O (pL ..) (aQ K (O e rfl))
 .exact O (eE _ _ q) e
theorem Jz{f:Array aj}{k:Int}(V:s.heap.PlainList l f)(D:0<=k)(b:k<2^63)(K:k<f.size)(X:∀h',h'.PlainList l (f.setIfInBounds k.toNat v)->ud l s.heap h'->Q () {s with heap:=h'}):au (az PW w) A (setItem (.ref l) (.int k t) v) Q E s:=by
 obtain⟨u,g⟩:=V;have d:s.TypeIs (.ref l) "list":=⟨_,g,rfl⟩;unfold setItem;try with_reducible refine dH ?_
 first|refine ao (aM ?_)|skip
 refine ao (xcP d dk ?_);refine ao (x8 (name:=n7 "__setitem__") d xcQ (tU xcQ d entry_list_setitem ?_ (args_list_setitem _ _ _)));show au _ _ (xho (.int k t)>>=_) _ _ s;refine ao (wpAny_listSubscript_int (fitsIndex_of D b) ?_);clear b;obtain⟨j,rfl⟩:=Int.eq_ofNat_of_zero_le D;have Y:j<f.size:=gR.mp K;have m:f[j]?=aa f[j]:=kH Y;show au _ _ ((seqItemAt l j>>=λr=>pure (r.map (j,·)))>>=_) _ _ s;refine ao (ao (wpAny_seqItemAt g rfl (aM ?_)));refine O m ?_;show au _ _ (setSeqItemAt l j v>>=_) _ _ s;obtain⟨h,e⟩:=JN (λx=>x.setIfInBounds j v) f u;have a:(s.heap.update l (c7 (·.setIfInBounds j v))).PlainList l (f.setIfInBounds j v):=⟨h,by rw[qu _ g (by refine O e ?_;rfl),e]⟩;refine ao (wpAny_setSeqItemAt g rfl ?_);first|exact ao (aM (aM ⟨.none,rfl,aM (X _ a (mX ..))⟩))|exact aM ⟨.none,rfl,aM (X _ a (mX ..))⟩
theorem ay.set{F:List T}{K:List aj}(r:ay X h F K)(q:Rep X h t v):ay X h (F.set i t) (K.set i v):=ay.ind (P:=λF K=>∀i:Nat,ay X h (F.set i t) (K.set i v)) (λ_=>trivial) (λ_ _ _ _ x r a i=>by cases i with|zero=>exact⟨q,r⟩|succ i=>exact⟨x,a i⟩) r i
theorem FS.putItem{l:List T}{k:Int}(f:FS H N B s Z G P M)(F:M[i]?=aa (D,.list l))(e:0<=k)(C:k<l.length)(I:l.length<=100000)(r:Rep (Z++H) s.heap t v)(X:∀S,FS H N B S Z G P (M.set i (D,.list (l.set k.toNat t)))->Q () S):au (az PW w) A (setItem (.ref D) (.int k g) v) Q E s:=by
 have d:=f.acc _ (eO F);refine aG d.2.2 λxs Y j=>?_;have V:xs.size=l.length:=by exact aQ j.length (O dm rfl)
 refine Jz Y e (sP C I) (Bq C V) λh' b a=>X _ ?_;have m:br [D] s {s with heap:=h'}:=⟨qn a,rfl⟩;have z:bf (Z++H) s.heap h':=m.kp.mono (one (bC.mpr (.inl d.1)));refine f.write F m ⟨_,b,?_⟩;exact O Ub (ay.set (Mine.ay.kp z _ _ j) (Rep.kp z _ _ r))
theorem FS.setItem{r Y R:aR}{l:List T}{k:Int}(f:FS H N B s Z G P M)(K:P x=aa (.aI (.ref D)))(F:M[i]?=aa (D,.list l))(L:EV A G (Z++H) s.heap n t)(h:EV A G X1 s.heap g (.int k))(b:0<=k)(C:k<l.length)(I:l.length<=100000)(X:∀S,FS H N B S Z G P (M.set i (D,.list (l.set k.toNat t)))->Q .next S)(W:autoParam (lJ n (aa (.Subscript (.Name x r) g Y)) R.line G=pure av) yAR)(V:autoParam (isVar G x=af) yAK):au (az PW w) A (dY (.Assign [.Subscript (.Name x r) g Y] n R) G) Q E s:=by refine JE (aB (L s E λ_ _ e=>e) (λv U y=>?_) λ_ _ e=>e) W;refine aB (f.q8 (X:=[]) K V U E y.1.kp) (λo J z=>?_) λ_ _ e=>e;obtain rfl:=z.2.cR;refine aB (h J E (y.1.trans z.1).kp) (λm j u=>?_) λ_ _ e=>e;refine aC u.2.cL λd a=>?_;subst a;exact((f.step y.1).step z.1).step u.1|>.putItem F b C I (Rep.kp ((z.1.trans u.1).kp.bL _) _ _ y.2) X
theorem FS.ZH{l:List T}{k a b:Int}(f:FS H N B s Z G P M)(hv:P x=aa (.aI (.ref D)))(K:M[i]?=aa (D,.list l))(j:EV A G X1 s.heap n (.int k))(he:EV A G X2 s.heap L (.int b))(h:0<=k)(v:l[k.toNat]?=aa (.int a))(r:l.length<=100000)(X:∀S,FS H N B S Z G P (M.set i (D,.list (l.set k.toNat (.int (a+b)))))->Q .next S)(R:∀d m q,augStore n d m q=(do ic [q,d,m] (An d m q);SQ [q,d,m] [];pure .next):=by intros;rfl)(hl:autoParam (isVar G x=af) yAK):au (az PW w) A (dY (.AugAssign (.Subscript (.Name x xp) n sp) .Add L Y) G) Q E s:=by
 have C:k<l.length:=by
  refine bw (yt k.toNat l.length) (λg=>?_) λg=>?_;.exact(Rh h g).2
  .exact gone v (pH g)
 refine Va (aB (f.q8 (X:=[]) hv hl s E λ_ _ e=>e) (λo U z=>?_) λ_ _ e=>e) R;obtain rfl:=z.2.cR;refine aB (j U E z.1.kp) (λm J u=>?_) λ_ _ e=>e;refine aC u.2.cL λtk I=>?_;subst I;have F:=(f.step z.1).step u.1;have hD:=F.acc _ (eO K);refine aG hD.2.2 λxs W rx=>?_;refine aG (rx.at v) λvv t V=>?_;refine aC V.cL λta I=>?_;subst I;replace t:=gM▸t;refine Kq W.isList h (sP C r) t ?_;refine aB (he J E (z.1.trans u.1).kp) (λbv p y=>?_) λ_ _ e=>e;refine aC y.2.cL λtb I=>?_;subst I;refine Mz ?_;exact((F.step y.1).step (.tok ..)).putItem K h C r (.fO _ _) X
theorem FS.append{r p k R:aR}{l:List T}(f:FS H N B s Z G P M)(hv:P x=aa (.aI (.ref D)))(K:M[i]?=aa (D,.list l))(he:EV A G (Z++H) s.heap e t)(hz:l.length<=100000)(hQ:∀S,FS H N B S Z G P (M.set i (D,.list (l++[t])))->Q .next S)(j:autoParam (interactive G=av) yAR)(m:autoParam (lJ (.Call (.Attribute (.Name x r) "append" p) [e] [] k) ak R.line G=pure av) yAR)(a:autoParam (kJ (.Name x r) "append" G (aT (.Name x r) G)=aT (.Name x r) G) yAR)(hs:autoParam (bh [e] G=[(av,aT e G)]) yAR)(u:autoParam ((p.endLine==k.line)=af) yAR)(hl:autoParam (isVar G x=af) yAK):au (az PW w) A (dY (.Expr (.Call (.Attribute (.Name x r) "append" p) [e] [] k) R) G) Q E s:=by
 refine wpAny_Expr_any (EJ a hs u (aB (f.q8 (X:=[]) hv hl s E λ_ _ e=>e) (λo U z=>?_) λ_ _ e=>e)) j m;obtain rfl:=z.2.cR;have X:=f.step z.1;have V:=X.acc _ (eO K);refine aG V.2.2 λxs px rx=>?_;refine aC px λn Y=>?_;refine⟨"list","list.append",Kr,PySem.F.slot_list_append,PySem.F.type_list_append,⟨_,Y,rfl⟩,λb hb=>by cases hb;exact⟨_,Y,rfl⟩,mz rfl rfl (mZ (n8 (aB (he U E z.1.kp) (λv J y=>rV ?_) λ_ _ e=>e)))⟩;have f2:=X.step y.1;have g:=f2.acc _ (eO K);refine aG g.2.2 λq I h=>?_;have C:q.size=l.length:=by exact aQ h.length (O dm rfl)
 refine Jv (hsz:=by exact O dJ (O C (cC hz))) I λh' ph d=>hQ _ ?_;have L:br [D] J {J with heap:=h'}:=⟨qn d,rfl⟩;have W:bf (Z++H) J.heap h':=L.kp.mono (one (bC.mpr (.inl V.1)));refine f2.write K L ⟨_,ph,?_⟩;exact O Xg (ay.append (Mine.ay.kp W _ _ h) ⟨Rep.kp W _ _ y.2,trivial⟩)
end
section
open PySem.MeetsSeq PySem.MeetsSeq2 PySem.MeetsSeq3 PySem.SeqAt PySem.SeqRoads2
noncomputable def l7(A:aF)(s:aq)(y x:aj):Prop:=∀(E:aj->aq->Prop)(Q:Bool->aq->Prop),Q af s->au (az PW w) A (IZ y x) Q E s
theorem l7.of(h:EqAt A s y x af):l7 A s y x:=λE Q q=>h PW w E Q q
theorem l7.refs(h:∀(E Q:aj->aq->Prop),Q (.bool af) s->au (az PW w) A (Fl .Eq (.ref l) (.ref b)) Q E s):l7 A s (.ref l) (.ref b):=λE Q q=>by unfold IZ;exact dH (xeu (λ_=>ao (qJ (aM q))) λ_=>ao (h E _ (yg q)))
theorem Kf{L N:Type}{M:vc}{A:aF}{s:aq}{E:aj->aq->Prop}{Q:N->aq->Prop}{f:L->N->bg (ForInStep N)}{b:N}{l:List L}(h:∀a∈l,∀Q:ForInStep N->aq->Prop,Q (.yield b) s->au M A (f a b) Q E s)(q:Q b s):au M A (forIn l b f) Q E s:=by induction l with|nil=>exact aM q|cons a l G=>rewrite[tW];exact ao (h a (aP ..) _ (G λa m=>h a (aY _ m)))
section
variable{A:aF}{s:aq}{E Q:aj->aq->Prop}{l b:ah}{f a:Array aj}
theorem xdk{o M:bR}(u:Bool)(g:s.heap.get? l=aa o)(U:o.data=.seq f n)(t:s.heap.get? b=aa M)(x:M.data=.seq a c)(T:f.size=a.size)(L:∀j(C:j<f.size)(J:j<a.size),l7 A.in1 s f[j] a[j])(h:R (.ok (.ret (.bool !u))) s)(k:Nat):∀i:Nat,f.size-i=k->pW (az PW w) A (.builtin "list.__eq__.loop" ⟨[.ref l,.ref b,e9 i,e9 (bif u then 3 else 2)],[]⟩) R s:=by induction k with|zero=>intro i N;have C:f[((i:Nat):Int).toNat]?=ak:=Vb (Nat.le_of_sub_eq_zero N);have J:∀v,v=!u->R (.ok (.ret (.bool v))) s:=λv e=>e▸h;refine t6 entry_eq_loop ?_;refine O (ya plain_eq_loop _) ?_;cases u<;>(refine ao (qD g U (ao (qD t x ?_)));rewrite[C];refine ao (qD g U (ao (qD t x (aM (J _ ?_)))));refine O T ?_;simp)|succ k G=>intro i N;have W:i<f.size:=Nat.lt_of_sub_eq_succ N;have C:f[((i:Nat):Int).toNat]?=aa f[i]:=kH W;have J:a[((i:Nat):Int).toNat]?=aa (a[i]'(T▸W)):=kH (T▸W);have r:=G (i+1) (congrArg PI N);refine t6 entry_eq_loop ?_;refine O (ya plain_eq_loop _) ?_;cases u<;>(refine ao (qD g U (ao (qD t x ?_)));rewrite[C,J];exact ao (L i W (T▸W) _ _ (aM ⟨v9 plain_eq_loop _,r⟩)))
theorem DK(u:Bool)(V:s.heap.IsList l f)(m:s.heap.IsList b a)(k:A.units<fy)(T:f.size=a.size)(L:∀j(C:j<f.size)(J:j<a.size),l7 A.in1 s f[j] a[j])(h:Q (.bool !u) s):au (az PW w) A (Fl (bif u then .NotEq else .Eq) (.ref l) (.ref b)) Q E s:=by
 obtain⟨o,g,Z,n,U⟩:=V;obtain⟨M,t,d,P,x⟩:=m;have i:s.TypeIs (.ref b) "list":=⟨M,t,d⟩;have r:=λR q=>xdk (R:=R) u g U t x T L q _ 0 rfl;have K:¬(f.size !=a.size)=true:=by refine O T ?_;simp
 cases u with|false=>refine CS (op:=.Eq) ⟨o,g,Z⟩ ⟨M,t,d⟩ xeh (uf xeh ⟨o,g,Z⟩ F.entry_list_eq (F.args_list_eq_2 _ _) (S:=λc R S=>c=A/\S=s/\R (.ok (.ret (.bool true))) s) (λc R S q=>?_) ⟨rfl,rfl,nofun,h⟩) k;obtain⟨rfl,e,q⟩:=q;subst e;show au _ _ (wD (.ref b) (.type "list")>>=_) _ _ _;refine ao (Ad i Ui (ao (qD g U (ao (qD t x ?_)))));rewrite[if_neg K];exact aM ⟨v9 plain_eq_loop _,r _ q⟩|true=>refine CS (op:=.NotEq) ⟨o,g,Z⟩ ⟨M,t,d⟩ Ml (uf Ml ⟨o,g,Z⟩ xcR (xcI _ _) (S:=λc R S=>c=A/\S=s/\R (.ok (.ret (.bool false))) s) (λc R S q=>?_) ⟨rfl,rfl,nofun,h⟩) k;obtain⟨rfl,e,q⟩:=q;subst e;show au _ _ (wD (.ref b) (.type "list")>>=_) _ _ _;refine ao (Ad i Ui (ao (qD g U (ao (qD t x ?_)))));rewrite[if_neg K];exact aM ⟨v9 plain_eq_loop _,r _ q⟩
theorem Vv(u:Bool)(V:s.heap.IsTuple l f)(r:s.heap.IsTuple b a)(k:A.units<fy)(T:f.size=a.size)(L:∀j(C:j<f.size)(J:j<a.size),l7 A.in1 s f[j] a[j])(h:Q (.bool !u) s):au (az PW w) A (Fl (bif u then .NotEq else .Eq) (.ref l) (.ref b)) Q E s:=by
 obtain⟨o,g,Z,n,U⟩:=V;obtain⟨M,t,d,P,x⟩:=r;have i:s.TypeIs (.ref b) "tuple":=⟨M,t,d⟩;have I:∀p∈f.toList.zip a.toList,l7 A.in1 s p.1 p.2:=λp m=>by obtain⟨j,Y,e⟩:=JC.mp m;have C:j<f.size:=iz Y (by exact O gP (vY _ _));have J:j<a.size:=T▸C;have H:p=(f[j],a[j]):=e.symm.trans List.getElem_zip;exact H▸L j C J
 cases u with|false=>refine CS (op:=.Eq) ⟨o,g,Z⟩ ⟨M,t,d⟩ xcS (uf xcS ⟨o,g,Z⟩ F.entry_tuple_eq (F.args_tuple_eq_2 _ _) (S:=λc R S=>c=A/\S=s/\R (.ok (.ret (.bool (f.size==a.size)))) s) (λc R S q=>?_) ⟨rfl,rfl,nofun,by exact O T (O (beq_self_eq_true ..) h)⟩) k;obtain⟨rfl,e,q⟩:=q;subst e;show au _ _ (wD (.ref b) (.type "tuple")>>=_) _ _ _;exact ao (Ad i TP (ao (Du g U (ao (Du t x (ao (Kf (λp m Q q=>ao (I p m _ _ (aM q))) (aM q))))))))|true=>refine CS (op:=.NotEq) ⟨o,g,Z⟩ ⟨M,t,d⟩ xcT (uf xcT ⟨o,g,Z⟩ F.entry_tuple_ne (F.args_tuple_ne_2 _ _) (S:=λc R S=>c=A/\S=s/\R (.ok (.ret (.bool (f.size !=a.size)))) s) (λc R S q=>?_) ⟨rfl,rfl,nofun,by exact O T (O (bne_self_eq_false ..) h)⟩) k;obtain⟨rfl,e,q⟩:=q;subst e;show au _ _ (wD (.ref b) (.type "tuple")>>=_) _ _ _;exact ao (Ad i TP (ao (Du g U (ao (Du t x (ao (Kf (λp m Q q=>ao (I p m _ _ (aM q))) (aM q))))))))
end
end
section
open PySem.SeqAt
noncomputable def DS(d:List (ai×T)):T:=.dS (d.map (·.1)) (d.map (·.2))
noncomputable def getD(d:List (ai×T))(k:ai):Option T:=(d.find? λp=>p.1=k).map (·.2)
theorem Ai{K:Type}[DecidableEq K]{X:List ah}{h:aA}{k:K}{d:List (K×T)}:∀{W:List aj},ay X h (d.map (·.2)) W->((d.find? λp=>p.1=k).map (·.2)=ak->zk ((d.map (·.1)).zip W) k=ak)/\∀t,(d.find? λp=>p.1=k).map (·.2)=aa t->∃v,zk ((d.map (·.1)).zip W) k=aa v/\Rep X h t v:=by induction d with|nil=>exact λ_=>⟨λ_=>rfl,λ_ e=>nomatch e⟩|cons q d G=>intro W r;cases W with|nil=>exact r.elim|cons u W=>
by_cases Q:q.1=k;.have H:zk ((q.1,u)::(d.map (·.1)).zip W) k=aa u:=congrArg (ur qL) (C0 (decide_eq_true Q));have L:((q::d).find? λp=>p.1=k).map (·.2)=aa q.2:=congrArg (ur qL) (C0 (decide_eq_true Q));exact⟨λe=>gone L e,λt e=>⟨u,H,nU (L.symm.trans e)▸r.1⟩⟩
.have a:¬decide (q.1=k)=af:=λe=>Q (of_decide_eq_true e);have H:zk ((q.1,u)::(d.map (·.1)).zip W) k=zk ((d.map (·.1)).zip W) k:=congrArg (ur qL) (C1 a);have L:((q::d).find? λp=>p.1=k).map (·.2)=(d.find? λp=>p.1=k).map (·.2):=congrArg (ur qL) (C1 a);exact⟨λe=>H.trans ((G r.2).1 (L.symm.trans e)),λt e=>H.symm▸(G r.2).2 t (L.symm.trans e)⟩
noncomputable def SV(t:T):Prop:=Mine.flat t=af\/∃l,t=.tup l/\∀a∈l,Mine.flat a=af
noncomputable def TE:Nat->T->T->Prop|0,_,_=>False|n+1,t,u=>t=u/\Mine.flat t=af\/(∃l m,(t=.list l/\u=.list m\/t=.tup l/\u=.tup m)/\l.length=m.length/\∀(i:Nat)a b,l[i]?=aa a->m[i]?=aa b->TE n a b)\/∃d j,t=DS d/\u=DS j/\d.length=j.length/\∀p∈d,Mine.getD j p.1=aa p.2/\SV p.2
theorem TE.flat{n:Nat}{t:T}(h:Mine.flat t=af):TE (n+1) t t:=.inl ⟨rfl,h⟩
theorem TE.list{n:Nat}{l m:List T}(e:l.length=m.length)(h:∀(i:Nat)a b,l[i]?=aa a->m[i]?=aa b->TE n a b):TE (n+1) (.list l) (.list m):=.inr (.inl ⟨l,m,.inl ⟨rfl,rfl⟩,e,h⟩)
theorem TE.tup{n:Nat}{l m:List T}(e:l.length=m.length)(h:∀(i:Nat)a b,l[i]?=aa a->m[i]?=aa b->TE n a b):TE (n+1) (.tup l) (.tup m):=.inr (.inl ⟨l,m,.inr ⟨rfl,rfl⟩,e,h⟩)
theorem TE.dict{n:Nat}{d j:List (ai×T)}(e:d.length=j.length)(h:∀p∈d,Mine.getD j p.1=aa p.2/\SV p.2):TE (n+1) (DS d) (DS j):=.inr (.inr ⟨d,j,rfl,rfl,e,h⟩)
theorem Th{j:dw}{w:bF}{A:aF}{E:aj->aq->Prop}{s:aq}{b:Array UInt8}{t u:mj}{Q:Bool->aq->Prop}(h:Q af s):au (az j w) A (IZ (.bytes b t) (.bytes b u)) Q E s:=by unfold IZ;refine dH ?_;refine xeu (λG=>ao (qJ (aM h))) λ_=>?_;exact ao (richCompare_gives (op:=.Eq) (T:="bytes") rfl rfl FB.slot_bytes_eq FB.entry_bytes_eq (FB.args_bytes_eq_2 _ _) (gives_bytes_eq b b t u) (λx=>nomatch x) (yg (by simpa using h)))
section
variable{X Y:List ah}
theorem D7{A:aF}{s:aq}{t:T}{v q:aj}(h:Mine.flat t=af)(r:Rep X s.heap t v)(f:Rep Y s.heap t q):EqAt A s v q af:=by cases t with|none=>exact(show v=q from jR r (i8 f))▸EqAt.same _|bool b=>exact(show v=q from jR r (i8 f))▸EqAt.same _|aI u=>exact(show v=q from jR r (i8 f))▸EqAt.same _|int i=>refine aC r.cL λa I=>?_;subst I;refine aC f.cL λb I=>?_;subst I;exact beq_self_eq_true i▸EqAt.int_int i a i b|str x=>refine aC r.eV λa I=>?_;subst I;refine aC f.eV λb I=>?_;subst I;exact beq_self_eq_true x▸EqAt.str_str x a x b|bytes x=>exact r.elim λa e=>f.elim λb U=>e▸U▸λj w E Q B=>Th B|_=>cases h
theorem ay.at2{h:aA}{F:List T}{K:Array aj}(r:ay X h F K.toList){j:Nat}(b:j<K.size):∃t,F[j]?=aa t/\Rep X h t K[j]:=by have V:=r.length;replace V:=dm▸V;have a:j<F.length:=V▸b;refine⟨F[j],cy a,?_⟩;exact r.get (cy a) (by exact O gM (kH b))
theorem size_eq{h:aA}{l m:List T}{xs f:Array aj}(R:ay X h l xs.toList)(D:ay Y h m f.toList)(e:l.length=m.length):xs.size=f.size:=R.length.trans (e.trans D.length.symm)
theorem ZI{A:aF}{s:aq}{t:T}{v q:aj}(h:SV t)(r:Rep X s.heap t v)(d:Rep Y s.heap t q)(g:A.units<fy):EqAt A s v q af:=by
 rcases h with h|⟨l,rfl,h⟩;.exact D7 h r d
 .refine cH r.jS λa xs I n p R=>?_;subst I;refine cH d.jS λb f I m F D=>?_;subst I;by_cases G:a=b;.subst G;exact EqAt.same _
  have:=RcAt.tuples (A:=A) (s:=s) (e:=λ_=>af) p F g λj C J=>by refine aG (R.at2 C) λt c S=>?_;refine aG (D.at2 J) λi k Z=>?_;exact D7 (h t (eO c)) S (nU (c.symm.trans k)▸Z)
  have e:(((gc (min xs.size f.size)).all λ_=>af)&&xs.size==f.size)=af:=by refine O (cg.mpr λ_ _=>rfl) (O (size_eq R D rfl) ?_);simp
  exact EqAt.of_refs G (e▸this)
theorem ZJ{A:aF}{s:aq}{w:List (ai×aj)}{j:List (ai×T)}(Z:A.units<fy)(R:∀k t,Mine.getD j k=aa t->∃v,zk w k=aa v/\Rep Y s.heap t v){d:List (ai×T)}:∀{W:List aj},ay X s.heap (d.map (·.2)) W->(∀p∈d,Mine.getD j p.1=aa p.2/\SV p.2)->KeqHits A s w ((d.map (·.1)).zip W) af:=by induction d with|nil=>exact λ_ _=>.nil|cons p d G=>intro W r h;cases W with|nil=>exact r.elim|cons u W=>refine aV (h p (aP ..)) λC J=>?_;refine aG (R p.1 p.2 C) λv K c=>?_;exact .hit (e:=af) (b:=af) K (ZI J r.1 c Z) (G r.2 λq m=>h q (aY _ m))
theorem Pd{A:aF}{s:aq}{l m:List T}{xs f:Array aj}{R:T->T->Prop}(G:∀{t u:T}{v q:aj},R t u->Rep X s.heap t v->Rep Y s.heap u q->l7 A s v q)(h:∀(i:Nat)t u,l[i]?=aa t->m[i]?=aa u->R t u)(a:ay X s.heap l xs.toList)(D:ay Y s.heap m f.toList)(j:Nat)(C:j<xs.size)(J:j<f.size):l7 A s xs[j] f[j]:=by refine aG (a.at2 C) λt c S=>?_;refine aG (D.at2 J) λg k Z=>?_;exact G (h j t g c k) S Z
theorem MI{A:aF}{s:aq}{n:Nat}{t u:T}{l m:List T}{v c:aj}{E Q:aj->aq->Prop}(d:Bool)(G:∀{t u:T}{v c:aj},TE n t u->Rep X s.heap t v->Rep Y s.heap u c->l7 A.in1 s v c)(j:t=.list l/\u=.list m\/t=.tup l/\u=.tup m)(e:l.length=m.length)(h:∀(i:Nat)a b,l[i]?=aa a->m[i]?=aa b->TE n a b)(r:Rep X s.heap t v)(f:Rep Y s.heap u c)(K:A.units<fy)(q:Q (.bool !d) s):∃a b,v=.ref a/\c=.ref b/\au (az PW w) A (Fl (bif d then .NotEq else .Eq) (.ref a) (.ref b)) Q E s:=by
 rcases j with⟨rfl,rfl⟩|⟨rfl,rfl⟩;.refine cH r.d8 λa xs I _ p R=>?_;subst I;refine cH f.d8 λb g I _ F D=>?_;subst I;exact⟨a,b,rfl,rfl,DK d p.isList F.isList K (size_eq R D e) (Pd G h R D) q⟩
 .refine cH r.jS λa xs I _ p R=>?_;subst I;refine cH f.jS λb g I _ F D=>?_;subst I;exact⟨a,b,rfl,rfl,Vv d p F K (size_eq R D e) (Pd G h R D) q⟩
theorem TE.eqW{n:Nat}:∀{A:aF}{s:aq}{t u:T}{v c:aj},TE n t u->Rep X s.heap t v->Rep Y s.heap u c->A.units+n<fy->l7 A s v c:=by induction n with|zero=>exact λh=>h.elim|succ n G=>
intro A s t u v c h r f Z;have K:A.units<fy:=gO (e7 _ _) Z;have i:A.in1.units+n<fy:=HV Z;rcases h with⟨rfl,h⟩|⟨l,m,g,e,h⟩|⟨d,w,rfl,rfl,e,h⟩;.exact .of (D7 h r f)
.have k:=λ(E Q:aj->aq->Prop)q=>MI (E:=E) (Q:=Q) av (λh r f=>G h r f i) g e h r f K q;refine wG (k (λ_ _=>True) (λ_ _=>True) trivial) λa b H L _=>?_;exact O H (O L (l7.refs λE Q q=>(k E Q q).elim λy z=>z.elim λj z=>Ko (H.symm.trans z.1)▸Ko (L.symm.trans z.2.1)▸z.2.2))
.refine jP r.qZ λa W I U C p H R=>?_;subst I;refine jP f.qZ λb x I P o F L D=>?_;subst I;refine l7.refs λE Q q=>keq_eq C o p F K (λ_=>ZJ (gO (e7 _ _) i) (λk t N=>(Ai D).2 t N) R h) ?_;exact O gP (O gP (O H (O L (O (aH ..) (O (aH ..) (O e (O (beq_self_eq_true ..) q)))))))
theorem aX.alike{A:aF}{B:aA}{n:Nat}{t u:T}(ne:Bool)(h:TE n t u)(Z:A.units+n<fy)(c:(∃l,t=.list l)\/∃l,t=.tup l):aX A X B (bif ne then .NotEq else .Eq) t u !ne:=λs E a b k f o=>by cases n with|zero=>exact h.elim|succ n=>
rcases h with⟨rfl,h⟩|⟨l,m,V,e,h⟩|⟨d,j,rfl,_⟩;.rcases c with⟨l,rfl⟩|⟨l,rfl⟩<;>cases h
.refine wG (MI (E:=E) (Q:=λv S=>Ks s S/\Rep X S.heap (.bool !ne) v) ne (λh r g=>TE.eqW h r g (HV Z)) V e h f o (gO (e7 _ _) Z) ⟨.refl s,rfl⟩) λy i I N z=>?_;subst I;subst N;cases ne<;>exact z
.rcases c with⟨l,e⟩|⟨l,e⟩<;>cases e
theorem aX.same{A:aF}{B:aA}{n:Nat}{t u:T}(h:TE n t u)(Z:A.units+n<fy)(c:(∃l,t=.list l)\/∃l,t=.tup l):aX A X B .Eq t u af:=aX.alike av h Z c
theorem aX.q6{A:aF}{B:aA}{n:Nat}{t u:T}(h:TE n t u)(Z:A.units+n<fy)(c:(∃l,t=.list l)\/∃l,t=.tup l):aX A X B .NotEq t u av:=aX.alike af h Z c
theorem aX.xbq{A:aF}{B:aA}{l m:List Int}(i:A.units+1<fy):aX A X B .Eq (.list (l.map .int)) (.list (m.map .int)) (decide (l=m)):=λs E a b k n o=>by
 refine cH n.d8 λa xs I U p R=>?_;subst I;refine cH o.d8 λb f I P F D=>?_;subst I;have V:xs.size=l.length:=R.length.trans (aH ..);have M:f.size=m.length:=D.length.trans (aH ..);have K:=rL i;by_cases c:xs.size=f.size
 .refine RcAt.lists (e:=λj=>decide (l[j]?=m[j]?)) p.isList F.isList c K (λj C J=>?_) PW w E _ ⟨.refl s,?_⟩;.have d:l[j]?=aa l[j]:=cy (V▸C);have r:m[j]?=aa m[j]:=cy (M▸J);have S:=R.get (i:=j) (t:=.int l[j]) (by refine O eS (O d ?_);rfl) (by exact O gM (kH C));have Z:=D.get (i:=j) (t:=.int m[j]) (by refine O eS (O r ?_);rfl) (by exact O gM (kH J));refine aC S.cL λx H=>?_;refine aC Z.cL λy L=>?_;exact O H (O L (O d (O r (O (show decide (aa l[j]=aa m[j])=(l[j]==m[j])by rw[tY];simp) (EqAt.int_int _ _ _ _)))))
  .refine congrArg Nt (tY.mpr ⟨λh=>decide_eq_true (J5 λj=>?_),λh=>cg.mpr λj _=>decide_eq_true (of_decide_eq_true h▸rfl)⟩);refine bw (yt j l.length) (λg=>?_) λg=>?_;.exact of_decide_eq_true (cg.mp h j (rN.mpr (V▸g)))
   .exact O (pH g) (O (pH (aZ (dh (M.symm.trans (c.symm.trans V))) g)) rfl)
 .refine RcAt.lists_lengths p.isList F.isList (bne_iff_ne.mpr c) K PW w E _ ⟨.refl s,?_⟩;exact congrArg Nt (decide_eq_false λe:l=m=>c (V.trans (e▸M.symm))).symm
theorem aX.Pe{A:aF}{h₀:aA}{l:List T}(Z:A.units+1<fy):aX A X h₀ .Eq (.list l) (.list []) l.isEmpty:=λs E a b k c o=>by refine cH c.d8 λa xs I U p R=>?_;subst I;refine cH o.d8 λb f I P F D=>?_;subst I;have V:xs.size=l.length:=R.length;have M:f.size=0:=D.length;cases l with|nil=>exact DK av p.isList F.isList (rL Z) (V.trans M.symm) (λj C=>absurd (iz C (dh V)) (Kz j)) ⟨.refl s,rfl⟩|cons=>exact RcAt.lists_lengths p.isList F.isList (by refine O V (O M ?_);rfl) (rL Z) PW w E _ ⟨.refl s,rfl⟩
theorem aX.xdl{A:aF}{B:aA}{l:List T}(Z:A.units+1<fy):aX A X B .NotEq (.list l) (.list []) !l.isEmpty:=λs E a b k d o=>by refine cH d.d8 λa xs I h p R=>?_;subst I;refine cH o.d8 λb f I P c D=>?_;subst I;have V:xs.size=l.length:=R.length;have M:f.size=0:=D.length;have K:=rL Z;cases l with|nil=>exact DK af p.isList c.isList K (V.trans M.symm) (λj C=>absurd (iz C (dh V)) (Kz j)) ⟨.refl s,rfl⟩|cons=>refine aC p λn e=>?_;refine aC c λg U=>?_;exact richCompare_meets_room (op:=.NotEq) ⟨_,e,rfl⟩ ⟨_,U,rfl⟩ Ml xcR (xcI _ _) (list_ne_lengthsAt a b xs f _ _ _ _ _ _ (by refine O V (O M ?_);rfl)) ⟨e,U,nofun,.refl s,rfl⟩ K
end
end
abbrev qq(M:cZ)(n q:ai)(D i:aj):eU:=fd M n q 3 D i
section
variable{A:aF}{H:List ah}{N B s S:aq}{Z:List ah}{G:aN}{P a:Gm}{M:List (ah×T)}{E:aj->aq->Prop}
theorem FS.xbr(f:FS H N B s Z G P M)(Y:G.kindOf x=aa .local\/G.kindOf x=aa .cell)(C:dg G x∈aK G)(K:P x=aa (.int i))(L:EV A G (Z++H) s.heap e (.int j))(X:∀S,FS H N B S Z G (upd P x (.int (i+j))) M->Q .next S)(c:autoParam ((x==("__classdict__":ai))=av) yAD):au (az PW w) A (dY (.AugAssign (.Name x V) .Add e b) G) Q E s:=by refine O (xcG ..) ?_;refine aG (f.cx.val x _ K) λv r n=>?_;refine aC r.cL λt z=>?_;subst z;refine ao (cV (ao (Dg f.cx.ok.fn n ?_ c (Lh Y))));refine ao (dH (aB (L s E λ_ _ e=>e) (λu U y=>?_) λ_ _ e=>e));refine aV y λk J=>?_;refine aC J.cL λg z=>?_;subst z;refine ao (cV (ao λm p W=>?_));refine O (DY ..) ?_;refine Mz (Q:=λv S=>au (az PW w) A (do fL V;kQ G x v;pure .next) Q E S) ?_ m p W;exact ao (cV (ao ((f.step (k.trans (.tok ..))).bind Y C (.fO _ _) λS _ h=>aM (X S h))))
end
section
variable{A:aF}{H:List ah}{N B s S:aq}{Z:List ah}{G:aN}{P r:Gm}{M:List (ah×T)}{E:aj->aq->Prop}
theorem FS.ret(f:FS H N B s Z G P M)(L:EV A G H s.heap e t)(X:∀v S,Ks N S->Rep H S.heap t v->Q (.ret v) S):au (az PW w) A (dY (.Return (aa e) a) G) Q E s:=DG (aB (L s E λ_ _ e=>e) (λv g y=>X v g (f.ks.trans y.1) y.2) λ_ _ e=>e)
theorem EV.less(x:EV A G X b e t)(h:∀a∈Y,a∈X):EV A G Y b e t:=λs E k=>aB (x s E k) (λv S y=>⟨y.1,Rep.less h _ _ y.2⟩) λ_ _ e=>e
theorem inR:∀a∈H,a∈Z++H:=λa m=>cJ _ m
end
def lk(k:Nat)(x:ai):Option pR:=(d9 (aO PW k)).names.lookup x
noncomputable def jf:List Int->Int|[]=>0|i::r=>i+jf r
theorem UL(l:List Int)(a:Int):jf (l++[a])=jf l+a:=by induction l with|nil=>simp[jf]|cons x r G=>rw[z6,jf,G,jf];exact(nX ..).symm
section
variable{A:aF}{H:List ah}{N B s S:aq}{Z:List ah}{G:aN}{P d:Gm}{M:List (ah×T)}{E:aj->aq->Prop}
theorem KO{f:Array aj}(e:t≠c):∀(n i:Nat)(s:aq)(Q:List aj->aq->Prop),s.heap.IsListIter c t i->s.heap.IsList t f->i+n<=f.size->(∀h',h'.IsListIter c t (i+n)->ud c s.heap h'->Q ((f.toList.drop i).take n) {s with heap:=h'})->au (az PW w) A (draw (.ref c) n) Q E s
|0,i,s,Q,a,_,_,X=>by show au _ _ (pure []) Q E s;exact aM (by simpa using X s.heap a (xhp ..))|n+1,i,s,Q,a,k,m,X=>by
 have W:i<f.size:=iz (vM (qE n)) m;show au _ _ (zx (.ref c)>>=_) Q E s;refine ao (YU a k (x:=f[i]) (by simp[W]) λj h l=>?_);refine ao (dH (KO e n (i+1) _ _ h (k.extBut l.extBut e) (aZ (dh (rI i n)) m) λC b g=>aM ?_));have U:f.toList.drop i=f[i]::f.toList.drop (i+1):=by simp[CT,W]
 have:=X C (by exact O (rI i n).symm b) (l.trans g);rw[U,W5]at this;exact this
theorem UM{f:Array aj}(j:A.handled=ak)(g:s.heap.IsList t f)(X:∀h',xei s.heap.objs.size s.heap h'->Q f.toList {s with heap:=h'}):au (az PW w) A (unpackItems (.ref t) f.size ak) Q E s:=by
 have W:t≠s.heap.objs.size:=by refine aG g λo i _=>?_;exact bS (dQ i)
 unfold unpackItems;refine ao ?_
 .unfold notIterableAtAll;refine ao (Mm g.typeIs slot_list_iter.lookup ?_);refine aM ?_;simp only[rJ,if_false];refine ao (dH (z7 g ?_));refine ao (dH (KO W f.size 0 _ _ ⟨_,cE _ rfl,rfl,rfl⟩ (g.push _) (dh (jm _ _)) λc h l=>?_));have k:List.take f.size (List.drop 0 f.toList)=f.toList:=by exact O Am (List.take_of_length_le (by simp))
  refine O k ?_;refine O (if_neg (by simp)) ?_;have a:c.IsList t f:=(g.push _).extBut l.extBut W;refine ao (dH (wpAny_pyNext_list_end j h a (by simp) λC n=>?_));simp only[Option.isSome_none,rJ,if_false];refine aM (X C λb o R e=>n b o R (l.extBut b o R (bX _ e)))
theorem AS.lst(l:A.handled=ak){xs:List ai}{ps:List aR}{F:List T}(Y:∀x∈xs,(G.kindOf x=aa .local\/G.kindOf x=aa .cell)/\dg G x∈V)(e:xs.length=F.length)(U:ps.length=xs.length)(g:pK D G=(xs.zip ps).map λy=>(av,fV (.Name y.1 y.2) G)):AS A G V (.Tuple D k i) (.list F) P (bQ P xs F):=λX s E v j c r=>by
 obtain⟨L,K,rfl,n,p,r⟩:=r.d8;have h:=r.length;rw[dm]at h;have f:(pK D G).length=K.size:=by exact O g (O (aH ..) (O gP (O U (O (nZ ..) (O h (O e rfl))))))
 have a:(pK D G).findIdx? (·.1)=ak:=by refine O g (Uu.mpr ?_);intro z I;obtain⟨y,_,rfl⟩:=bE.mp I;rfl
 refine O (arm_assign_Tuple ..) ?_;refine ao (cV ?_);unfold unpack;refine O f (O a ?_);refine ao (dH (UM l p.isList λh' m=>?_));have k:Kp s.heap h':=λb o e=>m b o (bS (dQ e)) e;refine O g (O bO ?_);refine aB (I6 (s:={s with heap:=h'}) j e U Y (c.kp k) (ay.kp (k.bL X) _ _ r)) (λ_ J q=>⟨(br.of (⟨k,rfl⟩:Ks s {s with heap:=h'})).trans q.1,q.2⟩) λ_ _ e=>e
theorem FS.Qn{i R:aR}(f:FS H N B s Z G P M)(L:EV A G (Z++H) s.heap e t)(K:AS A G (aK G) (.Tuple a k i) t P d)(X:∀S,FS H N B S Z G d M->Q .next S)(W:autoParam (rT [.Tuple a k i] e R.line G=pure av) yAR)(C:autoParam (rU [.Tuple a k i] e G=pure ak) yAR):au (az PW w) A (dY (.Assign [.Tuple a k i] e R) G) Q E s:=AB (aB (L s E λ_ _ e=>e) (λv U y=>by have b:=f.step y.1;exact aB (K _ U E v b.cx.ok.iX b.cx y.2) (λ_ J z=>X J (b.re z.1 z.2)) λ_ _ e=>e) λ_ _ e=>e) W C
theorem FS.cond{a:aS}{c i:List cZ}{R:aR}{b:Bool}{Q:ek->aq->Prop}(f:FS H N B s Z G P M)(g:TV A G s.heap a b)(C:b=true->∀S,FS H N B S Z G P M->au (az PW w) A (b8 c G) Q E S)(J:b=false->∀S,FS H N B S Z G P M->au (az PW w) A (b8 i G) Q E S):au (az PW w) A (dY (.If a c i R) G) Q E s:=by
 refine Q6 (aB (g s E λ_ _ e=>e) (λr S y=>?_) λ_ _ e=>e);refine aV y λk u=>?_;try clear y;subst u
 cases r with|true=>exact C rfl S (f.step k)|false=>exact J rfl S (f.step k)
theorem CA.zp{l:List T}(I:l.length<=100000):CA A X h₀ (.builtin "len") [.list l] (.int l.length):=λs E K k r=>by refine aC (ay.jy r) λv u=>?_;subst u;refine cH r.1.d8 λa xs u n p R=>?_;subst u;have V:=R.length;rw[dm]at V;refine call_len_list p.isList (jM (nY.mpr (jz V I)) dk) ?_;exact O V ⟨.tok ..,.fO _ _⟩
end
theorem foldl_rep:∀(k:Nat)(i:Array aj),(ND (λz o=>z++o) i (eH k #[v])).toList=i.toList++eH k v|0,i=>by simp|k+1,i=>by rw[C9,pJ,foldl_rep k,C9];simp
theorem ay.rep(r:Rep X h t v)(k:Nat):ay X h (eH k t) (eH k v):=by induction k with|zero=>trivial|succ k G=>exact⟨r,G⟩
section
variable{A:aF}{H:List ah}{N g s S:aq}{Z:List ah}{G:aN}{P d:Gm}{M:List (ah×T)}{E:aj->aq->Prop}{X:List ah}{B:aA}
theorem UN{f:Array aj}{x:Int}(V:s.heap.get? l=aa {cls:=.type "list",dict:=ak,data:=.seq f k,slots:=#[]})(C:-(2^63:Int)<=x)(a:x<2^63)(T:f.size*x.toNat<=2^24)(h:Q (.ref s.heap.objs.size) {s with heap:=s.heap.push {cls:=.type "list",data:=.seq (ND (λz o=>z++o) #[] (eH (if f.isEmpty=af then 0 else x.toNat) f))}}):au (az PW w) A (Q5 .Mult (.ref l) (.int x u)) Q E s:=wpAny_binaryOp_repeat_ref (T:="list") (U:="int") dk ⟨_,V,rfl⟩ (λS=>typeIs_int S x u) noFill_list_mul F.fills_int_mul xcU repeat_list F.slot_int_index.lookup (wC xcU (typeIs_int s x u) F.entry_int_rmul (F.args_int_rmul_2 _ _) (int___rmul___int_list x u l f k) ⟨V,rfl,⟨_,V,rfl⟩,wC F.slot_list_mul ⟨_,V,rfl⟩ F.entry_list_mul (F.args_list_mul_2 _ _) (AutoListH.list___mul___list_int_3 l f k x u (by simp[S4];exact iT (fW C) (eF a)) (tT (cC T)) (by simp[xhq,qS];exact T)) ⟨V,h⟩⟩)
theorem bD.rZ{k:Int}(l:bJ X B)(D:0<=k)(C:k<=100000):∀(s:aq)(E:aj->aq->Prop)(a b:aj),Kp B s.heap->Rep X s.heap (.list [t]) a->Rep X s.heap (.int k) b->au (az PW w) A (Q5 .Mult a b) (λv S=>Ks s S/\Rep X S.heap (.list (eH k.toNat t)) v/\∃a,v=.ref a/\s.heap.get? a=ak) E s:=λs E a b j f o=>by
 refine cH f.d8 λL xs I n p R=>?_;subst I;refine aC o.cL λu I=>?_;subst I;refine aC p λm V=>?_;refine aC R.jy λv K=>?_;have Y:xs=#[v]:=by exact Array.toList_inj.mp K
 subst Y;refine UN V (fW D) (jM C jj) (by simp;exact eF C) ⟨.push ..,?_,_,rfl,get?_none_of_le (cQ _)⟩;have W:Kp s.heap (s.heap.push {cls:=.type "list",data:=.seq (ND (λz c=>z++c) #[] (eH (if(#[v]:Array aj).isEmpty=af then 0 else k.toNat) #[v]))}):=λ_ _ e=>bX _ e;refine⟨_,_,rfl,(l.kp j).new,⟨0,cE _ rfl⟩,?_⟩;refine O (if_neg (by simp)) (O (foldl_rep ..) ?_);simpa using ay.rep (Rep.kp (W.bL X) _ _ R.1) k.toNat
theorem EF.rZ{k:Int}(f:bJ X B)(V:EV A G X B l (.list [t]))(h:EV A G X B r (.int k))(D:0<=k)(C:k<=100000):EF A G X B (.BinOp l .Mult r i) (.list (eH k.toNat t)):=λs E q=>wpAny_BinOp (aB (V s E q) (λa U x=>aB (h U E (q.trans x.1.kp)) (λb J y=>aB (bD.rZ (f.kp q) D C J E a b (x.1.trans y.1).kp (Rep.kp (y.1.kp.bL X) _ _ x.2) y.2) (λc j z=>⟨(x.1.trans y.1).trans z.1,z.2.1,let⟨a,e,n⟩:=z.2.2;⟨a,e,g9 (x.1.trans y.1).kp n⟩⟩) λ_ _ e=>e) λ_ _ e=>e) λ_ _ e=>e)
theorem FS.view{x:ai}{D:ah}{t:T}{i:Nat}(f:FS H N g s Z G P M)(K:P x=aa (.aI (.ref D)))(F:M[i]?=aa (D,t)):CX (aK G) s.heap G (upd P x t):=by
 have b:=f.acc _ (eO F);have c:=f.cx.narrow (Y:=aK G) f.cx.ok.iX (λ_ m=>m) λa m=>f.cx.live a (f.cx.ok.iX a m);refine⟨c.ok,c.live,c.eZ,λy u e=>?_⟩;by_cases q:y=x;.subst q;replace e:=pL ..▸e;cases e;refine aG (c.val y _ K) λv r n=>?_;obtain rfl:=r.cR;exact⟨_,(b.2.2.less f.cx.ok.iX).rep b.2.1,n⟩
 .replace e:=eE _ _ q▸e;exact c.val y u e
end
noncomputable def en{L:Type}:Int->List L->List (Int×L)|_,[]=>[]|i,a::l=>(i,a)::en (i+1) l
theorem uv{L:Type}{f:L->T}:∀{i:Int}{l:List L},jZ i (l.map f)=(en i l).map λq=>.tup [.int q.1,f q.2]|_,[]=>rfl|i,a::l=>by rw[f6,jZ,en,f6,uv]
theorem r8{L:Type}:∀{i:Int}{l:List L}{q:Int×L},q∈en i l->∃k:Nat,q.1=i+k/\l[k]?=aa q.2
|i,a::l,q,h=>by
 rcases bA.mp h with rfl|h;.exact⟨0,by simp,rfl⟩
 .refine aG (r8 h) λk H b=>?_;exact⟨k+1,O H ((nX i 1 k).trans (congrArg (i+·) (jO 1 (k:Int)))),by simpa using b⟩
def gi(l:List Int)(i:Int):Int:=l.getD i.toNat 0
def gr(r:List (List Int))(i j:Int):Int:=gi (r.getD i.toNat []) j
structure Sq(r:List (List Int)):Prop where
len:r.length=5
row:∀l∈r,l.length=5
noncomputable def LI(l:List Int):T:=.list (l.map .int)
def b7(r:List (List Int)):T:=.list (r.map LI)
section
variable{A:aF}{X:List ah}{B:aA}{G:aN}
theorem EV.gi{l:List Int}(K:EV A G X B v (LI l))(F:EV A G X B i (.int k))(D:0<=k)(C:k<l.length)(I:l.length<=100000)(hs:autoParam (jT i) yAW):EV A G X B (.Subscript v i a) (.int (Mine.gi l k)):=EV.sub K F (cS.list (hs:=hs) D (sP C I) (by
refine O eS ?_;have:l[k.toNat]?=aa (l.getD k.toNat 0):=by refine O cz (O (cy (iu D C)) ?_);rfl
refine O this ?_;rfl))
theorem EV.xdm{l:List Int}(K:EV A G X B v (LI l))(F:EV A G X B i (.int k))(D:k<0)(C:-(l.length:Int)<=k)(I:l.length<100000)(W:autoParam (jT i) yAW):EV A G X B (.Subscript v i a) (.int (Mine.gi l (k+l.length))):=EV.sub K F (cS.ZE (hs:=W) D (by exact O (aH ..) C) (by exact O (aH ..) I) (by
refine O (aH ..) (O eS ?_);have:l[(k+l.length).toNat]?=aa (l.getD (k+l.length).toNat 0):=by refine O cz (O (cy ((Mu (Int.sub_neg k l.length▸Int.sub_nonneg_of_le C)).mpr (qx (Int.add_lt_add_right D _) (mH (mG _))))) ?_);rfl
refine O this ?_;rfl))
theorem EV.row{r:List (List Int)}{k:Int}(l:Sq r)(K:EV A G X B v (b7 r))(F:EV A G X B i (.int k))(D:0<=k)(C:k<5)(hs:autoParam (jT i) yAW):EV A G X B (.Subscript v i a) (LI (r.getD k.toNat [])):=EV.sub K F (cS.list (hs:=hs) D (eF C) (by
refine O eS ?_;have:r[k.toNat]?=aa (r.getD k.toNat []):=by rw[cz,cy (by have:=l.len;exact jk C this)];rfl
refine O this ?_;rfl))
theorem Sq.at{r:List (List Int)}(l:Sq r){k:Int}(D:0<=k)(C:k<5):(r.getD k.toNat []).length=5:=by have W:k.toNat<r.length:=jk C l.len;exact O cz (O (cy W) (l.row _ (nT W)))
theorem EV.gr(l:Sq r)(K:EV A G X B v (b7 r))(F:EV A G X B i (.int a))(Y:EV A G X B j (.int b))(D:0<=a)(C:a<5)(J:0<=b)(R:b<5)(W:autoParam (jT i) yAW)(I:autoParam (jT j) yAW):EV A G X B (.Subscript (.Subscript v i p1) j p2) (.int (Mine.gr r a b)):=EV.gi (hs:=I) (EV.row (hs:=W) l K F D C) Y J (by exact O (l.at D C) R) (by refine O (l.at D C) ?_;decide)
end
def jc(c:List Int)(p:Int):Int:=if p=0 then gi c (-1+c.length)else gi c (p-1)
def wX(c:List Int)(p:Int):Int:=gi c ((p+1).fmod c.length)
def pM(e:List (List Int))(c:List Int)(o:List Int)(q:Int×Int):Option (List Int):=if gr e q.2 (jc c q.1)<gr e q.2 (wX c q.1)then ak else aa (o.set q.2.toNat (gr e q.2 (jc c q.1)))
def pQ(e:List (List Int))(o c:List Int):Option (List Int):=(en 0 c).foldlM (pM e c) o
def yI(e p:List (List Int)):Option (List Int):=p.foldlM (pQ e) [4,4,4,4,4]
noncomputable def r5:List Int:=[0,1,2,3,4]
noncomputable def upTo(i:Int):List Int:=(gc i.toNat).map lI
def uq(e:List (List Int))(o:List Int):List T:=r5.flatMap λone=>if af=af then((upTo one).filter λi=>decide (gr e one i<gi o one)&&decide (gr e i one<gi o i)).map λ_=>.int 1 else[]
def ny(e p:List (List Int)):Bool:=match yI e p with|none=>av|aa o=>(uq e o).isEmpty
noncomputable def iD(j:dW)(x:ai):Bool:=j.names.lookup x==aa .local||j.names.lookup x==aa .cell
theorem AF{j:dW}(h:iD j x=af):j.names.lookup x=aa .local\/j.names.lookup x=aa .cell:=((yi _ _).mp h).imp eq_of_beq eq_of_beq
theorem m7(h:iD j x=af):dU j G a x=ak:=by unfold dU;rcases AF h with e|e<;>rewrite[e]<;>rfl
section
variable{A:aF}{G:aN}{X:List ah}{B:aA}{P:Gm}
theorem TG.name(h:iD j x=af)(n:i x=ak):TG A j G (.Name x Y) t i (upd i x t):=⟨λ_ _ _ a=>AS.name (a.ok x (AF h)).1 (a.ok x (AF h)).2,bq.out (bq.refl _) n⟩
theorem Xz(h:y∉xs):bQ i xs a y=i y:=by induction xs generalizing a i with|nil=>rfl|cons x xs b=>cases a with|nil=>rfl|cons t a=>exact(b λm=>h (aY _ m)).trans (eE _ _ λq=>h (q▸aP ..))
theorem TG.tup{xs:List ai}{ps:List aR}{F:List T}(d:A.handled=ak)(h:xs.all (iD j)=af)(e:autoParam (xs.length=F.length) yAR)(U:autoParam (ps.length=xs.length) yAR)(g:∀a C,pK D (dN j a C G)=(xs.zip ps).map λy=>(av,fV (.Name y.1 y.2) (dN j a C G)):=by intro _ _;rfl):TG A j G (.Tuple D b N) (.tup F) (dU j G P) (bQ (dU j G P) xs F):=have h:=cg.mp h
⟨λC a V t=>AS.tup d (λz m=>t.ok _ (AF (h z m))) e U (g a C),λy u q=>(Xz λm=>by exact gone q (m7 (h y m))).trans q⟩
theorem uZ(h:a=af)(k:b=af):(a&&(b&&af))=af:=by refine O h (O k ?_);rfl
theorem CU.l1{L:Type}{l u:aS}{q:List aS}{j:dW}{R:aR}{x:ai}{Y:aR}{kf:L->T}{as:List L}{p:L->Bool}{f:L->T}(c:CX X B G P)(F:IT A G X B u (.Name x Y) (as.map kf))(i:∀a∈as,mV A j G B (upd (dU j G P) x (kf a)) q (p a))(s:∀a∈as,p a=af->pB A j G X B (upd (dU j G P) x (kf a)) l (f a))(I:as.length<=100000)(H:autoParam (jb j G=af) yAK)(C:autoParam (iD j x=af) yAK)(W:autoParam (∀x,g7 u G x=pure x) yAI):CU A G X B (.ListComp l [⟨.Name x Y,u,q,0⟩] j R) (.list ((as.filter p).map f)):=CU.yy c H F (λa m=>.name C (m7 C)) i s I W
theorem CU.l2{L:Type}{l u:aS}{q:List aS}{j:dW}{R:aR}{x y:ai}{Y r N:aR}{b:Nat}{kf kg:L->T}{as:List L}{p:L->Bool}{f:L->T}(d:A.handled=ak)(c:CX X B G P)(F:IT A G X B u (.Tuple [.Name x Y,.Name y r] b N) (as.map λa=>.tup [kf a,kg a]))(i:∀a∈as,mV A j G B (bQ (dU j G P) [x,y] [kf a,kg a]) q (p a))(s:∀a∈as,p a=af->pB A j G X B (bQ (dU j G P) [x,y] [kf a,kg a]) l (f a))(I:as.length<=100000)(ok:autoParam (jb j G=af) yAK)(C:autoParam (iD j x=af) yAK)(J:autoParam (iD j y=af) yAK)(W:autoParam (∀x,g7 u G x=pure x) yAI):CU A G X B (.ListComp l [⟨.Tuple [.Name x Y,.Name y r] b N,u,q,0⟩] j R) (.list ((as.filter p).map f)):=CU.yy c ok F (λa m=>.tup d (xs:=[x,y]) (ps:=[Y,r]) (uZ C J)) i s I W
theorem CU.l3{L:Type}{l u:aS}{q:List aS}{j:dW}{R:aR}{x y z:ai}{Y r e N:aR}{b:Nat}{kf kg kh:L->T}{as:List L}{p:L->Bool}{f:L->T}(g:A.handled=ak)(c:CX X B G P)(F:IT A G X B u (.Tuple [.Name x Y,.Name y r,.Name z e] b N) (as.map λa=>.tup [kf a,kg a,kh a]))(i:∀a∈as,mV A j G B (bQ (dU j G P) [x,y,z] [kf a,kg a,kh a]) q (p a))(s:∀a∈as,p a=af->pB A j G X B (bQ (dU j G P) [x,y,z] [kf a,kg a,kh a]) l (f a))(I:as.length<=100000)(H:autoParam (jb j G=af) yAK)(C:autoParam (iD j x=af) yAK)(J:autoParam (iD j y=af) yAK)(d:autoParam (iD j z=af) yAK)(W:autoParam (∀x,g7 u G x=pure x) yAI):CU A G X B (.ListComp l [⟨.Tuple [.Name x Y,.Name y r,.Name z e] b N,u,q,0⟩] j R) (.list ((as.filter p).map f)):=CU.yy c H F (λa m=>.tup g (xs:=[x,y,z]) (ps:=[Y,r,e]) (by exact O Lc (O C (uZ J d)))) i s I W
section
variable{L:Type}{U n Z b:aS}{q:List aS}{j:dW}{R:aR}{t:List L}{m:L->T}{p:L->Bool}{f:L->T}{d:L->Gm}(c:CX X B G P)(H:jb j G=af)(F:IT A G X B b Z (t.map m))(k:∀a∈t,TG A j G Z (m a) (dU j G P) (d a))(i:∀a∈t,mV A j G B (d a) q (p a))(s:∀a∈t,p a=af->pB A j G X B (d a) n (f a))(I:t.length<=100000)(z:∃o,B.get? eo=aa o)(W:∀x,g7 b G x=pure x)
include c H F k i s I z W
theorem CU.Pf(o:∀a∈t,p a=af->xQ A j G B (d a) U (.str (g a)))(K:((t.filter p).map g).Nodup):CU A G X B (.DictComp U n [⟨Z,b,q,0⟩] j R) (.dS ((t.filter p).map g) ((t.filter p).map f)):=CU.O8 (knd:=strKind PW w) (tk:=.str) (λx Y h v r=>by refine aC r.eV λu y=>?_;subst y;exact beq_self_eq_true x) (λD l Y h e a=>NX e a) c H F k i o s K I z W
theorem CU.xdn(o:∀a∈t,p a=af->xQ A j G B (d a) U (.int (g a)))(K:((t.filter p).map g).Nodup):CU A G X B (.DictComp U n [⟨Z,b,q,0⟩] j R) (.dI ((t.filter p).map g) ((t.filter p).map f)):=CU.O8 (knd:=oE PW w) (tk:=.int) (λx Y h v r=>by refine aC r.cL λu y=>?_;subst y;exact beq_self_eq_true x) (λD l Y h e a=>NX e a) c H F k i o s K I z W
end
theorem CU.Iz{L:Type}{U n u:aS}{q:List aS}{j:dW}{R:aR}{x:ai}{Y:aR}{kf:L->T}{as:List L}{p:L->Bool}{g:L->ai}{f:L->T}(c:CX X B G P)(z:∃o,B.get? eo=aa o)(F:IT A G X B u (.Name x Y) (as.map kf))(i:∀a∈as,mV A j G B (upd (dU j G P) x (kf a)) q (p a))(k:∀a∈as,p a=af->xQ A j G B (upd (dU j G P) x (kf a)) U (.str (g a)))(s:∀a∈as,p a=af->pB A j G X B (upd (dU j G P) x (kf a)) n (f a))(K:((as.filter p).map g).Nodup)(I:as.length<=100000)(H:autoParam (jb j G=af) yAK)(C:autoParam (iD j x=af) yAK)(W:autoParam (∀x,g7 u G x=pure x) yAI):CU A G X B (.DictComp U n [⟨.Name x Y,u,q,0⟩] j R) (.dS ((as.filter p).map g) ((as.filter p).map f)):=CU.Pf c H F (λa m=>.name C (m7 C)) i s I z W k K
theorem CU.dS2{L:Type}{U n u:aS}{q:List aS}{j:dW}{R:aR}{x y:ai}{Y r N:aR}{b:Nat}{v e:L->T}{t:List L}{p:L->Bool}{g:L->ai}{f:L->T}(d:A.handled=ak)(c:CX X B G P)(z:∃o,B.get? eo=aa o)(F:IT A G X B u (.Tuple [.Name x Y,.Name y r] b N) (t.map λa=>.tup [v a,e a]))(i:∀a∈t,mV A j G B (bQ (dU j G P) [x,y] [v a,e a]) q (p a))(k:∀a∈t,p a=af->xQ A j G B (bQ (dU j G P) [x,y] [v a,e a]) U (.str (g a)))(s:∀a∈t,p a=af->pB A j G X B (bQ (dU j G P) [x,y] [v a,e a]) n (f a))(K:((t.filter p).map g).Nodup)(I:t.length<=100000)(H:autoParam (jb j G=af) yAK)(C:autoParam (iD j x=af) yAK)(J:autoParam (iD j y=af) yAK)(W:autoParam (∀x,g7 u G x=pure x) yAI):CU A G X B (.DictComp U n [⟨.Tuple [.Name x Y,.Name y r] b N,u,q,0⟩] j R) (.dS ((t.filter p).map g) ((t.filter p).map f)):=CU.Pf c H F (λa m=>.tup d (xs:=[x,y]) (ps:=[Y,r]) (uZ C J)) i s I z W k K
theorem CU.dI2{L:Type}{U n u:aS}{q:List aS}{j:dW}{R:aR}{x y:ai}{Y r N:aR}{b:Nat}{kf kg:L->T}{as:List L}{p:L->Bool}{g:L->Int}{f:L->T}(d:A.handled=ak)(c:CX X B G P)(z:∃o,B.get? eo=aa o)(F:IT A G X B u (.Tuple [.Name x Y,.Name y r] b N) (as.map λa=>.tup [kf a,kg a]))(i:∀a∈as,mV A j G B (bQ (dU j G P) [x,y] [kf a,kg a]) q (p a))(k:∀a∈as,p a=af->xQ A j G B (bQ (dU j G P) [x,y] [kf a,kg a]) U (.int (g a)))(s:∀a∈as,p a=af->pB A j G X B (bQ (dU j G P) [x,y] [kf a,kg a]) n (f a))(K:((as.filter p).map g).Nodup)(I:as.length<=100000)(H:autoParam (jb j G=af) yAK)(C:autoParam (iD j x=af) yAK)(J:autoParam (iD j y=af) yAK)(W:autoParam (∀x,g7 u G x=pure x) yAI):CU A G X B (.DictComp U n [⟨.Tuple [.Name x Y,.Name y r] b N,u,q,0⟩] j R) (.dI ((as.filter p).map g) ((as.filter p).map f)):=CU.xdn c H F (λa m=>.tup d (xs:=[x,y]) (ps:=[Y,r]) (uZ C J)) i s I z W k K
theorem CU.ll{L N:Type}{r u n:aS}{t i:List aS}{j:dW}{R:aR}{x y:ai}{F I:aR}{as:List L}{kf:L->T}{p:L->Bool}{bs:L->List N}{qs:L->N->T}{p2:L->N->Bool}{f:L->N->T}(c:CX X B G P)(hi:IT A G X B u (.Name x F) (as.map kf))(l:∀a∈as,mV A j G B (upd (dU j G P) x (kf a)) t (p a))(v:∀a∈as,p a=af->∀C d Y h,CX Y h (dN j d C G) (upd (dU j G P) x (kf a))->Kp B h->IT A (dN j d C G) Y h n (.Name y I) ((bs a).map (qs a)))(g:∀a∈as,∀b∈bs a,mV A j G B (upd (upd (dU j G P) x (kf a)) y (qs a b)) i (p2 a b))(s:∀a∈as,∀b∈bs a,p2 a b=af->pB A j G X B (upd (upd (dU j G P) x (kf a)) y (qs a b)) r (f a b))(W:as.length<=100)(E:∀a∈as,(bs a).length<=100)(U:autoParam (jb j G=af) yAK)(H:autoParam (iD j x=af) yAK)(J:autoParam (iD j y=af) yAK)(K:autoParam (y≠x) yAD)(hs:autoParam (∀x,g7 u G x=pure x) yAI)(z:∀C d x,g7 n (dN j d C G) x=pure x:=by intro _ _ _;rfl):CU A G X B (.ListComp r [⟨.Name x F,u,t,0⟩,⟨.Name y I,n,i,0⟩] j R) (.list (as.flatMap λa=>if p a=af then((bs a).filter (p2 a)).map (f a)else[])):=by
 have e:(as.flatMap λa=>if p a=af then((bs a).filter (p2 a)).map (f a)else[])=fl p (λa=>fl (p2 a) (λb=>[f a b]) (bs a)) as:=by simp only[qY];rfl
 refine O e ?_;refine CU.lists c U hi (λ_ _ _=>KI) (λa m=>.name H (m7 H)) l (λZ k C d V D S a m hp=>?_) ?_ hs;.have o:=S.off D (aP ..);exact Out.next .list rfl (λ_=>UI) S.new o.1 Iw aL.mk aL.wide (λY h M w=>v a m hp C d Y h M (k.trans w)) (λb q=>TG.as (.name J (by exact O (eE _ _ K) (m7 J))) C d V S.wo) (λb q=>bq.out (bq.refl _) (by exact O (eE _ _ K) (m7 J))) (λb q Y h M w=>g a m b q C d Y h M (k.trans w)) (λb q Q=>.ev (λY h M hY w=>s a m b q Q C d Y h M (Cr (a:=0) hY) (k.trans w)) (aP ..) o) (z C d)
 .refine aZ (FL (n:=100) λa m=>?_) (aZ (tN _ W) dk);exact O qY (aZ Dj (E a m))
theorem CU.lll{L N I:Type}{s u n p:aS}{Q:List aS}{j:dW}{U:aR}{x y z:ai}{px py pz:aR}{t:List L}{kf:L->T}{i:List N}{qs:N->T}{r:List I}{Ct:I->T}{p3:L->N->I->Bool}{f:L->N->I->T}(c:CX X B G P)(hi:IT A G X B u (.Name x px) (t.map kf))(J:∀a∈t,∀C g Y h,CX Y h (dN j g C G) (upd (dU j G P) x (kf a))->Kp B h->IT A (dN j g C G) Y h n (.Name y py) (i.map qs))(W:∀a∈t,∀b∈i,∀C g Y h,CX Y h (dN j g C G) (upd (upd (dU j G P) x (kf a)) y (qs b))->Kp B h->IT A (dN j g C G) Y h p (.Name z pz) (r.map Ct))(q:∀a∈t,∀b∈i,∀d∈r,mV A j G B (upd (upd (upd (dU j G P) x (kf a)) y (qs b)) z (Ct d)) Q (p3 a b d))(E:∀a∈t,∀b∈i,∀d∈r,p3 a b d=af->pB A j G X B (upd (upd (upd (dU j G P) x (kf a)) y (qs b)) z (Ct d)) s (f a b d))(hz:t.length<=10)(hz2:i.length<=10)(hz3:r.length<=10)(ok:autoParam (jb j G=af) yAK)(h1:autoParam (iD j x=af) yAK)(h2:autoParam (iD j y=af) yAK)(Z:autoParam (iD j z=af) yAK)(K:autoParam (y≠x) yAD)(F:autoParam (z≠x) yAD)(v:autoParam (z≠y) yAD)(hs:autoParam (∀x,g7 u G x=pure x) yAI)(R:∀C g x,g7 n (dN j g C G) x=pure x:=by intro _ _ _;rfl)(hs3:∀C g x,g7 p (dN j g C G) x=pure x:=by intro _ _ _;rfl):CU A G X B (.ListComp s [⟨.Name x px,u,[],0⟩,⟨.Name y py,n,[],0⟩,⟨.Name z pz,p,Q,0⟩] j U) (.list (t.flatMap λa=>i.flatMap λb=>(r.filter (p3 a b)).map (f a b))):=by
 have e:(t.flatMap λa=>i.flatMap λb=>(r.filter (p3 a b)).map (f a b))=fl (λ_=>af) (λa=>fl (λ_=>af) (λb=>fl (p3 a b) (λd=>[f a b d]) r) i) t:=by simp only[qY];simp only[fl,if_true]
 refine O e ?_;refine CU.lists c ok hi (λ_ _ _=>KI) (λa m=>.name h1 (m7 h1)) (λa m C g Y h M w=>TS.nil) (λh₁ k C g V D S a m _=>?_) ?_ hs;.have o:=S.off D (aP ..);exact Out.next .list rfl (λ_=>UJ) S.new o.1 Iw aL.mk aL.wide (λY h M w=>J a m C g Y h M (k.trans w)) (λb l=>TG.as (.name h2 (by exact O (eE _ _ K) (m7 h2))) C g V S.wo) (λb l=>bq.out (bq.refl _) (by exact O (eE _ _ K) (m7 h2))) (λb l Y h M w=>TS.nil) (λb l _=>Out.next .list rfl (λ_=>UK) S.new o.1 Iw aL.mk aL.wide (λY h M w=>W a m b l C g Y h M (k.trans w)) (λd H=>TG.as (.name Z (by exact O (eE _ _ v) (O (eE _ _ F) (m7 Z)))) C g V S.wo) (λd H=>bq.out (bq.refl _) (by exact O (eE _ _ v) (O (eE _ _ F) (m7 Z)))) (λd H Y h M w=>q a m b l d H C g Y h M (k.trans w)) (λd H hd=>.ev (λY h M hY w=>E a m b l d H hd C g Y h M (Cr (a:=0) hY) (k.trans w)) (aP ..) o) (hs3 C g)) (R C g)
 .refine aZ (FL (n:=100) λa m=>aZ (FL (n:=10) λb l=>?_) (aZ (tN _ hz2) dk)) (aZ (tN _ hz) dk);exact O qY (aZ Dj hz3)
end
theorem FS.conv(f:FS H N B s Z G a M)(e:M=M'):FS H N B s Z G a M':=e▸f
section
variable{A:aF}{H:List ah}{N B s S:aq}{Z:List ah}{G:aN}{P r:Gm}{M:List (ah×T)}{E:aj->aq->Prop}
theorem FS.promote(f:FS H N B s Z G P M)(c:D∈Z)(g:D∉aK G)(I:D∉M.map (·.1))(b:fz (Z++H) D s.heap t):FS H N B s Z G P ((D,t)::M):=⟨f.ks,f.kx.mono λa m=>(bC.mp m).elim (λm=>bI _ m) λm=>cJ _ (by exact O f6 (aY _ m)),f.new,f.own,f.cx,λp m=>(bA.mp m).elim (λe=>by exact O e ⟨c,g,b⟩) (f.acc p),by exact O f6 (mC.mpr ⟨I,f.nd⟩)⟩
theorem FS.lose(f:FS H N B s Z G P M)(k:br [C] s S)(I:∀a∈u,a∈Z)(J:C∈Z)(c:C∉u++H)(g:∀a∈aK G,a∈u)(d:∀p∈M,p.1∈u):FS H N S S u G P M:=by have T:∀a∈[C],a∈Z++H:=one (bI _ J);have j:∀a∈u++H,a∈Z++H:=λa m=>(bC.mp m).elim (λm=>bI _ (I a m)) λm=>cJ _ m;have b:∀a∈u++H,a∉[C]:=λa m n=>c (aW.mp n▸m);exact⟨f.ks.qp k (one (f.new C J)),.refl _ _,λa m=>f.new a (I a m),g,f.cx.shrink k.kp T (λa m=>b a (bI _ (g a m))) j (λa m=>bI _ (g a m)) λa m=>(f.cx.live a (j a m)).imp λo=>k.kp a o (b a m),λp m=>⟨d p m,(f.acc p m).2.1,((f.acc p m).2.2.kp (k.kp.mono T) λo e=>k.kp _ _ (b _ (bI _ (d p m))) e).less j⟩,f.nd⟩
theorem FS.EX{x:ai}{c:aR}{D C:ah}{t:T}{m:ai->Option aj}{Q:ek->aq->Prop}(f:FS H N B s (D::C::Z) G P M)(Y:G.kindOf x=aa .local\/G.kindOf x=aa .cell)(y:dg G x∈aK G)(h:∀a∈aK G,a∈Z)(I:∀p∈M,p.1∈Z)(u:D∉Z++H)(l:C∉Z++H)(K:D≠C)(g:s.heap.Ns C m)(z:fz (D::C::(Z++H)) D s.heap t)(X:∀S,FS H N S S (D::Z) G (upd P x (.aI (.ref D))) ((D,t)::M)->br (C::aK G) s S->Q .next S):G5 (az PW w) A E (aa (fV (.Name x c) G)) (λ_ S=>Q .next S) (.ref D) C (.ok .next) s:=by have j:C∉aK G:=λm=>l (bI _ (h C m));refine ao (cV ((f.promote (t:=t) (aP ..) (λm=>u (bI _ (h D m))) (λm=>u (bI _ (mem_keys rfl I D m))) z).bind Y y (.ie _) λU v i=>⟨m,g.at' λo e=>v.kp _ _ j e,λh' d=>?_⟩));have k:br [C] U {U with heap:=h'}:=⟨λb o n e=>(d.2 b λq=>n (q▸aP ..)).trans e,rfl⟩;exact X _ (i.lose k (λa m=>(bA.mp m).elim (λe=>e▸aP ..) λm=>aY _ (aY _ m)) (aY _ (aP ..)) (λm=>(bA.mp m).elim (λe=>K e.symm) l) (λa m=>aY _ (h a m)) (both (aP ..) λp m=>aY _ (I p m))) ((v.mono λa m=>aY _ m).trans (k.mono (one (aP ..))))
theorem FS.N2(f:FS H N B s (D::Z) G (upd P x (.aI (.ref D))) ((D,t)::M))(g:∀a∈aK G,a∈Z)(I:∀p∈M,p.1∈Z)(h:D∉Z++H):FS H N s s Z G (upd P x t) M:=by
 have T:∀a∈Z++H,a∈D::Z++H:=λa m=>aY _ m;have c:=f.cx.narrow T (λa m=>bI _ (g a m)) λa m=>f.cx.live a (T a m);refine⟨f.ks,.refl _ _,λa m=>f.new a (aY _ m),g,⟨c.ok,c.live,c.eZ,λy u e=>?_⟩,λp m=>⟨I p m,(f.acc p (aY _ m)).2.1,(f.acc p (aY _ m)).2.2.less T⟩,(mC.mp f.nd).2⟩;by_cases q:y=x;.subst q;refine(c.val y (.aI (.ref D)) (pL ..)).imp λv z=>⟨?_,z.2⟩;exact O z.1.cR (aQ (nU ((pL ..).symm.trans e)) (((f.acc _ (aP ..)).2.2.less T).rep h))
 .exact c.val y u ((eE _ _ q).trans ((eE _ _ q).symm.trans e))
theorem FS.N3{M':List (ah×T)}{c U:aq}(f:FS H N B c Z G P M)(y:Ks c U)(k:br (C::aK G) U S)(n:c.heap.get? C=ak)(h:FS H N S S u G r M')(I:∀a∈M.map (·.1),a∈M'.map (·.1)):FS H N B S u G r M':=have g:=f.kx.trans (.of y)
⟨h.ks,⟨λb o d e=>k.kp b o (λm=>(bA.mp m).elim (λq=>gone e (q▸f.B6 n)) λm=>d (bI _ m)) (g.kp b o (λm=>d ((bC.mp m).elim (bI _) λm=>cJ _ (I b m))) e),((g.mono (Y:=C::(aK G++M.map (·.1))) λa m=>aY _ m).trans (k.mono λa m=>(bA.mp m).elim (λe=>e▸aP ..) λm=>aY _ (bI _ m))).eq⟩,h.new,h.own,h.cx,h.acc,h.nd⟩
theorem FS.rA(f:FS H N B s Z G P M)(n:s.heap.get? a=ak):a∉Z++H:=λm=>(f.cx.live a m).elim λo e=>gone e n
theorem FS.Vw{c R:aR}(f:FS H N B s Z G P M)(Y:G.kindOf x=aa .local\/G.kindOf x=aa .cell)(g:dg G x∈aK G)(L:CU A G (Z++H) s.heap e t)(X:∀D S,FS H N B S (D::Z) G (upd P x (.aI (.ref D))) ((D,t)::M)->Q .next S)(W:autoParam (lJ e (aa (.Name x c)) R.line G=pure af) yAR):au (az PW w) A (dY (.Assign [.Name x c] e R) G) Q E s:=L.elim λj L=>(L.1 A s E).2 Q x c R W (L.2 s _ _ E (λ_ _ e=>e) λD C S m y d J K n b=>(f.Bf (Y:=[D,C]) y (both d (one J)) (both b.up (one (n.imp λ_ z=>z.elim λ_ z=>z.elim λ_ z=>z.1)))).EX Y g f.own (λp m=>(f.acc p m).1) (f.rA d) (f.rA J) K n b λS h k=>X D S (f.N3 y k J h λa m=>aY _ m))
theorem FS.qO{x:ai}{e:aS}{c R:aR}{t:T}{Q:ek->aq->Prop}(f:FS H N B s Z G P M)(Y:G.kindOf x=aa .local\/G.kindOf x=aa .cell)(g:dg G x∈aK G)(L:CU A G (Z++H) s.heap e t)(X:∀S,FS H N B S Z G (upd P x t) M->Q .next S)(W:autoParam (lJ e (aa (.Name x c)) R.line G=pure af) yAR):au (az PW w) A (dY (.Assign [.Name x c] e R) G) Q E s:=L.elim λj L=>(L.1 A s E).2 Q x c R W (L.2 s _ _ E (λ_ _ e=>e) λD C S m y d J K n b=>(f.Bf (Y:=[D,C]) y (both d (one J)) (both b.up (one (n.imp λ_ z=>z.elim λ_ z=>z.elim λ_ z=>z.1)))).EX Y g f.own (λp m=>(f.acc p m).1) (f.rA d) (f.rA J) K n b λS h k=>X S (f.N3 y k J (h.N2 f.own (λp m=>(f.acc p m).1) (f.rA d)) λa m=>m))
theorem FS.MJ(xs:List ai){ps:List aR}{i R:aR}{ts:List T}(f:FS H N B s Z G P M)(d:A.handled=ak)(c:EV A G (Z++H) s.heap e (.list ts))(Y:∀x∈xs,(G.kindOf x=aa .local\/G.kindOf x=aa .cell)/\dg G x∈aK G)(X:∀S,FS H N B S Z G (bQ P xs ts) M->Q .next S)(b:xs.length=ts.length)(L:autoParam (ps.length=xs.length) yAR)(g:autoParam (pK a G=(xs.zip ps).map λy=>(av,fV (.Name y.1 y.2) G)) yAR)(W:autoParam (rT [.Tuple a k i] e R.line G=pure av) yAR)(C:autoParam (rU [.Tuple a k i] e G=pure ak) yAR):au (az PW w) A (dY (.Assign [.Tuple a k i] e R) G) Q E s:=f.Qn c (AS.lst d Y b L g) X W C
theorem FS.MK(xs:List ai){ps:List aR}{i R:aR}{F:List T}(f:FS H N B s Z G P M)(d:A.handled=ak)(c:EV A G (Z++H) s.heap e (.tup F))(Y:∀x∈xs,(G.kindOf x=aa .local\/G.kindOf x=aa .cell)/\dg G x∈aK G)(X:∀S,FS H N B S Z G (bQ P xs F) M->Q .next S)(b:xs.length=F.length)(L:autoParam (ps.length=xs.length) yAR)(g:autoParam (pK a G=(xs.zip ps).map λy=>(av,fV (.Name y.1 y.2) G)) yAR)(W:autoParam (rT [.Tuple a k i] e R.line G=pure av) yAR)(C:autoParam (rU [.Tuple a k i] e G=pure ak) yAR):au (az PW w) A (dY (.Assign [.Tuple a k i] e R) G) Q E s:=f.Qn c (AS.tup d Y b L g) X W C
theorem FS.HA{x:ai}{b R:aR}{D:ah}{t:T}{i:Nat}{Q:ek->aq->Prop}(f:FS H N B s Z G P M)(K:P x=aa (.aI (.ref D)))(F:M[i]?=aa (D,t))(a:bJ H N.heap)(X:∀S,Ks N S->Rep H S.heap t (.ref D)->Q (.ret (.ref D)) S)(V:autoParam (isVar G x=af) yAK):au (az PW w) A (dY (.Return (aa (.Name x b)) R) G) Q E s:=by
 refine DG (aB (f.q8 (X:=[]) K V s E λ_ _ e=>e) (λv g y=>?_) λ_ _ e=>e);obtain rfl:=y.2.cR;have Y:=f.step y.1;have d:=Y.acc _ (eO F);have u:D∉H:=λm=>by refine aC (a D m) λo e=>?_;exact gone e (f.new D d.1)
 exact X g Y.ks ((d.2.2.less inR).rep u)
end
section
variable{A:aF}{X₀:List ah}{s₀ sb s S:aq}{Z:List ah}{G:aN}{γ d:Gm}{M:List (ah×T)}{E:aj->aq->Prop}
theorem FS.yU(h:Q [] s):au (az PW w) A (fN (cM a (bh [] G))) Q E s:=rV h
theorem FS.FP(f:FS X₀ s₀ sb s Z G γ M)(L:EV A G (Z++X₀) s.heap e t)(k:∀v U,FS X₀ s₀ sb U Z G γ M->Rep (Z++X₀) U.heap t v->au (az PW w) A (fN (cM a (bh D G))) (λK J=>Q (v::K) J) E U)(W:autoParam (bh (e::D) G=(av,aT e G)::bh D G) yAR):au (az PW w) A (fN (cM a (bh (e::D) G))) Q E s:=by rw[W];show au _ _ (fN ((av,aT e G)::cM a (bh D G))) _ _ _;exact n8 (aB (L s E λ_ _ e=>e) (λv U y=>k v U (f.step y.1) y.2) λ_ _ e=>e)
theorem FS.wY(f:FS X₀ s₀ sb s Z G γ M)(L:EM A G (Z++X₀) s.heap e t)(k:∀D U,FS X₀ s₀ sb U (D::Z) G γ ((D,t)::M)->au (az PW w) A (fN (cM a (bh b G))) (λK J=>Q (.ref D::K) J) E U)(W:autoParam (bh (e::b) G=(av,aT e G)::bh b G) yAR):au (az PW w) A (fN (cM a (bh (e::b) G))) Q E s:=by refine O W ?_;show au _ _ (fN ((av,aT e G)::cM a (bh b G))) _ _ _;refine n8 (aB (L s E λ_ _ e=>e) (λv U y=>?_) λ_ _ e=>e);obtain⟨c,D,rfl,n,r⟩:=y;exact k D U (f.B5 c n r)
theorem FS.D8(xs:List ai){ps:List aR}{l i R:aR}(b:A.handled=ak)(h:au (az PW w) A (fN (cM l (bh D G))) (λK U=>∃(u:List ah)(M':List (ah×T))(F:List T),FS X₀ s₀ sb U u G γ M'/\ay (u++X₀) U.heap F K/\xs.length=F.length/\F.length<=100000/\∀J,FS X₀ s₀ sb J u G (bQ γ xs F) M'->Q .next J) E s)(Y:∀x∈xs,(G.kindOf x=aa .local\/G.kindOf x=aa .cell)/\dg G x∈aK G)(L:autoParam (ps.length=xs.length) yAR)(g:autoParam (pK a G=(xs.zip ps).map λy=>(av,fV (.Name y.1 y.2) G)) yAR)(W:autoParam (rT [.Tuple a k i] (.Tuple D c l) R.line G=pure av) yAR)(C:autoParam (rU [.Tuple a k i] (.Tuple D c l) G=pure ak) yAR):au (az PW w) A (dY (.Assign [.Tuple a k i] (.Tuple D c l) R) G) Q E s:=by refine AB ?_ W C;show au _ _ (do fL l;w7 (<-fN (cM l (bh D G)))) _ _ _;refine ao (cV (ao (aB h (λK U y=>?_) λ_ _ e=>e)));refine DU y λu M' F f r H I X=>?_;refine aB (Ag f.cx.live r I) (λv J z=>?_) λ_ _ e=>e;have n:=f.step z.1;exact aB (AS.tup b Y H L g (u++X₀) J E v n.cx.ok.iX n.cx z.2) (λ_ j q=>X j (n.re q.1 q.2)) λ_ _ e=>e
theorem SY(i:∀a∈V,a∈X){xs:List ai}{F:List T}{s:aq}(e:xs.length=F.length)(N:∀x∈xs,(G.kindOf x=aa .local\/G.kindOf x=aa .cell)/\dg G x∈V)(c:CX X s.heap G γ)(r:ay X s.heap F f):au (az PW w) A (yq (xs.map λn=>kQ G n) f) (λ_ S=>br V s S/\CX X S.heap G (bQ γ xs F)) E s:=by have h:=Jh (A:=A) (E:=E) (l:=xs.map λn=>(n,kQ G n)) i (by exact O (aH ..) (O e rfl)) (λp m=>by refine aG (bE.mp m) λy b I=>?_;subst I;exact⟨N _ b,λv s Q h=>h⟩) c r;rw[bO,bO,show xs.map (Ge∘λn=>(n,kQ G n))=xs from xej xs]at h;exact h
theorem ay.rev{F:List T}{K:List aj}(r:ay X h F K):ay X h F.reverse K.reverse:=ay.ind (P:=λF K=>ay X h F.reverse K.reverse) trivial (λt v F K x _ i=>by exact O J4 (O J4 (ay.append i ⟨x,trivial⟩))) r
theorem FS.Ew(xs:List ai){l i R:aR}(hh:A.handled=ak)(h:au (az PW w) A (fN (cM l (bh D G))) (λK U=>∃(u:List ah)(M':List (ah×T))(F:List T),FS X₀ s₀ sb U u G γ M'/\ay (u++X₀) U.heap F K/\xs.length=F.length/\F.length<=100000/\∀J,FS X₀ s₀ sb J u G (bQ γ xs.reverse F.reverse) M'->Q .next J) E s)(Y:∀x∈xs,(G.kindOf x=aa .local\/G.kindOf x=aa .cell)/\dg G x∈aK G)(W:autoParam (rT [.Tuple a k i] (.Tuple D c l) R.line G=pure av) yAR)(I:autoParam (rU [.Tuple a k i] (.Tuple D c l) G=pure (aa xs)) yAR):au (az PW w) A (dY (.Assign [.Tuple a k i] (.Tuple D c l) R) G) Q E s:=by refine Assign_Tuple_swapped ?_ W I;show au _ _ (do fL l;w7 (<-fN (cM l (bh D G)))) _ _ _;refine ao (cV (ao (aB h (λK U y=>?_) λ_ _ e=>e)));refine DU y λu M' F f r H N X=>?_;refine aB (Ag f.cx.live r N) (λv J z=>?_) λ_ _ e=>e;have f2:=f.step z.1;refine cH z.2.jS λL us P n p C=>?_;subst P;have V:=C.length;rw[dm]at V;refine O (H.trans V.symm) ?_;refine wpAny_unpackItems_tuple hh p λh' t=>?_;have B:Kp J.heap h':=λb o e=>t b o (bS (dQ e)) e;have g:FS X₀ s₀ sb {J with heap:=h'} u G γ M':=f2.step ⟨B,rfl⟩;exact aB (SY g.cx.ok.iX (by simpa using H) (λx m=>Y x (Ka.mp m)) g.cx (ay.rev (Mine.ay.kp (B.bL _) _ _ C))) (λ_ j q=>X j (g.re q.1 q.2)) λ_ _ e=>e
theorem FS.freeze(f:FS X₀ s₀ sb s (D::Z) G γ ((D,t)::M))(K:γ x=aa (.aI (.ref D)))(R:sb.heap.get? D=ak)(g:∀a∈aK G,a∈Z)(I:∀p∈M,p.1∈Z)(i:D∉Z++X₀):FS X₀ s₀ sb s Z G (upd γ x t) M:=by
 have h:=f.acc _ (aP ..);have T:∀a∈Z++X₀,a∈D::Z++X₀:=λa m=>(bC.mp m).elim (λm=>bI _ (aY _ m)) λm=>cJ _ m;have c:=f.cx.narrow (Y:=Z++X₀) T (λa m=>bI _ (g a m)) λa m=>f.cx.live a (T a m);refine⟨f.ks,⟨λb o n e=>f.kx.kp b o (λm=>?_) e,f.kx.eq⟩,λa m=>f.new a (aY _ m),g,⟨c.ok,c.live,c.eZ,λy u e=>?_⟩,λp m=>⟨I p m,(f.acc p (aY _ m)).2.1,(f.acc p (aY _ m)).2.2.less T⟩,(mC.mp f.nd).2⟩
 .refine bw (bC.mp m) (λm=>?_) λm=>?_;.exact n (bI _ m)
  .replace m:=f6▸m;refine bw (bA.mp m) (λq=>?_) λm=>?_;.replace e:=(show b=D from q)▸e;exact gone e R
   .exact n (cJ _ m)
 .by_cases q:y=x;.subst q;replace e:=pL ..▸e;cases e;refine aG (c.val y _ K) λv r n=>?_;obtain rfl:=r.cR;exact⟨_,(h.2.2.less T).rep i,n⟩
  .replace e:=eE _ _ q▸e;exact c.val y u e
end
section
open PySem.SeqAt
section
variable{A:aF}{G:aN}{X:List ah}{B:aA}
noncomputable def CF(A:aF)(X:List ah)(B:aA)(f:aj)(F:List T)(r:T):Prop:=∀(s:aq)(E:aj->aq->Prop)(K:List aj),Kp B s.heap->ay X s.heap F K->au (az PW w) A (dO f K []) (λv S=>Ks s S/\Rep X S.heap r v/\∃a,v=.ref a/\s.heap.get? a=ak) E s
theorem EF.cP(l:EV A G X B (.Name x d) (.aI f))(K:za f=pure .machine)(V:EL A G X B b (e::D) h)(g:CF A X B f h r)(hs:autoParam (bh (e::D) G=(av,aT e G)::bh D G) yAR)(p:autoParam ((cM b (bh D G)).any (·.1)=av) yAR):EF A G X B (.Call (.Name x d) (e::D) [] b) r:=λs E k=>by show au _ _ (do mP b (<-aT (.Name x d) G) [] (cM b (bh (e::D) G)) (oA b (n9 [] G))) _ _ _;refine ao (aB (l s E k) (λv U x=>?_) λ_ _ e=>e);obtain rfl:=x.2.cR;have M:=V U E (k.trans x.1.kp);rw[hs]at M⊢;refine mz K (by show(av||(cM b (bh D G)).any (·.1))=av;refine O p ?_;rfl) (mZ (aB M (λi J y=>?_) λ_ _ e=>e));exact aB (g J E i (k.trans (x.1.trans y.1).kp) y.2) (λc j z=>⟨(x.1.trans y.1).trans z.1,z.2.1,let⟨a,e,n⟩:=z.2.2;⟨a,e,g9 (x.1.trans y.1).kp n⟩⟩) λ_ _ e=>e
theorem CF.list{l:List T}(P:bJ X B)(I:l.length<=100000):CF A X B (.type "list") [.list l] (.list l):=λs E K k r=>by refine aC (ay.jy r) λv q=>?_;subst q;refine cH r.1.d8 λa xs q n p R=>?_;subst q;have V:=R.length;rw[dm]at V;refine aC p λm g=>?_;refine call_list_seq (hsz:=by exact O dJ (iW I V)) a (.inl rfl) g rfl rfl λh' M N d=>⟨⟨N,rfl⟩,?_,_,rfl,get?_none_of_le (cQ _)⟩;exact⟨_,_,rfl,(P.kp k).new,⟨M,d⟩,Mine.ay.kp (Kp.bL N X) _ _ R⟩
theorem N4{L:Type}[BEq L][LawfulBEq L]{l:List L}{x:L}(h:x∈l):∃Y:l.idxOf x<l.length,l[l.idxOf x]=x/\∀m(Q:m<l.length),m<l.idxOf x->l[m]≠x:=by have C:=List.idxOf_lt_length_of_mem h;refine⟨C,List.getElem_idxOf C,λm Q W e=>?_⟩;exact absurd (List.S6 m Q e) (Nat.not_le.mpr W)where List.S6{l:List L}{x:L}(m:Nat)(Q:m<l.length)(e:l[m]=x):l.idxOf x<=m:=by induction l generalizing m with|nil=>simp at Q|cons y l b=>refine O List.idxOf_cons ?_;cases a:y==x with|true=>simp|false=>cases m with|zero=>simp only[List.getElem_cons_zero]at e;replace a:=e▸a;simp at a|succ m=>have:=b m (by simpa using Q) (by simpa using e);simpa using this
theorem CA.pS{l:List Int}{x:Int}(h:x∈l)(I:l.length<=100000):CA A X B (.builtin "list.index") [LI l,.int x] (.int (l.idxOf x)):=λs E K k r=>by
 refine lu (ay.nI r) λv u q=>?_;subst q;refine cH r.1.d8 λa xs q n p R=>?_;subst q;refine aC r.2.1.cL λt q=>?_;subst q;have V:=R.length;replace V:=aH ..▸dm▸V;refine aC p λm g=>?_;obtain⟨C,J,b⟩:=N4 h;have f:∀j(Y:j<xs.size),∃t,xs[j]=.int (l[j]'(V▸Y)) t:=λj Y=>by refine aG (R.at2 Y) λt c S=>?_;replace c:=cy (V▸Y)▸eS▸c;simp only[Aa,zX]at c;subst c;exact S.cL
 refine wC DA ⟨_,g,rfl⟩ xaJ (Za _ _) (list_indexAt a xs m ak #[] (.int x t) (λv=>match v with|.int i _=>i==x|_=>av) (l.idxOf x) (jq V C) (sP (gR.mpr C) I) ?_ λj Y W=>?_) ⟨g,λy w=>?_,.tok ..,.fO _ _⟩;.refine aC (f (l.idxOf x) (jq V C)) λt e=>?_;refine O e (O J ?_);simp
 .refine aC (f j Y) λt e=>?_;refine O e ?_;simpa using b j (iz W (eB C)) W
 .obtain⟨j,Y,rfl⟩:=Vf.mp w;refine aC (f j Y) λt e=>?_;exact O e (EqAt.int_int _ _ _ _)
theorem CA.yV{l:List ai}{x:ai}(h:x∈l)(I:l.length<=100000):CA A X B (.builtin "list.index") [.list (l.map .str),.str x] (.int (l.idxOf x)):=λs E K k r=>by
 refine lu (ay.nI r) λv u q=>?_;subst q;refine cH r.1.d8 λa xs q n p R=>?_;subst q;refine aC r.2.1.eV λt q=>?_;subst q;have V:=R.length;replace V:=aH ..▸dm▸V;refine aC p λm g=>?_;obtain⟨C,J,b⟩:=N4 h;have f:∀j(Y:j<xs.size),∃t,xs[j]=.str (l[j]'(V▸Y)) t:=λj Y=>by refine aG (R.at2 Y) λt c S=>?_;replace c:=cy (V▸Y)▸eS▸c;simp only[Aa,zX]at c;subst c;exact S.eV
 refine wC DA ⟨_,g,rfl⟩ xaJ (Za _ _) (list_indexAt a xs m ak #[] (.str x t) (λv=>match v with|.str i _=>i==x|_=>av) (l.idxOf x) (jq V C) (sP (gR.mpr C) I) ?_ λj Y W=>?_) ⟨g,λy w=>?_,.tok ..,.fO _ _⟩;.refine aC (f (l.idxOf x) (jq V C)) λt e=>?_;refine O e (O J ?_);simp
 .refine aC (f j Y) λt e=>?_;refine O e ?_;simpa using b j (iz W (eB C)) W
 .obtain⟨j,Y,rfl⟩:=Vf.mp w;refine aC (f j Y) λt e=>?_;exact O e (EqAt.str_str _ _ _ _)
theorem EV.pS{m R:aR}{l:List Int}(g:EV A G X B o (LI l))(L:EV A G X B e (.int x))(h:x∈l)(I:l.length<=100000)(P:autoParam (kJ o "index" G (aT o G)=aT o G) yAR)(W:autoParam (bh [e] G=[(av,aT e G)]) yAR)(u:autoParam ((m.endLine==R.line)=af) yAR):EV A G X B (.Call (.Attribute o "index" m) [e] [] R) (.int (l.idxOf x)):=EV.Bv (hbase:=P) (hs:=W) (hline:=u) g L (MT.list DA xaS) (CA.pS h I)
theorem EV.yV{m R:aR}{l:List ai}(g:EV A G X B o (.list (l.map .str)))(L:EV A G X B e (.str x))(h:x∈l)(I:l.length<=100000)(P:autoParam (kJ o "index" G (aT o G)=aT o G) yAR)(W:autoParam (bh [e] G=[(av,aT e G)]) yAR)(u:autoParam ((m.endLine==R.line)=af) yAR):EV A G X B (.Call (.Attribute o "index" m) [e] [] R) (.int (l.idxOf x)):=EV.Bv (hbase:=P) (hs:=W) (hline:=u) g L (MT.list DA xaS) (CA.yV h I)
end
end
noncomputable def fQ(q:Int×Int):T:=.tup [.int q.1,.int q.2]
noncomputable def fc(p q:Int×Int):Bool:=if p.1=q.1 then decide (p.2<q.2)else decide (p.1<q.1)
noncomputable def l8(n:Nat):KasT (Array Nat)->Bool|.ret a=>a.toList.all λi=>decide (i<n)|.ask i j k=>decide (i<n)&&(decide (j<n)&&(l8 n (k af)&&l8 n (k av)))
theorem AX(h:l8 n (.ask i j k)=af):i<n/\j<n/\∀b,l8 n (k b)=af:=by simp only[l8,dZ,decide_eq_true_eq]at h;exact⟨h.1,h.2.1,λb=>by cases b;exact h.2.2.2;exact h.2.2.1⟩
theorem DV{n:Nat}{lt:Nat->Nat->Bool}{I:aq->Prop}{b:Nat->Nat->(Bool->aq->Prop)->aq->Prop}{Q:Array Nat->aq->Prop}(Z:∀i j(C:Bool->aq->Prop)s,i<n->j<n->I s->(∀S,I S->C (lt i j) S)->b i j C s):∀(t:KasT (Array Nat))(s:aq),l8 n t=af->I s->(∀S,I S->(∀i∈(jV lt t).toList,i<n)->Q (jV lt t) S)->t.kasWp b Q s|.ret a,s,o,i,h=>h s i (by rw[l8,cg]at o;exact λi m=>of_decide_eq_true (o i m))|.ask x y k,s,o,i,h=>Z x y _ s (AX o).1 (AX o).2.1 i λS c=>DV Z (k (lt x y)) S ((AX o).2.2 _) c h
theorem B8:l8 4 (lK 4)=af:=by decide+kernel
section
variable{A:aF}{X:List ah}{B:aA}{s:aq}{E:aj->aq->Prop}
theorem Aw{F:List T}{K:List aj}(r:ay X h F K)(a:i<F.length):Rep X h (F.getD i d) (K.getD i fk):=by refine aG (r.at (cy a)) λv e q=>?_;exact O cz (O cz (O e (O (cy a) q)))
theorem EY{h:aA}(r:Rep X h (fQ p) v):∃a o xs n t u,v=.ref a/\a∉X/\h.get? a=aa o/\o.cls=.type "tuple"/\o.data=.seq xs n/\xs.toList=[.int p.1 t,.int p.2 u]:=by refine cH r.jS λa xs e j I q=>?_;obtain⟨o,g,Z,n,U⟩:=I;refine lu (ay.nI q) λx y Y=>?_;replace q:=Y▸q;refine aC q.1.cL λt I=>?_;subst I;refine aC q.2.1.cL λu I=>?_;subst I;exact⟨a,o,xs,n,t,u,e,j,g,Z,U,Y⟩
theorem Qo{ps:List (Int×Int)}(r:ay X s.heap (ps.map fQ) k)(F:i<ps.length)(Y:j<ps.length)(h:C (fc (ps.getD i (0,0)) (ps.getD j (0,0))) s):kas_ask PW w A (tuples' af) k i j C s:=by
 have l:=Aw (d:=fQ (0,0)) r (by exact O (aH ..) F);have f:=Aw (d:=fQ (0,0)) r (by exact O (aH ..) Y);rw[show(ps.map fQ).getD i (fQ (0,0))=fQ (ps.getD i (0,0))by simp[cz,cy F]]at l;rw[show(ps.map fQ).getD j (fQ (0,0))=fQ (ps.getD j (0,0))by simp[cz,cy Y]]at f;obtain⟨a,o,xs,n,t,u,e,_,g,Z,U,c⟩:=EY l;obtain⟨y,W,b,x,v,D,d,_,p,M,J,m⟩:=EY f;unfold kas_ask;refine O e (O d ?_);refine kat_lt g U p J ?_;refine O c (O m ?_);have z:decide (xs.size<b.size)=av:=by refine aQ dm (aQ dm (O c (O m ?_)));rfl
 refine O z ?_;refine kat_cons (xek (kat_go (λq=>?_) λq=>?_))
 .have q:=eq_of_beq q;refine kat_yes (kat_cons (xek (kat_go (λR=>?_) λR=>?_)));.have R:=eq_of_beq R;refine kat_yes (kat_nil ?_);unfold fc at h;rw[if_pos q,R]at h;simpa using h
  .refine kat_no ?_;refine kat_one _ _ (Ua ?_);unfold fc at h;rw[if_pos q]at h;exact h
 .refine kat_no (oneLt_int ?_);have q:=ne_of_beq_false q;unfold fc at h;rw[if_neg q]at h;exact h
theorem Pg{K:List aj}{ps:List (Int×Int)}(r:ay X s.heap (ps.map fQ) K)(J:2<=ps.length)(h:Q (tuples' af) s):au (az PW w) A (keyKind' K.toArray) Q E s:=by
 have d:∀(ps:List (Int×Int))(K:List aj),ay X s.heap (ps.map fQ) K->∃c:List aj,c.length=ps.length/\KatTups s.heap K c/\∀v∈c,Looks (az PW w) s.heap (uU v) (.type "int"):=by intro ps;induction ps with
|nil=>intro K r;cases K with|nil=>exact⟨[],rfl,trivial,λv m=>by cases m⟩|cons _ _=>exact r.elim
|cons p ps G=>intro K r;cases K with|nil=>exact r.elim|cons v K=>
  refine dj (G K r.2) λc V I l=>?_;obtain⟨a,o,xs,n,t,u,rfl,_,g,Z,U,Y⟩:=EY r.1;refine⟨.int p.1 t::c,by simp[V],KatTups.cons g Z U ?_ I,λv m=>?_⟩;.refine aQ gM (O Y ?_);rfl
  .refine bw (bA.mp m) (λN=>?_) λm=>?_;.subst N;exact Looks.of_pure rfl
   .exact l v m
 refine dj (d ps K r) λc V I l=>?_;exact kat_kind I (jq V (eB J)) l (by rfl) h
def lN(y:List (Int×Int)):List Nat:=(jV (λi j=>fc (y.getD i (0,0)) (y.getD j (0,0))) (lK y.length)).toList
theorem Vx{a:ah}{K:List aj}{ps:List (Int×Int)}{n:Nat}{P:PySem.Fin->aq->Prop}(l:s.heap.get? a=aa (cG "list" K.toArray n))(r:ay [a] s.heap (ps.map fQ) K)(J:2<=ps.length)(f:ps.length<64)(M:l8 ps.length (lK ps.length)=af)(h:∀h' c,bf [a] s.heap h'->h'.get? a=aa (cG "list" ((lN ps).map λi=>K.getD i fk).toArray c)->(∀i∈lN ps,i<ps.length)->P (.done (.ret .none)) {s with heap:=h'}):au (az PW w) A (Builtin.«list.sort» ⟨[.ref a],[]⟩) P E s:=by
 have k:K.length=ps.length:=by exact O r.length (O (aH ..) rfl)
 have ha:a<s.heap.objs.size:=dQ l;have s1:=mX s.heap a (c7 λ_=>(#[]:Array aj));obtain⟨H,D⟩:∃H,(s.heap.update a (c7 λ_=>(#[]:Array aj))).get? a=aa (cG "list" #[] H):=⟨_,yl l λ_=>#[]⟩;have t:bf [a] s.heap (((s.heap.update a (c7 λ_=>(#[]:Array aj))).push (cG "tuple" K.toArray 0)).push (cG "list" #[] 0)):=λb o x e=>bX _ (bX _ ((s1.2 b λq=>x (by exact O q (aP ..))).trans e));have v:(((s.heap.update a (c7 λ_=>(#[]:Array aj))).push (cG "tuple" K.toArray 0)).push (cG "list" #[] 0)).get? a=aa (cG "list" #[] H):=bX _ (bX _ D);refine O (list_sort_plain ..) ?_;refine ao (OJ l rfl ?_);refine ao (yr l rfl ?_ (by exact O iZ (O dJ (iW (eB f) k))) (jo _));refine ao (Fo D rfl ?_);refine ao (Aq ?_ (by show K.length<=_;exact O dJ (iW (eB f) k)));refine ao (uc ?_ (jo _));refine dH ?_;show au (az PW w) A _ P E {s with heap:=((s.heap.update a (c7 λ_=>(#[]:Array aj))).push (cG "tuple" K.toArray 0)).push (cG "list" #[] 0)};dsimp only;generalize hH:((s.heap.update a (c7 λ_=>(#[]:Array aj))).push (cG "tuple" K.toArray 0)).push (cG "list" #[] 0)=R at t v;have u:ay [a] ({s with heap:=R}:aq).heap (ps.map fQ) K:=ay.kp t _ _ r;have d:¬K.toArray.size<2:=by exact O iZ (tT (jq k J))
 refine O (if_neg d) (O (if_neg d) ?_);refine ao (Pg u J ?_);refine ao (aB (kat_run (ks:=K) (vs:=K) (Q:=λst' S=>∃p:Array Nat,p.size=K.length/\arrOf st'=p.map (kas_item (K.toArray.zip K.toArray))/\failedOf st'=ak/\S={s with heap:=R}/\p.toList=lN ps/\∀i∈p.toList,i<ps.length) (G:=λp S=>S={s with heap:=R}/\p.toList=lN ps/\∀i∈p.toList,i<ps.length) rfl (jq k J) (gO (dh k) f) (λQ st' S y N Z a4=>⟨Q,y,N,Z,a4⟩) ?_) ?_ λ_ _ e=>e);.refine O k ?_;refine DV (n:=ps.length) (lt:=λi j=>fc (ps.getD i (0,0)) (ps.getD j (0,0))) (I:=λS=>S={s with heap:=R}) (λi j C S F Y W U=>?_) _ _ M rfl λS W F=>⟨W,rfl,F⟩;subst W;exact Qo u F Y (U _ rfl)
 rintro⟨⟨⟩,st'⟩S⟨p,hp,L,hf,rfl,m,I⟩;dsimp only;have G:=kat_snds rfl L;have T:(kM (p.toList.map λi=>K.getD i fk)).size=K.length:=by exact O iZ (O (aH ..) (O dm (O hp rfl)))
 refine O G ?_;have s2:=mX R a (c7 λ_=>kM (p.toList.map λi=>K.getD i fk));obtain⟨V,g⟩:∃V,(R.update a (c7 λ_=>kM (p.toList.map λi=>K.getD i fk))).get? a=aa (cG "list" (kM (p.toList.map λi=>K.getD i fk)) V):=⟨_,yl v λ_=>kM (p.toList.map λi=>K.getD i fk)⟩;refine ao (Fo v rfl ?_);refine ao (yr v rfl ?_ (jo _) (aZ (dh T) (by exact O dJ (iW (eB f) k))));refine O hf ?_;simp only[bne_self_eq_false,rJ,if_false];rw[m]at g I;refine aM ?_;exact O m (h _ V (t.trans λb o x e=>(s2.2 b λq=>x (by rw[q];exact aP ..)).trans e|>λz=>by rw[m]at z;exact z) g I)
def Bw(ps:List (Int×Int)):List (Int×Int):=(lN ps).map λi=>ps.getD i (0,0)
theorem KP{N:Type}{h:aA}{ps:List N}{d:N}{K:List aj}{t:N->T}(r:ay X h (ps.map t) K)(l:List Nat)(F:∀i∈l,i<ps.length):ay X h ((l.map λi=>ps.getD i d).map t) (l.map λi=>K.getD i fk):=by induction l with|nil=>trivial|cons i l G=>refine⟨?_,G λj m=>F j (aY _ m)⟩;have V:=F i (aP ..);have q:=Aw (d:=t d) r (i:=i) (by exact O (aH ..) V);rw[show(ps.map t).getD i (t d)=t (ps.getD i d)by simp[cz,cy V]]at q;exact q
end
section
variable{A:aF}{X:List ah}{B:aA}
theorem CF.ZK{ps:List (Int×Int)}(a:bJ X B)(J:2<=ps.length)(f:ps.length<64)(H:l8 ps.length (lK ps.length)=af):CF A X B (.builtin "sorted") [.list (ps.map fQ)] (.list ((Bw ps).map fQ)):=λs E K k r=>by
 refine aC (ay.jy r) λv I=>?_;subst I;have r:=r.1;refine cH r.d8 λl xs I h V q=>?_;subst I;have P:xs.toList.length=ps.length:=by exact O q.length (O (aH ..) rfl)
 refine Calls.call_function_entry kind_sorted plain_sorted entry_sorted (args_sorted1 _) ?_;unfold Builtin.«sorted»;refine ao (m:=checkCount "sorted" 1 1 _) (aM ?_);have M:s.heap.IsList l xs.toList.toArray:=by refine aC V λn V=>?_;exact⟨_,V,rfl,n,by simp⟩
 refine ao (collect_list M ?_ (by refine O dJ ?_;first|exact iW (eB f) P|(rw[iZ];lia)));refine ao (uc ?_ (by exact O dJ (iW (eB f) P)));have T:((s.heap.push (cG "list" #[] 0)).update s.heap.objs.size (c7 (·++xs.toList.toArray))).objs.size=s.heap.objs.size+1:=by exact O (Kc ..) (O (PJ ..) rfl)
 have g:(((s.heap.push (cG "list" #[] 0)).update s.heap.objs.size (c7 (·++xs.toList.toArray))).push (cG "list" xs.toList.toArray 0)).get? (s.heap.objs.size+1)=aa (cG "list" xs.toList.toArray 0):=by exact aQ T (cE _ rfl)
 have x:Kp s.heap (((s.heap.push (cG "list" #[] 0)).update s.heap.objs.size (c7 (·++xs.toList.toArray))).push (cG "list" xs.toList.toArray 0)):=λb o q=>by have W:b<s.heap.objs.size:=dQ q;exact O (Dq _ _ _ (by rw[T];exact bS (vW W))) (O (Dd _ _ _ _ (bS W)) (O (Dq _ _ _ (bS W)) q))
 show au _ _ _ _ _ {s with heap:=((s.heap.push (cG "list" #[] 0)).update s.heap.objs.size (c7 (·++xs.toList.toArray))).push (cG "list" xs.toList.toArray 0)};refine O T ?_;generalize y:((s.heap.push (cG "list" #[] 0)).update s.heap.objs.size (c7 (·++xs.toList.toArray))).push (cG "list" xs.toList.toArray 0)=C at g x;have t:s.heap.get? (s.heap.objs.size+1)=ak:=get?_none_of_le (dM _);have S:ay [s.heap.objs.size+1] C (ps.map fQ) xs.toList:=ay.kp (x.bL _) _ _ (ay.wide (one (.inl t)) _ _ q);refine ao (dH (tU xgR ⟨_,g,rfl⟩ xev (Vx (s:={s with heap:=C}) g S J f H λh' c d U F=>⟨_,rfl,?_⟩) (args_list_sort _)));refine aM ⟨_,rfl,?_⟩;have j:Kp s.heap h':=λb o e=>d b o (λm=>by rw[aW]at m;rw[m]at e;exact gone e t) (x b o e);refine⟨⟨j,rfl⟩,?_,_,rfl,t⟩;refine⟨_,_,rfl,(a.kp k).above (dM _),⟨c,U⟩,?_⟩;exact KP (ay.kp (j.bL X) _ _ q) _ F
end
section
variable{A:aF}{X:List ah}{h₀:aA}{s:aq}{E:aj->aq->Prop}
theorem Wm{K:List aj}{Q:List Int}(H:s.heap.get? a=aa (cG "list" K.toArray n))(r:ay X s.heap (Q.map .int) K)(kh:Kp h₀ s.heap)(ka:h₀.get? a=ak)(h2:2<=Q.length)(g:Q.length<64)(ok:l8 Q.length (lK Q.length)=af)(hk:∀i∈Q,CF A X h₀ f [.int i] (fQ (d i)))(h:∀h' tk c,bf [a] s.heap h'->h'.get? a=aa (cG "list" ((lN (Q.map d)).map λi=>K.getD i fk).toArray c)->(∀i∈lN (Q.map d),i<Q.length)->P (.done (.ret .none)) {s with heap:=h',toks:=tk}):au (az PW w) A (ksk_tree a f av) P E s:=by
 have k:K.length=Q.length:=by exact O r.length (O (aH ..) rfl)
 have ha:a<s.heap.objs.size:=dQ H;have s1:=mX s.heap a (c7 λ_=>(#[]:Array aj));obtain⟨Z,zD⟩:∃Z,(s.heap.update a (c7 λ_=>(#[]:Array aj))).get? a=aa (cG "list" #[] Z):=⟨_,yl H λ_=>#[]⟩;have k3:bf [a] s.heap (((s.heap.update a (c7 λ_=>(#[]:Array aj))).push (cG "tuple" K.toArray 0)).push (cG "list" #[] 0)):=λb o T e=>bX _ (bX _ ((s1.2 b λq=>T (by exact O q (aP ..))).trans e));have R8:(((s.heap.update a (c7 λ_=>(#[]:Array aj))).push (cG "tuple" K.toArray 0)).push (cG "list" #[] 0)).get? a=aa (cG "list" #[] Z):=bX _ (bX _ zD);have R9:((s.heap.update a (c7 λ_=>(#[]:Array aj))).push (cG "tuple" K.toArray 0)).objs.size=s.heap.objs.size+1:=by exact O (PJ ..) (O (Kc ..) rfl)
 have I:(((s.heap.update a (c7 λ_=>(#[]:Array aj))).push (cG "tuple" K.toArray 0)).push (cG "list" #[] 0)).get? (s.heap.objs.size+1)=aa (cG "list" #[] 0):=by exact aQ R9 (cE _ rfl)
 unfold ksk_tree;refine ao (OJ H rfl ?_);refine ao (yr H rfl ?_ (by exact O iZ (O dJ (iW (eB g) k))) (jo _));refine ao (Fo zD rfl ?_);refine ao (Aq ?_ (by show K.length<=_;exact O dJ (iW (eB g) k)));refine ao (uc ?_ (jo _));refine dH ?_;show au (az PW w) A (ksk_rest a f av K.toArray Z (.ref ((s.heap.update a (c7 λ_=>(#[]:Array aj))).push (cG "tuple" K.toArray 0)).objs.size)) P E {s with heap:=((s.heap.update a (c7 λ_=>(#[]:Array aj))).push (cG "tuple" K.toArray 0)).push (cG "list" #[] 0)};refine O R9 ?_;generalize hH:((s.heap.update a (c7 λ_=>(#[]:Array aj))).push (cG "tuple" K.toArray 0)).push (cG "list" #[] 0)=h3 at k3 R8 I;generalize hK:s.heap.objs.size+1=kS at I;have N:s.heap.get? kS=ak:=get?_none_of_le (by exact aQ hK (dM _));have hne:a≠kS:=λq=>by replace H:=q▸H;exact gone H N
 have old:∀{h'},bf [a,kS] h3 h'->Kp h₀ h':=λ{h'}U b o e=>by
  have n1:b≠a:=λq=>by replace e:=q▸e;exact gone e ka
  have n2:b≠kS:=λq=>by have:=kh b o e;replace this:=q▸this;exact gone this N
  exact U b o (by simp[n1,n2]) (k3 b o (by simp[n1]) (kh b o e))
 unfold ksk_rest;refine ao (qJ ?_);first|refine O (List.forIn_toArray ..) ?_|(rw[<-W6];simp only[W7])|rw[<-W6]
 refine ao (ksk_fold (λj S=>br [a,kS] {s with heap:=h3} S/\S.heap.get? a=aa (cG "list" #[] Z)/\∃l e,S.heap.get? kS=aa (cG "list" (kM l) e)/\ay [a,kS] S.heap (((Q.take j).map d).map fQ) l) K 0 _ ⟨.refl _ _,R8,[],0,I,trivial⟩ (λj x S hx Y=>?_) λS Y=>?_)
 .rw[jn]at Y⊢;obtain⟨U,ga,l,e,gk,M⟩:=Y;obtain⟨i,W,ri⟩:∃i,Q[j]?=aa i/\Rep X S.heap (.int i) x:=by
   have hj:j<Q.length:=by exact aQ k (rH.mp hx).1
   refine⟨Q[j],cy hj,?_⟩;refine aG (r.at (i:=j) (t:=.int Q[j]) (by refine O eS (O (cy hj) ?_);rfl)) λv e' q=>?_;replace e':=hx▸e';cases e';refine aC q.cL λtt u=>?_;subst u;exact .fO _ _
  have hz:l.length<=64:=by exact O M.length (O (aH ..) (O (aH ..) (O jC (BX (eB g)))))
  refine ao (Nu (aB (hk i (eO W) S (λ_ _=>False) [x] (old U.kp) ⟨ri,trivial⟩) (λz B y=>?_) λ_ _ hF=>hF.elim));obtain⟨k2,r2,F,rfl,R⟩:=y;have ga2:=k2.kp _ _ ga;have Sa:=k2.kp _ _ gk;have s4:=mX B.heap kS (c7 (·.push (.ref F)));have ea:(kM l).push (.ref F)=kM (l++[.ref F]):=by simp
  obtain⟨V,G⟩:∃V,(B.heap.update kS (c7 (·.push (.ref F)))).get? kS=aa (cG "list" (kM (l++[.ref F])) V):=⟨_,by exact aQ ea (yl Sa (·.push (.ref F)))⟩;try dsimp only
  refine ao (yr Sa rfl ?_ (by exact O iZ (O dJ (cC hz))) (aZ (dh (Zb ..)) (by exact O iZ (O dJ (zl hz)))));have kU:bf [a,kS] B.heap (B.heap.update kS (c7 (·.push (.ref F)))):=λb o T e=>(s4.2 b λq=>T (by refine O q ?_;simp)).trans e;refine aM ⟨rfl,U.trans ((br.of k2).trans ⟨kU,rfl⟩),(s4.2 a hne).trans ga2,_,V,G,?_⟩;have et:((Q.take (j+1)).map d).map fQ=((Q.take j).map d).map fQ++[fQ (d i)]:=by refine O List.take_succ (O W ?_);simp
  refine O et ?_;refine ay.append (ay.kp ((k2.kp.bL _).trans kU) _ _ M) ?_;refine⟨Rep.kp kU _ _ ?_,trivial⟩;refine cH r2.jS λb xs e _ p q=>?_;cases e;refine⟨F,xs,rfl,λm=>?_,p,ay.flat (λt m=>?_) q⟩
  .refine bw (bA.mp m) (λe=>?_) λm=>?_;.replace R:=ga▸e▸R;cases R
   .replace m:=aW.mp m;replace R:=gk▸m▸R;cases R
  .simp only[bA,b9,or_false]at m;rcases m with rfl|rfl<;>rfl
 .replace Y:=jn ..▸Y;obtain⟨U,ga,l,e,gk,M⟩:=Y;replace M:=Dv▸k▸M;have L:l.length=Q.length:=by exact O M.length (O (aH ..) (O (aH ..) rfl))
  try dsimp only
  refine ao (OJ gk rfl ?_);unfold ksk_end;try dsimp only
  simp only[rJ,if_false];have hn2:¬K.toArray.size<2:=by exact O iZ (tT (jq k h2))
  refine O (if_neg hn2) (O (if_neg hn2) ?_);try refine ao (aM ?_)
  have D:(Q.map d).length=Q.length:=aH ..;refine ao (Pg M (jq D h2) ?_);refine ao (aB (kat_run (ks:=l) (vs:=K) (Q:=λst' s2=>∃p:Array Nat,p.size=K.length/\arrOf st'=p.map (kas_item ((kM l).zip K.toArray))/\failedOf st'=ak/\s2=S/\p.toList=lN (Q.map d)/\∀i∈p.toList,i<Q.length) (G:=λp s2=>s2=S/\p.toList=lN (Q.map d)/\∀i∈p.toList,i<Q.length) (jR L (i8 k)) (jq k h2) (gO (dh k) g) (λp' st' S a1 a2 a3 a4=>⟨p',a1,a2,a3,a4⟩) ?_) ?_ λ_ _ e=>e)
  .refine O k ?_;refine DV (n:=Q.length) (lt:=λi j=>fc ((Q.map d).getD i (0,0)) ((Q.map d).getD j (0,0))) (I:=λs2=>s2=S) (λi j C s2 W hj hs hC=>?_) _ _ ok rfl λs2 hs W=>⟨hs,?_,W⟩;.subst hs;exact Qo M (jq D W) (jq D hj) (hC _ rfl)
   .unfold lN;exact O D rfl
  rintro⟨⟨⟩,st'⟩s2⟨p,hp,har,hf,rfl,hpq,hpi⟩;dsimp only;have hout:=kat_snds (vs:=K) (ks:=l) (jR L (i8 k)) har;have hsz:(kM (p.toList.map λi=>K.getD i fk)).size=K.length:=by exact O iZ (O (aH ..) (O dm (O hp rfl)))
  unfold ksk_tail;try dsimp only
  refine O hout ?_;have t1:=mX s2.heap kS (c7 λ_=>(#[]:Array aj));have J:(s2.heap.update kS (c7 λ_=>(#[]:Array aj))).get? a=aa (cG "list" #[] Z):=(t1.2 a hne).trans ga;have t2:=mX (s2.heap.update kS (c7 λ_=>(#[]:Array aj))) a (c7 λ_=>kM (p.toList.map λi=>K.getD i fk));obtain⟨V,G⟩:∃V,((s2.heap.update kS (c7 λ_=>(#[]:Array aj))).update a (c7 λ_=>kM (p.toList.map λi=>K.getD i fk))).get? a=aa (cG "list" (kM (p.toList.map λi=>K.getD i fk)) V):=⟨_,yl J λ_=>kM (p.toList.map λi=>K.getD i fk)⟩;refine ao (yr gk rfl ?_ (by exact O iZ (O dJ (iW (eB g) L))) (jo _));refine ao (AP ?_);refine ao (Fo J rfl ?_);refine ao (yr J rfl ?_ (jo _) (aZ (dh hsz) (by exact O dJ (iW (eB g) k))));refine O hf ?_;simp only[bne_self_eq_false,rJ,if_false];have xfB:=h ((s2.heap.update kS (c7 λ_=>(#[]:Array aj))).update a (c7 λ_=>kM (p.toList.map λi=>K.getD i fk))) s2.toks V (λb o T e=>?_) (by exact aQ hpq G) (by exact aQ hpq hpi);.have e2:=U.eq;refine aM ?_;exact O e2 xfB
  .have na:b≠a:=λq=>T (by exact O q (aP ..));have nk:b≠kS:=λq=>by replace e:=q▸e;exact gone e N
   exact(t2.2 b na).trans ((t1.2 b nk).trans (U.kp b o (by simp[na,nk]) (k3 b o T e)))
end
noncomputable def dD(V:List ah)(R:aR)(q:ai)(h:aA)(P:ah):Prop:=∃ps:Array aj,h.get? P=aa (tabObj ps)/\TriplesOk ps.toList/\(codeAmong R ps.toList=ak\/∃c,codeAmong R ps.toList=aa (.ref c)/\c∉V/\h.CodeRec (.ref c) q)
theorem dD.kp(k:Kp h h')(t:dD V f q h P):dD V f q h' P:=by refine dj t λps a b c=>?_;exact⟨ps,k _ _ a,b,c.imp id λ⟨g,d,n,e⟩=>⟨g,d,n,e.keeps k⟩⟩
theorem dD.less(t:dD V f q h P)(k:∀a∈U,a∈V):dD U f q h P:=by refine dj t λps a b c=>?_;exact⟨ps,a,b,c.imp id λ⟨g,d,n,e⟩=>⟨g,d,λm=>n (k _ m),e⟩⟩
theorem dD.Ph{h:aA}(t:dD V f q h P)(k:∀a∈U,h.get? a=ak):dD (U++V) f q h P:=by refine dj t λps a b c=>?_;refine⟨ps,a,b,c.imp id λ⟨c,d,n,e⟩=>⟨c,d,λm=>(bC.mp m).elim (λm=>?_) n,e⟩⟩;refine KC e λ_ o _ _ x y _=>?_;cases x;exact gone y (k _ m)
theorem dD.at{h h':aA}(k:bf V h h')(D:∀o,h.get? P=aa o->h'.get? P=aa o)(t:dD V f q h P):dD V f q h' P:=by refine dj t λps a b c=>?_;refine⟨ps,D _ a,b,c.imp id λ⟨g,d,n,e⟩=>⟨g,d,n,?_⟩⟩;refine DT e λM o w t l s i A=>?_;cases l;exact⟨g,o,w,t,rfl,k _ _ n s,i,A⟩
theorem dD.dK(X:P∉U)(k:bf U h h')(j:∀a∈U,a∈V)(t:dD V f q h P):dD V f q h' P:=by refine dj t λps a b c=>?_;refine⟨ps,k _ _ X a,b,c.imp id λ⟨i,d,n,e⟩=>⟨i,d,n,?_⟩⟩;refine DT e λM o K t H g r z=>?_;cases H;exact⟨i,o,K,t,rfl,k _ _ (λm=>n (j _ m)) g,r,z⟩
section
variable{A:aF}{E:aj->aq->Prop}{s:aq}{G:aN}
theorem XA{j:dW}(F:G.globals=mJ)(J:s.heap.Ns mJ B)(R:s.heap.BuiltinsAt B P)(Z:G.code=.ref c)(C:CodeHd s.heap c P)(T:dD V t (G.qual++"<lambda>") s.heap P)(hV:∀a∈V,∃o,s.heap.get? a=aa o)(g:∀p∈j.names,p.2=.free->(G.cells.lookup p.1).isSome=af)(K:mJ≠P)(y:defaultsOf d G=([],[]))(h:∀f r U pm u,br [P] s u->dD V t (G.qual++"<lambda>") u.heap P->s.heap.get? f=ak->u.heap.get? f=aa {cls:=.type "function",data:=.func (zy "<lambda>" (G.qual++"<lambda>") d i j (dX j.names G) pm r U)}->u.heap.CodeRec r (G.qual++"<lambda>")->Q (.ref f) u):au (az PW w) A (aT (.Lambda d i j t) G) Q E s:=by
 refine dj T λps X v l=>?_;refine kla_eval y ?_;refine bw l (λl=>?_) λq4=>?_
 .refine kla_makeFunction (Di g) F J Z C X v l K R λM U h' S Y F W k D=>?_;have N:bf [P] s.heap (h'.push (kla_obj "<lambda>" (G.qual++"<lambda>") d i j (dX j.names G) ((B "__name__").getD .none) M U)):=λb o n e=>bX _ (Y b o (λq=>n (by exact O q (aP ..))) e);refine h h'.objs.size (.ref M) U _ _ ⟨N,rfl⟩ ⟨_,bX _ D,?_,.inr ⟨M,?_,λm=>?_,k.keeps λb o e=>bX _ e⟩⟩ ?_ (cE _ rfl) (k.keeps λb o e=>bX _ e);.exact O tO (TriplesOk_snoc _ _ _ _ v)
  .exact O tO (codeAmong_snoc _ v l)
  .refine aC (hV _ m) λo e=>?_;exact absurd (dQ e) (rX.mpr F)
  .exact get?_none_of_le (eB (gO F W))
 .obtain⟨H,l,x,z⟩:=q4;refine kla_makeFunctionHit (Di g) F J Z C X v l R λU h' S N I=>?_;have L:Kp s.heap (h'.push {cls:=.type "function",data:=.func (zy "<lambda>" (G.qual++"<lambda>") d i j (dX j.names G) ((B "__name__").getD .none) (.ref H) U)}):=λb o e=>bX _ (N b o e);refine h h'.objs.size (.ref H) U _ _ ⟨L.bL _,rfl⟩ ⟨ps,L _ _ X,v,.inr ⟨H,l,x,z.keeps L⟩⟩ (get?_none_of_le I) (cE _ rfl) (z.keeps L)
end
noncomputable def pT(q:ai)(j:dW)(L f:ah)(Q:aj)(b:List (ai×ah)):aN:={scope:=j,locals:=L,globals:=mJ,cells:=b,qual:=q++".<locals>.",func:=aa f,code:=Q,frame:=aa L,builtins:=yG}
def GH(j:dW)(G:aN):Bool:=jb j G&&j.names.all λp=>p.2==.free||p.2==.local
noncomputable def B9(j:dW)(P:Gm):Gm:=λx=>if j.names.lookup x=aa .free then P x else ak
theorem xbs{h h':aA}{G:aN}{j:dW}(c:CX X h G s)(F:G.globals=mJ)(a:G.builtins=yG)(H:GH j G=af)(Y:j.names.lookup x=aa .local)(C:h.get? L=ak)(k:Kp h h')(n:h'.Ns L λy=>([(x,v)]:List (ai×aj)).reverse.lookup y)(r:Rep X h t v):CX (L::X) h' (pT q j L f cdv (dX j.names G)) (upd (B9 j s) x t):=by
 refine aV ((dZ _ _).mp H) λH M=>?_;refine kZ (wh c.ok H) λT E d _=>?_;refine gW (EU c E λx m=>(d x m).1) λA K I=>?_;have g:∀p:ai×ah,p∈([]:List (ai×ah))->False:=λp m=>b9 m;refine CX.frame (env:=pT q j L f cdv (dX j.names G)) (o:=[]) (cl:=dX j.names G) k c.live T rfl (one C) (λp m=>(g p m).elim) (F▸c.eZ.1:∃o,h.get? mJ=aa o) (a▸c.eZ.2:∃o,h.get? yG=aa o) (F▸c.ok.eN:mJ∉X) (a▸c.ok.blt:yG∉X) ⟨_,n⟩ (λp m=>(g p m).elim) .nil K I (λy e=>absurd (cg.mp M _ (mem_of_lookup e)) nofun) λy u e=>?_;by_cases i:y=x;.subst i;exact⟨v,nU ((pL ..).symm.trans e)▸r,.inr (.inl ⟨Y,_,n,C2⟩)⟩
 .have e:=(eE _ _ i).symm.trans e;unfold B9 at e;by_cases l:j.names.lookup y=aa .free;.replace e:=if_pos l▸e;exact(c.val y u e).imp λz q=>⟨q.1,.inr (.inr ⟨.inr l,(q.2.cellOf (d y (mem_of_lookup l)).2).imp λb z=>⟨((AW (P:=λq=>G.cells.lookup y=aa q) (Lj _ (mem_of_lookup l)) λq m=>(A _ m).2).elim λq z=>z.1.trans z.2.symm).trans z.1,z.2.keeps k⟩⟩)⟩
  .replace e:=if_neg l▸e;cases e
theorem CF.lam{A:aF}{B:aA}{G:aN}{j:dW}(c:CX X B G γ)(H:G.globals=mJ)(D:G.builtins=yG)(M:GH j G=af)(Y:j.names.lookup x=aa .local)(T:B.get? f=aa {cls:=.type "function",data:=.func (zy "<lambda>" q d g j (dX j.names G) V Q U)})(cr:B.CodeRec Q q)(S:B.NoLimit)(N:cF A (n+1))(K:j.isCoroutine=av)(l:j.isGenerator=av)(C:∀fd:eU,fd.params=d->fd.qualname=q->∀v,G6 (zy "<lambda>" q d g j (dX j.names G) V Q U) ⟨[v],[]⟩=pure [(x,v)])(i:∀L h,CX (L::X) h (pT q j L f Q (dX j.names G)) (upd (B9 j γ) x t)->Kp B h->cF (A.deeper (pT q j L f Q (dX j.names G))) n->EF (A.deeper (pT q j L f Q (dX j.names G))) (pT q j L f Q (dX j.names G)) (L::X) h g r):CF A X B (.ref f) [t] r:=λs E vs k u=>by refine aC (ay.jy u) λv q3=>?_;subst q3;have u:=u.1;refine aV ((dZ _ _).mp M) λW q2=>?_;have o1:=(wh c.ok W).1;have R:∀p∈j.names,p.2≠.cell:=λp m e=>absurd (e▸cg.mp q2 p m:(m5==.free||m5==.local:Bool)=af) nofun;refine A8 (kla_callFunE (gO (e7 _ _) (cC N.dep)) (k _ _ T) rfl K l rfl (cr.keeps k) ?_);rw[C (zy "<lambda>" q d g j (dX j.names G) V Q U) rfl rfl];refine aM (wpAny_newFunctionEnv R (one Y) (λZ I F=>⟨(S.keeps k).fresh _ F,?_⟩) o1);show pW _ _ (.expr g (pT q j s.heap.objs.size f Q (dX j.names G))) _ _;have w:Kp s.heap Z:=λb o e=>F.extBut b o (bS (dQ e)) (bX _ e);have cx:=xbs (q:=q) (f:=f) (cdv:=Q) (c.kp k) H D M Y (get?_none_of_le (cQ _)) w I u;have J:cF (A.deeper (pT q j s.heap.objs.size f Q (dX j.names G))) n:=N.deep _;refine kla_codeExpr (aB (i _ Z cx (k.trans w) J {s with heap:=Z,toks:=s.toks+1} _ λ_ _ e=>e) (λz s' y=>?_) λ_ _ y=>y);obtain⟨k2,r2,a,e,P⟩:=y;have ks:Ks s {s with heap:=Z,toks:=s.toks+1}:=⟨w,rfl⟩;exact⟨ks.trans k2,Rep.less (λb m=>aY _ m) _ _ r2,a,e,g9 w P⟩
def AY(d:Int->Int×Int)(Q:List Int):List Int:=(lN (Q.map d)).map λi=>Q.getD i 0
section
variable{A:aF}{X:List ah}{h₀:aA}
theorem Vy{Q:List Int}{s:aq}(h:bJ X h₀)(k:Kp h₀ s.heap)(r:Rep X s.heap (.list (Q.map .int)) v)(J:2<=Q.length)(f:Q.length<64)(H:l8 Q.length (lK Q.length)=af)(N:∀i∈Q,CF A.in1.in1 X h₀ (.ref p) [.int i] (fQ (d i))):au (az PW w) A (dO (.builtin "sorted") [v] [(n7 "key",.ref p)]) (λz S=>Ks s S/\Rep X S.heap (.list ((AY d Q).map .int)) z/\∃a,z=.ref a/\s.heap.get? a=ak) E s:=by
 refine cH r.d8 λl xs u D V q=>?_;subst u;have P:xs.toList.length=Q.length:=by exact O q.length (O (aH ..) rfl)
 refine call_function_entry_kw kind_sorted plain_sorted entry_sorted (ksk_s1 _ _) ?_;unfold Builtin.«sorted»;refine ao (m:=checkCount "sorted" 1 1 _) (aM ?_);have M:s.heap.IsList l xs.toList.toArray:=by refine aC V λn V=>?_;exact⟨_,V,rfl,n,by simp⟩
 refine ao (collect_list M ?_ (by refine O dJ ?_;first|exact iW (eB f) P|(rw[iZ];lia)));refine ao (uc ?_ (by exact O dJ (iW (eB f) P)));have T:((s.heap.push (cG "list" #[] 0)).update s.heap.objs.size (c7 (·++xs.toList.toArray))).objs.size=s.heap.objs.size+1:=by exact O (Kc ..) (O (PJ ..) rfl)
 have g:(((s.heap.push (cG "list" #[] 0)).update s.heap.objs.size (c7 (·++xs.toList.toArray))).push (cG "list" xs.toList.toArray 0)).get? (s.heap.objs.size+1)=aa (cG "list" xs.toList.toArray 0):=by exact aQ T (cE _ rfl)
 have x:Kp s.heap (((s.heap.push (cG "list" #[] 0)).update s.heap.objs.size (c7 (·++xs.toList.toArray))).push (cG "list" xs.toList.toArray 0)):=λb o q=>by have W:b<s.heap.objs.size:=dQ q;exact O (Dq _ _ _ (by rw[T];exact bS (vW W))) (O (Dd _ _ _ _ (bS W)) (O (Dq _ _ _ (bS W)) q))
 show au _ _ _ _ _ {s with heap:=((s.heap.push (cG "list" #[] 0)).update s.heap.objs.size (c7 (·++xs.toList.toArray))).push (cG "list" xs.toList.toArray 0)};refine O T ?_;generalize B:((s.heap.push (cG "list" #[] 0)).update s.heap.objs.size (c7 (·++xs.toList.toArray))).push (cG "list" xs.toList.toArray 0)=C at g x;have t:s.heap.get? (s.heap.objs.size+1)=ak:=get?_none_of_le (dM _);refine ao (dH (wpAny_call_entry_kw xgR ⟨_,g,rfl⟩ xev ?body (ksk_l1 _ _)));case body=>show au (az PW w) A.in1.in1 (Builtin.«list.sort» ⟨[.ref (s.heap.objs.size+1)],[(n7 "key",.ref p)]⟩) _ _ _;refine O (ksk_t1 ..) ?_;refine Wm (s:={s with heap:=C}) (X:=X) (h₀:=h₀) g (ay.kp (x.bL X) _ _ q) (k.trans x) (g9 k t) J f H N λh' G c y U F=>⟨_,rfl,?_⟩;refine aM ⟨_,rfl,?_⟩;have j:Kp s.heap h':=λb o e=>y b o (λm=>by rw[aW]at m;rw[m]at e;exact gone e t) (x b o e);refine⟨⟨j,rfl⟩,?_,_,rfl,t⟩;refine⟨_,_,rfl,(h.kp k).above (dM _),⟨c,U⟩,?_⟩;exact KP (ay.kp (j.bL X) _ _ q) _ F
end
section
variable{A:aF}{H:List ah}{N B s S:aq}{Z:List ah}{G:aN}{d g:Gm}{M:List (ah×T)}{E:aj->aq->Prop}
theorem FS.fresh(f:FS H N B s Z G d M)(k:br [P] s S)(X:P∈H)(D:∃o,N.heap.get? P=aa o)(i:∃o,S.heap.get? P=aa o):∃U,FS H U S S Z G d M/\(∃o,U.heap.get? P=aa o)/\∀J,Ks U J->br [P] N J/\∀b o,b∉Z->S.heap.get? b=aa o->J.heap.get? b=aa o:=by
 refine aC i λo i=>?_;refine aC D λr D=>?_;have c:∀a∈Z,a≠P:=λa m q=>by have:=f.new a m;replace this:=D▸q▸this;cases this
 have j:∀a∈[P],a∈Z++H:=one (bC.mpr (.inr X));refine⟨{S with heap:=kW S.heap Z},⟨⟨λb o e=>wF _ e,rfl⟩,.refl _ _,λa m=>wg _ m,f.own,?_,λp m=>⟨(f.acc p m).1,(f.acc p m).2.1,?_⟩,f.nd⟩,⟨o,rW _ i λm=>c _ m rfl⟩,λJ h=>⟨⟨λb q n e=>?_,?_⟩,λb o n e=>h.kp b o (rW _ e n)⟩⟩;.exact f.cx.dK k.kp (λa m n=>c a (f.own a m) (aW.mp n)) j (f.cx.live.dK k.kp (one ⟨o,i⟩))
 .exact(f.acc p m).2.2.kp (k.kp.mono j) λo e=>k.kp _ _ (λn=>c _ (f.acc p m).1 (aW.mp n)) e
 .refine h.kp b q (rW _ (k.kp b q n (f.ks.kp b q e)) λm=>?_);exact gone e (f.new b m)
 .have e:=h.eq;have l:=f.ks.eq;have L:=k.eq;refine O e ?_;dsimp only;refine O L ?_;dsimp only;exact O l rfl
theorem FS.xdo(f:FS H N B s Z G d M)(Y:G.kindOf x=aa .local\/G.kindOf x=aa .cell)(C:dg G x∈aK G)(r:Rep (Z++H) s.heap t v)(h:∀S,br [dg G x] s S->FS H N B S Z G (upd d x t) M->Q () S):au (az PW w) A (kQ G x v) Q E s:=z5 f.cx Y r λS k c=>by have b:br (aK G) s S:=k.mono (one C);have i:br Z s S:=b.mono λa m=>f.own a m;refine h S k ⟨f.ks.qp i f.new,f.kx.trans (b.mono λa m=>bC.mpr (.inl m)),f.new,f.own,c,λp m=>⟨(f.acc p m).1,(f.acc p m).2.1,?_⟩,f.nd⟩;exact(f.acc p m).2.2.kp (b.kp.mono f.cx.ok.iX) λo e=>b.kp _ _ (f.acc p m).2.1 e
theorem FS.xfC{x:ai}{e:aS}{c R:aR}{t:T}{P:ah}{I:aA->Prop}{Q:ek->aq->Prop}(f:FS H N B s Z G d M)(X:P∈H)(p:∃o,N.heap.get? P=aa o)(u:∀h,I h->∃o,h.get? P=aa o)(hx:G.kindOf x=aa .local\/G.kindOf x=aa .cell)(C:dg G x∈aK G)(he:∀E,au (az PW w) A (aT e G) (λv S=>br [P] s S/\I S.heap/\Rep (Z++H) S.heap t v) E s)(W:∀U S,FS H U S S Z G (upd d x t) M->(∃J,I J.heap/\br [dg G x] J S/\lQ (Z++H) J.heap G/\P∉aK G)->(∀J,Ks U J->br [P] N J/\∀b o,b∉Z->S.heap.get? b=aa o->J.heap.get? b=aa o)->Q .next S)(hs:autoParam (lJ e (aa (.Name x c)) R.line G=pure av) yAR):au (az PW w) A (dY (.Assign [.Name x c] e R) G) Q E s:=by
 refine O (Ac G x c e R hs) ?_;refine ao (cV (ao (aB (he E) (λv U y=>?_) λ_ _ e=>e)));refine gW y λk i r=>?_;refine dj (f.fresh k X p (u _ i)) λJ D q K=>?_;have l:P∉aK G:=λm=>by refine aC p λo0 p=>?_;have:=f.new P (f.own P m);replace this:=p▸this;cases this
 refine ao (cV (ao (D.xdo hx C r λS F Y=>aM ?_)));have z:∃o,S.heap.get? P=aa o:=by refine aC (u _ i) λo ho=>?_;exact⟨o,F.kp P o (λm=>l (by replace m:=aW.mp m;exact O m C)) ho⟩
 refine dj (Y.fresh (.refl _ S) X q z) λa n _ V=>?_;refine W a S n ⟨U,i,F,D.cx.ok,l⟩ λj h=>?_;refine aV (V j h) λL b2=>?_;exact⟨(K J (.refl _)).1.trans L,b2⟩
end
section
variable{A:aF}{G:aN}{X:List ah}{b:Gm}
theorem ZL{j:dW}{its:List Int}{s:aq}(R:CX X s.heap G b)(hf:b "sorted"=aa (.aI (.builtin "sorted")))(hgl:mS G "sorted"=af)(he:EV A G X s.heap e (.list (its.map .int)))(F:G.globals=mJ)(hbe:G.builtins=yG)(hg:s.heap.Ns mJ mg)(hb:s.heap.BuiltinsAt mg P)(hc:G.code=.ref c)(C:CodeHd s.heap c P)(T:dD V r (G.qual++"<lambda>") s.heap P)(hV:∀a∈V,∃o,s.heap.get? a=aa o)(hP:P∈X)(Iu:P∉aK G)(nl:s.heap.NoLimit)(ok:GH j G=af)(hx:j.names.lookup x=aa .local)(hco:j.isCoroutine=av)(J:j.isGenerator=av)(N:defaultsOf d G=([],[]))(rm:cF A (n+2))(h2:2<=its.length)(h64:its.length<64)(okS:l8 its.length (lK its.length)=af)(D:∀pm Q U v,G6 (zy "<lambda>" (G.qual++"<lambda>") d l j (dX j.names G) pm Q U) ⟨[v],[]⟩=pure [(x,v)])(H:∀i∈its,∀A' L f Q h,cF A' n->CX (L::X) h (pT (G.qual++"<lambda>") j L f Q (dX j.names G)) (upd (B9 j b) x (.int i))->EF A' (pT (G.qual++"<lambda>") j L f Q (dX j.names G)) (L::X) h l (fQ (key i)))(hs:autoParam (bh [e] G=[(av,aT e G)]) yAR):au (az PW w) A (aT (.Call (.Name "sorted" np) [e] [⟨aa "key",.Lambda d l j r,kp⟩] t) G) (λv W=>br [P] s W/\dD V r (G.qual++"<lambda>") W.heap P/\Rep X W.heap (.list ((AY key its).map .int)) v) E s:=by
 show au _ _ (do mP t (<-aT (.Name "sorted" np) G) [] (cM t (bh [e] G)) (oA t (n9 [⟨aa "key",.Lambda d l j r,kp⟩] G))) _ _ _;refine ao (aB ((EV.glob R hf hgl) s E λ_ _ e=>e) (λv M y1=>?_) λ_ _ e=>e);refine aV y1 λk1 r1=>?_;obtain rfl:=r1.cR;refine callWith_kw ?_ (by refine O hs ?_;rfl) (by refine O hs ?_;rfl);have hl:=EL.cons he (EL.nil (pos:=t)) (by refine O hs ?_;rfl) M E k1.kp;refine aB hl (λvs K y2=>?_) λ_ _ e=>e;refine aV y2 λk2 Z=>?_;refine aC (ay.jy Z) λlv u=>?_;subst u;have Z:=Z.1;refine kws_cons ?_;have B:=(k1.trans k2).kp;have hgP:mJ≠P:=λq=>R.ok.eN (by exact O F (O q hP));have o4:∀p∈j.names,p.2=.free->(G.cells.lookup p.1).isSome=af:=λp m e=>CW.mpr ((wh R.ok ((dZ _ _).mp ok).1).2.2.1 p.1 (e▸m)).1;refine jP hb λbm ob b1 b2 b3 b4 b5 b6=>?_;refine XA F (hg.keeps B) ⟨bm,ob,b1,b2,b3,b4,B _ _ b5,b6⟩ hc (C.keeps B) (T.kp B) (λa m=>(hV a m).imp λo e=>B _ _ e) o4 hgP N λfa Q U pm g I T3 nf ho hcr=>?_;refine kws_nil ?_;show au (az PW w) A (dO (.builtin "sorted") [lv] [(n7 "key",.ref fa)]) _ _ g;have Y:bf X K.heap g.heap:=I.kp.mono (one hP);have c3:CX X g.heap G b:=(R.kp B).dK I.kp (λa m n=>Iu (aW.mp n▸m)) (one hP) ((R.kp B).live.dK I.kp λa m=>by replace m:=aW.mp m;refine O m ?_;refine aG T3 λps q _=>?_;exact⟨_,q⟩);have nl3:g.heap.NoLimit:=by refine aG (nl.keeps B) λmc q1 q2=>?_;refine ow q1 λo es ep S g2=>?_;refine⟨mc,⟨o,es,ep,I.kp _ _ (λm=>?_) S,g2⟩,q2⟩;replace m:=aW.mp m;refine aG (T.kp B) λps q _=>?_;replace S:=q▸m▸S;cases S;cases g2.1
 refine aB (Vy (h₀:=g.heap) (X:=X) c3.live (λ_ _ e=>e) (Rep.kp Y _ _ Z) h2 h64 okS λi hi=>CF.lam (n:=n) c3 F hbe ok hx ho hcr nl3 ?_ hco J (λfd _ _ v=>D pm Q U v) λL h c k vH=>H i hi _ L fa Q h vH c) (λz W y=>?_) λ_ _ e=>e;.exact⟨rm.hd,by have:=rm.dep;show A.depth+(n+1)<660;exact rL this,by have:=rm.jJ;show A.units+1+1+8*(n+1)<2000;exact G8 (a:=A.units) (c:=2) this⟩
 .refine gW y λk4 r4 _=>?_;refine⟨(br.of (k1.trans k2)).trans (I.trans (.of k4)),T3.kp k4.kp,r4⟩
end
noncomputable def fJ(d:List (ai×T))(k:ai)(t:T):List (ai×T):=if d.any λp=>p.1=k then d.map λp=>if p.1=k then(p.1,t)else p else d++[(k,t)]
section
variable{X:List ah}
theorem UO{d:List (ai×T)}(r:ay X h (d.map (·.2)) a)(q:Rep X h t v):∃x,Ck ((d.map (·.1)).zip a) k v=((fJ d k t).map (·.1)).zip x/\x.length=(fJ d k t).length/\ay X h ((fJ d k t).map (·.2)) x:=by
 have b:∀{d:List (ai×T)}{a:List aj},a.length=d.length->((d.map (·.1)).zip a).any λi=>i.1=k=d.any λp=>p.1=k:=by intro d;induction d with|nil=>intro a _;rfl|cons p d G=>intro a e;cases a with|nil=>simp at e|cons u a=>simp only[f6,JS,Ld];exact O (G (by simpa using e)) rfl
 have V:a.length=d.length:=by exact O r.length (O (aH ..) rfl)
 unfold Ck fJ;refine O (b V) ?_;by_cases c:d.any λp=>p.1=k=af;.refine O (if_pos c) (O (if_pos c) ?_);clear c b;induction d generalizing a with
|nil=>cases a with|nil=>exact⟨[],rfl,rfl,trivial⟩|cons=>simp at V
|cons p d G=>cases a with|nil=>simp at V|cons u a=>
  refine dj (G r.2 (by simpa using V)) λx H L g=>?_;by_cases Q:p.1=k
  .refine⟨v::x,?_,by simp[L],?_⟩;.simp only[f6,JS,Q,if_true,H]
   .rw[f6,if_pos Q];exact⟨q,g⟩
  .refine⟨u::x,?_,by simp[L],?_⟩;.simp only[f6,JS,Q,if_false,H]
   .rw[f6,if_neg Q];exact⟨r.1,g⟩
 .refine O (if_neg c) (O (if_neg c) ?_);refine⟨a++[v],?_,by simp[V],?_⟩;.refine O fY (O (Kv (by rw[aH,V])) ?_);rfl
  .exact O fY (ay.append r ⟨q,trivial⟩)
variable{A:aF}{H:List ah}{N c s S:aq}{Z:List ah}{G:aN}{P g:Gm}{M:List (ah×T)}{E:aj->aq->Prop}{B:aA}
theorem EM.Bg(z:∃o,B.get? eo=aa o):EM A G X B (.Dict [] [] b) (DS []):=λs E k=>by
 refine O (Nn ..) ?_;refine ao (cV ?_);show au _ _ (wz []) _ _ _;have e:wz []=BR:=by rfl
 refine O e ?_;refine aC z λo a=>?_;have W:=dQ (k _ _ a);exact DJ _ _ _ ⟨.push ..,_,rfl,get?_none_of_le (cQ _),beq_eq_false_iff_ne.mpr λe=>by rw[e]at W;exact v8 _ W,[],by simpa using Dl s.heap,rfl,trivial⟩
theorem EF.xdp(I:bJ X B)(z:∃o,B.get? eo=aa o)(K:EV A G X B i (.str k))(L:EV A G X B n t)(T:Mine.flat t=af)(d:autoParam ((Fj [aa i] G).zip ((kP [n] G).map λv=>do let x<-v;fL f;pure x)=([(aT i G,do let x<-aT n G;fL f;pure x)]:List (bg aj×bg aj)).map λp=>(aa p.1,p.2)) yAR):EF A G X B (.Dict [aa i] [n] f) (DS [(k,t)]):=λs E q=>by
 have j:Kp s.heap (s.heap.push {cls:=.type "dict",data:=.dict #[]}):=λ_ _ e=>bX _ e;obtain⟨o,R⟩:=z;have W:=dQ (q _ _ R);have D:=I.kp q;refine wpAny_Dict_pairs (knd:=rO PW w) d (by simp) (by simp) (evalPairs_cons ?_);refine aB (K _ E (q.trans j)) (λkv U x=>?_) λ_ _ e=>e;obtain⟨u,rfl⟩:=x.2.eV;refine ao (aB (L U E (q.trans (j.trans x.1.kp))) (λv J y=>ao (cV (aM (evalPairs_nil ?_)))) λ_ _ e=>e);have F:Kp s.heap J.heap:=j.trans (x.1.trans y.1).kp;refine⟨[(k,v)],⟨Gb PW w k u,rfl,trivial⟩,(Dl s.heap).at λo e=>(x.1.trans y.1).kp _ _ e,λh' p h=>?_⟩;have Q:merged [] [(k,v)]=[(k,v)]:=by simp[merged,Ck]
 rw[Q]at p;have r:Kp s.heap h':=λb o e=>(h.2 b (bS (dQ e))).trans (F b o e);have V:bf (s.heap.objs.size::X) J.heap h':=(qn h).mono (one (aP ..));have l:Ks {s with heap:=s.heap.push {cls:=.type "dict",data:=.dict #[]}} J:=x.1.trans y.1;refine⟨⟨r,?_⟩,?_,_,rfl,get?_none_of_le (cQ _)⟩;.have C:=l.eq;dsimp only;exact O C rfl
 .refine⟨_,[v],rfl,D.new,beq_eq_false_iff_ne.mpr λe=>by rw[e]at W;exact v8 _ W,p,rfl,?_⟩;have Y:Rep (s.heap.objs.size::X) J.heap t v:=y.2.flat T;exact⟨Rep.less (λa m=>aY _ m) _ _ (Rep.kp V _ _ Y),trivial⟩
theorem aX.inD:aX A X B .In (.str k) (DS d) (getD d k).isSome:=λs E a b j Y o=>by refine aC Y.eV λt I=>?_;subst I;refine jP o.qZ λD W I n C p e r=>?_;subst I;have h:=Ai (k:=k) r;refine wpAny_in_of (Gb PW w k t) C p.mapOf ⟨.tok ..,?_⟩;cases f:getD d k with|none=>rw[h.1 f];rfl|some u=>refine aG (h.2 u f) λv a _=>?_;refine O a ?_;rfl
theorem FS.FQ{d:List (ai×T)}(f:FS H N c s Z G P M)(h:M[i]?=aa (D,DS d))(I:d.length<=100000)(r:Rep (Z++H) s.heap t v)(j:∀S,FS H N c S Z G P (M.set i (D,DS (fJ d k t)))->Q () S):au (az PW w) A (An (.ref D) (.str k n) v) Q E s:=by have b:=f.acc _ (eO h);obtain⟨C,W,p,e,R⟩:=b.2.2;rw[aH]at e;refine wpAny_setItem_pairs (hsz:=by exact O dJ (O gP (O (aH ..) (BW (cC I))))) (Gb PW w k n) p λh' F a=>j _ ?_;have m:br [D] s {s with heap:=h',toks:=s.toks+1}:=⟨qn a,rfl⟩;have z:bf (Z++H) s.heap h':=m.kp.mono (one (bC.mpr (.inl b.1)));refine dj (UO (k:=k) (t:=t) R r) λx l L o=>?_;rw[l]at F;exact f.write h m ⟨C,x,F,by exact O (aH ..) L,Mine.ay.kp z _ _ o⟩
theorem FS.N5{r Y R:aR}{d:List (ai×T)}(f:FS H N c s Z G P M)(K:P x=aa (.aI (.ref D)))(F:M[i]?=aa (D,DS d))(L:EV A G (Z++H) s.heap n t)(h:EV A G p s.heap a (.str k))(I:d.length<=100000)(b:∀S,FS H N c S Z G P (M.set i (D,DS (fJ d k t)))->Q .next S)(W:autoParam (lJ n (aa (.Subscript (.Name x r) a Y)) R.line G=pure av) yAR)(V:autoParam (isVar G x=af) yAK):au (az PW w) A (dY (.Assign [.Subscript (.Name x r) a Y] n R) G) Q E s:=by refine JE (aB (L s E λ_ _ e=>e) (λv U y=>?_) λ_ _ e=>e) W;refine aB (f.q8 (X:=[]) K V U E y.1.kp) (λo J z=>?_) λ_ _ e=>e;obtain rfl:=z.2.cR;refine aB (h J E (y.1.trans z.1).kp) (λq j u=>?_) λ_ _ e=>e;refine aC u.2.eV λm l=>?_;subst l;exact((f.step y.1).step z.1).step u.1|>.FQ F I (Rep.kp ((z.1.trans u.1).kp.bL _) _ _ y.2) b
theorem FS.xbt{d:List (ai×T)}(f:FS H N c s Z G P M)(hv:P x=aa (.aI (.ref D)))(F:M[i]?=aa (D,DS d))(j:EV A G X1 s.heap l (.str k))(he:EV A G X2 s.heap v (.int b))(hk:getD d k=aa (.int a))(R:d.length<=100000)(L:∀S,FS H N c S Z G P (M.set i (D,DS (fJ d k (.int (a+b)))))->Q .next S)(K:∀h m q,augStore l h m q=(do ic [q,h,m] (An h m q);SQ [q,h,m] [];pure .next):=by intros;rfl)(hl:autoParam (isVar G x=af) yAK):au (az PW w) A (dY (.AugAssign (.Subscript (.Name x xp) l sp) .Add v V) G) Q E s:=by refine Va (aB (f.q8 (X:=[]) hv hl s E λ_ _ e=>e) (λo U z=>?_) λ_ _ e=>e) K;obtain rfl:=z.2.cR;refine aB (j U E z.1.kp) (λm J u=>?_) λ_ _ e=>e;refine aC u.2.eV λtk I=>?_;subst I;have r:=(f.step z.1).step u.1;have W:=r.acc _ (eO F);obtain⟨sm,us,p,e,rl⟩:=W.2.2;refine aG ((Ai (k:=k) rl).2 _ hk) λvv t C=>?_;refine aC C.cL λta I=>?_;subst I;refine xel (Gb PW w k tk) p.mapOf t ?_;have Y:=r.step (.tok J (J.toks+1));refine aB (he _ E (z.1.trans (u.1.trans (.tok J (J.toks+1)))).kp) (λbv n y=>?_) λ_ _ e=>e;refine aC y.2.cL λtb I=>?_;subst I;refine Mz ?_;exact((Y.step y.1).step (.tok ..)).FQ F R (.fO _ _) L
theorem CA.XE:CA A X B (.builtin "isinstance") [.int i,.aI (.type "tuple")] (.bool av):=λs E K k r=>by refine lu (ay.nI r) λv u I=>?_;subst I;refine aC r.1.cL λt I=>?_;subst I;obtain rfl:=r.2.1.cR;exact xhc ⟨.tok ..,.AV _⟩
end
section
variable{A:aF}{X:List ah}{B:aA}
noncomputable def u0(F W:List T):List T:=List.zipWith (λt u=>.tup [t,u]) F W
theorem IC.zip2(hh:A.handled=none)(l:bJ X B):IC A X B (.type "zip") [.list Q,.list J] (.Tuple es kk pp) (u0 Q J):=λs E vs k r=>by
 refine lu (ay.nI r) λv u q=>?_;subst q;refine cH r.1.d8 λR xs q U p1 d=>?_;subst q;refine cH r.2.1.d8 λI W q P p2 F=>?_;subst q;refine aC (PlainList.exact p1) λq1 n=>?_;refine aC (PlainList.exact p2) λq2 w=>?_;have K:=dQ n;have fc:=dQ w;have G:=l.kp k;refine call_zip_2 p1.isList p2.isList λh' M S C f g hsz V=>?_;refine K8 M ?_;have D:ZipApart (s.heap.objs.size+4) (s.heap.objs.size+2) (s.heap.objs.size+3) s.heap.objs.size (s.heap.objs.size+1) R I:=by have U:∀j:Nat,R≠s.heap.objs.size+j:=λj e=>absurd (e▸K:s.heap.objs.size+j<s.heap.objs.size) (tT (e7 _ _));have P:∀j:Nat,I≠s.heap.objs.size+j:=λj e=>absurd (e▸fc:s.heap.objs.size+j<s.heap.objs.size) (tT (e7 _ _));constructor<;>first|exact U _|exact P _|exact U 0|exact P 0|(show¬(_:Nat)=_;lia)
 have up:∀b∈[s.heap.objs.size+4,s.heap.objs.size+2,s.heap.objs.size+3,s.heap.objs.size,s.heap.objs.size+1,R,I],∃o,h'.get? b=some o:=λb m=>by
  simp only[bA,b9,or_false]at m;rcases m with rfl|rfl|rfl|rfl|rfl|rfl|rfl;.exact⟨_,M⟩
  .exact⟨_,S⟩
  .exact⟨_,C⟩
  .refine aG f λo N _=>?_;exact⟨o,N⟩
  .refine aG g λo N _=>?_;exact⟨o,N⟩
  .exact⟨_,V _ _ n⟩
  .exact⟨_,V _ _ w⟩
 have T:∀b∈[s.heap.objs.size+4,s.heap.objs.size+3,s.heap.objs.size,s.heap.objs.size+1],s.heap.get? b=none:=λb m=>by simp only[bA,b9,or_false]at m;rcases m with rfl|rfl|rfl|rfl<;>exact get?_none_of_le (by lia)
 refine⟨.mk' s h' s.toks V,_,[s.heap.objs.size+4,s.heap.objs.size+2,s.heap.objs.size+3,s.heap.objs.size,s.heap.objs.size+1,R,I],[s.heap.objs.size+4,s.heap.objs.size+3,s.heap.objs.size,s.heap.objs.size+1],rfl,up,?_,T,λb m=>?_,λY Z hw=>⟨_,gz.AE (λh=>ay Y h Q xs.toList/\ay Y h J W.toList) (WalksT.zip2 hh _ _ _ _ _ _ _ D xs W) ?_ (λh h' r k=>⟨Mine.ay.kp k _ _ r.1,Mine.ay.kp k _ _ r.2⟩) (λi v t h hp c r=>?_) (λi h st=>?_) hw,⟨⟨M,S,⟨_,_,C⟩,f,g,p1.isList.at λo e=>V _ _ e,p2.isList.at λo e=>V _ _ e⟩,?_⟩⟩⟩;.exact dP (G.above (e7 _ _)) (dP (G.above (e7 _ _)) (dP (G.above (e7 _ _)) (dP (G.above (cQ _)) (dP (G.above (dM _)) (dP U (dP P nD))))))
 .simp only[bA,b9,or_false]at m⊢;rcases m with rfl|rfl|rfl|rfl<;>simp
 .rw[u0,List.length_zipWith,<-d.length,<-F.length,dm,dm]
 .refine wG hp λx y hx hy q=>?_;try clear hp;subst q
  rw[u0,List.getElem?_zipWith]at c;cases H:Q[i]? with|none=>rw[H]at c;simp at c|some a=>cases L:J[i]? with|none=>rw[H,L]at c;simp at c|some b=>rw[H,L]at c;simp at c;refine⟨_,c.symm,?_⟩;exact⟨r.1.get H (by exact O gM hx),r.2.get L (by exact O gM hy),trivial⟩
 .refine Xm st λa1 a2 q z p _=>?_;refine lu q λ_ _ a3=>?_;refine aG z λo4 a4 _=>?_;refine aG p λo5 a5 _=>?_;exact dP ⟨_,a1⟩ (dP ⟨_,a3⟩ (dP ⟨_,a4⟩ (dP ⟨_,a5⟩ nD)))
 .exact⟨om V Z T d,om V Z T F⟩
end
structure xF(h:aA)(C N:ah)(j:ai->Option aj):Prop where obj:∃(n q:ai)(z:List aj)(s:List ai)(T:List aj)(i:Bool)(a:Option Bool)(m:Option ah)(H V M r W:Option aj)(b:String),h.get? C=aa (Fp n q C N z [.type "object"] af s T i a m H V M r W b)ns:h.Ns N j
theorem xF.kp(k:Kp h h')(c:xF h C N j):xF h' C N j:=by obtain⟨n,q,z,s,T,d,a,m,H,V,M,r,W,i,e⟩:=c.obj;exact⟨⟨n,q,z,s,T,d,a,m,H,V,M,r,W,i,k _ _ e⟩,c.ns.keeps λb o=>k b o⟩
section
variable{A:aF}{X:List ah}{B:aA}{G:aN}{P:Gm}
theorem wI{h h':aA}(k:Kp h h')(I:h.Inst x C D):h'.Inst x C D:=by refine fU I λo a b c d=>?_;refine⟨o,k _ _ a,b,c,d.imp id λ⟨d,e,f,g⟩=>⟨d,e,f,?_⟩⟩;exact g.keeps λb o=>k b o
theorem EV.xdq{R:aR}(g:EV A G X B o (.aI (.ref x)))(c:xF B C N j)(I:B.Inst x C D)(h:j "__getattribute__"=ak)(b:j p=ak)(f:jQ (.type "object") p=pure ak)(K:D p=aa v)(d:wV v=pure v)(r:Rep X B t v)(L:∀G,aT (.Attribute o p R) G=(do let q<-aT o G;fL R.atName;let r<-ic [q] (HQ q p af)MA o q r;pure r):=by intro _;with_unfolding_all rfl):EV A G X B (.Attribute o p R) t:=λs E k=>by refine xgS (aB (g s E k) (λu U y=>?_) λ_ _ e=>e) (L G);obtain rfl:=y.2.cR;have V:=k.trans y.1.kp;obtain⟨n,q,z,l,sub,m,a,J,H,F,M,w,W,i,e⟩:=(c.kp V).obj;exact load_attr e (c.kp V).ns h b f (wI V I) K d ⟨y.1.trans (.tok ..),Rep.kp (V.bL X) _ _ r⟩
end
section
variable{A:aF}{X:List ah}{B:aA}{G:aN}{P:Gm}
theorem EV.xdr{o e:aS}{D:List aS}{name:ai}{m R:aR}{x C N fa:ah}{L:bR}{fd:eU}{mN l:ai->Option aj}{F:List T}{r:T}{y:Option aj}(W:EV A G X B o (.aI (.ref x)))(c:xF B C N mN)(I:B.Inst x C l)(h:mN "__getattribute__"=ak)(g:mN "__getattr__"=ak)(hf:mN name=aa (.ref fa))(f:B.get? fa=aa L)(p:L.cls=.type "function")(Q:L.data=.func fd)(K:jQ (.type "object") name=pure y)(Y:l name=ak)(Z:EL A G X B R (e::D) F)(hc:CA A X B (.ref fa) (.aI (.ref x)::F) r)(d:autoParam (kJ o name G (aT o G)=aT o G) yAR)(hs:autoParam (bh (e::D) G=(av,aT e G)::bh D G) yAR)(w:((cM R (bh (e::D) G)).all (λx=>!x.1)&&(oA R (n9 [] G)).all (λx=>x.1.isSome)&&decide ((e::D).length+([]:List SR).length+(if([]:List SR).isEmpty then 0 else 1)<30))=af:=by rfl)(a:autoParam ((m.endLine==R.line)=af) yAR):EV A G X B (.Call (.Attribute o name m) (e::D) [] R) r:=λs E k=>by
 refine O (arm_eval_Call ..) (O d ?_);refine ao (aB (W s E k) (λov U b=>?_) λ_ _ e=>e);obtain rfl:=b.2.cR;have V:=k.trans b.1.kp;refine ao (cV ?_);have v:methodCallForm ((e::D).length+([]:List SR).length) (cM R (bh (e::D) G)) (oA R (n9 [] G))=af:=w;have H:methodCallPos af o G m R=pure R:=by unfold methodCallPos;simp[a]
 unfold methodCall;refine O v ?_;obtain⟨nm,q,bs,sn,sub,ab,n,dd,q0,q1,q2,q3,q5,i,t⟩:=(c.kp V).obj;refine ao (dH (method_of t (c.kp V).ns h g hf (V _ _ f) p K (wI V I) Y ?_));refine ao (wA H ?_);have M:=Z U E V;rw[hs]at M⊢;refine DF (o:=L) (fd:=fd) (mZ (aB M (λS J z=>?_) λ_ _ e=>e));refine⟨⟨V.trans z.1.kp _ _ f,Q⟩,?_⟩;exact aB (hc J E (.ref x::S) (V.trans z.1.kp) ⟨rfl,z.2⟩) (λc j u=>⟨(b.1.trans z.1).trans u.1,u.2⟩) λ_ _ e=>e
end
section
open PySem.Sre(M)
noncomputable def fX:Nat->M->M|0,m=>m|n+1,m=>fX n m.step
theorem yz{m:M}(h:m.outcome.isSome=af):∀n,fX n m=m
|0=>rfl|n+1=>by
 have e:m.step=m:=by unfold M.step;exact O (if_pos h) rfl
 rw[fX,e,yz h n]
theorem wJ(m:M):∀a b,fX (a+b) m=fX b (fX a m)|0,b=>by refine O (jn ..) ?_;rfl|a+1,b=>by rw[My,fX,wJ _ a b];rfl
theorem KQ:∀(n:Nat)(m:M),m.runFor n=fX n m
|0,m=>rfl|n+1,m=>by
 rw[M.runFor];split;.rename_i h;rw[yz h]
 .exact KQ n m.step
theorem XF(K:(fX a m).outcome.isSome=af)(R:(fX b m).outcome.isSome=af):fX a m=fX b m:=by
 refine bw (Nat.le_total a b) (λh=>?_) λh=>?_;.refine aC (Jm h) λc z=>?_;subst z;rw[wJ,yz K]
 .refine aC (Jm h) λc z=>?_;subst z;rw[wJ,yz R]
theorem xfD(m:M):fX 3 m=m.step.step.step:=rfl
theorem Qp(m:M):fX 4 m=m.step.step.step.step:=rfl
theorem xfE(m:M):fX 9 m=m.step.step.step.step.step.step.step.step.step:=rfl
noncomputable def c1:Array Nat:=#[14,4,0,1,1,6,1,16,46,1]
noncomputable def c2:Array Nat:=#[14,9,4,1,2,16,10,16,13,0,7,7,16,13,16,10,15,18,5,16,10,15,13,11,16,13,5,5,0,16,10,1,15,2,0,1]
def g5(t:Array Nat)(s:Nat)(c:Bool)(d:kO)(U:Nat):M:={code:=c1,text:=t,lim:=t.size,start:=s,lastStart:=t.size,pc:=5,pos:=s,handed:=U,outermost:=c,marks:=#[],frames:=[{wait:=.nextStart,pc:=5,pos:=s,outermost:=c}],weight:=1,seen:=d}
theorem yC(t:Array Nat)(s:Nat)(c:Bool)(d:kO)(U:Nat):(g5 t s c d U).step=if s==0||t.getD (s-1) 0==10then{g5 t s c ((d.add 6).add 44) U with pc:=7}else{g5 t s c ((d.add 6).add 44) U with answer:=aa av}:=rfl
theorem ZM(t:Array Nat)(s:Nat)(c:Bool)(d:Sre.Seen)(U:Nat)(h:s<t.size)(Z:t.getD s 0=46):({g5 t s c d U with pc:=7}:M).step={g5 t s c (d.add 16) U with pc:=9,pos:=s+1}:=by
 have e:Sre.accepts c1 7 (t.getD s 0) (d.add 16)=.ok (af,d.add 16):=by refine O Z ?_;rfl
 show(if s>=t.size then _ else match Sre.accepts c1 7 (t.getD s 0) (d.add 16)with|.error i=>_|.ok (av,d)=>_|.ok (af,d)=>_)=_;refine O (if_neg (z8 h)) (O e ?_);rfl
theorem N6(t:Array Nat)(s:Nat)(c:Bool)(d:Sre.Seen)(U:Nat)(Z:s<t.size->t.getD s 0≠46):({g5 t s c d U with pc:=7}:M).step={g5 t s c (d.add 16) U with pc:=7,answer:=aa av}:=by
 by_cases h:s<t.size
 .have e:Sre.accepts c1 7 (t.getD s 0) (d.add 16)=.ok (av,d.add 16):=by show Except.ok (t.getD s 0==46,_)=_;exact O (beq_false_of_ne (Z h)) rfl
  show(if s>=t.size then _ else match Sre.accepts c1 7 (t.getD s 0) (d.add 16)with|.error i=>_|.ok (av,d)=>_|.ok (af,d)=>_)=_;refine O (if_neg (z8 h)) (O e ?_);rfl
 .show(if s>=t.size then _ else _)=_;refine O (if_pos (qB h)) ?_;rfl
theorem ZN(t:Array Nat)(s:Nat)(c:Bool)(d:kO)(U:Nat):∃m,fX 3 ({g5 t s c d U with pc:=9,pos:=s+1}:M)=m/\m.outcome=aa .matched/\m.start=s/\m.handed=s+1:=by refine⟨_,rfl,?_,?_,?_⟩<;>cases c<;>rfl
theorem N7(t:Array Nat)(s:Nat)(c:Bool)(d:kO)(U x:Nat)(h:s<t.size):({g5 t s c d U with pc:=x,answer:=aa av}:M).step=g5 t (s+1) av d (s+1):=by show(if s<t.size then _ else _)=_;refine O (if_pos h) ?_;rfl
theorem Ll(t:Array Nat)(s:Nat)(c:Bool)(d:kO)(U x:Nat)(h:¬s<t.size):∃m,fX 2 ({g5 t s c d U with pc:=x,answer:=aa av}:M)=m/\m.outcome=aa .failed:=by
 have e:({g5 t s c d U with pc:=x,answer:=aa av}:M).step=({g5 t s c d U with frames:=[],weight:=0,answer:=aa av}:M):=by show(if s<t.size then _ else _)=_;refine O (if_neg h) ?_;rfl
 refine⟨_,rfl,?_⟩;rw[fX,e];rfl
def sW(t:Array Nat)(s:Nat):Bool:=(s==0||t.getD (s-1) 0==10)&&t.getD s 0==46
section
variable{P:Nat->Bool}{en:Nat->Nat}{n s:Nat}
def xh(P:Nat->Bool)(en:Nat->Nat)(n:Nat):Nat->Option (Nat×Nat):=n.rec (λ_=>ak) λ_ i s=>if P s=af then aa (s,en s)else i (s+1)
theorem D9(h:P s=af):xh P en (n+1) s=aa (s,en s):=if_pos h
theorem AG(h:P s=av):xh P en (n+1) s=xh P en n (s+1):=if_neg (h▸qw)
theorem Lm(H:∀s,s<z->P s=true->s<en s/\en s<=z):∀s,n+s=z->xh P en n s=aa (b,e)->s<=b/\b<e/\e<=z:=by induction n with|zero=>exact λs h q=>nomatch(q:ak=aa (b,e))|succ n G=>intro s h q;cases c:P s with|true=>have q:=Mg (nU ((D9 c).symm.trans q));have k:=H s (vf h) c;exact⟨dh q.1,q.1▸q.2▸k.1,q.2▸k.2⟩|false=>have k:=G (s+1) ((rI n s).symm.trans h) ((AG c).symm.trans q);exact⟨nR k.1,k.2⟩
end
abbrev sy(t:Array Nat):=xh (sW t) (·+1)
noncomputable def xbu(m:M)(r:Option (Nat×Nat)):Prop:=match r with|none=>m.outcome=aa .failed|aa (b,e)=>m.outcome=aa .matched/\m.start=b/\m.handed=e
noncomputable def Ends(m:M)(K:Nat)(r:Option (Nat×Nat)):Prop:=∃k,k<=K/\xbu (fX k m) r
theorem Ends.step{m m':M}{K j:Nat}{r:Option (Nat×Nat)}(h:fX j m=m')(e:Ends m' K r):Ends m (j+K) r:=by refine aG e λk N x=>?_;exact⟨j+k,iy N _,by exact O (wJ ..) (O h x)⟩
theorem Ends.mono{m:M}{K L:Nat}{r:Option (Nat×Nat)}(e:Ends m K r)(h:K<=L):Ends m L r:=by refine aG e λk N x=>?_;exact⟨k,aZ N h,x⟩
theorem GI(t:Array Nat):∀(n s:Nat)(c:Bool)(d:kO)(U:Nat),n+s=t.size->Ends (g5 t s c d U) (3*n+6) (sy t n s)
|0,s,c,d,U,h=>by
 have W:¬s<t.size:=rX.mpr (dh ((jn s).symm.trans h).symm);rcases e:s==0||t.getD (s-1) 0==10with _|_;.refine aG (Ll t s c ((d.add 6).add 44) U 5 W) λm C J=>?_;refine(Ends.step (j:=1) (K:=2) (m':={g5 t s c ((d.add 6).add 44) U with pc:=5,answer:=aa av}) ?_ ⟨2,gA _,by exact O C J⟩).mono (gQ _ _);show(g5 t s c d U).step=_;refine O (yC ..) (O e ?_);rfl
 .refine aG (Ll t s c (((d.add 6).add 44).add 16) U 7 W) λm C J=>?_;refine(Ends.step (j:=2) (K:=2) (m':={g5 t s c (((d.add 6).add 44).add 16) U with pc:=7,answer:=aa av}) ?_ ⟨2,gA _,by exact O C J⟩).mono (gQ _ _);show(g5 t s c d U).step.step=_;exact O (yC ..) (O e (N6 t s c _ U λq=>absurd q W))|n+1,s,c,d,U,h=>by
 have W:s<t.size:=vf h;rcases e:s==0||t.getD (s-1) 0==10with _|_;.have x:=GI t n (s+1) av ((d.add 6).add 44) (s+1) (i8 (jR (i8 h) (jL _ _ _)));have a:sy t (n+1) s=sy t n (s+1):=AG (by unfold sW;rw[e];rfl);refine O a ?_;refine(Ends.step (j:=2) ?_ x).mono (jz (jm _ _) (dM _));show(g5 t s c d U).step.step=_;exact O (yC ..) (O e (N7 t s c _ U 5 W))
 .by_cases b:t.getD s 0=46;.refine fU (ZN t s c (((d.add 6).add 44).add 16) U) λm C J R Y=>?_;have a:sy t (n+1) s=aa (s,s+1):=D9 (by unfold sW;rw[e,b];rfl);refine O a ?_;refine(Ends.step (j:=2) (K:=3) ?_ ⟨3,gA _,by exact O C ⟨J,R,Y⟩⟩).mono (gQ _ _);show(g5 t s c d U).step.step=_;exact O (yC ..) (O e (ZM t s c _ U W b))
  .have x:=GI t n (s+1) av (((d.add 6).add 44).add 16) (s+1) (i8 (jR (i8 h) (jL _ _ _)));have a:sy t (n+1) s=sy t n (s+1):=AG (by unfold sW;rw[beq_false_of_ne b,K7]);refine O a ?_;refine(Ends.step (j:=3) ?_ x).mono (dh (jm _ _));show(g5 t s c d U).step.step.step=_;refine O (yC ..) (O e ?_);have:=N6 t s c ((d.add 6).add 44) U λ_=>b;show({g5 t s c ((d.add 6).add 44) U with pc:=7}:M).step.step=_;exact O this (N7 t s c _ U 7 W)
theorem ZO(t:Array Nat)(s:Nat)(h:s<=t.size):Ends (rR c1 t 0 s t.size av) (3*(t.size-s)+6) (sy t (t.size-s) s):=by
 by_cases e:s<t.size
 .have x:=GI t (t.size-s) s af (({}:kO).add 14) s (qy (eB e));have:rR c1 t 0 s t.size av=g5 t s af (({}:kO).add 14) s:=by show(if(decide (s>t.size)||decide (t.size-s<1))=af then _ else _)=_;refine O (if_neg (by simp;exact iT (eB e) (Jw e))) ?_;rfl
  exact O this x
 .have e:t.size-s=0:=zT (qB e);refine O e ?_;refine⟨1,gQ _ _,?_⟩;obtain⟨m,Q,g⟩:∃m,rR c1 t 0 s t.size av=m/\m.step.outcome=aa .failed:=by refine⟨_,if_pos (by show(decide (s>t.size)||decide (t.size-s<1))=af;simp;exact Or.inr e),rfl⟩
  exact O Q g
def st2(t:Array Nat)(s x R U:Nat)(K:List OL)(b:Nat)(a:Bool)(c:Option Bool)(d:kO):M:={code:=c2,text:=t,lim:=t.size,start:=s,lastStart:=t.size,pc:=x,pos:=R,handed:=U,outermost:=a,marks:=#[],frames:=K,weight:=b,answer:=c,seen:=d}
noncomputable abbrev lF(s b:Nat)(a:Bool):List OL:=[{wait:=.nextBranch,pc:=b,pos:=s,outermost:=a},{wait:=.nextStart,pc:=10,pos:=s,outermost:=a}]
noncomputable def lW(x f c:Nat):Prop:=∀t s a U d e b tK,(st2 t s x a U e d b ak tK).step=if t.size<=a then st2 t s x a U e d b (aa av) (tK.add 16)else bif t.getD a 0==c then st2 t s f (a+1) U e d b ak (tK.add 16)else st2 t s x a U e d b (aa av) (tK.add 16)
section
variable{x f c s R U b:Nat}{t:Array Nat}{K:List OL}{a:Bool}{d:kO}
theorem lW.yes(l:lW x f c)(h:R<t.size)(Z:t.getD R 0=c):(st2 t s x R U K b a ak d).step=st2 t s f (R+1) U K b a ak (d.add 16):=(l ..).trans (O (if_neg (z8 h)) (O Z (O (beq_self_eq_true c) rfl)))
theorem lW.no(l:lW x f c)(Z:R<t.size->t.getD R 0≠c):(st2 t s x R U K b a ak d).step=st2 t s x R U K b a (aa av) (d.add 16):=(l ..).trans (ite_eq_left_iff.mpr λh=>O (beq_false_of_ne (Z (xaK h))) rfl)
end
theorem IA:lW 12 14 13:=by unfold lW;intros;kernel_rfl
theorem Sb:lW 14 16 10:=by unfold lW;intros;kernel_rfl
theorem Sd:lW 19 21 10:=by unfold lW;intros;kernel_rfl
theorem l24:lW 24 26 13:=by unfold lW;intros;kernel_rfl
theorem iJ:lW 29 31 10:=by unfold lW;intros;kernel_rfl
noncomputable def qt(c:Nat):Bool:=c==10||c==13
theorem xfF(c:Nat)(d:kO):∃a,Sre.inSet c2 c c2.size 5 af d=.ok (qt c,a):=by
 by_cases h:c=10;.subst h;exact⟨_,rfl⟩
 .by_cases h':c=13;.subst h';exact⟨_,rfl⟩
  .refine⟨((d.add 16).add 16).add 0,?_⟩;show(if(c==10)=af then _ else if(c==13)=af then _ else _)=_;rw[qt,beq_false_of_ne h,beq_false_of_ne h'];rfl
def endAt(t:Array Nat)(s:Nat):Nat:=if t.getD s 0==13&&decide (s+1<t.size)&&t.getD (s+1) 0==10 then s+2 else s+1
def xfG(t:Array Nat)(s:Nat):Bool:=qt (t.getD s 0)
abbrev sA(t:Array Nat):=xh (xfG t) (endAt t)
theorem GJ(t:Array Nat)(s p U b:Nat)(c:Bool)(d:kO):Ends (st2 t s 35 p U (lF s b c) 2 c ak d) 4 (aa (s,p)):=by
 have H:(st2 t s 35 p U (lF s b c) 2 c ak d).step=st2 t s 35 p p (lF s b c) 2 c (aa af) (d.add 1):=by cases c<;>rfl
 have L:(st2 t s 35 p p (lF s b c) 2 c (aa af) (d.add 1)).step=st2 t s b s p [{wait:=.nextStart,pc:=10,pos:=s,outermost:=c}] 1 c (aa af) (d.add 1):=rfl;have g:(st2 t s b s p [{wait:=.nextStart,pc:=10,pos:=s,outermost:=c}] 1 c (aa af) (d.add 1)).step=st2 t s 10 s p [] 0 c (aa af) (d.add 1):=rfl;refine⟨4,gA _,?_⟩;exact O (Qp ..) (O H (O L (O g ⟨rfl,rfl,rfl⟩)))
theorem xfH(t:Array Nat)(s:Nat)(c:Bool)(d:kO)(h:s<t.size)(Z:qt (t.getD s 0)=af):Ends (st2 t s 10 s s [{wait:=.nextStart,pc:=10,pos:=s,outermost:=c}] 1 c ak d) 20 (aa (s,endAt t s)):=by
 have j:(st2 t s 10 s s [{wait:=.nextStart,pc:=10,pos:=s,outermost:=c}] 1 c ak d).step=st2 t s 12 s s (lF s 11 c) 2 c ak (d.add 7):=rfl;by_cases f:t.getD s 0=13
 .by_cases g:s+1<t.size/\t.getD (s+1) 0=10
  .have e:endAt t s=s+2:=by rw[endAt,f,g.2,decide_eq_true g.1];rfl
   rw[e];refine(Ends.step (j:=3) (K:=5) (m':=st2 t s 16 (s+2) s (lF s 11 c) 2 c ak (((d.add 7).add 16).add 16)) ?_ (Ends.step (j:=1) (K:=4) (by rfl) (GJ t s (s+2) s 11 c _))).mono (gQ _ _);.rw[xfD,j,IA.yes h f,Sb.yes g.1 g.2]
  .have e:endAt t s=s+1:=by rw[endAt,if_neg];simp only[dZ,decide_eq_true_eq,beq_iff_eq];exact λx=>g ⟨x.1.2,x.2⟩
   rw[e];have k:s+1<t.size->t.getD (s+1) 0≠10:=λa b=>g ⟨a,b⟩;have n:(st2 t s 14 (s+1) s (lF s 11 c) 2 c (aa av) (((d.add 7).add 16).add 16)).step=st2 t s 19 s s (lF s 18 c) 2 c ak (((d.add 7).add 16).add 16):=rfl;have q:(st2 t s 19 s s (lF s 18 c) 2 c (aa av) ((((d.add 7).add 16).add 16).add 16)).step=st2 t s 24 s s (lF s 23 c) 2 c ak ((((d.add 7).add 16).add 16).add 16):=rfl;have A:(st2 t s 26 (s+1) s (lF s 23 c) 2 c ak (((((d.add 7).add 16).add 16).add 16).add 16)).step=st2 t s 29 (s+1) (s+1) [{wait:=.lookNot,pc:=26,pos:=s+1,outermost:=c},{wait:=.nextBranch,pc:=23,pos:=s,outermost:=c},{wait:=.nextStart,pc:=10,pos:=s,outermost:=c}] 3 av ak ((((((d.add 7).add 16).add 16).add 16).add 16).add 5):=rfl;refine(Ends.step (j:=9) (K:=6) (m':=st2 t s 29 (s+1) (s+1) [{wait:=.lookNot,pc:=26,pos:=s+1,outermost:=c},{wait:=.nextBranch,pc:=23,pos:=s,outermost:=c},{wait:=.nextStart,pc:=10,pos:=s,outermost:=c}] 3 av (aa av) (((((((d.add 7).add 16).add 16).add 16).add 16).add 5).add 16)) ?_ (Ends.step (j:=1) (K:=5) (m':=st2 t s 32 (s+1) (s+1) (lF s 23 c) 2 c ak _) (by rfl) (Ends.step (j:=1) (K:=4) (by rfl) (GJ t s (s+1) (s+1) 23 c _)))).mono (gQ _ _);.rw[xfE,j,IA.yes h f,Sb.no k,n,Sd.no λ_=>gb (vf (i8 f)),q,l24.yes h f,A,iJ.no k]
 .have i:t.getD s 0=10:=by simp only[qt,yi,beq_iff_eq]at Z;exact Z.resolve_right f
  have e:endAt t s=s+1:=by rw[endAt,if_neg];simp only[dZ,decide_eq_true_eq,beq_iff_eq];exact λx=>f x.1.1
  rw[e];have n:(st2 t s 12 s s (lF s 11 c) 2 c (aa av) ((d.add 7).add 16)).step=st2 t s 19 s s (lF s 18 c) 2 c ak ((d.add 7).add 16):=rfl;refine(Ends.step (j:=4) (K:=5) (m':=st2 t s 21 (s+1) s (lF s 18 c) 2 c ak (((d.add 7).add 16).add 16)) ?_ (Ends.step (j:=1) (K:=4) (by rfl) (GJ t s (s+1) s 18 c _))).mono (gQ _ _);.rw[Qp,j,IA.no λ_=>f,n,Sd.yes h i]
theorem Qq{m:M}{t:Array Nat}(Z:m.code=c2)(c:m.text=t)(V:m.lim=t.size):∀(n s:Nat)(d:kO),n+s=t.size->∃a,M.admitted m (n+1) s d=.ok ((sA t n s).map (·.1),a)/\∀b e,sA t n s=aa (b,e)->b<t.size/\qt (t.getD b 0)=true/\e=endAt t b|0,s,d,h=>⟨d,by rw[M.admitted,if_pos (dh (V.trans ((jn s).symm.trans h).symm))];rfl,λb e q=>by cases q⟩|n+1,s,d,h=>by refine aC (xfF (t.getD s 0) d) λa e=>?_;rw[M.admitted,if_neg (z8 (jq V (vf h))),Z,c,e];cases q:qt (t.getD s 0)with|true=>have I:sA t (n+1) s=aa (s,endAt t s):=D9 q;refine⟨a,by rw[I];rfl,λb e x=>?_⟩;have x:=Mg (nU (I.symm.trans x));exact⟨x.1▸vf h,x.1▸q,x.1▸x.2.symm⟩|false=>refine aG (Qq Z c V n (s+1) a (i8 (jR (i8 h) (jL _ _ _)))) λs2 L g=>?_;have I:sA t (n+1) s=sA t n (s+1):=AG q;rw[I];exact⟨s2,L,g⟩
theorem ZP(t:Array Nat)(s:Nat)(h:s<=t.size):Ends (rR c2 t 0 s t.size av) 20 (sA t (t.size-s) s):=by
 by_cases e:s<t.size
 .obtain⟨m,Q,Z,j,V,W⟩:∃m:M,rR c2 t 0 s t.size av=(match M.admitted m (t.size+1-s) s (({}:kO).add 14)with|.ok (some b,tK)=>st2 t b 10 b b [{wait:=.nextStart,pc:=10,pos:=b,outermost:=af}] 1 af none tK|.ok (none,tK)=>{m with seen:=tK}.say av|.error i=>m.stick i)/\m.code=c2/\m.text=t/\m.lim=t.size/\m.frames=[]/\m.outcome=none:=by refine⟨_,if_neg (by show¬(decide (s>t.size)||decide (t.size-s<1))=af;simp;exact iT (eB e) (Jw e)),rfl,rfl,rfl,rfl,rfl⟩
  refine aG (Qq Z j V (t.size-s) s (({}:kO).add 14) (qy h)) λa H L=>?_;refine O Q (O (Nat.succ_sub h) (O H ?_));cases q:sA t (t.size-s) s with|none=>refine⟨1,gQ _ _,?_⟩;show(M.step _).outcome=some .failed;unfold M.step;show(if m.outcome.isSome=af then _ else _:M).outcome=_;refine O W.2 ?_;show(match(some av:Option Bool),m.frames with|some d,[]=>_|some d,f::u=>_|none,_=>_:M).outcome=_;refine O W.1 ?_;rfl|some p=>obtain⟨b,c⟩:=p;refine gW (L b c q) λC J R=>?_;rw[R];exact xfH t b af a C J
 .have e:t.size-s=0:=zT (qB e);refine O e ?_;refine⟨1,gQ _ _,?_⟩;obtain⟨m,Q,g⟩:∃m,rR c2 t 0 s t.size av=m/\m.step.outcome=some .failed:=by refine⟨_,if_pos (by show(decide (s>t.size)||decide (t.size-s<1))=af;simp;exact Or.inr e),rfl⟩
  exact O Q g
end
noncomputable abbrev PL:ah:=238
abbrev h1:aA:=MineH.H1 w.params
def hH:aA:=kW h1 [PL]
theorem ku(e:h1.get? a=aa o)(n:autoParam (a∉[PL]) yAD):hH.get? a=aa o:=rW _ e n
noncomputable def fdOf(o:bR):eU:=match o.data with|.func f=>f|_=>default
noncomputable def qh(o:bR):Array aj:=match o.data with|.fields f=>f|_=>#[]
def Qs(o:bR):Nat:=match((qh o)[1]?:Option aj)with|aa (.str _ t)=>t|_=>0
def Qt(M:cZ)(ps:List ai):Bool:=ps.all (λx=>match(d9 M).names.lookup x with|aa .local=>af|aa .cell=>af|_=>av)&&i9 ps&&i9 ((d9 M).names.map (·.1))&&(d9 M).kind==.function&&!(d9 M).isCoroutine&&!(d9 M).isGenerator
theorem Se:hH.NoLimit:=⟨_,.of_isNs (by kernel_rfl),by kernel_rfl⟩
def Sf(a c:ah)(M:cZ)(ps:List ai)(o r:bR):=(h1.get? a,h1.get? c,o.data,r.data,(qh r)[1]?,Qt M ps,QW a 238,QW c 238)
def Sg(c:ah)(M:cZ)(o r:bR):=(aa o,aa r,Data.func (qq M (fdOf o).name (fdOf o).qualname (fdOf o).pyModule (.ref c)),Data.fields (qh r),aa (Fq (fdOf o).qualname (Qs r)),af,av,av)
def qT(M:cZ)(n q:ai)(D i:aj):=((qq M n q D i).qualname,(qq M n q D i).code,(qq M n q D i).body,(qq M n q D i).closure,(qq M n q D i).scope)
def qU(M:cZ)(n q:ai)(D i:aj):=(q,i,FuncBody.stmts (bodyOf M),([]:List (ai×ah)),d9 M)
abbrev bT(M:cZ)(n q:ai)(D i:aj)(l:List aj):=G6 (qq M n q D i) ⟨l,[]⟩
noncomputable abbrev bU(ps:List ai)(l:List aj):bg (List (ai×aj)):=pure (ps.zip l)
noncomputable abbrev wZ(M:cZ)(ps:List ai):Prop:=∀n q D code J,J.length=ps.length->bT M n q D code J=bU ps J
theorem zf{l:List aj}(h:l.length=0):l=[]:=List.length_eq_zero_iff.mp h
section
variable{M:cZ}{x y z u:ai}
theorem b0(h:autoParam ((λn q D i=>bT M n q D i [])=λ_ _ _ _=>bU [] []) yAK):wZ M []:=λn q D i J e=>by exact O (zf e) (congrFun (congrFun (congrFun (congrFun h n) q) D) i)
theorem b1(h:autoParam ((λn q D i a=>bT M n q D i [a])=λ_ _ _ _ a=>bU [x] [a]) yAK):wZ M [x]:=λn q D i J e=>by refine eK (jY e) λa _ k H=>?_;subst k;exact O (zf H) (congrFun (congrFun (congrFun (congrFun (congrFun h n) q) D) i) a)
theorem b2(h:autoParam ((λn q D i a b=>bT M n q D i [a,b])=λ_ _ _ _ a b=>bU [x,y] [a,b]) yAK):wZ M [x,y]:=λn q D i J e=>by refine eK (jY e) λa _ k H=>?_;subst k;refine eK (jY H) λb _ k L=>?_;subst k;exact O (zf L) (congrFun (congrFun (congrFun (congrFun (congrFun (congrFun h n) q) D) i) a) b)
theorem b3(h:autoParam ((λn q D i a b c=>bT M n q D i [a,b,c])=λ_ _ _ _ a b c=>bU [x,y,z] [a,b,c]) yAK):wZ M [x,y,z]:=λn q D i J e=>by refine eK (jY e) λa _ k H=>?_;subst k;refine eK (jY H) λb _ k L=>?_;subst k;refine eK (jY L) λc _ k g=>?_;subst k;exact O (zf g) (congrFun (congrFun (congrFun (congrFun (congrFun (congrFun (congrFun h n) q) D) i) a) b) c)
theorem b4(h:autoParam ((λn q D i a b c d=>bT M n q D i [a,b,c,d])=λ_ _ _ _ a b c d=>bU [x,y,z,u] [a,b,c,d]) yAK):wZ M [x,y,z,u]:=λn q D i J e=>by refine eK (jY e) λa _ k H=>?_;subst k;refine eK (jY H) λb _ k L=>?_;subst k;refine eK (jY L) λc _ k g=>?_;subst k;refine eK (jY g) λd _ k l=>?_;subst k;exact O (zf l) (congrFun (congrFun (congrFun (congrFun (congrFun (congrFun (congrFun (congrFun h n) q) D) i) a) b) c) d)
end
theorem Pj(h:QW a 238=av):a∉[PL]:=λm=>Nat.ne_of_beq_eq_false h (aW.mp m)
def jl(M:cZ)(o:bR)(c:ah):eU:=qq M (fdOf o).name (fdOf o).qualname (fdOf o).pyModule (.ref c)
theorem jE{a c:ah}{M:cZ}{ps:List ai}(o r:bR)(R:wZ M ps)(h:autoParam (Sf a c M ps o r=Sg c M o r) yAK)(B:autoParam (qT M=qU M) yAK):FnAt hH a (jl M o c) (bodyOf M) ps:=by
 unfold jl;unfold Sf Sg at h;simp only[Zc]at h;refine Vi h λe X d l K D j f=>?_;have B:=congrFun (congrFun (congrFun (congrFun B (fdOf o).name) (fdOf o).qualname) (fdOf o).pyModule) (.ref c);unfold qT qU at B;simp only[Zc]at B;refine qM B λI N p g t=>?_;simp only[Qt,dZ,tQ,beq_iff_eq]at D;refine aV D λk b=>?_;refine aV k λn Z=>?_;obtain⟨⟨⟨c1,c2⟩,i⟩,u⟩:=n;refine⟨⟨o,ku e (Pj j),d⟩,⟨c,r,qh r,Qs r,N,ku X (Pj f),l,by exact O I K⟩,Se,p,g,R _ _ _ _,λx m=>?_,c2,by exact O t i,by exact O t u,by exact O t Z,by exact O t b⟩;have:=cg.mp c1 x m;refine O t ?_;split at this;.rename_i e;exact .inl e
 .rename_i e;exact .inr e
 .cases this
def lO(p:dw)(i j:Nat):cZ:=sS (bodyOf (aO p i)) j
abbrev fn3:eU:=jl (aO PW 3) (MineH.GA PW) 65
abbrev zE:eU:=jl (aO PW 4) (MineH.GC PW) 72
abbrev fn5:eU:=jl (aO PW 5) (MineH.GD PW) 79
abbrev xfI:eU:=jl (aO PW 14) (MineH.Fy PW) 166
abbrev xfJ:eU:=jl (aO PW 17) (MineH.Fz PW) 184
abbrev xfK:eU:=jl (aO PW 19) (MineH.FA PW) 230
abbrev xfL:eU:=jl (aO PW 21) (MineH.FD PW) 235
abbrev Ca:eU:=jl (aO PW 23) (MineH.FE PW) 245
abbrev qi:eU:=jl (aO PW 24) (MineH.FF PW) 250
abbrev Qu:eU:=jl (aO PW 25) (MineH.FG PW) 255
abbrev Cb:eU:=jl (aO PW 26) (MineH.FH PW) 260
abbrev Cc:eU:=jl (aO PW 27) (MineH.FI PW) 265
abbrev xds:eU:=jl (lO PW 12 0) (MineH.Bb PW) 135
abbrev xdt:eU:=jl (lO PW 13 0) (MineH.Bc PW) 154
abbrev xfM:eU:=jl (lO PW 2 0) (MineH.zc PW) 44
abbrev xfN:eU:=jl (lO PW 2 1) (MineH.uI PW) 51
abbrev HB:eU:=jl (aO PW 22) (MineH.Be PW) 240
theorem GK:FnAt hH 66 fn3 (bodyOf (aO PW 3)) ["target","source"]:=jE (MineH.GA PW) MineH.OT b2
theorem GL:FnAt hH 73 zE (bodyOf (aO PW 4)) ["target","source"]:=jE (MineH.GC PW) MineH.OU b2
theorem GN:FnAt hH 80 fn5 (bodyOf (aO PW 5)) ["callers"]:=jE (MineH.GD PW) MineH.OV b1
theorem N8:FnAt hH 167 xfI (bodyOf (aO PW 14)) ["data"]:=jE (MineH.Fy PW) MineH.NJ b1
theorem N9:FnAt hH 185 xfJ (bodyOf (aO PW 17)) ["code"]:=jE (MineH.Fz PW) MineH.NK b1
theorem Oa:FnAt hH 231 xfK (bodyOf (aO PW 19)) ["code"]:=jE (MineH.FA PW) MineH.NL b1
theorem Ob:FnAt hH 236 xfL (bodyOf (aO PW 21)) ["mail"]:=jE (MineH.FD PW) MineH.NN b1
theorem Oc:FnAt hH 246 Ca (bodyOf (aO PW 23)) ["wishes","typed","names","turn"]:=jE (MineH.FE PW) MineH.NO b4
theorem Od:FnAt hH 251 qi (bodyOf (aO PW 24)) ["wishes"]:=jE (MineH.FF PW) MineH.NP b1
theorem Oe:FnAt hH 256 Qu (bodyOf (aO PW 25)) []:=jE (MineH.FG PW) MineH.NQ b0
theorem Of:FnAt hH 261 Cb (bodyOf (aO PW 26)) ["rank","cycles"]:=jE (MineH.FH PW) MineH.NR b2
theorem xbv:FnAt hH 266 Cc (bodyOf (aO PW 27)) ["script"]:=jE (MineH.FI PW) MineH.NS b1
theorem ZQ:FnAt hH 136 xds (bodyOf (lO PW 12 0)) ["self","code","msg","sender"]:=jE (MineH.Bb PW) MineH.NH b4
theorem ZR:FnAt hH 155 xdt (bodyOf (lO PW 13 0)) ["self","recipients"]:=jE (MineH.Bc PW) MineH.NI b2
theorem xbw:FnAt hH 45 xfM (bodyOf (lO PW 2 0)) ["self","comp_select_list"]:=jE (MineH.zc PW) MineH.OR b2
theorem xbx:FnAt hH 52 xfN (bodyOf (lO PW 2 1)) ["self","left","right"]:=jE (MineH.uI PW) MineH.OS b3
theorem Og:FnAt hH 241 HB (bodyOf (aO PW 22)) ["value","who","names"]:=jE (MineH.Be PW) MineH.wW b3
noncomputable def gq(x:ai)(v:aj):ai×T:=(x,.aI v)
def tD(s:String):=gq s (.builtin s)
def xT(s:String):=gq s (.type s)
def iN(s:String)(n:Nat):=gq s (.ref n)
def xfO:List (ai×T):=[tD "isinstance",xT "tuple",xT "range",xT "list",xT "int",tD "len"]
def xfP:List (ai×T):=[tD "min",tD "sum",tD "chr",tD "ord",tD "abs",tD "sorted"]
def xfQ:List (ai×T):=[xT "enumerate",xT "zip",iN "TupleComp" 55,iN "add_func_stats" 66,iN "add_callers" 73,iN "count_calls" 80]
def xfR:List (ai×T):=[iN "_twin_re_1" 85,iN "_twin_re_2" 90,iN "SMTPException" 100,iN "SMTPResponseException" 120,iN "SMTPSenderRefused" 139,iN "SMTPRecipientsRefused" 158]
def xfS:List (ai×T):=[iN "quotedata" 167,iN "b1_set" 175,iN "in_table_b1" 185,iN "b3_exceptions" 186,iN "map_table_b3" 231,iN "_law_name" 236]
def xfT:List (ai×T):=[iN "_law_wishes" 241,iN "_law_run" 246,iN "_law_rounds" 251,iN "_law_cycles" 256,iN "_law_firm" 261]
def Sh:List (ai×T):=("CRLF",.str "\r\n")::(xfO++xfP++xfQ++xfR++xfS++xfT)
noncomputable def G0:Gm:=λx=>Sh.lookup x
noncomputable abbrev GB(s:String):Prop:=G0 s=aa (.aI (.builtin s))
noncomputable abbrev GT(s:String):Prop:=G0 s=aa (.aI (.type s))
noncomputable abbrev GR(s:String)(n:Nat):Prop:=G0 s=aa (.aI (.ref n))
noncomputable def Si(h:aA)(p:ai×T):Bool:=match p.2 with
|.aI v=>decide (h.nsMap 3 p.1=aa v)||(h.nsMap 3 p.1).isNone&&decide (h.nsMap 0 p.1=aa v)|.str y=>match h.nsMap 3 p.1 with|aa (Fq z _)=>z==y|_=>av
|_=>av
theorem JY:∀{l:List (ai×T)},l.lookup x=aa t->(x,t)∈l
|[],h=>by cases h|(y,u)::r,h=>by
 rw[Dz]at h;split at h;.rename_i q;cases h;exact O (beq_iff_eq.mp q) (.head _)
 .exact .tail _ (JY h)
theorem Cu:hH.isNs 3=af:=by kernel_rfl
theorem Sj:hH.isNs 0=af:=by kernel_rfl
theorem xfU:Sh.all (Si hH)=af:=by kernel_rfl
theorem rE:GX hH 3 0 G0:=by refine ow (J6 Cu) λE _ _ g _=>?_;refine ow (J6 Sj) λd _ _ B _=>?_;refine⟨⟨E,g⟩,⟨d,B⟩,λx t e=>?_⟩;have c:=cg.mp xfU _ (JY e);unfold Si at c;cases t with
|aI v=>simp only[yi,dZ,decide_eq_true_eq,Uc]at c;exact⟨v,λ_ _=>.ie _,_,.of_isNs Cu,c.imp id λ⟨c1,c2⟩=>⟨c1,_,.of_isNs Sj,c2⟩⟩|str y=>
 dsimp only at c;split at c;.rename_i z u q;replace c:=beq_iff_eq.mp c;subst c;exact⟨_,λ_ _=>⟨_,rfl⟩,_,.of_isNs Cu,.inl q⟩
 .cases c|_=>cases c
theorem Dt:GB "isinstance":=by kernel_rfl
theorem ZS:GT "tuple":=by kernel_rfl
theorem i7:GT "range":=by kernel_rfl
theorem Oh:GT "list":=by kernel_rfl
theorem xhv:GT "int":=by kernel_rfl
theorem GO:GB "len":=by kernel_rfl
theorem xhw:GB "min":=by kernel_rfl
theorem xhx:GB "sum":=by kernel_rfl
theorem xhy:GB "chr":=by kernel_rfl
theorem Pk:GB "ord":=by kernel_rfl
theorem xdu:GB "abs":=by kernel_rfl
theorem Ln:GB "sorted":=by kernel_rfl
theorem Aj:GT "enumerate":=by kernel_rfl
theorem xdv:GT "zip":=by kernel_rfl
theorem UP:GR "TupleComp" 55:=by kernel_rfl
theorem S7:GR "add_func_stats" 66:=by kernel_rfl
theorem TX:GR "add_callers" 73:=by kernel_rfl
theorem xgV:GR "count_calls" 80:=by kernel_rfl
theorem UQ:GR "_twin_re_1" 85:=by kernel_rfl
theorem UR:GR "_twin_re_2" 90:=by kernel_rfl
theorem Ti:GR "SMTPException" 100:=by kernel_rfl
theorem SW:GR "SMTPResponseException" 120:=by kernel_rfl
theorem CR:GR "SMTPSenderRefused" 139:=by kernel_rfl
theorem I1:GR "SMTPRecipientsRefused" 158:=by kernel_rfl
theorem US:GR "quotedata" 167:=by kernel_rfl
theorem XG:GR "b1_set" 175:=by kernel_rfl
theorem TY:GR "in_table_b1" 185:=by kernel_rfl
theorem Tj:GR "b3_exceptions" 186:=by kernel_rfl
theorem Tv:GR "map_table_b3" 231:=by kernel_rfl
theorem Vz:GR "_law_name" 236:=by kernel_rfl
theorem xgW:GR "_law_wishes" 241:=by kernel_rfl
theorem xha:GR "_law_run" 246:=by kernel_rfl
theorem xgX:GR "_law_rounds" 251:=by kernel_rfl
theorem xgY:GR "_law_cycles" 256:=by kernel_rfl
theorem xgZ:GR "_law_firm" 261:=by kernel_rfl
theorem xby:G0 "CRLF"=aa (.str "\r\n"):=by kernel_rfl
structure Top(X:List ah)(h:aA):Prop where
K:Kp hH h
live:bJ X h
n3:3∉X
n0:0∉X
theorem Top.kp(t:Top X h)(k:Kp h h'):Top X h':=⟨t.K.trans k,t.live.kp k,t.n3,t.n0⟩
theorem Top.nil(k:Kp hH h):Top [] h:=⟨k,λ_ m=>absurd m b9,b9,b9⟩
theorem FT:∃o,hH.get? eo=aa o:=⟨_,ku (show h1.get? 1=aa (MineH.BZ w.params)by kernel_rfl)⟩
theorem xj{h:aA}(K:Kp hH h):∃o,h.get? eo=aa o:=FT.imp λ_ e=>K _ _ e
theorem Top.sm{h:aA}(t:Top X h):∃o,h.get? eo=aa o:=FT.imp λ_ e=>t.K _ _ e
theorem CA.top{A:aF}{X:List ah}{B:aA}{a:ah}{fd:eU}{body:List cZ}{M:List ai}{F:List T}{r:T}{n:Nat}(j:FnAt hH a fd body M)(t:Top X B)(u:cF A (n+1))(H:fd.globals=3)(R:fd.builtins=0)(V:M.length=F.length)(h:∀(s U:aq)(E:aj->aq->Prop)(Z:List ah)(L:ah),FS X s U U Z (cu fd L a) (bQ (eX fd.scope G0) M F) []->Kp B s.heap->cF (A.deeper (cu fd L a)) n->(∀x,fd.scope.names.lookup x=aa .local\/fd.scope.names.lookup x=aa .cell->((cu fd L a).kindOf x=aa .local\/(cu fd L a).kindOf x=aa .cell)/\dg (cu fd L a) x∈aK (cu fd L a))->au (az PW w) (A.deeper (cu fd L a)) (b8 body (cu fd L a)) (λf S=>Ks s S/\Rep X S.heap r (match f with|.ret v=>v|_=>.none)) E U):CA A X B (.ref a) F r:=CA.body (j.kp t.K) (by exact O H (O R (rE.kp t.K))) u t.live (by exact O H t.n3) (by exact O R t.n0) V h
noncomputable abbrev Tab:=List (ai×Int)
noncomputable def eL(d:Tab):List (ai×T):=d.map λp=>(p.1,.int p.2)
def dc(d:Tab):T:=DS (eL d)
noncomputable def ir(d:Tab)(k:ai)(v:Int):Tab:=if d.any λp=>p.1=k then d.map λp=>if p.1=k then(p.1,v)else p else d++[(k,v)]
noncomputable def sX(d:Tab)(k:ai):Option Int:=(d.find? λp=>p.1=k).map (·.2)
theorem Ex:getD (eL d) k=(sX d k).map .int:=by unfold getD sX eL;induction d with|nil=>rfl|cons p d G=>
by_cases h:p.1=k;.simp[h]
.simp[h];simpa using G
theorem DL:fJ (eL d) k (.int v)=eL (ir d k v):=by
 unfold fJ ir eL;have:((d.map λp=>(p.1,T.int p.2)).any λp=>decide (p.1=k))=d.any λp=>decide (p.1=k):=by refine O Mq ?_;rfl
 refine O this ?_;split;.refine O bO (O bO ?_);refine jK λp _=>?_;by_cases h:p.1=k<;>simp[h]
 .refine O fY ?_;rfl
def jU(d:Tab)(p:ai×Int):Tab:=ir d p.1 ((sX d p.1).elim p.2 (·+p.2))
def jH(t s:Tab):Tab:=s.foldl jU (t.foldl (λd p=>ir d p.1 p.2) [])
theorem AH(d:Tab)(k:ai)(v:Int):(ir d k v).length<=d.length+1:=by unfold ir;split<;>simp
theorem yu{L:Type}{f:Tab->L->Tab}(h:∀d a,(f d a).length<=d.length+1)(l:List L):∀d:Tab,(l.foldl f d).length<=d.length+l.length:=by induction l with|nil=>exact λ_=>cQ _|cons a l G=>intro d;have h1:=G (f d a);have J:=h d a;exact O pJ (O fC (aZ h1 (aZ (qv J _) (dh (rI ..)))))
theorem JZ(d:Tab)(p:ai×Int):(jU d p).length<=d.length+1:=AH ..
theorem Kg{d:Tab}:r7 ((eL d).map (·.1)) ((eL d).map (·.2))=d.map λp=>.tup [.str p.1,.int p.2]:=by unfold r7 eL;refine O bO (O bO (O List.zip_map' (O bO ?_)));rfl
theorem Jq{A:aF}{X:List ah}{B:aA}{t u:Tab}{n:Nat}(rm:cF A (n+1))(N:Top X B)(T:t.length<=1000)(W:u.length<=1000):CA A X B (.ref 73) [dc t,dc u] (dc (jH t u)):=by
 refine CA.top GL N rm rfl rfl rfl λs U E Z L f k F C=>?_;have y:=C "new_callers" (.inl (by kernel_rfl));have I:=C "func" (.inl (by kernel_rfl));have H:=C "caller" (.inl (by kernel_rfl));have z:=F.hd;have w:∃o,U.heap.get? eo=some o:=N.sm.imp λo e=>f.ks.kp _ _ (k _ _ e);refine bY (FS.NY f y.1 y.2 (EM.Bg w) λD M f=>⟨rfl,?_⟩);have q:∀x∈(["func","caller"]:List ai),((cu zE L 73).kindOf x=some .local\/(cu zE L 73).kindOf x=some .cell)/\dg (cu zE L 73) x∈aK (cu zE L 73):=dP I (dP H nD);refine bY (FS.for (as:=t) (kf:=λp=>.tup [.str p.1,.int p.2]) (cU:=λ_=>upd (bQ (eX (d9 (aO PW 4)) G0) ["target","source"] [dc t,dc u]) "new_callers" (.aI (.ref D))) (iw:=λ_ p=>bQ (upd (bQ (eX (d9 (aO PW 4)) G0) ["target","source"] [dc t,dc u]) "new_callers" (.aI (.ref D))) ["func","caller"] [.str p.1,.int p.2]) (Mf:=λl=>[(D,dc (l.foldl (λd p=>ir d p.1 p.2) []))]) (λ_=>True) trivial f ?_ (λ_=>rfl) (λl p _=>AS.tup z (ps:=[_,_]) q rfl rfl rfl) (λl p V _ wr j E f K=>?_) λj _ f=>⟨rfl,?_⟩);.exact aQ Kg (IT.N1 z f.cx.live (EV.name f.cx) (by simp[eL]))
 .refine di (FS.N5 (i:=0) f (by rfl) (by rfl) (EV.name f.cx) (EV.name f.cx) ?_ λg f=>⟨trivial,?_⟩);.have h1:=yu (f:=λd(p:ai×Int)=>ir d p.1 p.2) (λd a=>AH ..) l [];have J:l.length<=t.length:=ME V;unfold eL;refine O (aH ..) ?_;exact aZ h1 (aZ (dh (jn _)) (cC (aZ J T)))
  .refine FS.conv (f.less ?_) ?_;.show bq _ _;repeat(first|exact bq.refl _|refine bq.iM ?_ (by rfl)|refine bq.out ?_ (by kernel_rfl))
   .show[(D,DS (fJ (eL _) p.1 (.int p.2)))]=_;refine O DL (O vV ?_);rfl
 refine bY (FS.for (as:=u) (kf:=λp=>.tup [.str p.1,.int p.2]) (cU:=λ_=>upd (bQ (eX (d9 (aO PW 4)) G0) ["target","source"] [dc t,dc u]) "new_callers" (.aI (.ref D))) (iw:=λ_ p=>bQ (upd (bQ (eX (d9 (aO PW 4)) G0) ["target","source"] [dc t,dc u]) "new_callers" (.aI (.ref D))) ["func","caller"] [.str p.1,.int p.2]) (Mf:=λl=>[(D,dc (l.foldl jU (t.foldl (λd p=>ir d p.1 p.2) [])))]) (λ_=>True) trivial f ?_ (λ_=>rfl) (λl p _=>AS.tup z (ps:=[_,_]) q rfl rfl rfl) (λl p V _ wr g E f K=>?_) λg _ f=>⟨rfl,?_⟩);.exact aQ Kg (IT.N1 z f.cx.live (EV.name f.cx) (by simp[eL]))
 .generalize m:l.foldl jU (t.foldl (λd p=>ir d p.1 p.2) [])=b at f;have Q:(eL b).length<=100000:=by have h1:=yu (f:=λd(p:ai×Int)=>ir d p.1 p.2) (λd a=>AH ..) t [];have J:=yu JZ l (t.foldl (λd p=>ir d p.1 p.2) []);have Y:l.length<=u.length:=ME V;unfold eL;refine O (aH ..) (aQ m ?_);exact aZ J (tw (aZ h1 (aZ (dh (jn _)) T)) (aZ Y W))
  have P:=f.view (x:="new_callers") (i:=0) (by rfl) rfl;have v:l.foldl jU (t.foldl (λd p=>ir d p.1 p.2) [])=b->(l++[p]).foldl jU (t.foldl (λd p=>ir d p.1 p.2) [])=jU b p:=λe=>by refine O vV (O e ?_);rfl
  refine di (FS.cond f (TV.cmp (EV.name P) (EV.name P) aX.inD) ?_ ?_)
  .intro R c f;replace R:=Ex▸R;obtain⟨o,i⟩:∃o,sX b p.1=some o:=by cases h:sX b p.1 with|some o=>exact⟨o,rfl⟩|none=>replace R:=h▸R;cases R
   refine di (FS.cond (b:=av) f (TV.of (EV.cP (EV.glob f.cx (by exact Dt)) rfl (EL.cons (EV.name f.cx) (EL.cons (EV.glob f.cx (by exact ZS)) EL.nil)) CA.XE)) (λh=>by cases h) λ_ G f=>?_);refine di (FS.xbt (i:=0) (a:=o) (b:=p.2) f (by rfl) (by rfl) (X1:=_) (EV.name f.cx) (X2:=_) (EV.name f.cx) (by refine O Ex (O i ?_);rfl) Q λS f=>⟨trivial,?_⟩);refine FS.conv (f.less ?_) ?_;.show bq _ _;repeat(first|exact bq.refl _|refine bq.iM ?_ (by rfl)|refine bq.out ?_ (by kernel_rfl))
   .show[(D,DS (fJ (eL _) p.1 (.int (o+p.2))))]=_;refine O DL (O (v m) ?_);unfold jU;refine O i ?_;rfl
  .intro R c f;replace R:=Ex▸R;have i:sX b p.1=none:=by cases h:sX b p.1 with|none=>rfl|some o=>replace R:=h▸R;cases R
   refine di (FS.N5 (i:=0) f (by rfl) (by rfl) (EV.name f.cx) (EV.name f.cx) Q λG f=>⟨trivial,?_⟩);refine FS.conv (f.less ?_) ?_;.show bq _ _;repeat(first|exact bq.refl _|refine bq.iM ?_ (by rfl)|refine bq.out ?_ (by kernel_rfl))
   .show[(D,DS (fJ (eL _) p.1 (.int p.2)))]=_;refine O DL (O (v m) ?_);unfold jU;refine O i ?_;rfl
 .exact di (FS.HA (i:=0) f (by rfl) (by rfl) (N.live.kp k) λs' k r=>⟨k,r⟩)
section
variable{A:aF}{G:aN}{X:List ah}{B:aA}{P:Gm}
theorem IT.lg(d:A.handled=ak)(c:CX X B G P)(g:P "range"=aa (.aI (.type "range")))(f:autoParam (isNm a) yAR)(H:autoParam (mS G "range"=af) yAK):IT A G X B (.Call (.Name "range" e) [.Constant (.int 5) D k] [] b) a (r5.map .int):=IT.cP (EV.glob c g H) rfl (EL.cons EV.int EL.nil) (IC.oJ (n:=5) d f c.live dk)
theorem IT.EZ(e:A.handled=ak)(c:CX X B G P)(g:P "range"=aa (.aI (.type "range")))(f:autoParam (isNm a) yAR)(H:autoParam (mS G "range"=af) yAK):IT A G X B (.Call (.Name "range" h) [.Constant (.int 1) D k,.Constant (.int 5) n b] [] d) a (([1,2,3,4]:List Int).map .int):=IT.cP (EV.glob c g H) rfl (EL.cons EV.int (EL.cons EV.int EL.nil)) (IC.xbm (n:=4) e f c.live dk dk dk dk dk)
theorem XH{i:Int}(h:0<=i):pC 0 1 i.toNat=(upTo i).map .int:=by unfold pC upTo;refine O bO ?_;refine jK λk _=>?_;show T.int _=T.int _;simp
theorem IT.xbz(d:A.handled=ak)(c:CX X B G P)(g:P "range"=aa (.aI (.type "range")))(L:EV A G X B e (.int i))(D:0<=i)(h1:i<2^60)(f:autoParam (isNm a) yAR)(H:autoParam (mS G "range"=af) yAK)(W:autoParam (bh [e] G=(av,aT e G)::bh [] G) yAR):IT A G X B (.Call (.Name "range" j) [e] [] b) a ((upTo i).map .int):=by refine aQ (XH D) ?_;have h:=IC.oJ (A:=A) (X:=X) (h₀:=B) (n:=i.toNat) d f c.live (o9 h1);rw[mu D]at h;exact IT.cP (hs:=W) (EV.glob c g H) rfl (EL.cons L EL.nil W) h
end
noncomputable def cW(one:Int):List Int:=r5.filter λI=>I !=one
noncomputable def AZ(one i:Int):List Int:=r5.filter λI=>I !=one&&(I !=i&&af)
noncomputable def Bx:List (List (List Int)):=([1,2,3,4]:List Int).flatMap λa=>([1,2,3,4]:List Int).flatMap λb=>(([1,2,3,4]:List Int).filter λc=>a !=b&&(a !=c&&(b !=c&&af))).map λc=>[[0,a,b,c,10-a-b-c]]
def sC(one:Int):List (List (List Int)):=have o(n:Nat):Int:=(cW one).getD n 0
[[[one],[o 0,o 1],[o 2,o 3]],[[one],[o 0,o 2],[o 1,o 3]],[[one],[o 0,o 3],[o 1,o 2]]]
def q9(one i:Int):List (List (List Int)):=have o(n:Nat):Int:=(AZ one i).getD n 0
[[[o 0,o 1,o 2],[one,i]],[[o 0,o 2,o 1],[one,i]]]
def e8(l:List Int):List (List (List Int)):=Bx++l.flatMap λone=>sC one++(upTo one).flatMap (q9 one)
def WT(l:List (List (List Int))):T:=.list (l.map b7)
theorem JO:∀one∈r5,∃a b c d,cW one=[a,b,c,d]:=λone m=>xdg ((by decide:∀one∈r5,(cW one).length=4) one m)
theorem TZ:∀one∈r5,∀i∈upTo one,∃a b c,AZ one i=[a,b,c]:=λone m i k=>zd ((by decide:∀one∈r5,∀i∈upTo one,(AZ one i).length=3) one m i k)
theorem KR(one:Int):(sC one).length<=3:=cQ 3
theorem KS(one i:Int):(q9 one i).length<=2:=cQ 2
theorem Lo{one:Int}(m:one∈r5):(upTo one).length<=4:=by
 have:one=0\/one=1\/one=2\/one=3\/one=4:=by simpa[r5]using m
 unfold upTo;exact O (aH ..) (O yf (jj4 this))
theorem KU(one:Int)(l:List Int):(l.flatMap (q9 one)).length<=l.length*2:=yp λ_ _=>KS ..
theorem VA{l:List Int}(h:∀x∈l,x∈r5):(e8 l).length<=24+l.length*11:=by
 unfold e8;refine O cK ?_;have D:Bx.length=24:=by decide+kernel
 have h1:=yp (f:=λone=>sC one++(upTo one).flatMap (q9 one)) (n:=11) (l:=l) λa m=>by refine O cK ?_;have q:=KR a;have t:=KU a (upTo a);exact tw q (aZ t (tN 2 (Lo (h a m))))
 exact mE (dh D) h1
theorem KV{a b:List (List (List Int))}:([(D,WT a)]:List (ah×T)).set 0 (D,.list (a.map b7++b.map b7))=[(D,WT (a++b))]:=by show[(D,T.list (a.map b7++b.map b7))]=_;unfold WT;exact O fY rfl
theorem T4{A:aF}{X:List ah}{B:aA}{n:Nat}(rm:cF A (n+1))(tp:Top X B):CA A X B (.ref 256) [] (WT (e8 r5)):=by
 refine CA.top Oe tp rm rfl rfl rfl λs s₁ E Z L f k J q=>?_;have p:=q "ways" (.inl (by kernel_rfl));have v:=q "one" (.inr (by kernel_rfl));have t:=q "two" (.inr (by kernel_rfl));have ka:=q "a" (.inl (by kernel_rfl));have kb:=q "b" (.inl (by kernel_rfl));have kc:=q "c" (.inl (by kernel_rfl));have kd:=q "d" (.inl (by kernel_rfl));have g:=J.hd;refine bY (FS.Vw (t:=WT Bx) f p.1 p.2 ?_ λD s₂ f=>⟨rfl,?_⟩)
 .have e:WT Bx=.list (([1,2,3,4]:List Int).flatMap λa=>([1,2,3,4]:List Int).flatMap λb=>(([1,2,3,4]:List Int).filter λc=>a !=b&&(a !=c&&(b !=c&&af))).map λc=>b7 [[0,a,b,c,10-a-b-c]]):=by rfl
  refine O e ?_;refine CU.lll (kf:=.int) (qs:=.int) (Ct:=.int) f.cx ?_ ?_ ?_ ?_ ?_ dk dk dk;.exact IT.EZ g f.cx (by exact i7)
  .exact λa m C F Y h c k=>IT.EZ g c (by exact i7)
  .exact λa m b m' C F Y h c k=>IT.EZ g c (by exact i7)
  .intro a m b m' d md C F Y h c k;exact TS.one (TV.rD (AT.and (TV.cmp (X:=Y) (EV.name c) (EV.name c) aX.ne) λ_=>AT.and (TV.cmp (X:=Y) (EV.name c) (EV.name c) aX.ne) λ_=>AT.and (TV.cmp (X:=Y) (EV.name c) (EV.name c) aX.ne) λ_=>AT.yS))
  .intro a m b m' d md _ C F Y h c _ k;exact EV.list c.live (EL.cons (EV.list c.live (EL.cons EV.int (EL.cons (EV.name c) (EL.cons (EV.name c) (EL.cons (EV.name c) (EL.cons (EV.bin (EV.bin (EV.bin EV.int (EV.name c) bD.sub) (EV.name c) bD.sub) (EV.name c) bD.sub) EL.nil)))))) EL.nil)
 .refine bY (FS.for (as:=r5) (kf:=.int) (cU:=λl=>upd (eX (d9 (aO PW 25)) G0) "ways" (.aI (.ref D))) (iw:=λl one=>upd (upd (eX (d9 (aO PW 25)) G0) "ways" (.aI (.ref D))) "one" (.int one)) (Mf:=λl=>[(D,WT (e8 l))]) (λ_=>True) trivial (f.conv (by rfl)) ?_ (λ_=>rfl) (λl a _=>AS.name v.1 v.2) (λl one V _ wr j E f back=>?_) λj _ f=>⟨rfl,?_⟩);.exact IT.lg g f.cx (by exact i7)
  .have Q:one∈r5:=qN V;have h5:0<=one/\one<5:=by simp[r5]at Q;exact G9 Q
   refine AQ (JO one Q) λx1 U K I H=>?_;refine bY (FS.MJ ["a","b","c","d"] (ps:=[_,_,_,_]) f g (ts:=(cW one).map .int) (EF.ev (CU.ef ?_ f.cx.live)) ?_ (λu f=>⟨rfl,?_⟩) (by refine O H ?_;rfl))
   .refine CU.l1 (kf:=.int) (f:=.int) f.cx (IT.lg g f.cx (by exact i7)) ?_ ?_ dk;.exact λa m C F Y h c k=>TS.one (TV.cmp (X:=Y) (EV.name c) (EV.name c) aX.ne)
    .exact λa m _ C F Y h c _ k=>EV.name c
   .exact dP ka (dP kb (dP kc (dP kd nD)))
   rw[H]at f;have ew1:sC one=[[[one],[x1,U],[K,I]],[[one],[x1,K],[U,I]],[[one],[x1,I],[U,K]]]:=by unfold sC;refine O H ?_;rfl
   have y:l.length<=5:=by
    refine aC V λr e=>?_;have:l.length<=r5.length:=by refine O e ?_;simp
    exact this
   have T:∀x∈l,x∈r5:=λx m=>MD V m;have R:=VA T;have w:=KR one;refine bY (FS.iadd (i:=0) (l:=(e8 l).map b7) f p.1 p.2 (by rfl) (by rfl) (ts:=(sC one).map b7) ?_ (O (aH ..) (O (aH ..) (tw (aZ R (iy (tN 11 y) 24)) w))) λo f=>⟨rfl,?_⟩);.refine O ew1 ?_;refine EV.list f.cx.live (EL.cons (EV.list f.cx.live (EL.cons (EV.list f.cx.live (EL.cons (EV.name f.cx) EL.nil)) (EL.cons (EV.list f.cx.live (EL.cons (EV.name f.cx) (EL.cons (EV.name f.cx) EL.nil))) (EL.cons (EV.list f.cx.live (EL.cons (EV.name f.cx) (EL.cons (EV.name f.cx) EL.nil))) EL.nil)))) (EL.cons (EV.list f.cx.live (EL.cons (EV.list f.cx.live (EL.cons (EV.name f.cx) EL.nil)) (EL.cons (EV.list f.cx.live (EL.cons (EV.name f.cx) (EL.cons (EV.name f.cx) EL.nil))) (EL.cons (EV.list f.cx.live (EL.cons (EV.name f.cx) (EL.cons (EV.name f.cx) EL.nil))) EL.nil)))) (EL.cons (EV.list f.cx.live (EL.cons (EV.list f.cx.live (EL.cons (EV.name f.cx) EL.nil)) (EL.cons (EV.list f.cx.live (EL.cons (EV.name f.cx) (EL.cons (EV.name f.cx) EL.nil))) (EL.cons (EV.list f.cx.live (EL.cons (EV.name f.cx) (EL.cons (EV.name f.cx) EL.nil))) EL.nil)))) EL.nil)))
   have f:=f.conv KV;have f:FS X s j o (wr++D::Z) (cu Qu L 256) (upd (upd (eX (d9 (aO PW 25)) G0) "ways" (.aI (.ref D))) "one" (.int one)) _:=f.less (by show bq _ _;repeat(first|exact bq.refl _|refine bq.iM ?_ (by rfl)|refine bq.out ?_ (by kernel_rfl)));refine di (FS.for (as:=upTo one) (kf:=.int) (cU:=λ_=>upd (upd (eX (d9 (aO PW 25)) G0) "ways" (.aI (.ref D))) "one" (.int one)) (iw:=λ_ i=>upd (upd (upd (eX (d9 (aO PW 25)) G0) "ways" (.aI (.ref D))) "one" (.int one)) "two" (.int i)) (Mf:=λP=>[(D,WT (e8 l++sC one++P.flatMap (q9 one)))]) (λ_=>True) trivial (f.conv (by simp)) ?_ (λ_=>rfl) (λl a _=>AS.name t.1 t.2) (λP i M _ wr' G E f back'=>?_) λG _ f=>⟨trivial,?_⟩);.exact IT.xbz g f.cx (by exact i7) (EV.name f.cx) h5.1 (eF h5.2)
   .have z:i∈upTo one:=qN M;refine iU (TZ one Q i z) λy1 y2 y3 e3=>?_;refine bY (FS.MJ ["a","b","c"] (ps:=[_,_,_]) f g (ts:=(AZ one i).map .int) (EF.ev (CU.ef ?_ f.cx.live)) ?_ (λu f=>⟨rfl,?_⟩) (by refine O e3 ?_;rfl))
    .refine CU.l1 (kf:=.int) (f:=.int) f.cx (IT.lg g f.cx (by exact i7)) ?_ ?_ dk;.exact λa m C F Y h c k=>TS.one (TV.rD (AT.and (TV.cmp (X:=Y) (EV.name c) (EV.name c) aX.ne) λ_=>AT.and (TV.cmp (X:=Y) (EV.name c) (EV.name c) aX.ne) λ_=>AT.yS))
     .exact λa m _ C F Y h c _ k=>EV.name c
    .exact dP ka (dP kb (dP kc nD))
    rw[e3]at f;have W:q9 one i=[[[y1,y2,y3],[one,i]],[[y1,y3,y2],[one,i]]]:=by unfold q9;refine O e3 ?_;rfl
    have N:P.length<=4:=by
     have h1:=Lo Q;refine aC M λr e=>?_;have:P.length<=(upTo one).length:=by refine O e ?_;simp
     exact aZ this h1
    have S:=KU one P;have hw2:=KS one i;refine di (FS.iadd (i:=0) (l:=(e8 l++sC one++P.flatMap (q9 one)).map b7) f p.1 p.2 (by rfl) (by rfl) (ts:=(q9 one i).map b7) ?_ (O (aH ..) (O (aH ..) (O cK (O cK (tw (mE (mE (aZ R (iy (tN 11 y) 24)) w) (aZ S (tN 2 N))) hw2))))) λo f=>⟨trivial,?_⟩);.refine O W ?_;refine EV.list f.cx.live (EL.cons (EV.list f.cx.live (EL.cons (EV.list f.cx.live (EL.cons (EV.name f.cx) (EL.cons (EV.name f.cx) (EL.cons (EV.name f.cx) EL.nil)))) (EL.cons (EV.list f.cx.live (EL.cons (EV.name f.cx) (EL.cons (EV.name f.cx) EL.nil))) EL.nil))) (EL.cons (EV.list f.cx.live (EL.cons (EV.list f.cx.live (EL.cons (EV.name f.cx) (EL.cons (EV.name f.cx) (EL.cons (EV.name f.cx) EL.nil)))) (EL.cons (EV.list f.cx.live (EL.cons (EV.name f.cx) (EL.cons (EV.name f.cx) EL.nil))) EL.nil))) EL.nil))
    .have f:=f.conv KV;refine FS.conv (f.less ?_) (by refine O JH ?_;simp);show bq _ _;repeat(first|exact bq.refl _|refine bq.iM ?_ (by rfl)|refine bq.out ?_ (by kernel_rfl))
   .refine FS.conv (f.less ?_) (by unfold e8;refine O JH ?_;simp);show bq _ _;repeat(first|exact bq.refl _|refine bq.iM ?_ (by rfl)|refine bq.out ?_ (by kernel_rfl))
  .exact di (FS.HA (i:=0) f (by rfl) (by rfl) (tp.live.kp k) λs' k r=>⟨k,r⟩)
def bz(W:List (List Int))(i:Int):List Int:=W.getD i.toNat []
def bu(W:List (List Int))(i k:Int):Int:=gi (bz W i) k
def eG(W:List (List Int))(i x:Int):Int:=(bz W i).idxOf x
structure fR(W:List (List Int)):Prop where
len:W.length=5
row:∀i,0<=i->i<5->(bz W i).length=4
el:∀i,0<=i->i<5->∀x∈bz W i,0<=x/\x<5/\x≠i
all:∀i,0<=i->i<5->∀x,0<=x->x<5->x≠i->x∈bz W i
theorem FU{l:List Int}{k:Int}(D:0<=k)(h1:k<l.length):gi l k∈l:=by unfold gi;exact O cz (O (cy (iu D h1)) (nT _))
theorem fR.at{W:List (List Int)}(h:fR W){i k:Int}(D:0<=i)(h1:i<5)(J:0<=k)(R:k<4):0<=bu W i k/\bu W i k<5/\bu W i k≠i:=h.el i D h1 _ (FU J (by exact O (h.row i D h1) R))
def oM(W:List (List Int))(f:List Int)(g:Int):List Int:=r5.filter λo=>decide (gi f o<4)&&(bu W o (gi f o)==g&&af)
def gX(W:List (List Int))(f:List Int)(I:Int):List Int:=if !(((oM W f (bu W I (gi f I))).filter λo=>decide (eG W (bu W I (gi f I)) o<eG W (bu W I (gi f I)) I)).map T.int).isEmpty then f.set I.toNat (gi f I+1)else f
def oW(W:List (List Int))(f:List Int):List Int:=(r5.filter λI=>decide (gi f I<4)).foldl (gX W) f
def rB(W:List (List Int)):Nat->List Int->List Int->List Int|0,_,c=>c|n+1,b,c=>if c=b then c else rB W n c (oW W c)
def rounds(W:List (List Int)):List Int:=rB W 20 [] [0,0,0,0,0]
def stN(W:List (List Int)):Nat->List Int×List Int|0=>([],[0,0,0,0,0])|n+1=>((stN W n).2,oW W (stN W n).2)
structure fS(c:List Int):Prop where
len:c.length=5
el:∀i,0<=i->i<5->0<=gi c i/\gi c i<=4
theorem fS.mem(k:fS c):∀x∈c,0<=x/\x<=4:=λx m=>by refine aC (JC.mp m) λn q=>q.elim λK e=>?_;have t:=k.el n (iP n) (gR.mpr (iz K (dh k.len)));exact(show c.getD n 0=x from O cz (O (cy K) e))▸t
theorem r9{c:List Int}{i j v:Int}(F:0<=i)(Y:0<=j)(h1:i<c.length):gi (c.set i.toNat v) j=if j=i then v else gi c j:=by
 unfold gi;refine O cz (O cz ?_);by_cases e:j=i;.subst e;refine O (zR (iu Y h1)) (O (if_pos rfl) ?_);rfl
 .exact O (C5 (Gj F Y e)) (O (if_neg e) rfl)
theorem fS.step(h:fS c)(D:0<=I)(h1:I<5)(Y:gi c I<4):fS (gX W c I):=by
 unfold gX;split
 .refine⟨by exact O jN h.len,λi a b=>?_⟩;refine O (r9 D a (by rw[h.len];exact h1)) ?_;split;.have:=h.el I D h1;exact iT (DZ this.1) Y
  .exact h.el i a b
 .exact h
theorem DM{c:List Int}(V:c.length=5)(D:0<=I)(h1:I<5)(Y:0<=j)(S:j≠I):gi (gX W c I) j=gi c j:=by
 unfold gX;split;.exact O (r9 D Y (by rw[V];exact h1)) (O (if_neg S) rfl)
 .rfl
theorem Ey:∀{l:List Int}{c:List Int},fS c->(∀x∈l,0<=x/\x<5/\gi c x<4)->l.Nodup->fS (l.foldl (gX W) c)/\∀j,0<=j->j∉l->gi (l.foldl (gX W) c) j=gi c j|[],c,h,_,_=>⟨h,λ_ _ _=>rfl⟩|x::l,c,h,Q,K=>by have Y:=Q x (aP ..);have h':=h.step (W:=W) Y.1 Y.2.1 Y.2.2;refine aV (mC.mp K) λU P=>?_;have G:=Ey (l:=l) (W:=W) h' (λy m=>by have w:=Q y (aY _ m);refine⟨w.1,w.2.1,?_⟩;rw[DM h.len Y.1 Y.2.1 w.1 λe=>U (e▸m)];exact w.2.2) P;refine⟨G.1,λj b a=>?_⟩;rw[pJ,G.2 j b λm=>a (aY _ m),DM h.len Y.1 Y.2.1 b λe=>a (by exact O e (aP ..))]
theorem aE:x∈r5↔0<=x/\x<5:=⟨(by decide:∀x∈r5,0<=x/\x<5) x,λh=>mu h.1▸(by decide:∀n:Nat,n<5->(n:Int)∈r5) _ (o9 h.2)⟩
theorem qK:r5.Nodup:=dk
theorem E0:(∀x∈r5.filter λI=>decide (gi c I<4),0<=x/\x<5/\gi c x<4)/\(r5.filter λI=>decide (gi c I<4)).Nodup:=by refine⟨λx m=>?_,qK.filter _⟩;have:=d7.mp m;exact⟨(aE.mp this.1).1,(aE.mp this.1).2,of_decide_eq_true this.2⟩
theorem XJ(h:fS c):fS (oW W c):=(Ey h E0.1 E0.2).1
theorem Lp:fS [0,0,0,0,0]:=⟨rfl,λi a b=>by have:i=0\/i=1\/i=2\/i=3\/i=4:=lz a b;rcases this with rfl|rfl|rfl|rfl|rfl<;>decide⟩
theorem Oi:∀n,fS (stN W n).2|0=>Lp|n+1=>XJ (Oi n)
section
variable{A:aF}{X:List ah}{B:aA}{G:aN}
theorem CU.flat(x:CU A G X B e (.list a))(f:∀t∈a,Mine.flat t=af):CU A G Y B e (.list a):=x.imp λj x=>⟨x.1,λs o Q E k N=>x.2 s o Q E k λD C S m y d J K n r=>N D C S m y d J K n (r.imp λxs z=>⟨z.1,ay.flat f z.2⟩)⟩
theorem AI{l:List Int}:∀t∈l.map T.int,Mine.flat t=af:=λt m=>by refine aG (bE.mp m) λi _ q=>?_;subst q;rfl
theorem EV.bz(h:fR W)(K:EV A G X B v (b7 W))(F:EV A G X B i (.int k))(D:0<=k)(h1:k<5)(hs:autoParam (jT i) yAW):EV A G X B (.Subscript v i a) (LI (Mine.bz W k)):=EV.sub K F (cS.list (hs:=hs) D (eF h1) (by
refine O eS ?_;have:W[k.toNat]?=aa (Mine.bz W k):=by unfold Mine.bz;rw[cz,cy (by have:=h.len;exact jk h1 this)];rfl
refine O this ?_;rfl))
theorem EV.bu(h:fR W)(K:EV A G X B v (b7 W))(F:EV A G X B i (.int a))(Y:EV A G X B j (.int b))(D:0<=a)(h1:a<5)(J:0<=b)(R:b<4)(c:autoParam (jT i) yAW)(I:autoParam (jT j) yAW):EV A G X B (.Subscript (.Subscript v i p1) j p2) (.int (Mine.bu W a b)):=EV.gi (hs:=I) (EV.bz (hs:=c) h K F D h1) Y J (by exact O (h.row a D h1) R) (by refine O (h.row a D h1) ?_;decide)
end
theorem T5(rm:cF A (n+1))(tp:Top X h₀)(wo:fR W):CA A X h₀ (.ref 251) [b7 W] (LI (rounds W)):=by
 refine CA.top Od tp rm rfl rfl rfl λs U E Z L f k vH hw=>?_;have xdw:=hw "came" (.inr (by kernel_rfl));have u:=hw "before" (.inl (by kernel_rfl));have y:=hw "turn" (.inl (by kernel_rfl));have N:=hw "who" (.inr (by kernel_rfl));have V:=hw "asked" (.inr (by kernel_rfl));have K:=hw "rivals" (.inl (by kernel_rfl));have hh:=vH.hd;have hun:(A.deeper (cu qi L 251)).units+1<fy:=PN 1 vH.jJ;refine bY (FS.D8 (γ:=bQ (eX (d9 (aO PW 24)) G0) ["wishes"] [b7 W]) (sb:=U) (X₀:=X) (s₀:=s) ["came","before"] (ps:=[_,_]) hh (FS.wY f ((EF.rZ f.cx.live (EV.list f.cx.live (EL.cons EV.int EL.nil)) EV.int dk dk).em λt m=>by refine O (vL m) ?_;rfl) λD s₂ f=>FS.FP f (EV.list f.cx.live EL.nil) λv s₃ f r=>FS.yU ⟨D::Z,_,[.aI (.ref D),.list []],f,⟨.ie _,r,trivial⟩,rfl,by simp,λs₄ f=>⟨rfl,?_⟩⟩) ?_)
 .have fin:∀(s':aq)(E:aj->aq->Prop)(γ:Gm),γ "came"=aa (.aI (.ref D))->FS X s U s' (D::Z) (cu qi L 251) γ [(D,LI (rounds W))]->au (az PW w) (A.deeper (cu qi L 251)) (b8 ((bodyOf (aO PW 24)).drop 2) (cu qi L 251)) (λf s'=>Ks s s'/\Rep X s'.heap (LI (rounds W)) (match f with|.ret v=>v|_=>.none)) E s':=λs' E γ hγ f=>di (FS.HA (i:=0) f hγ (by rfl) (tp.live.kp k) λs' k r=>⟨k,r⟩);refine bY (FS.for (as:=(gc 20).map lI) (kf:=.int) (cU:=λl=>upd (upd (bQ (eX (d9 (aO PW 24)) G0) ["wishes"] [b7 W]) "came" (.aI (.ref D))) "before" (LI (stN W l.length).1)) (iw:=λl t=>upd (upd (upd (bQ (eX (d9 (aO PW 24)) G0) ["wishes"] [b7 W]) "came" (.aI (.ref D))) "before" (LI (stN W l.length).1)) "turn" (.int t)) (Mf:=λl=>[(D,LI (stN W l.length).2)]) (λl=>l.length<=20/\rounds W=rB W (20-l.length) (stN W l.length).1 (stN W l.length).2) ⟨dk,rfl⟩ f ?_ (λ_=>rfl) (λl a _=>AS.name y.1 y.2) (λl t hl hP wr P E f back=>?_) λP hP f=>⟨rfl,?_⟩);.exact IT.cP (its:=((gc 20).map lI).map .int) (EV.glob f.cx (by exact i7)) rfl (EL.cons EV.int EL.nil) (IC.oJ (n:=20) hh rfl f.cx.live dk)
  .obtain⟨hP1,ID⟩:=hP;have hlt:l.length<20:=by obtain⟨r,e⟩:=hl;have:=congrArg ug e;simp only[aH,yf,cK,fC]at this;exact this▸vM (qE _)
   generalize H:stN W l.length=st at f ID;obtain⟨Sk,p⟩:=st;have j:fS p:=by have:=Oi (W:=W) l.length;rw[H]at this;exact this
   have F:=f.view (x:="came") (i:=0) (by rfl) rfl;have S:rB W (20-l.length) Sk p=if p=Sk then p else rB W (20-(l.length+1)) p (oW W p):=by refine O (Cm hlt) ?_;rfl
   refine nV (FS.cond f (TV.cmp (EV.name F) (EV.name F) (aX.xbq hun)) ?_ ?_)
   .intro R s₆ f;have R:=of_decide_eq_true R;refine di (wpAny_Break ?_);have e:rounds W=p:=by exact O ID (O S (O (if_pos R) rfl))
    have fb:=(back (j6:=[(D,LI p)]) rfl f).conv (M':=[(D,LI (rounds W))]) (by exact O e rfl);exact⟨rfl,fin _ _ _ (by rfl) fb⟩
   .intro R s₆ f;have R:=of_decide_eq_false R;refine iA ?_;have F:=f.view (x:="came") (i:=0) (by rfl) rfl;refine bY (FS.set f u.1 u.2 (t:=LI p) (EF.ev (EF.flat (X:=aK (cu qi L 251)) (EF.cP (EV.glob F (by exact Oh)) rfl (EL.cons (EV.name F) EL.nil) (CF.list F.live (by refine O (aH ..) (O j.len ?_);decide))) f.cx.live AI)) λs₇ _ f=>⟨rfl,?_⟩);have f:FS X s P s₇ (wr++D::Z) (cu qi L 251) (upd (upd (bQ (eX (d9 (aO PW 24)) G0) ["wishes"] [b7 W]) "came" (.aI (.ref D))) "before" (LI p)) [(D,LI p)]:=f.less (by show bq _ _;repeat(first|exact bq.refl _|refine bq.iM ?_ (by rfl)|refine bq.out ?_ (by kernel_rfl)));have F:=f.view (x:="came") (i:=0) (by rfl) rfl;refine di (FS.for (as:=r5.filter λI=>decide (gi p I<4)) (kf:=.int) (cU:=λ_=>upd (upd (bQ (eX (d9 (aO PW 24)) G0) ["wishes"] [b7 W]) "came" (.aI (.ref D))) "before" (LI p)) (iw:=λ_ I=>upd (upd (upd (bQ (eX (d9 (aO PW 24)) G0) ["wishes"] [b7 W]) "came" (.aI (.ref D))) "before" (LI p)) "who" (.int I)) (Mf:=λl'=>[(D,LI (l'.foldl (gX W) p))]) (λ_=>True) trivial f ?_ (λ_=>rfl) (λl a _=>AS.name N.1 N.2) (λl' I hl' _ wr' s₈ E f back'=>?_) λs₈ _ f=>?_)
    .refine IT.list hh (.inl rfl) f.cx.live (EF.ev (EF.flat (X:=aK (cu qi L 251)) (CU.ef ?_ F.live) f.cx.live AI));refine CU.l1 (kf:=.int) (f:=.int) F (IT.lg hh F (by exact i7)) ?_ ?_ dk;.exact λI m C cs Y h c k=>TS.one (TV.cmp (X:=Y) (EV.gi (EV.name c) (EV.name c) (aE.mp m).1 (by exact O j.len (aE.mp m).2) (by refine O j.len ?_;decide)) EV.int aX.lt)
     .exact λa m _ C cs Y h c _ k=>EV.name c
    .have hwm:I∈r5.filter λI=>decide (gi p I<4):=qN hl';have G:=E0 (c:=p);have B:(∀x∈l',0<=x/\x<5/\gi p x<4)/\l'.Nodup/\I∉l':=by
      obtain⟨r,e⟩:=hl';refine⟨λx m=>G.1 x (by refine O e ?_;simp[m]),?_,?_⟩;.have:=G.2;rw[e]at this;exact(nQ.mp this).1
      .have:=G.2;rw[e]at this;exact λm=>(nQ.mp this).2.2 _ m _ (aP ..) rfl
     have hfo:=Ey (W:=W) j B.1 B.2.1;generalize Qv:l'.foldl (gX W) p=b at f hfo;have q:=G.1 I hwm;have hgw:gi b I=gi p I:=hfo.2 I q.1 B.2.2;have i:=hfo.1;have J:0<=gi b I/\gi b I<4:=by exact O hgw ⟨(j.el I q.1 q.2.1).1,q.2.2⟩
     have d:=wo.at q.1 q.2.1 J.1 J.2;have F:=f.view (x:="came") (i:=0) (by rfl) rfl;have Q:b.length=5:=i.len;refine bY (FS.set f V.1 V.2 (t:=.int (bu W I (gi b I))) (EV.flat (X:=aK (cu qi L 251)) (EV.bu wo (EV.name F) (EV.name F) (EV.gi (EV.name F) (EV.name F) q.1 (by exact O Q q.2.1) (by refine O Q ?_;decide)) q.1 q.2.1 J.1 J.2) rfl) λHC _ f=>⟨rfl,?_⟩);have F:=f.view (x:="came") (i:=0) (by rfl) rfl;refine bY (FS.qO f K.1 K.2 (t:=LI (oM W b (bu W I (gi b I)))) (CU.flat (X:=aK (cu qi L 251)) ?_ AI) λxhg f=>⟨rfl,?_⟩)
     .refine CU.l1 (kf:=.int) (f:=.int) F (IT.lg hh F (by exact i7)) ?_ ?_ dk;.intro o m C cs Y h c k;have g:=aE.mp m;refine TS.one (TV.rD (AT.and (TV.cmp (X:=Y) (EV.gi (EV.name c) (EV.name c) g.1 (by exact O Q g.2) (by refine O Q ?_;decide)) EV.int aX.lt) λR=>?_));have R:=of_decide_eq_true R;exact AT.and (TV.cmp (X:=Y) (EV.bu wo (EV.name c) (EV.name c) (EV.gi (EV.name c) (EV.name c) g.1 (by exact O Q g.2) (by refine O Q ?_;decide)) g.1 g.2 (i.el o g.1 g.2).1 R) (EV.name c) aX.eq) λ_=>AT.yS
      .exact λa m _ C cs Y h c _ k=>EV.name c
     have M:∀x,0<=x->x<5->x≠bu W I (gi b I)->x∈bz W (bu W I (gi b I)):=λx h0 h1 hn=>wo.all _ d.1 d.2.1 x h0 h1 hn;have hrl:(bz W (bu W I (gi b I))).length<=100000:=by refine O (wo.row _ d.1 d.2.1) ?_;decide
     refine di (FS.cond (b:=!(((oM W b (bu W I (gi b I))).filter λo=>decide (eG W (bu W I (gi b I)) o<eG W (bu W I (gi b I)) I)).map T.int).isEmpty) f (TV.cmp (EF.ev (CU.ef ?_ f.cx.live)) (EV.list f.cx.live EL.nil) (aX.xdl hun)) ?_ ?_)
     .refine CU.l1 (kf:=.int) (f:=.int) f.cx (IT.list hh (.inl rfl) f.cx.live (EV.name f.cx)) ?_ ?_ ?_
      .intro o m C cs Y h c k;obtain⟨m1,m2⟩:=d7.mp m;have g:=aE.mp m1;simp only[dZ,decide_eq_true_eq,beq_iff_eq]at m2;have hne:o≠bu W I (gi b I):=λe=>by have:=(wo.at g.1 g.2 (i.el o g.1 g.2).1 m2.1).2.2;rw[m2.2.1]at this;exact this e.symm
       exact TS.one (TV.cmp (X:=Y) (EV.pS (EV.bz wo (EV.name c) (EV.name c) d.1 d.2.1) (EV.name c) (M o g.1 g.2 hne) hrl) (EV.pS (EV.bz wo (EV.name c) (EV.name c) d.1 d.2.1) (EV.name c) (M I q.1 q.2.1 λe=>d.2.2 e.symm) hrl) aX.lt)
      .exact λa m _ C cs Y h c _ k=>EV.name c
      .exact aZ (nM ..) dk
     .intro R z f;refine di (FS.ZH (i:=0) (a:=gi b I) f (by rfl) (by rfl) (EV.name f.cx) (X2:=[]) EV.int q.1 ?_ (by refine O (aH ..) (O Q ?_);decide) λxhh f=>⟨trivial,?_⟩)
      .refine O eS ?_;have:b[I.toNat]?=aa (gi b I):=by unfold gi;refine O cz (O (cy (jk q.2.1 Q)) ?_);rfl
       refine O this ?_;rfl
      .have e:gX W b I=b.set I.toNat (gi b I+1):=by unfold gX;exact O (if_pos R) rfl
       refine FS.conv (f.less ?_) ?_;.show bq _ _;repeat(first|exact bq.refl _|refine bq.iM ?_ (by rfl)|refine bq.out ?_ (by kernel_rfl))
       .refine O vV (O Qv ?_);show[(D,T.list ((b.map T.int).set I.toNat (.int (gi b I+1))))]=[(D,LI (gX W b I))];refine O e ?_;unfold LI;exact O wc rfl
     .intro R z f;have e:gX W b I=b:=by unfold gX;exact O (if_neg (by rw[R];decide)) rfl
      refine iA ⟨trivial,FS.conv (f.less ?_) ?_⟩;.show bq _ _;repeat(first|exact bq.refl _|refine bq.iM ?_ (by rfl)|refine bq.out ?_ (by kernel_rfl))
      .refine O vV (O Qv ?_);show[(D,LI b)]=[(D,LI (gX W b I))];exact O e rfl
    .refine⟨⟨O cK hlt,?_⟩,?_⟩;.refine O ID (O S (O (if_neg R) (O cK ?_)));show _=rB W (20-(l.length+1)) (stN W l.length).2 (oW W (stN W l.length).2);exact O H rfl
     .have e1:(stN W (l++[t]).length).1=p:=by refine O cK ?_;show(stN W l.length).2=p;exact O H rfl
      have e2:(stN W (l++[t]).length).2=oW W p:=by refine O cK ?_;show oW W (stN W l.length).2=_;exact O H rfl
      exact O e1 (O e2 f)
  .have f:=f.conv (M':=[(D,LI (rounds W))]) (by refine O hP.2 ?_;rfl);exact fin _ _ _ (by rfl) f
 .exact dP xdw (dP u nD)
structure Stat where
a:Int
b:Int
c:Int
d:Int
t:Tab
def cA(x:Stat):T:=.tup [.int x.a,.int x.b,.int x.c,.int x.d,dc x.t]
def j7(t s:Stat):Stat:=⟨s.a+t.a,s.b+t.b,s.c+t.c,s.d+t.d,jH t.t s.t⟩
theorem Jc{t u:Stat}(e:cF A (n+2))(N:Top X B)(h:t.t.length<=1000)(a:u.t.length<=1000):CA A X B (.ref 66) [cA t,cA u] (cA (j7 t u)):=by
 refine CA.top GK N e rfl rfl rfl λs U E Z L f k i C=>?_;have d:=i.hd;refine bY (FS.MK ["cc","nc","tt","ct","callers"] (ps:=[_,_,_,_,_]) f d (EV.name f.cx) (λx m=>?_) (λJ f=>⟨rfl,?_⟩) (by rfl));.simp only[bA,b9,or_false]at m;rcases m with rfl|rfl|rfl|rfl|rfl<;>exact C _ (.inl (by kernel_rfl))
 refine bY (FS.MK ["t_cc","t_nc","t_tt","t_ct","t_callers"] (ps:=[_,_,_,_,_]) f d (EV.name f.cx) (λx m=>?_) (λj f=>⟨rfl,?_⟩) (by rfl));.simp only[bA,b9,or_false]at m;rcases m with rfl|rfl|rfl|rfl|rfl<;>exact C _ (.inl (by kernel_rfl))
 have b:Kp B j.heap:=k.trans f.ks.kp;have G:=N.kp b;refine aG (GL.kp G.K).obj λo g c=>?_;refine di (FS.ret f (EV.less (EV.tup f.cx.live (EL.cons (EV.bin (EV.name f.cx) (EV.name f.cx) bD.add) (EL.cons (EV.bin (EV.name f.cx) (EV.name f.cx) bD.add) (EL.cons (EV.bin (EV.name f.cx) (EV.name f.cx) bD.add) (EL.cons (EV.bin (EV.name f.cx) (EV.name f.cx) bD.add) (EL.cons (EV.uJ (EV.glob f.cx (by exact TX)) g c (EL.cons (EV.name f.cx) (EL.cons (EV.name f.cx) EL.nil)) (Jq (t:=t.t) (u:=u.t) i ⟨G.K,f.cx.live,f.cx.ok.eN,f.cx.ok.blt⟩ h a)) EL.nil)))))) inR) λv S k r=>⟨k,r⟩)
section
variable{A:aF}{X:List ah}{B:aA}{G:aN}{j:Gm}
theorem CA.ord:CA A X B (.builtin "ord") [.str ⟨#[c]⟩] (.int c):=λs E K k r=>by obtain⟨v,rfl⟩:=ay.jy r;obtain⟨t,rfl⟩:=r.1.eV;exact P.ord_of_char ⟨.tok ..,.fO _ _⟩
theorem CA.lower(l:CY (A9 x).length=av):CA A X B (.builtin "str.lower") [.str x] (.str (A9 x)):=λs E K k r=>by obtain⟨v,rfl⟩:=ay.jy r;obtain⟨t,rfl⟩:=r.1.eV;exact SC.lower l ⟨.tok ..,.ni _ _⟩
theorem aX.inSet(R:B.SetOf (oE PW w) a S n):aX A X B .In (.int i) (.aI (.ref a)) (S i):=λs E u v k J c=>by refine aC J.cL λt p=>?_;subst p;obtain rfl:=c.cR;have m:s.heap.SetOf (oE PW w) a S n:=let⟨o,D,b,t,g,r⟩:=R;⟨o,D,b,t,k _ _ g,r⟩;exact wpAny_inSet_of (PK PW w i t) rfl m ⟨.tok ..,rfl⟩
theorem EV.xbA{o e:aS}{name:ai}{m R:aR}{id:String}{t u r:T}(i:EV A G X B o t)(L:EV A G X B e u)(Q:∀(s:aq)(v:aj),Kp B s.heap->Rep X s.heap t v->∃l:String,Ga l/\tH l name id/\uU (.builtin id)=pure (.type "method_descriptor")/\s.TypeIs v l/\∀a,v=.ref a->∃S,s.heap.get? a=aa S/\S.dict=ak)(Z:CA A X B (.builtin id) [t,u] r)(P:autoParam (kJ o name G (aT o G)=aT o G) yAR)(W:autoParam (bh [e] G=[(av,aT e G)]) yAR)(f:autoParam ((m.endLine==R.line)=af) yAR):EV A G X B (.Call (.Attribute o name m) [e] [] R) r:=λs E k=>by refine EJ P W f (aB (i s E k) (λg U x=>?_) λ_ _ e=>e);refine oi (Q U g (k.trans x.1.kp) x.2) λl a b c d e=>?_;refine⟨l,id,a,b,c,d,e,mz rfl rfl (mZ (n8 (aB (L U E (k.trans x.1.kp)) (λv J y=>rV ?_) λ_ _ e=>e)))⟩;exact aB (Z J E [g,v] (k.trans (x.1.trans y.1).kp) ⟨Rep.kp (y.1.kp.bL X) _ _ x.2,y.2,trivial⟩) (λc h z=>⟨(x.1.trans y.1).trans z.1,z.2⟩) λ_ _ e=>e
theorem Ez{h h':aA}{K:Type}[DecidableEq K]{s:KeyKind PW w K}{d:ah}{f:K->Option aj}(k:Kp h h')(m:h.MapOf s d f):h'.MapOf s d f:=let⟨o,D,t,g,r⟩:=m;⟨o,D,t,k _ _ g,r⟩
noncomputable def HD:Option ai->T|none=>.none|aa y=>.str y
noncomputable def HE(f:Int->Option aj)(g:Int->Option ai):Prop:=∀i,f i=ak/\g i=ak\/∃y t,f i=aa (.str y t)/\g i=aa y
theorem CA.HF{d:ah}{f:Int->Option aj}{g:Int->Option ai}{i:Int}(Q:B.MapOf (oE PW w) d f)(U:(d==eo)=av)(H:HE f g):CA A X B (.builtin "dict.get") [.aI (.ref d),.int i] (HD (g i)):=λs E K k r=>by
 refine lu (ay.nI r) λu v p=>?_;subst p;obtain rfl:=r.1.cR;refine aC r.2.1.cL λt p=>?_;subst p;have q:=Ez k Q;refine uf xcV q.typeIs F.entry_dict_get (F.args_dict_get_2 _ _) (meets_dict_get (oE PW w) d (PK PW w i t) U) ⟨f,q,?_⟩;refine bw (H i) (λI=>?_) λN=>?_;.obtain⟨a,b⟩:=I;exact O a (O b ⟨.tok ..,rfl⟩)
 .obtain⟨y,c,a,b⟩:=N;exact O a (O b ⟨.tok ..,.ni _ _⟩)
theorem EV.HF{o e:aS}{m R:aR}{d:ah}{f:Int->Option aj}{g:Int->Option ai}{i:Int}(b:EV A G X B o (.aI (.ref d)))(L:EV A G X B e (.int i))(Q:B.MapOf (oE PW w) d f)(U:(d==eo)=av)(H:HE f g)(P:autoParam (kJ o "get" G (aT o G)=aT o G) yAR)(W:autoParam (bh [e] G=[(av,aT e G)]) yAR)(u:autoParam ((m.endLine==R.line)=af) yAR):EV A G X B (.Call (.Attribute o "get" m) [e] [] R) (HD (g i)):=EV.xbA b L (λs v k r=>by obtain rfl:=r.cR;have q:=Ez k Q;exact⟨"dict",xaP,xcV,F.type_dict_get,q.typeIs,λa e=>by injection e with e;subst e;exact let⟨o,_,_,g,x,_⟩:=q;⟨o,g,x.2.1⟩⟩) (CA.HF Q U H) P W u
theorem aX.isNotNone{x:Option ai}:aX A X B .IsNot (HD x) .none x.isSome:=λs E u v k J c=>by obtain rfl:v=.none:=c;refine isNot_none ⟨.refl _,?_⟩;cases x with|none=>obtain rfl:u=.none:=J;rfl|some y=>refine aC J.eV λt p=>?_;subst p;rfl
end
noncomputable def HG(o:bR):Array (Int×aj)×Nat×SetTable:=match o.data with|.set e n t=>(e,n,t)|_=>(#[],0,default)
noncomputable def Qw(o:bR):Array gm×Nat:=match o.data with|.dict e n=>(e,n)|_=>(#[],0)
def Cv:Array (Int×aj):=(HG (MineH.yQ w.params)).1
def setB(i:Int):Bool:=(Cv).toList.any λe=>MB i e.2
theorem xfV:(Cv).toList.all (λe=>(match e.2 with|.int i _=>e.1==hashInt i|_=>av)&&e.2.scannable)=af:=by kernel_rfl
theorem xfW:hH.SetOf (oE PW w) 175 setB (Cv).size:=by
 refine⟨MineH.yQ w.params,Cv,(HG (MineH.yQ w.params)).2.1,(HG (MineH.yQ w.params)).2.2,ku (by kernel_rfl),⟨by kernel_rfl,by kernel_rfl,by kernel_rfl⟩,by kernel_rfl,λe m=>?_,λk=>vX,of_decide_eq_true (by kernel_rfl),by kernel_rfl,rfl⟩;have c:=vQ.mp (cg.mp xfV e m);refine⟨?_,c.2⟩;have c:=c.1;split at c;.rename_i i t q;exact⟨i,by exact O q (beq_self_eq_true i),eq_of_beq c⟩
 .cases c
def Cw:Array gm:=(Qw (MineH.Bd PW)).1
def Cx(k:Int):Option aj:=findBy MB Cw k
def cB(k:Int):Option ai:=match Cx k with|aa (Fq y _)=>aa y|_=>ak
theorem Qx:Cw.toList.all (λe=>(match e.key with|.int i _=>e.hash==hashInt i|_=>av)&&match e.val with|.str _ _=>af|_=>av)=af:=by kernel_rfl
theorem xfX:hH.MapOf (oE PW w) 186 Cx:=by
 refine⟨MineH.Bd PW,Cw,(Qw (MineH.Bd PW)).2,ku (by kernel_rfl),⟨by kernel_rfl,by kernel_rfl,by kernel_rfl⟩,by kernel_rfl,λe m=>?_,λk=>rfl⟩;have c:=(vQ.mp (cg.mp Qx e (zV.mpr m))).1;split at c;.rename_i i t q;exact⟨i,by exact O q (beq_self_eq_true i),eq_of_beq c⟩
 .cases c
theorem xfY:HE Cx cB:=λi=>by unfold cB;cases h:Cx i with|none=>exact .inl ⟨rfl,rfl⟩|some v=>
right;refine aG (vN.mp (show(Cw.find? λe=>MB i e.key).map (·.val)=some v from h)) λe L p=>?_;subst p;have c:=(vQ.mp (cg.mp Qx e (zV.mpr (Array.mem_of_find?_eq_some L)))).2;split at c;.rename_i y t q;exact⟨y,t,by exact O q rfl,by exact O q rfl⟩
.cases c
theorem Tw(u:cF A (n+1))(N:Top X B):CA A X B (.ref 185) [.str ⟨#[c]⟩] (.bool (setB c)):=by refine CA.top N9 N u rfl rfl rfl λs U E Z L f k i C=>?_;have m:U.heap.SetOf (oE PW w) 175 setB _:=let⟨o,D,a,t,g,r⟩:=xfW;⟨o,D,a,t,(N.K.trans (k.trans f.ks.kp)) _ _ g,r⟩;exact di (FS.ret f ((EV.cmp (EV.cP (EV.glob f.cx (by exact Pk)) rfl (.cons (EV.name f.cx) .nil) CA.ord) (EV.glob f.cx (by exact XG)) (aX.inSet m)).less inR) λv S k r=>⟨k,r⟩)
def By(g:Int->Option ai)(c:Nat):ai:=(g c).getD (A9 ⟨#[c]⟩)
theorem MT.lower:MT (.str x) "lower" "str.lower":=λX s v r=>by obtain⟨t,rfl⟩:=r.eV;exact⟨"str",xcF,F.slot_str_lower,F.type_str_lower,typeIs_str ..,λa e=>by cases e⟩
theorem Tn{A:aF}{X:List ah}{B:aA}{n:Nat}{c:Nat}(u:cF A (n+1))(N:Top X B)(l:CY (A9 ⟨#[c]⟩).length=av):CA A X B (.ref 231) [.str ⟨#[c]⟩] (.str (By cB c)):=by
 refine CA.top Oa N u rfl rfl rfl λs U E Z L f k i C=>?_;have V:=C "r" (.inl (by kernel_rfl));have q:=Ez (N.K.trans (k.trans f.ks.kp)) xfX;refine bY (FS.set f V.1 V.2 (EV.HF (EV.glob f.cx (by exact Tj)) (EV.cP (EV.glob f.cx (by exact Pk)) rfl (.cons (EV.name f.cx) .nil) CA.ord) q dk xfY) λJ _ f=>⟨rfl,?_⟩);refine nV (FS.cond (b:=(cB c).isSome) f (TV.cmp (EV.name f.cx) EV.none aX.isNotNone) (λR j f=>?_) λR j f=>?_);.refine di (FS.ret f ((EV.name f.cx).less inR) λv S k r=>?_);cases e:cB c with|none=>replace R:=e▸R;cases R|some y=>replace r:=e▸r;simp only[By,e];exact⟨k,r⟩
 .refine aM ?_;refine di (FS.ret f ((EV.xdj (EV.name f.cx) MT.lower (CA.lower l)).less inR) λv S k r=>?_);cases e:cB c with|none=>simp only[By,e];exact⟨k,r⟩|some y=>replace R:=e▸R;cases R
section
variable{A:aF}{X:List ah}{B:aA}{G:aN}{c:Gm}
theorem VB{f:List ai}:∀{K:List aj},ay X h (f.map .str) K->StrsAre K f:=by induction f with
|nil=>intro K r;cases K with|nil=>exact .nil|cons=>exact r.elim
|cons y f a=>intro K r;cases K with|nil=>exact r.elim|cons v K=>refine aC r.1.eV λt q=>?_;subst q;exact .cons _ _ (a r.2)
theorem CA.join{x:ai}{f:List ai}(W:x.length<=16)(I:(f.map (·.length)).sum+f.length<=1048576):CA A X B (.builtin "str.join") [.str x,.list (f.map .str)] (.str (yP x f)):=λs E K k r=>by refine lu (ay.nI r) λu v q=>?_;subst q;refine aC r.1.eV λt q=>?_;subst q;refine cH r.2.1.d8 λa xs q n p R=>?_;subst q;exact join_listW p.isList (VB R) W I λg k=>⟨.tok ..,.ni _ _⟩
theorem aX.XK:aX A X B .NotIn (.str y) (.str x) !xem x y:=λs E u v k J a=>by obtain⟨t,rfl⟩:=J.eV;obtain⟨g,rfl⟩:=a.eV;exact P.notIn_str ⟨.refl _,rfl⟩
theorem aX.isBool:aX A X B .Is (.bool a) (.bool b) (a==b):=λs E u v k J d=>by have H:u=.bool a:=J;have L:v=.bool b:=d;subst H L;refine wpAny_is_plain (by rfl) ⟨.refl _,?_⟩;cases a<;>cases b<;>rfl
end
noncomputable def yW(c:Nat):Bool:=!xem ".\r\n" ⟨#[c]⟩
def sgn(S:Int->Bool)(b:Int->Option ai)(c:Nat):ai:=if S c then""else By b c
def m8(S:Int->Bool)(b:Int->Option ai)(a:ai):List ai:=(a.cps.toList.filter yW).map (sgn S b)
def nameOf(S:Int->Bool)(b:Int->Option ai)(a:ai):ai:=yP "" (m8 S b a)
theorem UT{a:ai}(w:cF A (n+2))(N:Top X B)(I:a.cps.toList.length<=100000)(t:((m8 setB cB a).map (·.length)).sum+(m8 setB cB a).length<=1048576):CA A X B (.ref 236) [.str a] (.str (nameOf setB cB a)):=by
 refine CA.top Ob N w rfl rfl rfl λs U E Z L f k i x=>?_;have p:=i.hd;have V:=x "judged" (.inl (by kernel_rfl));refine bY (FS.qO f V.1 V.2 (t:=.list ((a.cps.toList.filter yW).map λc=>.tup [.str ⟨#[c]⟩,.bool (setB c)])) ?_ λq f=>⟨rfl,?_⟩)
 .refine CU.l1 (kf:=λc=>.str ⟨#[c]⟩) (f:=λc=>.tup [.str ⟨#[c]⟩,.bool (setB c)]) f.cx (IT.str p (by rfl) f.cx.live (EV.name f.cx)) ?_ ?_ I;.exact λc m C g Y h b j=>TS.one (TV.cmp (EV.name b) EV.str aX.XK)
  .intro c m _ C g Y h b _ j;have H:=k.trans (f.ks.kp.trans j);have G:=N.kp H;refine aG (N9.kp G.K).obj λo l u=>?_;refine EV.tup b.live (EL.cons (EV.name b) (EL.cons (EV.uJ (EV.glob b (by exact TY)) l u (EL.cons (EV.name b) EL.nil) (Tw (c:=c) i ⟨G.K,b.live,b.ok.eN,b.ok.blt⟩)) EL.nil))
 .refine di (FS.ret f (EV.less (@EV.Bv _ _ _ _ _ _ _ _ _ _ _ _ _ EV.str (EF.ev (CU.ef (t:=.list ((m8 setB cB a).map .str)) ?_ f.cx.live)) (MT.str F.slot_str_join F.type_str_join) (CA.join dk t) (by rfl) (by rfl) (by rfl)) inR) λv S k r=>⟨k,r⟩);have e:T.list ((m8 setB cB a).map .str)=.list (((a.cps.toList.filter yW).filter λ_=>af).map λc=>.str (sgn setB cB c)):=by refine O (zW.mpr λ_ _=>rfl) ?_;simp only[m8,bO];rfl
  refine O e ?_;refine CU.l2 (kf:=λc=>.str ⟨#[c]⟩) (kg:=λc=>.bool (setB c)) p f.cx (IT.list p (.inr (by rfl)) f.cx.live (EV.name f.cx)) ?_ ?_ ?_;.exact λc m C g Y h b j=>TS.nil
  .intro c m _ C g Y h b _ j;have H:=k.trans (f.ks.kp.trans j);have G:=N.kp H;refine aG (Oa.kp G.K).obj λo l J=>?_;have d:CY (A9 ⟨#[c]⟩).length=av:=fit_lower (by show 1<=5592405;decide);refine EV.ite (b:=setB c==av) (TV.cmp (EV.name b) EV.bool aX.isBool) (λR=>?_) λR=>EV.ite (b:=setB c==af) (TV.cmp (EV.name b) EV.bool aX.isBool) (λy=>?_) λy=>?_
   .have R:setB c=av:=by simpa using R
    rw[sgn,R,if_neg dk];refine EV.uJ (EV.glob b (by exact Tv)) l J (EL.cons (EV.name b) EL.nil) (Tn (c:=c) i ⟨G.K,b.live,b.ok.eN,b.ok.blt⟩ d)
   .have y:setB c=af:=by simpa using y
    rw[sgn,if_pos y];exact EV.str
   .cases e:setB c<;>rw[e]at R y<;>first|(cases R;done)|(cases y;done)
  .exact aZ (nM _ _) I
section
open PySem.Sre(M)
open PySem.Builtin.Re
section
variable{A:aF}{E:aj->aq->Prop}{s:aq}
theorem JA:∀(T k:Nat)(m:M),(fX k m).outcome.isSome=af->k<=4*T->1<=T->Q (fX k m) s->au (az PW w) A (reDrive T m) Q E s
|0,k,m,h,_,h1,_=>absurd h1 dk|T+1,k,m,h,N,h1,X=>by
 show au _ _ (if(m.runFor 4).outcome.isSome=af then pure (m.runFor 4)else do rule "sre.turn";reDrive T (m.runFor 4)) _ _ _;refine O (KQ ..) ?_;by_cases e:(fX 4 m).outcome.isSome=af;.refine O (if_pos e) ?_;refine aM ?_;exact O (XF e h) X
 .refine O (if_neg e) ?_;have a:4<k:=by refine xaK λq=>e ?_;refine aC (Jm q) λc Z=>?_;rw[Z,wJ,yz h];exact h
  refine aC (Nat.exists_eq_add_of_lt a) λc z=>?_;subst z;rw[rQ 4 c 1,wJ]at h X;have Z:c+1<=4*T:=Jd (b:=4) (aZ (dh (jm (c+1) 4)) N);exact ao (qJ (JA T (c+1) _ h Z (Nat.pos_of_ne_zero λe=>absurd (e▸Z:c+1<=4*0) (Nat.not_succ_le_zero c)) X))
theorem wpAny_run{Q:Option M->aq->Prop}{m:M}{K:Nat}{r:Option (Nat×Nat)}(e:Ends m K r)(a:K<=10^12)(D:r=none->Q none s)(h1:∀b e H,r=some (b,e)->H.start=b->H.handed=e->Q (some H) s):au (az PW w) A (reRunToEnd m) Q E s:=by
 refine aG e λk N x=>?_;have g:(fX k m).outcome.isSome=af:=by cases r with|none=>rw[show(fX k m).outcome=_ from x];rfl|some p=>rw[x.1];rfl
 unfold reRunToEnd;have R:k<=4*2^64:=aZ (aZ N a) dk;refine ao (JA _ k m g R dk ?_);refine ao (wpAny_forIn_list _ (λ_ _ S=>S=s) _ (λi u b S e=>?_) (λb S e=>?_) _ _ rfl)
 .subst e;by_cases c:(fX k m).seen.has i=af;.exact O (if_pos c) (ao (qJ (aM rfl)))
  .exact O (if_neg c) (aM rfl)
 .subst e;cases r with|none=>rw[show(fX k m).outcome=_ from x];exact aM (D rfl)|some p=>rw[x.1];exact aM (h1 p.1 p.2 _ rfl x.2.1 x.2.2)
end
end
section
open PySem.Sre(M)
open PySem.Builtin.Re
noncomputable def mQ(h:aA)(a:ah)(i:Array Nat):Prop:=∃(o r:bR)(c:Array aj)(e:ah)(f:Array aj)(n:Nat),h.get? a=aa o/\o.cls=.type "re.Pattern"/\o.dict=ak/\o.data=.fields c/\c.getD 5 .none=.ref e/\reRawNat (c.getD 6 .none)=0/\reRawNat (c.getD 2 .none)=0/\h.get? e=aa r/\r.data=.seq f n/\r.cls=.type "tuple"/\(f.map reRawOf).map (·.toNat)=i
theorem mQ.kp{h h':aA}{a:ah}{i:Array Nat}(k:Kp h h')(p:mQ h a i):mQ h' a i:=by obtain⟨o,r,c,e,f,n,h1,J,R,Y,y,l,u,b,j⟩:=p;exact⟨o,r,c,e,f,n,k _ _ h1,J,R,Y,y,l,u,k _ _ b,j⟩
theorem mQ.kpx{h h':aA}{a D:ah}{i:Array Nat}{o:bR}(d:h.get? D=aa o)(Z:o.cls=.type "list")(k:bf [D] h h')(p:mQ h a i):mQ h' a i:=by
 obtain⟨q,r,c,e,f,n,h1,J,R,Y,y,l,u,b,j,g,s⟩:=p;have U:a∉[D]:=λm=>by replace m:=aW.mp m;subst m;replace d:=h1▸d;cases d;replace Z:=J▸Z;exact absurd Z dk
 have P:e∉[D]:=λm=>by replace m:=aW.mp m;subst m;replace d:=b▸d;cases d;replace Z:=g▸Z;exact absurd Z dk
 exact⟨q,r,c,e,f,n,k _ _ U h1,J,R,Y,y,l,u,k _ _ P b,j,g,s⟩
section
variable{A:aF}{E:aj->aq->Prop}{s:aq}
theorem J0{a:ah}{i:Array Nat}{x:ai}{t:mj}{Q:ReTarget->aq->Prop}(p:mQ s.heap a i)(X:Q ⟨.ref a,.str x t,i,x.cps,0,0,0,x.cps.size⟩ s):au (az PW w) A (reWholeTarget (.ref a) (.str x t)) Q E s:=by obtain⟨o,r,c,e,f,n,h1,J,R,Y,y,l,u,b,j,_,g⟩:=p;unfold reWholeTarget;refine ao (wpAny_fieldsOf h1 Y ?_);unfold reTextOf;refine ao (ao (m:=asStr? (.str x t)) (aM ?_));refine aM ?_;dsimp only;refine O l ?_;unfold reNoCollectionInside reRawItems Gf;refine O y ?_;dsimp only;refine ao (aM ?_);refine ao (ao (ao (Ba b ?_)));refine O j ?_;dsimp only;refine aM (aM (aM ?_));show Q {pattern:=.ref a,string:=.str x t,code:=(f.map reRawOf).map (·.toNat),text:=x.cps,kind:=0,groups:=reRawNat (c.getD 2 .none),pos:=0,lim:=x.cps.size} s;exact O g (O u X)
noncomputable def cut(t:Array Nat)(b e:Nat):List ai:=if b<e then[⟨t.extract b e⟩]else[]
def fH(fd:Nat->Option (Nat×Nat))(t:Array Nat)(r:ai)(n:Nat):Nat->List ai:=n.rec (λ_=>[]) λ_ i s=>(fd s).elim (cut t s t.size) λq=>cut t s q.1++r::i q.2
noncomputable def yX(fd:Nat->Option (Nat×Nat))(n:Nat):Prop:=∀s b e,s<=n->fd s=aa (b,e)->s<=b/\b<e/\e<=n
theorem S8(a b:List (ai×mj)):jD (a++b)=jD a++jD b:=fY ..
theorem Lq{l:List (ai×mj)}(d:s.heap.get? D=aa {cls:=.type "list",data:=.seq (jD l).toArray m})(I:l.length<=2000000)(h:∀a H,br [D] s a->a.heap.get? D=aa {cls:=.type "list",data:=.seq (jD (l++[(y,G)])).toArray H}->Q () a):au (az PW w) A (Gg D (·.push (.str y G))) Q E s:=by
 have P:(jD l).toArray.size=l.length:=by exact O iZ (aH ..)
 refine xew d rfl (h _ (if((jD l).toArray.push (.str y G)).size==(jD l).toArray.size then m else m+1) ?_ ?_) (by exact O P (O dJ (cC I))) (by exact O (Zb ..) (O P (O dJ (zl I))));.exact⟨λb o n e=>Heap.get?_update_of_ne _ (λq=>n (by exact O q (aP ..))) e,rfl⟩
 .refine O (qu _ d rfl) (O (S8 ..) ?_);have:(jD l++jD [(y,G)]).toArray=(jD l).toArray.push (.str y G):=by refine O (List.push_toArray ..) ?_;rfl
  refine O this ?_;rfl
theorem ZT{l:List (ai×mj)}(d:s.heap.get? D=aa {cls:=.type "list",data:=.seq (jD l).toArray m})(j:((l.map (·.1)).map (·.length)).sum+(l.map (·.1)).length<=1048576)(T:∀S g,br [D] s S->R (.ok (.ret (.str (yP "" (l.map (·.1))) g))) S):au (az PW w) A (do let c<-reSlice t 0 0 0;let y<-Gf (.ref D)if(y.getD #[]).isEmpty=af then do let v<-pure c;ret v;else do let v<-dO (.builtin (if((0:Nat)==0)=af then"str.join"else"bytes.join")) [c,.ref D]ret v) (λI S=>match I with|.done f=>R (.ok f) S|.again h=>h.quiet=af/\pW (az PW w) Q h R S) E s:=by
 have e:reSlice t 0 0 0=mkStr ⟨t.extract 0 0⟩:=rfl;have B:(⟨t.extract 0 0⟩:ai)="":=by
  have:t.extract 0 0=#[]:=by simp
  refine O this ?_;rfl
 refine O e (O B ?_);refine ao (wpAny_mkStr ?_ (by refine O dJ ?_;decide));refine ao (ao (m:=load D) (Ba (o:={cls:=.type "list",data:=.seq (jD l).toArray m}) d (aM ?_)));cases l with|nil=>exact aM (T _ _ ⟨λb o n e=>e,rfl⟩)|cons p l=>
refine ao ?_;have F:∀q:List (ai×mj),StrsAre (jD q) (q.map (·.1)):=λq=>by induction q with|nil=>exact .nil|cons a q G=>exact .cons _ _ G
have P:({s with toks:=s.toks+1}:aq).heap.PlainList D (jD (p::l)).toArray:=⟨m,d⟩;show au _ _ (dO (.builtin "str.join") [_,.ref D]) _ _ _;refine join_listW P.isList (by exact O W7 (F (p::l))) dk j λg k=>?_;exact aM (T _ _ ⟨λb o n e=>e,rfl⟩)
theorem Lr{D:ah}{l:List (ai×mj)}{m b e:Nat}{x:ai}{f:Unit->bg Fin}{Q:Fin->aq->Prop}(g:s.heap.get? D=aa {cls:=.type "list",data:=.seq (jD l).toArray m})(I:l.length<=1048576)(Y:x.cps.size<=100000)(h:∀a d H,br [D] s a->a.heap.get? D=aa {cls:=.type "list",data:=.seq (jD d).toArray H}->d.map (·.1)=l.map (·.1)++cut x.cps b e->d.length<=l.length+1->au (az PW w) A (f ()) Q E a):au (az PW w) A (if b<e then reSlice x.cps 0 b e>>=λv=>Gg D (·.push v)>>=λr=>f r else f ()) Q E s:=by
 unfold cut at h;by_cases c:b<e;.rw[if_pos c]at h⊢;refine ao (m:=mkStr ⟨x.cps.extract b e⟩) (wpAny_mkStr (ao (Lq (l:=l) g (cC I) λa H k B=>h a _ H (br.trans (.of (.tok ..)) k) B (fY ..) (dh (cK ..)))) ?_);show(x.cps.extract b e).size<=_;exact O W8 (O dJ (aZ (yE ..) (BX (cC Y))))
 .rw[if_neg c]at h⊢;exact h s l m (.of (.refl _)) g (g8 _).symm (dM _)
theorem XM{a D:ah}{i:Array Nat}{x r:ai}{t H:mj}{fd:Nat->Option (Nat×Nat)}{R:Result->aq->Prop}(Y:x.cps.size<=100000)(Q:yX fd x.cps.size)(hs:∀M,M<=x.cps.size->Ends (rR i x.cps 0 M x.cps.size av) 400000 (fd M))(c:Nat):∀(M n:Nat)(s:aq)(l:List (ai×mj))(m:Nat),x.cps.size<c+M->M<=x.cps.size->mQ s.heap a i->s.heap.get? D=aa {cls:=.type "list",data:=.seq (jD l).toArray m}->((l.map (·.1)++fH fd x.cps r c M).map (·.length)).sum+(l.map (·.1)++fH fd x.cps r c M).length<=1048576->(∀g o,br [D] s g->R (.ok (.ret (.str (yP "" (l.map (·.1)++fH fd x.cps r c M)) o))) g)->pW (az PW w) A (.builtin "re.Pattern.sub.loop" ⟨[.ref a,.str x t,.str r H,e9 0,e9 0,e9 n,e9 M,e9 M,.bool av,.ref D,.bool av],[]⟩) R s:=by induction c with|zero=>intro M n s l m h h';exact absurd h (tT ((jn M).symm▸h'))|succ c V=>
intro M n s l m hf y p u j T;refine t6 (b:=Builtin.«re.Pattern.sub.loop») (Ae (by kernel_rfl)) ?_;refine O (ya (by decide+kernel) _) ?_;have I:l.length<=1048576:=by rw[cK,aH]at j;exact Q8 (HS j)
refine ao (J0 p (ao (m:=pure ()) (aM ?_)));have W:fH fd x.cps r (c+1) M=(fd M).elim (cut x.cps M x.cps.size) λq=>cut x.cps M q.1++r::fH fd x.cps r c q.2:=rfl;rw[W]at j T;refine ao (m:=reNextFound _ M av) (wpAny_run (hs M y) dk (λhn=>?_) λb e m' P h1 h2=>?_);.rw[hn]at j T;refine Lr u I Y λg l' m' k B e _=>ZT B (e▸j) λs'' o K=>?_;exact O e (T _ _ (k.trans K))
.have N:=Q M b e y P;rw[P]at j T;dsimp only;refine O h1 (O h2 ?_);refine Lr u I Y λU z S d f L X=>?_;refine ao (aM ?_);refine ao (m:=Gg D (·.push (.str r H))) (Lq (l:=z) f (aZ X (zl I)) λJ Z v F=>?_);have G:plainId "re.Pattern.sub.loop"=af:=by decide+kernel
 refine aM ⟨v9 G _,?_⟩;have C:(z++[(r,H)]).map (·.1)++fH fd x.cps r c e=l.map (·.1)++(cut x.cps M b++r::fH fd x.cps r c e):=by refine O fY (O L (O (fT ..) (O (fT ..) ?_)));rfl
 exact O (show(n:Int)+1=((n+1:Nat):Int)from rfl) (O (beq_false_of_ne (gb N.2.1)) (V e (n+1) J _ Z (iz hf (aZ (dh (rI c M)) (iy (gO N.1 N.2.1) c))) N.2.2 (p.kpx u rfl (d.trans v).kp) F (C▸j) λg o K=>C▸T _ _ ((d.trans v).trans K)))
end
end
section
open PySem.Builtin.Re
theorem entry_sub:Bp CL "re.Pattern.sub"=aa Builtin.«re.Pattern.sub»:=Ae (by kernel_rfl)
theorem XN(a b c:aj):sN "re.Pattern.sub" ⟨[a,b,c],[]⟩:=by unfold sN;refine O (signature?_of (id:="re.Pattern.sub") (n:=['b','u','s']) (o:=['n','r','e','t','t','a','P','.','e','r']) (by kernel_rfl) (rows:=Manifest.sig_re_Pattern) (by kernel_rfl)) ?_;kernel_rfl
theorem EA:tH "re.Pattern" "sub" "re.Pattern.sub":=.of (owner:="re.Pattern") (n:="sub") (by refine O (iR ..) (O iO ?_);kernel_rfl) (by decide+kernel) (by decide+kernel) (by decide+kernel) (by first|exact .inl (by decide+kernel)|exact .inr (by decide+kernel)) (by refine O (Ej ..) ?_;kernel_rfl)
theorem XO:uU (.builtin "re.Pattern.sub")=pure (.type "method_descriptor"):=by show builtinType _=_;refine O builtinType_eq_fast ?_;kernel_rfl
theorem Wn(a b:aj):reNamed "re.Pattern.sub" "sub" ["repl","string","count"] 2 [a,b] []=pure [aa a,aa b,ak]:=by rfl
theorem VC:jQ (.type "str") "__call__"=pure ak:=by kernel_rfl
theorem Tz:Ga "re.Pattern":=⟨⟨"object.__getattribute__",by refine O (iR ..) (O iO ?_);kernel_rfl,by decide+kernel⟩,by refine O (iR ..) (O iO ?_);kernel_rfl⟩
end
section
open PySem.Builtin.Re
def xG(fd:Nat->Option (Nat×Nat))(x r:ai):ai:=yP "" (fH fd x.cps r (x.cps.size+1) 0)
theorem CA.sub{A:aF}{X:List ah}{B:aA}{a:ah}{i:Array Nat}{x r:ai}{fd:Nat->Option (Nat×Nat)}(p:mQ B a i)(Y:x.cps.size<=100000)(Q:yX fd x.cps.size)(W:∀st,st<=x.cps.size->Ends (rR i x.cps 0 st x.cps.size av) 400000 (fd st))(D:r.cps.contains 92=av)(j:((fH fd x.cps r (x.cps.size+1) 0).map (·.length)).sum+(fH fd x.cps r (x.cps.size+1) 0).length<=1048576):CA A X B (.builtin "re.Pattern.sub") [.aI (.ref a),.str r,.str x] (.str (xG fd x r)):=λs E K k c=>by
 refine iU (ay.zo c) λu v z I=>?_;subst I;obtain rfl:=c.1.cR;refine aC c.2.1.eV λf I=>?_;subst I;refine aC c.2.2.1.eV λt I=>?_;subst I;have F:=p.kp k;have n:s.TypeIs (.ref a) "re.Pattern":=let⟨o,_,_,_,_,_,h1,J,_⟩:=F;⟨o,h1,J⟩;refine A8 (zY EA.plain entry_sub (EA.check _ _ _ _ _ _ _ _ n (XN _ _ _) ?_));show au _ _ (reSubstitute "re.Pattern.sub" "sub" av ⟨[.ref a,.str r f,.str x t],[]⟩) _ _ _;unfold reSubstitute;dsimp only;refine O (Wn ..) ?_;refine ao (aM ?_);dsimp only;refine ao (aM ?_);refine ao (wpAny_specialOf_val (T:="str") (r:=ak) rfl VC ?_);have d:¬(ak:Option aj).isSome=af:=dk;refine O (if_neg d) ?_;refine ao (m:=asStr? (.str r f)) (aM ?_);dsimp only;refine ao (aM ?_);rw[if_neg d,D,if_pos (by rfl)];refine ao (aM ?_);refine ao (dH (J0 F ?_));have l:¬((Fq r f,(0:Int)).snd==1)=af:=by show¬((0:Int)==1)=af;decide
 refine O (if_neg (by show¬((0:Int)==1)=af;decide)) ?_;refine ao (uc ?_ (by show(0:Nat)<=_;exact jo _));refine aM ⟨v9 (by decide+kernel) _,?_⟩;have g:Kp s.heap (s.heap.push {cls:=.type "list",data:=.seq #[]}):=λb o e=>bX _ e;have h:((([]:List (ai×mj)).map (·.1)++fH fd x.cps r (x.cps.size+1) 0).map (·.length)).sum+(([]:List (ai×mj)).map (·.1)++fH fd x.cps r (x.cps.size+1) 0).length<=1048576:=j;refine XM (D:=s.heap.objs.size) (l:=[]) Y Q W (x.cps.size+1) 0 0 {s with heap:=s.heap.push {cls:=.type "list",data:=.seq #[]}} 0 (gA _) (jo _) (F.kp g) (cE _ (by rfl)) h λS q w=>?_;refine⟨?_,.ni _ _⟩;refine Ks.qp (Ks.push s _) w λa m=>?_;replace m:=aW.mp m;exact O m (get?_none_of_le (cQ _))
section
variable{A:aF}{X:List ah}{B:aA}{G:aN}{P:Gm}
theorem EV.xbB{o L h:aS}{name:ai}{m R:aR}{id:String}{t p i r:T}(D:EV A G X B o t)(w:EV A G X B L p)(n:EV A G X B h i)(Q:∀(s:aq)(v:aj),Kp B s.heap->Rep X s.heap t v->∃l:String,Ga l/\tH l name id/\uU (.builtin id)=pure (.type "method_descriptor")/\s.TypeIs v l/\∀a,v=.ref a->∃S,s.heap.get? a=aa S/\S.dict=ak)(Z:CA A X B (.builtin id) [t,p,i] r)(f:autoParam (kJ o name G (aT o G)=aT o G) yAR)(W:autoParam (bh [L,h] G=[(av,aT L G),(av,aT h G)]) yAR)(u:autoParam ((m.endLine==R.line)=af) yAR):EV A G X B (.Call (.Attribute o name m) [L,h] [] R) r:=λs E k=>by refine Call_method2 f W u (aB (D s E k) (λg U x=>?_) λ_ _ e=>e);refine oi (Q U g (k.trans x.1.kp) x.2) λl a b c d e=>?_;refine⟨l,id,a,b,c,d,e,mz rfl rfl (mZ (n8 (aB (w U E (k.trans x.1.kp)) (λv J y=>n8 (aB (n J E (k.trans (x.1.trans y.1).kp)) (λq j C=>rV ?_) λ_ _ e=>e)) λ_ _ e=>e)))⟩;exact aB (Z j E [g,v,q] (k.trans ((x.1.trans y.1).trans C.1).kp) ⟨Rep.kp ((y.1.trans C.1).kp.bL X) _ _ x.2,Rep.kp (C.1.kp.bL X) _ _ y.2,C.2,trivial⟩) (λc j z=>⟨((x.1.trans y.1).trans C.1).trans z.1,z.2⟩) λ_ _ e=>e
theorem EV.Pn{o L h:aS}{m R:aR}{a:ah}{i:Array Nat}{x r:ai}{fd:Nat->Option (Nat×Nat)}(g:EV A G X B o (.aI (.ref a)))(w:EV A G X B L (.str r))(n:EV A G X B h (.str x))(p:mQ B a i)(Y:x.cps.size<=100000)(Q:yX fd x.cps.size)(I:∀st,st<=x.cps.size->Ends (rR i x.cps 0 st x.cps.size av) 400000 (fd st))(D:r.cps.contains 92=av)(j:((fH fd x.cps r (x.cps.size+1) 0).map (·.length)).sum+(fH fd x.cps r (x.cps.size+1) 0).length<=1048576)(b:autoParam (kJ o "sub" G (aT o G)=aT o G) yAR)(W:autoParam (bh [L,h] G=[(av,aT L G),(av,aT h G)]) yAR)(u:autoParam ((m.endLine==R.line)=af) yAR):EV A G X B (.Call (.Attribute o "sub" m) [L,h] [] R) (.str (xG fd x r)):=EV.xbB g w n (λs v k r=>by obtain rfl:=r.cR;have F:=p.kp k;obtain⟨o,_,_,_,_,_,h1,J,c,_⟩:=F;exact⟨"re.Pattern",Tz,EA,XO,⟨o,h1,J⟩,λa e=>by injection e with e;subst e;exact⟨o,h1,c⟩⟩) (CA.sub p Y Q I D j) b W u
end
def kB(t:Array Nat)(s:Nat):Option (Nat×Nat):=sy t (t.size-s) s
def kC(t:Array Nat)(s:Nat):Option (Nat×Nat):=sA t (t.size-s) s
theorem Oj(t:Array Nat):yX (kB t) t.size:=λs b e h=>Lm (λs h _=>⟨gA s,h⟩) s (qy h)
theorem XQ{t:Array Nat}(h:s<t.size):s<endAt t s/\endAt t s<=t.size:=by
 unfold endAt;by_cases c:(t.getD s 0==13&&decide (s+1<t.size)&&t.getD (s+1) 0==10)=af;.have c2:=(dZ _ _).mp ((dZ _ _).mp c).1;exact O (if_pos c) ⟨vM dk,of_decide_eq_true c2.2⟩
 .exact O (if_neg c) ⟨gA s,h⟩
theorem Ol(t:Array Nat):yX (kC t) t.size:=λs b e h=>Lm (λs h _=>XQ h) s (qy h)
def rj(x:ai):ai:=xG (kC x.cps) x "\r\n"
def HH(x:ai):ai:=xG (kB x.cps) x ".."
def gf(x:ai):ai:=HH (rj x)
noncomputable def sD(fd:Nat->Option (Nat×Nat))(x r:ai):Prop:=x.cps.size<=100000/\((fH fd x.cps r (x.cps.size+1) 0).map (·.length)).sum+(fH fd x.cps r (x.cps.size+1) 0).length<=1048576
noncomputable def Qy(o:bR):Array aj:=match o.data with|.seq x _=>x|_=>#[]
theorem Qz{a ca:ah}{o oc:bR}{i:Array Nat}(e:h1.get? a=aa o)(X:h1.get? ca=aa oc)(n:a∉[PL])(f:ca∉[PL])(J:o.cls=.type "re.Pattern"/\o.dict=ak/\o.data=.fields (qh o)/\(qh o).getD 5 .none=.ref ca/\reRawNat ((qh o).getD 6 .none)=0/\reRawNat ((qh o).getD 2 .none)=0)(b:oc.data=.seq (Qy oc) 0/\oc.cls=.type "tuple"/\((Qy oc).map reRawOf).map (·.toNat)=i):mQ hH a i:=⟨o,oc,_,ca,_,0,ku e n,J.1,J.2.1,J.2.2.1,J.2.2.2.1,J.2.2.2.2.1,J.2.2.2.2.2,ku X f,b.1,b.2.1,b.2.2⟩
theorem xfZ:mQ hH 85 c1:=Qz (o:=MineH.OZ) (oc:=MineH.OY) (ca:=84) (by kernel_rfl) (by kernel_rfl) dk dk ⟨by kernel_rfl,by kernel_rfl,by kernel_rfl,by kernel_rfl,by kernel_rfl,by kernel_rfl⟩ ⟨by kernel_rfl,by kernel_rfl,by kernel_rfl⟩
theorem xga:mQ hH 90 c2:=Qz (o:=MineH.O1) (oc:=MineH.O0) (ca:=89) (by kernel_rfl) (by kernel_rfl) dk dk ⟨by kernel_rfl,by kernel_rfl,by kernel_rfl,by kernel_rfl,by kernel_rfl,by kernel_rfl⟩ ⟨by kernel_rfl,by kernel_rfl,by kernel_rfl⟩
theorem Uo{A:aF}{X:List ah}{B:aA}{n:Nat}{x:ai}(u:cF A (n+1))(N:Top X B)(b:sD (kC x.cps) x "\r\n")(a:sD (kB (rj x).cps) (rj x) ".."):CA A X B (.ref 167) [.str x] (.str (gf x)):=by refine CA.top N8 N u rfl rfl rfl λs U E Z L f k i C=>?_;have j:Kp B U.heap:=k.trans f.ks.kp;refine di (FS.ret f ((EV.Pn (EV.glob f.cx (by exact UQ)) EV.str (EV.Pn (EV.glob f.cx (by exact UR)) (EV.glob f.cx (by exact xby)) (EV.name f.cx) (xga.kp (N.K.trans j)) b.1 (Ol _) (λM h=>(ZP _ M h).mono dk) (by decide+kernel) b.2) (xfZ.kp (N.K.trans j)) a.1 (Oj _) (λM h=>(ZO _ M h).mono ?_) (by decide+kernel) a.2).less inR) λv S k r=>⟨k,r⟩);exact cC (qv (mY 3 (aZ (yE ..) a.1)) 6)
end
noncomputable def elt(p:Int×ai)(i:Int):T:=if i=0 then .int p.1 else .str p.2
noncomputable def l9(a b:Int×ai)(i:Int):Bool:=if i=0 then decide (a.1<b.1)else decide (a.2.cps.toList<b.2.cps.toList)
def j8(a b:Int×ai):List (Int×Int)->Int|[]=>0|(i,d)::r=>if l9 a b i then-d else if l9 b a i then d else j8 a b r
theorem Ls(h:∀q∈l,l9 a b q.1=av/\l9 b a q.1=av):j8 a b (l++r)=j8 a b r:=by induction l with|nil=>rfl|cons q l G=>obtain⟨i,d⟩:=q;have:=h (i,d) (aP ..);rw[z6,j8,this.1,this.2];exact G λq m=>h q (aY _ m)
section
variable{A:aF}{X:List ah}{B:aA}{G:aN}{c:Gm}
theorem aX.l9:aX A X B .Lt (elt a i) (elt b i) (l9 a b i):=λs E u v k J d=>by
 unfold elt at J d;unfold Mine.l9;split at J;.rename_i e;rw[if_pos e]at d⊢;exact aX.lt s E u v k J d
 .rename_i e;rw[if_neg e]at d⊢;refine aC J.eV λt z=>?_;subst z;refine aC d.eV λg z=>?_;subst z;exact P.lt_str ⟨.refl _,rfl⟩
theorem aX.gtE:aX A X B .Gt (elt a i) (elt b i) (Mine.l9 b a i):=λs E u v k J d=>by
 unfold elt at J d;unfold Mine.l9;split at J;.rename_i e;rw[if_pos e]at d⊢;exact aX.gt s E u v k J d
 .rename_i e;rw[if_neg e]at d⊢;refine aC J.eV λt z=>?_;subst z;refine aC d.eV λg z=>?_;subst z;exact P.gt_str ⟨.refl _,rfl⟩
end
noncomputable def mh(q:Int×Int):T:=.tup [.int q.1,.int q.2]
noncomputable def pe(p:Int×ai):T:=.tup [.int p.1,.str p.2]
theorem A0{i:Int}(h:i=0\/i=1):([T.int p.1,T.str p.2]:List T)[i.toNat]?=aa (elt p i):=by rcases h with rfl|rfl<;>rfl
theorem KW{h h':aA}(k:Kp h h')(I:h.InstFk x C D):h'.InstFk x C D:=by refine fU I λo a b c d=>?_;refine⟨o,k _ _ a,b,c,d.imp id λ⟨d,e,f,g,i⟩=>⟨d,e,f,g.keeps λb o=>k b o,i.keeps λb o=>k b o⟩⟩
theorem UU{h:aA}(I:h.InstFk x C D):h.Inst x C D:=by refine fU I λo a b c d=>?_;exact⟨o,a,b,c,d.imp id λ⟨d,e,f,g,i⟩=>⟨d,e,f,g⟩⟩
structure xH(h:aA)(C N:ah)(j:ai->Option aj):Prop where obj:∃(n q:ai)(z:List aj)(s:List ai)(T:List aj)(a:Option Bool)(m:Option ah)(H V M r W:Option aj),h.get? C=aa (Fp n q C N z [.type "object"] af s T av a m H V M r W "object.__new__")ns:h.Ns N j
theorem xH.kp(k:Kp h h')(c:xH h C N j):xH h' C N j:=by obtain⟨n,q,z,s,T,a,m,H,V,M,r,W,e⟩:=c.obj;exact⟨⟨n,q,z,s,T,a,m,H,V,M,r,W,k _ _ e⟩,c.ns.keeps λb o=>k b o⟩
theorem xH.t(c:xH h C N j):xF h C N j:=by obtain⟨n,q,z,s,T,a,m,H,V,M,r,W,e⟩:=c.obj;exact⟨⟨n,q,z,s,T,av,a,m,H,V,M,r,W,_,e⟩,c.ns⟩
noncomputable def j4(o:bR):ClassData:=match o.data with|.cls c=>c|_=>default
def qj(o:bR)(i:Nat):Option aj:=o.slots.toList[i]?.getD ak
noncomputable def rF:ai->Option aj:=hH.nsMap 54
theorem u5:xH hH 55 54 rF:=⟨⟨(j4 MineH.nv).name,(j4 MineH.nv).qualname,(j4 MineH.nv).bases,(j4 MineH.nv).slotNames,(j4 MineH.nv).subclasses,(j4 MineH.nv).collection,ak,qj MineH.nv 0,qj MineH.nv 1,qj MineH.nv 2,qj MineH.nv 3,qj MineH.nv 5,ku (by kernel_rfl)⟩,.of_isNs (by kernel_rfl)⟩
theorem XR:rF "__init__"=aa (.ref 45):=by kernel_rfl
theorem UW:rF "compare"=aa (.ref 52):=by kernel_rfl
theorem Om:rF "__getattribute__"=ak:=by kernel_rfl
theorem xbC:rF "__getattr__"=ak:=by kernel_rfl
theorem xbD:rF "__setattr__"=ak:=by kernel_rfl
theorem Oo:rF "comp_select_list"=ak:=by kernel_rfl
theorem xgb:hH.get? 45=aa (MineH.zc PW):=ku (by kernel_rfl)
theorem xdx:(MineH.zc PW).cls=.type "function":=by kernel_rfl
theorem xgc:hH.get? 52=aa (MineH.uI PW):=ku (by kernel_rfl)
theorem xdy:(MineH.uI PW).cls=.type "function":=by kernel_rfl
theorem xdz:(MineH.uI PW).data=.func (fdOf (MineH.uI PW)):=by kernel_rfl
section
variable{A:aF}{E:aj->aq->Prop}
theorem Wo{s:aq}(K:Kp hH s.heap)(P:cF A (n+1))(I:s.heap.InstFk x 55 λ_=>ak)(p:x≠55)(X:∀g,g.heap.InstFk x 55 (λy=>if y="comp_select_list"then aa v else ak)->(∀b o,b≠x->(∀c d,s.heap.get? x=aa c->c.dict=aa d->b≠d)->s.heap.get? b=aa o->g.heap.get? b=aa o)->g={s with heap:=g.heap,toks:=g.toks}->(∀c,s.heap.get? x=aa c->∃k,g.heap.get? x=aa k/\∀d,c.dict=aa d->k.dict=aa d)->Q .none g):au (az PW w) A (dO (.ref 45) [.ref x,v] []) Q E s:=by
 refine wk (X:=[]) (ts:=[.aI (.ref x),.aI v]) (xbw.kp K) (rE.kp K) P (λa m=>absurd m b9) b9 b9 rfl ⟨.ie _,.ie _,trivial⟩ λU E Z L f H hw=>?_;have z:=KW f.ks.kp I;have c1:=(u5.kp K).kp f.ks.kp;refine di (I7 (aB ((EV.name f.cx) U E λ_ _ e=>e) (λv' J y=>?_) λ_ _ e=>e));refine aV y λM r2=>?_;obtain rfl:=r2.cR;refine aB ((EV.name f.cx) J E M.kp) (λo j y=>?_) λ_ _ e=>e;refine aV y λr F=>?_;obtain rfl:=F.cR;have l:=(M.trans r).kp;have i:Ks s j:=f.ks.trans (M.trans r);obtain⟨t,q',bs,sn,T,q,dd,e0,e1,e2,e3,e5,S⟩:=(c1.kp l).obj;have C:=KW l z;refine store_attrFk PySem.F.store_object S (c1.kp l).ns xbD Oo (by refine O (iR ..) (O iO ?_);kernel_rfl) p C λh' V G N h=>?_;refine X _ G (λb o R u e=>N b o R (λc d D h1=>?_) (i.kp b o e)) ?_ λc e=>let⟨k,a,_,_,_,b⟩:=h c (i.kp _ _ e);⟨k,a,b⟩;.refine aG I λox Y _=>?_;have:=i.kp _ _ Y;replace D:=this▸D;cases D;exact u _ d Y h1
 .have e:=i.eq;show({heap:=h',gens:=j.gens,drawn:=j.drawn,toks:=V,os:=j.os}:aq)=_;have B:j.gens=s.gens:=by exact O e rfl
  have e6:j.drawn=s.drawn:=by exact O e rfl
  have W:j.os=s.os:=by exact O e rfl
  exact O B (O e6 (O W rfl))
theorem Wq{s:aq}(K:Kp hH s.heap)(u:cF A (n+2)):au (az PW w) A (dO (.ref 55) [v] []) (λr S=>Ks s S/\∃x,r=.ref x/\s.heap.get? x=ak/\S.heap.Inst x 55 (λy=>if y="comp_select_list"then aa v else ak)/\∀o d,S.heap.get? x=aa o->o.dict=aa d->s.heap.get? d=ak) E s:=by
 obtain⟨l,R,U,B,T,f,V,C,H,L,M,m,a⟩:=(u5.kp K).obj;obtain⟨h,I,d,t,P⟩:=s;refine wpAny_call_obj_initFk PySem.F.objNew a (u5.kp K).ns XR (K _ _ xgb) xdx λh' x F Q=>?_;have W:Kp h h':=Q.keeps;have p:x≠55:=λq=>by have:=Q.newX;replace this:=q▸this;replace this:=(show h.get? 55=aa _ from a)▸this;cases this
 have i:cF (A.under (.builtin "type.__call__" ⟨.ref 55::[v],[]⟩)) (n+1):=⟨u.hd,by
have:=u.dep;have e:(ue "type.__call__" ⟨.ref 55::[v],[]⟩).weight=1:=by first|rfl|kernel_rfl|simp[xen]
show A.depth+(ue "type.__call__" ⟨.ref 55::[v],[]⟩).weight+(n+1)<660;exact PY this e,by
have:=u.jJ;have e:(ue "type.__call__" ⟨.ref 55::[v],[]⟩).cUnits=1:=by first|rfl|kernel_rfl
show A.units+(ue "type.__call__" ⟨.ref 55::[v],[]⟩).cUnits+8*(n+1)<2000;exact PX this e⟩;refine Wo (n:=n) (s:=⟨h',I,d,t,P⟩) (K.trans W) i Q.inst p λS G N j z=>⟨rfl,⟨λb o e=>?_,?_⟩,x,rfl,Q.newX,UU G,λo X H L=>?_⟩
 .refine N b o (λq=>?_) (λc g D h1 q=>?_) (W b o e);.have:=Q.newX;replace e:=q▸e;exact gone e this
  .have J:=Q.dict c D;replace J:=h1▸J;cases J;have:=Q.newD;replace e:=q▸e;exact gone e this
 .exact O j rfl
 .refine aG Q.inst λc D _=>?_;refine aG (z c D) λk h1 J=>?_;replace H:=h1▸H;cases H;replace L:=J F (Q.dict c D)▸L;cases L;exact Q.newD
end
noncomputable def dF(S:List ah)(h h':aA):Prop:=∀b∈S,∀o,h.get? b=aa o->∃J,h'.get? b=aa {o with slots:=J}
theorem dF.refl(S:List ah)(h:aA):dF S h h:=λb _ o e=>⟨o.slots,e⟩
theorem dF.trans(x:dF S a b)(y:dF S b c):dF S a c:=λd m o e=>by refine aC (x d m o e) λJ H=>?_;refine aC (y d m _ H) λf L=>?_;exact⟨f,L⟩
theorem dF.of(k:bf V h h')(n:∀b∈S,b∉V):dF S h h':=λb m o e=>⟨o.slots,k b o (n b m) e⟩
section
variable{A:aF}{H:List ah}{N B s c:aq}{Z:List ah}{G:aN}{g d:Gm}{M:List (ah×T)}{E:aj->aq->Prop}
theorem FS.xgd{L:Type}{W u:aS}{i:List cZ}{V:aR}{as:List L}{kf:L->T}{cU:List L->Gm}{iw:List L->L->Gm}{Mf:List L->List (ah×T)}{Q:ek->aq->Prop}(S:List ah)(hS:∀b∈S,b∈H)(R:∀b∈S,b∉Z)(P:List L->Prop)(hP:P [])(f:FS H N B s Z G (cU []) (Mf []))(hi:IT A G (Z++H) s.heap u W (as.map kf))(hM:∀l,(Mf l).map (·.1)=(Mf []).map (·.1))(Y:∀l a,(∃r,as=l++a::r)->AS A G (aK G) W (kf a) (cU l) (iw l a))(t:∀l a,(∃r,as=l++a::r)->P l->∀z U E,(∀b∈S,b∉z++Z)->FS H N U U (z++Z) G (iw l a) (Mf l)->(∀{J:aq}{h:Gm}{j6:List (ah×T)},j6.map (·.1)=(Mf []).map (·.1)->FS H N J J (z++Z) G h j6->dF S U.heap J.heap->FS H N J J Z G h j6/\dF S s.heap J.heap)->au (az PW w) A (b8 i G) (EW (λJ=>P (l++[a])/\FS H N J J (z++Z) G (cU (l++[a])) (Mf (l++[a]))/\bf (aK G++(Mf []).map (·.1)++S) U.heap J.heap/\dF S U.heap J.heap) Q) E U)(F:∀c,P as->FS H N c c Z G (cU as) (Mf as)->dF S s.heap c.heap->Q .next c)(hs:autoParam (∀x,g7 u G x=pure x) yAI):au (az PW w) A (dY (.For W u i [] V) G) Q E s:=by
 have C:∀z:List ah,(∀b∈z,s.heap.get? b=ak)->∀b∈S,b∉z:=λz n b m q=>(f.cx.live b (cJ _ (hS b m))).elim λo e=>gone e (n b q);refine FS.Qk (aK G++(Mf []).map (·.1)++S) (λc=>dF S s.heap c.heap) P hP f (λb m=>?_) hi hM Y (λc k=>.of (k.kp.bL []) λ_ _=>b9) (λz U J n j k=>j.trans (.of k.kp (C z n))) (λU J j k=>j.trans (.of k.kp λb m n=>R b m (f.own b n))) (λl a hl X z U E hw j I K=>mono (t l a hl X z U E (λb m n=>(bC.mp n).elim (C z hw b m) (R b m)) I λe D so=>⟨K e D,j.trans so⟩) λfl J y=>?_) F hs
 .refine bw (bC.mp m) (λm=>?_) λm=>?_;.exact bI _ ((bC.mp m).elim (f.own b) (mem_keys rfl (λp m=>(f.acc p m).1) b))
  .exact cJ _ (hS b m)
 .cases fl with|next=>exact⟨y.1,y.2.1,y.2.2.1,j.trans y.2.2.2⟩|cont=>exact⟨y.1,y.2.1,y.2.2.1,j.trans y.2.2.2⟩|brk=>exact y|ret v=>exact y
end
noncomputable def DI(d:List (Int×T)):T:=.dI (d.map (·.1)) (d.map (·.2))
noncomputable def Po(d:List (Int×T))(k:Int):Option T:=(d.find? λp=>p.1=k).map (·.2)
section
variable{A:aF}{X:List ah}{h₀:aA}{G:aN}
theorem cS.dI(H:Po d k=aa t)(W:autoParam (jT h) yAW):cS A X h₀ f h (DI d) (.int k) t:=λs E a b j Y o=>by refine aC o.cL λu z=>?_;subst z;refine jP Y.xbp λD g z n C p e r=>?_;subst z;refine aG ((Ai (k:=k) r).2 t H) λv K c=>?_;exact G4 p.typeIs slot_dict_getitem.lookup (xel (PK PW w k u) p.mapOf K ⟨.tok ..,c⟩) (W _ _)
theorem CA.abs:CA A X h₀ (.builtin "abs") [.int i] (.int (if i<0 then-i else i)):=λs E K k r=>by refine aC (ay.jy r) λv z=>?_;subst z;have r:=r.1;refine aC r.cL λt z=>?_;subst z;exact call_abs_int λu a=>⟨.tok ..,.fO _ _⟩
theorem bD.QA{a b:List T}(d:bJ X h₀)(I:a.length+b.length<=100000):bD A X h₀ .Add (.list a) (.list b) (.list (a++b)):=λs E u v k J c=>by
 refine cH J.d8 λl xs z i V q=>?_;subst z;refine cH c.d8 λm f z h Q R=>?_;subst z;refine aC V λn g=>?_;refine aC Q λP t=>?_;have H:xs.size=a.length:=by exact aQ dm (O q.length rfl)
 have L:f.size=b.length:=by exact aQ dm (O R.length rfl)
 refine EN ⟨_,g,rfl⟩ ⟨_,t,rfl⟩ xet seq_list_add PySem.F.slot_list_add PySem.F.entry_list_add (PySem.F.args_list_add_2 _ _) (list_addW l m xs f n P ak ak #[] #[] (by exact O dJ (Hf I H L))) ⟨g,t,?_⟩;have W:Kp s.heap (s.heap.push {cls:=.type "list",data:=.seq (xs++f)}):=λb o e=>bX _ e;refine⟨.push ..,?_⟩;refine⟨_,_,rfl,(d.kp k).new,⟨_,cE _ rfl⟩,?_⟩;exact O tO (ay.append (ay.kp (W.bL X) _ _ q) (ay.kp (W.bL X) _ _ R))
theorem aX.neS{x y:ai}:aX A X h₀ .NotEq (.str x) (.str y) (x.cps.toList !=y.cps.toList):=λs E u v k J c=>by obtain⟨t,rfl⟩:=J.eV;obtain⟨g,rfl⟩:=c.eV;exact P.ne_str ⟨.refl _,rfl⟩
noncomputable def pD(a b:Int×ai)(i:Int):Bool:=if i=0 then a.1 !=b.1 else a.2.cps.toList !=b.2.cps.toList
theorem aX.pD:aX A X h₀ .NotEq (elt a i) (elt b i) (Mine.pD a b i):=λs E u v k J c=>by
 unfold elt at J c;unfold Mine.pD;split at J;.rename_i e;rw[if_pos e]at c⊢;exact aX.ne s E u v k J c
 .rename_i e;rw[if_neg e]at c⊢;exact aX.neS s E u v k J c
theorem noPylong{i j:Int}(h:j.natAbs<2^64):CP i j=av:=by
 unfold CP;have:¬(if j==0 then 0 else j.natAbs.log2/30+1)>300:=by
  split;.exact Kz _
  .rename_i Y;have K:j.natAbs≠0:=by intro e;apply Y;simp[JW.mp e]
   exact rX.mpr (cC (Nat.succ_le_of_lt (gO (Nat.div_le_self ..) ((Nv K).mpr h))))
 simp only[decide_eq_false this,Bool.false_and]
theorem bD.uL{i j:Int}(h:0<j)(J:j<1000000000000000000):bD A X h₀ .FloorDiv (.int i) (.int j) (.int (i.fdiv j)):=bD.fdiv (Em h) (noPylong (BV (kN h) J))
theorem bD.uM{i j:Int}(h:0<j):bD A X h₀ .Mod (.int i) (.int j) (.int (i.fmod j)):=bD.fmod (Em h)
theorem xdA{i j:Int}(h:i.natAbs<2^63):IntMulOk i j:=IntMulOk.of_left (by
unfold zS;split;.exact jo _
.rename_i F;have K:i.natAbs≠0:=by intro e;apply F;simp[JW.mp e]
 have:i.natAbs.log2<63:=(Nv K).mpr h;exact vW this)
theorem bD.zq{i j:Int}(h:i.natAbs<2^63):bD A X h₀ .Mult (.int i) (.int j) (.int (i*j)):=bD.mul (xdA h)
theorem bD.xge{j:Int}(h:0<=j)(J:j<=100):bD A X h₀ .Pow (.int 4) (.int j) (.int (4^j.toNat)):=bD.pow h (by have:zS 4=3:=dk;exact O this (gG (I8 J dk) dk))
end
theorem JP{n:Nat}{A lt':Nat->Nat->Bool}(h:∀i j,i<n->j<n->A i j=lt' i j)(t:KasT (Array Nat)):l8 n t=af->jV A t=jV lt' t:=by induction t with|ret a=>exact λ_=>rfl|ask i j k G=>intro o;refine gW (AX o) λa b c=>?_;show jV A (k (A i j))=jV lt' (k (lt' i j));exact O (h i j a b) (G _ (c _))
def bl(a b c d e f:Bool)(i j:Nat):Bool:=([[av,a,b,c],[!a,av,d,e],[!b,!d,av,f],[!c,!e,!f,av]].getD i []).getD j av
noncomputable def trB(A:Nat->Nat->Bool):Bool:=(gc 4).all λi=>(gc 4).all λj=>(gc 4).all λk=>!(A i j&&A j k)||A i k
theorem VD:∀a b c d e f:Bool,trB (bl a b c d e f)=af->(jV (bl a b c d e f) (lK 4)).toList.Perm [0,1,2,3]/\(jV (bl a b c d e f) (lK 4)).toList.Pairwise λi j=>bl a b c d e f i j=af:=by decide+kernel
theorem wK(p:Int×Int):fc p p=av:=by simp[fc]
theorem KX(h:p≠q):fc p q=!fc q p:=by
 unfold fc;by_cases e:p.1=q.1
 .have:p.2≠q.2:=λL=>h (Prod.ext e L);refine O (if_pos e) (O (if_pos e.symm) ?_);by_cases g:p.2<q.2;.have:¬q.2<p.2:=En g;simp[g,this]
  .have:q.2<p.2:=je (fD.mp g) (gu this);simp[g,this]
 .refine O (if_neg e) (O (if_neg (gu e)) ?_);by_cases g:p.1<q.1;.have:¬q.1<p.1:=En g;simp[g,this]
  .have:q.1<p.1:=je (fD.mp g) (gu e);simp[g,this]
theorem A1:fc p q=af↔p.1<q.1\/p.1=q.1/\p.2<q.2:=by
 unfold fc;by_cases e:p.1=q.1;.refine O (if_pos e) ?_;simp[e]
 .refine O (if_neg e) ?_;simp[e]
theorem Wr(h:fc p q=af)(g:fc q r=af):fc p r=af:=by exact A1.mpr ((A1.mp h).elim (λa=>.inl ((A1.mp g).elim (m6 a) λb=>b.1▸a)) λa=>(A1.mp g).elim (λb=>.inl (a.1▸b)) λb=>.inr ⟨a.1.trans b.1,m6 a.2 b.2⟩)
theorem pg{p:Nat->Prop}(D:p 0)(h1:p 1)(J:p 2)(R:p 3)(i:Nat)(h:i<4):p i:=by rcases PO h with e|e|e|e<;>exact e▸by assumption
theorem xdB{lt:Nat->Nat->Bool}(g:∀i,i<4->lt i i=false)(l:∀i j,i<4->j<4->i≠j->lt i j=!lt j i)(f:∀i j k,i<4->j<4->k<4->lt i j=true->lt j k=true->lt i k=true):(jV lt (lK 4)).toList.Perm [0,1,2,3]/\(jV lt (lK 4)).toList.Pairwise λi j=>lt i j=true:=by
 have e:∀i,i<4->∀j,j<4->lt i j=bl (lt 0 1) (lt 0 2) (lt 0 3) (lt 1 2) (lt 1 3) (lt 2 3) i j:=by have d:=λi=>g i;have t:=λi j(a:i<4)(b:j<4)(c:i≠j)=>l i j a b c;exact pg (pg (d 0 dk) rfl rfl rfl) (pg (t _ _ dk dk dk) (d 1 dk) rfl rfl) (pg (t _ _ dk dk dk) (t _ _ dk dk dk) (d 2 dk) rfl) (pg (t _ _ dk dk dk) (t _ _ dk dk dk) (t _ _ dk dk dk) (d 3 dk))
 obtain⟨Q,Z⟩:=VD (lt 0 1) (lt 0 2) (lt 0 3) (lt 1 2) (lt 1 3) (lt 2 3) (cg.mpr λi F=>cg.mpr λj Y=>cg.mpr λk N=>by have F:=rN.mp F;have Y:=rN.mp Y;have N:=rN.mp N;refine aQ (e i F j Y) (aQ (e j Y k N) (aQ (e i F k N) ?_));cases h1:lt i j with|false=>rfl|true=>cases J:lt j k with|false=>rfl|true=>refine O (f i j k F Y N h1 J) ?_;rfl);rw[<-JP (λi j a b=>e i a j b) _ B8]at Q Z;have n:∀{i},i∈(jV lt (lK 4)).toList->i<4:=λm=>(by decide:∀i∈[0,1,2,3],i<4) _ (Q.mem_iff.mp m);exact⟨Q,Z.imp_of_mem λa b h=>(e _ (n a) _ (n b)).trans h⟩
noncomputable def mk(v p:Int):Int:=(v.fdiv (4^p.toNat)).fmod 4
def lY(v:Int):Int:=([1,-2]:List Int).getD ((v.fdiv 256).fmod 2).toNat 0
def lZ(v:Int):Int:=([3,-4]:List Int).getD ((v.fdiv 512).fmod 2).toNat 0
noncomputable def gJ:List ai:=["fi","k","ss","st","tel"]
def bB(i:Int):ai:=gJ.getD i.toNat ""
def rowAt(v I o:Int):Int×ai:=(mk v ((cW I).idxOf o),bB o)
def keysOf(v:Int):List (Int×Int):=[(0,lY v),(1,lZ v)]
def g4(v I o:Int):Int×Int:=((rowAt v I o).1*lY v,o*lZ v)
def cX(v I:Int):List Int:=AY (g4 v I) (cW I)
def qP(v I one:Int):List Int:=(cX v I).map λi=>j8 (rowAt v I i) (rowAt v I one) (keysOf v)
def xJ(a b:Int×ai)(l:List (Int×Int)):Int:=(((l.filter λ(q:Int×Int)=>pD a b q.1).map λ(q:Int×Int)=>if q.2<0 then-q.2 else q.2)++[0]).getD 0 0
def mR(v I one i:Int):Int:=xJ (rowAt v I i) (rowAt v I one) (keysOf v)
def jW(v I a one:Int):List Int:=(en 0 (cX v I)).map λq=>mR v I one q.2*if a<q.1 then 1 else-1
def toldOf(v I:Int):List (List Int):=(en 0 (cX v I)).map λq=>qP v I q.2
def GP(v I:Int):List (List Int):=(en 0 (cX v I)).map λq=>jW v I q.1 q.2
def oO(v I:Int):List (Int×Int):=(PE (toldOf v I) (cX v I)).map λq=>(((q.1.filter λn=>decide (n<0)).length:Int),q.2)
theorem sE(a:Int):a.fmod 2=0\/a.fmod 2=1:=O (Int.fmod_eq_emod_of_nonneg a dk) (Int.emod_two_eq a)
theorem ML(v:Int):lY v=1\/lY v=-2:=by unfold lY;rcases sE (v.fdiv 256)with e|e<;>rw[e]<;>simp
theorem E1(v:Int):lZ v=3\/lZ v=-4:=by unfold lZ;rcases sE (v.fdiv 512)with e|e<;>rw[e]<;>simp
theorem xhz:∀a∈r5,∀b∈r5,decide ((bB a).cps.toList<(bB b).cps.toList)=decide (a<b):=by decide+kernel
theorem xhA:∀a∈r5,∀b∈r5,((bB a).cps.toList !=(bB b).cps.toList)=(a !=b):=by decide+kernel
theorem Kh(h:o∈cW I):o∈r5/\o≠I:=by refine aV (d7.mp h) λa b=>?_;exact⟨a,by simpa using b⟩
theorem Oq(v p:Int):mk v p∈([0,1,2,3]:List Int):=by have h1:=vP (v.fdiv (4^p.toNat)) (b:=4) dk;have J:=rK (v.fdiv (4^p.toNat)) (b:=4) dk;have h:=PS h1 J;unfold mk;rcases h with e|e|e|e<;>rw[e]<;>decide
theorem MM(v:Int):lY v∈([1,-2]:List Int)/\lZ v∈([3,-4]:List Int):=⟨by rcases ML v with e|e<;>rw[e]<;>decide,by rcases E1 v with e|e<;>rw[e]<;>decide⟩
noncomputable abbrev xgf(s j a b d e:Int):Prop:=(a=b->s=j)->j8 (s,bB a) (j,bB b) [(0,d),(1,e)]=(if a=b then 0 else if fc (s*d,a*e) (j*d,b*e)then-xJ (s,bB a) (j,bB b) [(0,d),(1,e)]else xJ (s,bB a) (j,bB b) [(0,d),(1,e)])/\(a≠b->0<xJ (s,bB a) (j,bB b) [(0,d),(1,e)])
theorem ZU:∀s∈([0,1,2,3]:List Int),∀j∈([0,1,2,3]:List Int),∀a∈r5,∀b∈r5,∀d∈([1,-2]:List Int),∀e∈([3,-4]:List Int),xgf s j a b d e:=by decide+kernel
theorem xbE(K:a∈r5)(R:b∈r5):j8 (rowAt v who a) (rowAt v who b) (keysOf v)=(if a=b then 0 else if fc (g4 v who a) (g4 v who b)then-mR v who b a else mR v who b a)/\(a≠b->0<mR v who b a):=ZU _ (Oq v _) _ (Oq v _) a K b R _ (MM v).1 _ (MM v).2 λe=>e▸rfl
theorem XS:mR v I a a=0:=by unfold mR xJ;simp[keysOf,pD]
theorem Lu(h:g4 v I a=g4 v I b):a=b:=Int.eq_of_mul_eq_mul_right (by rcases E1 v with d|d<;>rw[d]<;>decide) (congrArg qL h)
theorem wL:∀I∈r5,(cW I).length=4/\(cW I).Nodup:=by decide+kernel
theorem yD{v I:Int}(C:I∈r5):(cX v I).Perm (cW I)/\(cX v I).Pairwise λa b=>fc (g4 v I a) (g4 v I b)=af:=by
 refine aV (wL I C) λV K=>?_;refine AQ (JO I C) λa b c d e=>?_;have E:∀i,i<4->((cW I).map (g4 v I)).getD i (0,0)=g4 v I ((cW I).getD i 0):=by exact O e (pg rfl rfl rfl rfl)
 have l:∀i j,i<4->j<4->((cW I).map (g4 v I)).getD i (0,0)=((cW I).map (g4 v I)).getD j (0,0)->i=j:=λi j F Y q=>by rw[E i F,E j Y]at q;have:=Lu q;rw[<-V6 (h:=V▸F),<-V6 (h:=V▸Y)]at this;exact(List.getElem_inj K).mp this
 refine aV (xdB (lt:=λi j=>fc (((cW I).map (g4 v I)).getD i (0,0)) (((cW I).map (g4 v I)).getD j (0,0))) (λi F=>wK _) (λi j F Y f=>KX λq=>f (l i j F Y q)) λi j k _ _ _ h g=>Wr h g) λQ W=>?_;have B:cX v I=((jV (λi j=>fc (((cW I).map (g4 v I)).getD i (0,0)) (((cW I).map (g4 v I)).getD j (0,0))) (lK 4)).toList).map λi=>(cW I).getD i 0:=by unfold cX AY lN;exact O (aH ..) (O V rfl)
 refine O B ?_;have n:∀{i},i∈(jV (λi j=>fc (((cW I).map (g4 v I)).getD i (0,0)) (((cW I).map (g4 v I)).getD j (0,0))) (lK 4)).toList->i<4:=λm=>(by decide:∀i∈[0,1,2,3],i<4) _ (Q.mem_iff.mp m);refine⟨(Q.map _).trans (by exact O e (.refl _)),Dn.mpr (W.imp_of_mem λm H h=>?_)⟩;exact aQ (E _ (n m)) (aQ (E _ (n H)) h)
theorem Ot(C:I∈r5):∃x y z u,cX v I=[x,y,z,u]:=by refine eK (jY ((yD (v:=v) C).1.length_eq.trans (wL I C).1)) λx q e h=>?_;refine iU (zd h) λy z u U=>?_;exact⟨x,y,z,u,U▸e⟩
theorem MN(C:I∈r5)(Q:p∈en 0 (cX v I))(B:q∈en 0 (cX v I)):j8 (rowAt v I q.2) (rowAt v I p.2) (keysOf v)=mR v I p.2 q.2*(if p.1<q.1 then 1 else-1)/\decide (mR v I p.2 q.2*(if p.1<q.1 then 1 else-1)<0)=decide (q.1<p.1):=by
 refine aV (yD (v:=v) C) λX W=>?_;refine aG (r8 Q) λi H L=>?_;refine aG (r8 B) λj m l=>?_;have c:∀{k:Nat}{a:Int},(cX v I)[k]?=aa a->a∈r5:=λe=>(Kh (X.mem_iff.mp (eO e))).1;refine aV (xbE (v:=v) (who:=I) (c l) (c L)) λc1 c2=>?_;have A:∀{i j:Nat}{a b:Int},i<j->(cX v I)[i]?=aa a->(cX v I)[j]?=aa b->fc (g4 v I a) (g4 v I b)=af:=λ{i j a b}h x y=>by obtain⟨F,x⟩:=rH.mp x;obtain⟨Y,y⟩:=rH.mp y;exact x▸y▸Uv.mp W i j F Y h
 have u:∀{a b:Int},fc (g4 v I a) (g4 v I b)=af->a≠b:=λh e=>by replace h:=wK ..▸e▸h;cases h
 refine O c1 (O H (O m ?_));rcases Zd i j with h|h|h;.have g:=A h L l;have d:=c2 (u g).symm;have f:=Xh (gR.mpr h) 0;rw[if_neg (u g).symm,if_neg (by rw[KX λq=>u g (Lu q).symm,g];decide),if_pos f,Nx];exact⟨rfl,by exact O (decide_eq_false (fD.mpr (kN d))) (O (decide_eq_false (En f)) rfl)⟩
 .subst h;have g:=nU (l.symm.trans L);exact O g (O (if_pos rfl) (O XS (O (Int.zero_mul ..) ⟨rfl,(decide_eq_false (yo _)).trans (decide_eq_false (yo _)).symm⟩)))
 .have g:=A h l L;have d:=c2 (u g);have f:=Xh (gR.mpr h) 0;exact O (if_neg (u g)) (O (if_pos g) (O (if_neg (En f)) (O (Int.mul_neg ..) (O (Nx ..) ⟨rfl,by rw[decide_eq_true (Int.neg_neg_of_pos d),decide_eq_true f]⟩))))
theorem Lv(C:I∈r5):toldOf v I=GP v I:=by
 refine jK λp Q=>?_;have:qP v I p.2=(en 0 (cX v I)).map λq=>j8 (rowAt v I q.2) (rowAt v I p.2) (keysOf v):=by refine AQ (Ot (v:=v) C) λx y z u e=>?_;unfold qP;refine O e ?_;rfl
 exact O this (jK λq B=>(MN C Q B).1)
theorem ZV{v I:Int}(C:I∈r5):Bw (oO v I)=en 0 (cX v I):=by
 have a:∀p∈en 0 (cX v I),((jW v I p.1 p.2).filter λn=>decide (n<0)).length=((en 0 (cX v I)).filter λq=>decide (q.1<p.1)).length:=λp Q=>by unfold jW;exact O List.filter_map (O (aH ..) (congrArg ug (YX λq B=>(MN C Q B).2)))
 refine AQ (Ot (v:=v) C) λx y z u e=>?_;replace a:=e▸a;have b:oO v I=[(0,x),(1,y),(2,z),(3,u)]:=by
  have d:((jW v I 0 x).filter λn=>decide (n<0)).length=0:=a (0,x) (.head _);have U:((jW v I 1 y).filter λn=>decide (n<0)).length=1:=a (1,y) (.tail _ (.head _));have P:((jW v I 2 z).filter λn=>decide (n<0)).length=2:=a (2,z) (.tail _ (.tail _ (.head _)));have h:((jW v I 3 u).filter λn=>decide (n<0)).length=3:=a (3,u) (.tail _ (.tail _ (.tail _ (.head _))));have:oO v I=[((((jW v I 0 x).filter λn=>decide (n<0)).length:Int),x),((((jW v I 1 y).filter λn=>decide (n<0)).length:Int),y),((((jW v I 2 z).filter λn=>decide (n<0)).length:Int),z),((((jW v I 3 u).filter λn=>decide (n<0)).length:Int),u)]:=by unfold oO;refine O (Lv C) ?_;unfold GP;refine O e ?_;rfl
  refine O this (O d (O U (O P (O h ?_))));rfl
 have c:lN (oO v I)=[0,1,2,3]:=by
  unfold lN;refine O b ?_;show(jV _ (lK 4)).toList=_;rewrite[JP (n:=4) (lt':=λi j=>decide (i<j)) (λi j F Y=>?_) _ B8];.decide+kernel
  .exact pg (p:=λi=>∀j,j<4->fc (([(0,x),(1,y),(2,z),(3,u)]:List (Int×Int)).getD i (0,0)) (([(0,x),(1,y),(2,z),(3,u)]:List (Int×Int)).getD j (0,0))=decide (i<j)) (pg (wK _) rfl rfl rfl) (pg rfl (wK _) rfl rfl) (pg rfl rfl (wK _) rfl) (pg rfl rfl rfl (wK _)) i F j Y
 unfold Bw;refine O c (O b (O e ?_));rfl
section
variable{A:aF}{X₀:List ah}{s₀ B s S:aq}{Z:List ah}{G:aN}{γ i:Gm}{M:List (ah×T)}{E:aj->aq->Prop}
theorem FS.VE(xs:List ai){ps:List aR}{l a R:aR}(d:A.handled=ak)(h:au (az PW w) A (fN (cM l (bh D G))) (λK U=>∃(B:aq)(u:List ah)(M':List (ah×T))(F:List T),FS X₀ s₀ B U u G γ M'/\ay (u++X₀) U.heap F K/\xs.length=F.length/\F.length<=100000/\∀J,FS X₀ s₀ B J u G (bQ γ xs F) M'->Q .next J) E s)(Y:∀x∈xs,(G.kindOf x=aa .local\/G.kindOf x=aa .cell)/\dg G x∈aK G)(L:autoParam (ps.length=xs.length) yAR)(g:autoParam (pK b G=(xs.zip ps).map λy=>(av,fV (.Name y.1 y.2) G)) yAR)(W:autoParam (rT [.Tuple b k a] (.Tuple D c l) R.line G=pure av) yAR)(C:autoParam (rU [.Tuple b k a] (.Tuple D c l) G=pure ak) yAR):au (az PW w) A (dY (.Assign [.Tuple b k a] (.Tuple D c l) R) G) Q E s:=by refine AB ?_ W C;show au _ _ (do fL l;w7 (<-fN (cM l (bh D G)))) _ _ _;refine ao (cV (ao (aB h (λK U y=>?_) λ_ _ e=>e)));refine v5 y λB u M' F f r H I X=>?_;refine aB (Ag f.cx.live r I) (λv J z=>?_) λ_ _ e=>e;have n:=f.step z.1;exact aB (AS.tup d Y H L g (u++X₀) J E v n.cx.ok.iX n.cx z.2) (λ_ j q=>X j (n.re q.1 q.2)) λ_ _ e=>e
theorem FS.FW{Φ:aj->aq->Prop}{R:aR}{e:aS}{D:List aS}{Q:List aj->aq->Prop}(f:FS X₀ s₀ B s Z G γ M)(L:∀E,au (az PW w) A (aT e G) (λv S=>Ks s S/\Φ v S) E s)(k:∀v U,FS X₀ s₀ B U Z G γ M->Ks s U->Φ v U->au (az PW w) A (fN (cM R (bh D G))) (λK J=>Q (v::K) J) E U)(W:autoParam (bh (e::D) G=(av,aT e G)::bh D G) yAR):au (az PW w) A (fN (cM R (bh (e::D) G))) Q E s:=by refine O W ?_;show au _ _ (fN ((av,aT e G)::cM R (bh D G))) _ _ _;refine n8 (aB (L E) (λv U y=>?_) λ_ _ e=>e);exact k v U (f.step y.1) y.1 y.2
structure uN(h:aA)(V:List ah)(x C:ah)(D:ai->Option aj):Prop where
inst:h.Inst x C D
ox:x∉V
od:∀o d,h.get? x=aa o->o.dict=aa d->d∉V
theorem uN.dK{h h':aA}(I:uN h V x C D)(k:bf V h h'):h'.Inst x C D:=by refine fU I.inst λo a b c d=>?_;refine⟨o,k _ _ I.ox a,b,c,d.imp id λ⟨d,e,f,g⟩=>⟨d,e,f,?_⟩⟩;have U:=I.od o d a e;exact g.at λo e=>k _ _ U e
theorem uN.more{h:aA}(I:uN h V x C D)(f:∀a∈U,a∈V\/h.get? a=ak):uN h U x C D:=by
 refine⟨I.inst,λm=>?_,λo d H L m=>?_⟩
 .refine bw (f _ m) (λq=>?_) λq=>?_;.exact I.ox q
  .refine aG I.inst λo a _=>?_;exact gone a q
 .refine bw (f _ m) (λq=>?_) λq=>?_;.exact I.od o d H L q
  .refine fU I.inst λW a _ _ j=>?_;replace a:=H▸a;cases a;refine bw j (λb=>?_) λc=>?_;.obtain⟨z,_⟩:=b;exact gone L z
   .obtain⟨k,z,_,g⟩:=c;replace z:=L▸z;cases z;refine ow g λe _ _ J _=>?_;exact gone J q
section
variable{X:List ah}{a:aA}
theorem EV.xdC(l:bJ X a)(L:EV A G X a e (.int v)):EV A G X a (.Subscript (.Tuple [.Constant (.int 1) k1 p1,.UnaryOp .USub (.Constant (.int 2) k2 p2) p3] kk p4) (.BinOp (.BinOp e .FloorDiv (.Constant (.int 256) k3 p5) p6) .Mod (.Constant (.int 2) k4 p7) p8) p9) (.int (lY v)):=by
 refine EV.sub (t:=.tup [.int 1,.int (-2)]) (u:=.int ((v.fdiv 256).fmod 2)) (EV.tup l (EL.cons EV.int (EL.cons (EV.neg EV.int) EL.nil))) (EV.bin (EV.bin L EV.int (bD.uL dk dk)) EV.int (bD.uM dk)) (cS.tup ?_ ?_ ?_);.rcases sE (v.fdiv 256)with e|e<;>rw[e]<;>decide
 .rcases sE (v.fdiv 256)with e|e<;>rw[e]<;>decide
 .unfold lY;rcases sE (v.fdiv 256)with e|e<;>rw[e]<;>rfl
theorem EV.xdD(l:bJ X a)(L:EV A G X a e (.int v)):EV A G X a (.Subscript (.Tuple [.Constant (.int 3) k1 p1,.UnaryOp .USub (.Constant (.int 4) k2 p2) p3] kk p4) (.BinOp (.BinOp e .FloorDiv (.Constant (.int 512) k3 p5) p6) .Mod (.Constant (.int 2) k4 p7) p8) p9) (.int (lZ v)):=by
 refine EV.sub (t:=.tup [.int 3,.int (-4)]) (u:=.int ((v.fdiv 512).fmod 2)) (EV.tup l (EL.cons EV.int (EL.cons (EV.neg EV.int) EL.nil))) (EV.bin (EV.bin L EV.int (bD.uL dk dk)) EV.int (bD.uM dk)) (cS.tup ?_ ?_ ?_);.rcases sE (v.fdiv 512)with e|e<;>rw[e]<;>decide
 .rcases sE (v.fdiv 512)with e|e<;>rw[e]<;>decide
 .unfold lZ;rcases sE (v.fdiv 512)with e|e<;>rw[e]<;>rfl
theorem EV.xdE{x y b C:aS}{v:Int}{q t b1 b2:Nat}{p F c e d o r5:aR}(l:bJ X a)(f:EV A G X a (.Subscript x y p) (.int (lY v)))(k:EV A G X a (.Subscript b C F) (.int (lZ v))):EV A G X a (.List [.Tuple [.Constant (.int 0) q c,.Subscript x y p] t e,.Tuple [.Constant (.int 1) b1 d,.Subscript b C F] b2 o] r5) (.list ((keysOf v).map mh)):=by have s0:EV A G X a (.Tuple [.Constant (.int 0) q c,.Subscript x y p] t e) (.tup [.int 0,.int (lY v)]):=EV.tup l (EL.cons EV.int (EL.cons f EL.nil)) (by simp);have s1:EV A G X a (.Tuple [.Constant (.int 1) b1 d,.Subscript b C F] b2 o) (.tup [.int 1,.int (lZ v)]):=EV.tup l (EL.cons EV.int (EL.cons k EL.nil)) (by simp);have h:EV A G X a (.List [.Tuple [.Constant (.int 0) q c,.Subscript x y p] t e,.Tuple [.Constant (.int 1) b1 d,.Subscript b C F] b2 o] r5) (.list [.tup [.int 0,.int (lY v)],.tup [.int 1,.int (lZ v)]]):=EV.list l (EL.cons s0 (EL.cons s1 EL.nil)) (by simp);exact h
end
theorem CA.xdF(h:CA A [] b f c r)(D:Mine.flat r=af):CA A X b f c r:=λs E K k d=>aB (h s E K k (ay.less (λa m=>absurd m b9) _ _ d)) (λv S y=>⟨y.1,y.2.flat D⟩) λ_ _ e=>e
theorem FS.Ws{v:Int}{j b d e a r J c m W X a2 b1 b2:Nat}{U P p1 p2 p3 p l F h T H I N q n t k o z C r1 r2 r3 r4 r5 R g:aR}{x y:ai}{u:List cZ}{Q:ek->aq->Prop}(f:FS X₀ s₀ B s Z G γ M)(hx:G.kindOf x=aa .local\/G.kindOf x=aa .cell)(L:dg G x∈aK G)(K:γ y=aa (.int v))(V:isVar G y=af)(Y:∀S,FS X₀ s₀ B S Z G (upd γ x (.list ((keysOf v).map mh))) M->au (az PW w) A (b8 u G) Q E S):au (az PW w) A (b8 (.Assign [.Name x g] (.List [.Tuple [.Constant (.int 0) X r1,.Subscript (.Tuple [.Constant (.int 1) j p1,.UnaryOp .USub (.Constant (.int 2) b p2) p3] a p) (.BinOp (.BinOp (.Name y U) .FloorDiv (.Constant (.int 256) d l) F) .Mod (.Constant (.int 2) e h) T) H] a2 r2,.Tuple [.Constant (.int 1) b1 r3,.Subscript (.Tuple [.Constant (.int 3) r I,.UnaryOp .USub (.Constant (.int 4) J N) q] W n) (.BinOp (.BinOp (.Name y P) .FloorDiv (.Constant (.int 512) c t) k) .Mod (.Constant (.int 2) m o) z) C] b2 r4] r5) R::u) G) Q E s:=by have D:=EV.xdC (k1:=j) (k2:=b) (k3:=d) (k4:=e) (kk:=a) (p1:=p1) (p2:=p2) (p3:=p3) (p4:=p) (p5:=l) (p6:=F) (p7:=h) (p8:=T) (p9:=H) (A:=A) f.cx.live (EV.name (pos:=U) f.cx K V);have h1:=EV.xdD (k1:=r) (k2:=J) (k3:=c) (k4:=m) (kk:=W) (p1:=I) (p2:=N) (p3:=q) (p4:=n) (p5:=t) (p6:=k) (p7:=o) (p8:=z) (p9:=C) (A:=A) f.cx.live (EV.name (pos:=P) f.cx K V);revert D h1;generalize(Expr.BinOp (.BinOp (.Name y U) .FloorDiv (.Constant (.int 256) d l) F) .Mod (.Constant (.int 2) e h) T:PySem.Expr)=e1;generalize(Expr.Tuple [.Constant (.int 1) j p1,.UnaryOp .USub (.Constant (.int 2) b p2) p3] a p:PySem.Expr)=e2;generalize(Expr.BinOp (.BinOp (.Name y P) .FloorDiv (.Constant (.int 512) c t) k) .Mod (.Constant (.int 2) m o) z:PySem.Expr)=e3;generalize(Expr.Tuple [.Constant (.int 3) r I,.UnaryOp .USub (.Constant (.int 4) J N) q] W n:PySem.Expr)=e4;intro D h1;exact bY (FS.set f hx L (EV.xdE f.cx.live D h1) λS _ f=>⟨rfl,Y S f⟩)
end
section
variable{A:aF}{H:List ah}{N B s S:aq}{Z:List ah}{G:aN}{P c:Gm}{M:List (ah×T)}{E:aj->aq->Prop}
theorem VF{F:List T}{K:List aj}(r:ay X h F K):ay X h (F.eraseIdx i) (K.eraseIdx i):=ay.ind (P:=λF K=>∀i:Nat,ay X h (F.eraseIdx i) (K.eraseIdx i)) (λ_=>trivial) (λ_ _ _ _ x r a i=>by cases i with|zero=>exact r|succ i=>exact⟨x,a i⟩) r i
theorem KY{L b:Type}(f:L->b):∀(l:List L)(i:Nat),(l.eraseIdx i).map f=(l.map f).eraseIdx i|[],_=>by simp|_::_,0=>rfl|a::l,i+1=>by simp[KY f l i]
theorem FS.setPop{Y m X W R:aR}{l:List Int}{k:Int}(f:FS H N B s Z G P M)(hx:G.kindOf x=aa .local\/G.kindOf x=aa .cell)(hw:dg G x∈aK G)(hv:P y=aa (.aI (.ref D)))(hi:M[i]?=aa (D,LI l))(he:EV A G X1 s.heap e (.int k))(r:0<=k)(h1:k<l.length)(hz:l.length<=100000)(hQ:∀S,FS H N B S Z G (upd P x (.int (gi l k))) (M.set i (D,LI (l.eraseIdx k.toNat)))->Q .next S)(hs:autoParam (lJ (.Call (.Attribute (.Name y m) "pop" X) [e] [] W) (aa (.Name x Y)) R.line G=pure av) yAR)(d:autoParam (kJ (.Name y m) "pop" G (aT (.Name y m) G)=aT (.Name y m) G) yAR)(K:autoParam (bh [e] G=[(av,aT e G)]) yAR)(u:autoParam ((X.endLine==W.line)=af) yAR)(hl:autoParam (isVar G y=af) yAK):au (az PW w) A (dY (.Assign [.Name x Y] (.Call (.Attribute (.Name y m) "pop" X) [e] [] W) R) G) Q E s:=by
 refine O (Ac G x Y _ R hs) ?_;refine ao (cV (ao (EJ d K u (aB (f.q8 (X:=[]) hv hl s E λ_ _ e=>e) (λo U z=>?_) λ_ _ e=>e))));obtain rfl:=z.2.cR;have f1:=f.step z.1;have hD:=f1.acc _ (eO hi);refine aG hD.2.2 λxs p rx=>?_;refine aC p λn V=>?_;refine⟨"list","list.pop",Kr,UC,PySem.F.type_list_pop,⟨_,V,rfl⟩,λb hb=>by cases hb;exact⟨_,V,rfl⟩,mz rfl rfl (mZ (n8 (aB (he U E z.1.kp) (λv J y=>rV ?_) λ_ _ e=>e)))⟩;refine aC y.2.cL λtk p=>?_;subst p;have f2:=f1.step y.1;have t:=y.1.kp _ _ V;have h:=Mine.ay.kp (y.1.kp.bL _) _ _ rx;have C:xs.size=l.length:=by exact aQ dm (O rx.length (O (aH ..) rfl))
 have g:k.toNat<xs.size:=BU r h1 C;have j:QS k xs.size=aa k.toNat:=by unfold QS;have:¬k<0:=fD.mpr r;simp[this,r];exact Bq h1 C
 refine wC UC ⟨_,t,rfl⟩ PySem.F.entry_list_pop (PySem.F.args_list_pop_2 _ _) (xhb D xs n k tk k.toNat xs[k.toNat] (by simp[S4];exact iT (fW r) (sP h1 hz)) j (kH g) (by exact O dJ (iW hz C))) ⟨t,?_⟩;have I:=mX J.heap D (c7 λa:Array aj=>a.eraseIdxIfInBounds k.toNat);have kD:br [D] J {J with heap:=J.heap.update D (c7 λa:Array aj=>a.eraseIdxIfInBounds k.toNat)}:=⟨qn I,rfl⟩;have kY:bf (Z++H) J.heap (J.heap.update D (c7 λa:Array aj=>a.eraseIdxIfInBounds k.toNat)):=kD.kp.mono (one (bC.mpr (.inl hD.1)));have rv:Rep (Z++H) (J.heap.update D (c7 λa:Array aj=>a.eraseIdxIfInBounds k.toNat)) (.int (gi l k)) xs[k.toNat]:=by
  have q:=Aw (d:=T.int 0) h (i:=k.toNat) (by exact O (aH ..) (C▸g));have e1:xs.toList.getD k.toNat fk=xs[k.toNat]:=by refine O cz (O gM (O (kH g) ?_));rfl
  have e2:(l.map T.int).getD k.toNat (T.int 0)=.int (gi l k):=by unfold gi;refine O cz (O cz (O eS (O (cy (C▸g)) ?_)));rfl
  rw[e1,e2]at q;refine aC q.cL λtt e3=>?_;exact O e3 (.fO _ _)
 obtain⟨c2,L⟩:∃c2,(J.heap.update D (c7 λa:Array aj=>a.eraseIdxIfInBounds k.toNat)).get? D=aa (cG "list" (xs.eraseIdxIfInBounds k.toNat) c2):=⟨_,yl t λa=>a.eraseIdxIfInBounds k.toNat⟩;have f3:=f2.write (t':=LI (l.eraseIdx k.toNat)) hi kD ⟨xs.eraseIdxIfInBounds k.toNat,⟨c2,L⟩,by
refine O (KY ..) ?_;have:(xs.eraseIdxIfInBounds k.toNat).toList=xs.toList.eraseIdx k.toNat:=by unfold Array.eraseIdxIfInBounds;exact O (dif_pos g) (O Array.toList_eraseIdx rfl)
refine O this ?_;exact VF (Mine.ay.kp kY _ _ h)⟩;exact ao (cV (ao (f3.bind hx hw rv λS _ f'=>aM (hQ S f'))))
end
section
variable{A:aF}{H:List ah}{N B s S:aq}{Z:List ah}{G:aN}{P g:Gm}{M:List (ah×T)}{E:aj->aq->Prop}
theorem xbF(h:au (az PW w) A (aT o G) (λf J=>au (az PW w) A (aT i G) (λm j=>au (az PW w) A (An f m v) Q E j) E J) E s)(F:∀l u p,i≠.Slice l u none p):au (az PW w) A (fV (.Subscript o i b) G v) Q E s:=by
 have e:fV (.Subscript o i b) G v=(do let f<-ic [v] (aT o G)let m<-ic [v,f] (aT i G)fL b;ic [v,f,m] (An f m v)SQ [v,f,m] []):=by
  cases i<;>first|rfl|skip
  rename_i l u d p;cases d with|none=>exact absurd rfl (F l u p)|some d=>rfl
 refine O e ?_;refine ao (dH (aB h (λf J C=>?_) λ_ _ e=>e));refine ao (dH (aB C (λm j D=>?_) λ_ _ e=>e));refine ao (cV (ao (dH (aB D (λu c a=>?_) λ_ _ e=>e))));intro k p W;simp only[Sem.wp_release];exact a
theorem FS.MO{l:List T}{k:Int}(f:FS H N B s Z G P M)(W:P x=aa (.aI (.ref D)))(K:M[i]?=aa (D,.list l))(r:Rep (Z++H) s.heap t v)(h:EV A G X1 s.heap b (.int k))(V:0<=k)(h1:k<l.length)(R:l.length<=100000)(X:∀S,br [D] s S->FS H N B S Z G P (M.set i (D,.list (l.set k.toNat t)))->Q () S)(n:∀a u p,b≠.Slice a u ak p)(hl:isVar G x=af):au (az PW w) A (fV (.Subscript (.Name x xp) b sp) G v) Q E s:=by
 refine xbF (aB (f.q8 (X:=[]) W hl s E λ_ _ e=>e) (λo J z=>?_) λ_ _ e=>e) n;obtain rfl:=z.2.cR;refine aB (h J E z.1.kp) (λiv j u=>?_) λ_ _ e=>e;refine aC u.2.cL λtk q=>?_;subst q;have F:=(f.step z.1).step u.1;have y:=F.acc _ (eO K);refine aG y.2.2 λxs Y d=>?_;have C:xs.size=l.length:=by exact aQ d.length (O dm rfl)
 have U:Rep (Z++H) j.heap t v:=Rep.kp ((z.1.trans u.1).kp.bL _) _ _ r;refine Jz Y V (sP h1 R) (Bq h1 C) λh' L c=>X _ ?_ ?_;.exact(br.of (z.1.trans u.1)).trans ⟨qn c,rfl⟩
 .have m:br [D] j {j with heap:=h'}:=⟨qn c,rfl⟩;have I:bf (Z++H) j.heap h':=m.kp.mono (one (bC.mpr (.inl y.1)));refine F.write K m ⟨_,L,?_⟩;exact O Ub (ay.set (Mine.ay.kp I _ _ d) (Rep.kp I _ _ U))
theorem FS.xgg{F C x D m i l R:aR}{lb lc:List T}{kb kc:Int}(f:FS H N B s Z G P M)(hh:A.handled=ak)(he:EL A G (Z++H) s.heap l es [ta,tb,tc])(ha:G.kindOf xa=aa .local\/G.kindOf xa=aa .cell)(hwa:dg G xa∈aK G)(hvb:(upd P xa ta) xb=aa (.aI (.ref Db)))(X:(upd P xa ta) xc=aa (.aI (.ref Dc)))(hib:M[nb]?=aa (Db,.list lb))(hic:(M.set nb (Db,.list (lb.set kb.toNat tb)))[nc]?=aa (Dc,.list lc))(eb:∀S,FS H N B S Z G (upd P xa ta) M->EV A G X1 S.heap t (.int kb))(ec:∀S,FS H N B S Z G (upd P xa ta) (M.set nb (Db,.list (lb.set kb.toNat tb)))->EV A G X2 S.heap d (.int kc))(hkb:0<=kb)(V:kb<lb.length)(hzb:lb.length<=100000)(hkc:0<=kc)(K:kc<lc.length)(hzc:lc.length<=100000)(hsb:∀a u p,t≠.Slice a u ak p)(hsc:∀a u p,d≠.Slice a u ak p)(hlb:isVar G xb=af)(hlc:isVar G xc=af)(hDb:Db∈Z++H)(hQ:∀S,FS H N B S Z G (upd P xa ta) ((M.set nb (Db,.list (lb.set kb.toNat tb))).set nc (Dc,.list (lc.set kc.toNat tc)))->Q .next S)(z:autoParam (pK [.Name xa F,.Subscript (.Name xb C) t D,.Subscript (.Name xc x) d m] G=[(av,fV (.Name xa F) G),(av,fV (.Subscript (.Name xb C) t D) G),(av,fV (.Subscript (.Name xc x) d m) G)]) yAR)(hs:autoParam (rT [.Tuple [.Name xa F,.Subscript (.Name xb C) t D,.Subscript (.Name xc x) d m] kk i] (.Tuple es c l) R.line G=pure av) yAR)(hw:autoParam (rU [.Tuple [.Name xa F,.Subscript (.Name xb C) t D,.Subscript (.Name xc x) d m] kk i] (.Tuple es c l) G=pure ak) yAR):au (az PW w) A (dY (.Assign [.Tuple [.Name xa F,.Subscript (.Name xb C) t D,.Subscript (.Name xc x) d m] kk i] (.Tuple es c l) R) G) Q E s:=by refine AB ?_ hs hw;refine aB ((EV.tup f.cx.live he (by simp)) s E λ_ _ e=>e) (λv U y=>?_) λ_ _ e=>e;have f1:=f.step y.1;refine cH y.2.jS λL vs q n p r=>?_;subst q;have hl:=r.length;rw[dm]at hl;refine xcD hh p (by refine O z ?_;simpa using hl.symm) (by refine O z ?_;rfl) λh' hx'=>?_;have k:Kp U.heap h':=λb o e=>hx' b o (bS (dQ e)) e;have f2:FS H N B {U with heap:=h'} Z G P M:=f1.step ⟨k,rfl⟩;have r2:=Mine.ay.kp (k.bL _) _ _ r;refine O z ?_;match hv:vs.toList,r2 with|[v1,v2,Y],r2=>refine kZ r2 λra rb rc _=>?_;show au _ _ (do ic [v2,Y] (fV (.Name xa F) G v1);yq [fV (.Subscript (.Name xb C) t D) G,fV (.Subscript (.Name xc x) d m) G] [v2,Y]) _ _ _;refine ao (dH ?_);show au _ _ (do fL F;kQ G xa v1) _ _ _;refine ao (cV (f2.bind ha hwa ra λj k3 f3=>?_));have I:bf (Z++H) h' j.heap:=k3.kp.mono f.cx.ok.iX;show au _ _ (do ic [Y] (fV (.Subscript (.Name xb C) t D) G v2);yq [fV (.Subscript (.Name xc x) d m) G] [Y]) _ _ _;refine ao (dH (f3.MO hvb hib (Rep.kp I _ _ rb) (eb j f3) hkb V hzb (λh k4 f4=>?_) hsb hlb));have W:bf (Z++H) j.heap h.heap:=k4.kp.mono (one hDb);show au _ _ (do ic [] (fV (.Subscript (.Name xc x) d m) G Y);yq [] []) _ _ _;refine ao (dH (f4.MO X hic (Rep.kp (I.trans W) _ _ rc) (ec h f4) hkc K hzc (λJ k5 f5=>?_) hsc hlc));exact aM (hQ J f5)
theorem FS.ZW{Y R:aR}{d:List (ai×T)}(f:FS H N B s Z G P M)(F:M[i]?=aa (D,DS d))(L:EV A G (Z++H) s.heap n t)(b:EV A G X2 s.heap o (.aI (.ref D)))(h:EV A G X1 s.heap a (.str k))(I:d.length<=100000)(X:∀S,FS H N B S Z G P (M.set i (D,DS (fJ d k t)))->Q .next S)(W:autoParam (lJ n (aa (.Subscript o a Y)) R.line G=pure av) yAR):au (az PW w) A (dY (.Assign [.Subscript o a Y] n R) G) Q E s:=by refine JE (aB (L s E λ_ _ e=>e) (λv U y=>?_) λ_ _ e=>e) W;refine aB (b U E y.1.kp) (λc J z=>?_) λ_ _ e=>e;obtain rfl:=z.2.cR;refine aB (h J E (y.1.trans z.1).kp) (λm j u=>?_) λ_ _ e=>e;refine aC u.2.eV λl q=>?_;subst q;exact((f.step y.1).step z.1).step u.1|>.FQ F I (Rep.kp ((z.1.trans u.1).kp.bL _) _ _ y.2) X
end
structure bG where
held:List Int
aJ:List Int
bW:List ai
free:List Int
alone:List Int
refused:List (List (ai×T))book:List Stat
def bK(n:List ai)(i:Int):ai:=n.getD i.toNat ""
def cO(b:List Stat)(i:Int):Stat:=b.getD i.toNat ⟨0,0,0,0,[]⟩
noncomputable def jg(g:Int):T:=.tup [.int (550+g),.bytes #[110,111],.bool af]
section
variable(W:List (List Int))(s:ai->ai)(B:Int)
noncomputable def iE(M:bG)(c:Int):Int:=(B.fdiv (2^c.toNat)).fmod M.free.length
def iF(M:bG)(c:Int):Int:=gi M.free (iE B M c)
def j5(M:bG)(I g:Int):List Int:=if gi M.held g<0\/((bz W g).idxOf I:Int)<(bz W g).idxOf (gi M.held g)then M.held.set g.toNat I else M.held
def q7(M:bG)(I g:Int):Int:=I+gi M.held g-gi (j5 W M I g) g
def sG(M:bG)(I g:Int):List Stat:=M.book.set g.toNat (j7 (cO M.book g) ⟨if gi M.held g<0 then 1 else 0,1,gi M.aJ I+1,(bz W g).idxOf I,[(s (gf (bK M.bW I)),gi M.aJ I+1)]⟩)
def gp(M:bG)(c:Int):bG:=if M.free=[]then M else let I:=iF B M c
let b:=M.free.eraseIdx (iE B M c).toNat
if gi M.aJ I=4 then{M with free:=b,alone:=M.alone++[I]}else let g:=bu W I (gi M.aJ I)
let st':bG:={M with free:=b,bW:=M.bW.set I.toNat (gf (bK M.bW I)),aJ:=M.aJ.set I.toNat (gi M.aJ I+1),book:=sG W s M I g,held:=j5 W M I g}
if gi M.held g<0 then st' else let l:=q7 W M I g
{st' with free:=b++[l],refused:=M.refused.set l.toNat (fJ (M.refused.getD l.toNat []) (bB g) (jg g))}
noncomputable def iG(u:List ai):bG:=⟨[-1,-1,-1,-1,-1],[0,0,0,0,0],u,[0,1,2,3,4],[],[[],[],[],[],[]],eH 5 ⟨0,0,0,0,[]⟩⟩
def gx(M:bG)(l:List Int):bG:=l.foldl (gp W s B) M
end
theorem KZ{M:bG}(h:M.free=[]):∀l,gx W s B M l=M
|[]=>rfl|a::l=>by
 have e:gp W s B M a=M:=by unfold gp;exact O (if_pos h) rfl
 show gx W s B (gp W s B M a) l=M;exact O e (KZ h l)
theorem Lw{W:List (List Int)}{s:ai->ai}{B:Int}{M:bG}(l r:List Int):gx W s B M (l++r)=gx W s B (gx W s B M l) r:=vV ..
structure fh(M:bG)(k:Nat):Prop where
held:M.held.length=5
qa:∀i,0<=i->i<5->-1<=gi M.held i/\gi M.held i<5/\gi M.held i≠i
aJ:fS M.aJ
bW:M.bW.length=5
free:M.free.length<=5
zg:∀x∈M.free,0<=x/\x<5
alone:M.alone.length<=k
ref:M.refused.length=5
sY:∀d∈M.refused,d.length<=k
book:M.book.length=5
uO:∀x∈M.book,x.t.length<=k
theorem QB{u:List ai}(h:u.length=5):fh (iG u) 0 where
held:=rfl;qa i D h1:=by have:i=0\/i=1\/i=2\/i=3\/i=4:=lz D h1;show-1<=gi [-1,-1,-1,-1,-1] i/\gi [-1,-1,-1,-1,-1] i<5/\gi [-1,-1,-1,-1,-1] i≠i;rcases this with rfl|rfl|rfl|rfl|rfl<;>decide
aJ:=⟨rfl,λi D h1=>by have:i=0\/i=1\/i=2\/i=3\/i=4:=lz D h1;show 0<=gi [0,0,0,0,0] i/\gi [0,0,0,0,0] i<=4;rcases this with rfl|rfl|rfl|rfl|rfl<;>decide⟩;bW:=h;free:=by show 5<=5;decide
zg:=by show∀x∈([0,1,2,3,4]:List Int),0<=x/\x<5;decide
alone:=by show 0<=0;decide
ref:=rfl;sY:=λd m=>by
 have:d=[]:=by simpa[iG]using m
 refine O this ?_;decide
book:=rfl;uO:=λx m=>by have:=vL m;refine O this ?_;decide
theorem yJ{turn step:Int}{M:bG}(h:M.free≠[]):0<=iE turn M step/\iE turn M step<M.free.length:=by
 have:(0:Int)<M.free.length:=by have:=JI.mpr h;exact gR.mpr this
 exact⟨vP _ this,rK _ this⟩
theorem FY{turn step:Int}{M:bG}{k:Nat}(r:fh M k)(h:M.free≠[]):0<=iF turn M step/\iF turn M step<5:=r.zg _ (FU (yJ h).1 (yJ h).2)
section
variable{W:List (List Int)}{nf:ai->ai}{turn:Int}{M:bG}{k:Nat}
theorem Ea(r:fh M k)(I g:Int):(j5 W M I g).length=5:=by
 unfold j5;split;.exact O jN r.held
 .exact r.held
theorem Lx(r:fh M k)(D:0<=g)(h1:g<5):gi (j5 W M who g) g=if gi M.held g<0\/((bz W g).idxOf who:Int)<(bz W g).idxOf (gi M.held g)then who else gi M.held g:=by
 unfold j5;split;.exact O (r9 D D (by rw[r.held];exact h1)) (O (if_pos rfl) rfl)
 .rfl
theorem EB(r:fh M k)(D:0<=g)(h1:g<5)(h:¬gi M.held g<0):q7 W M I g=if((bz W g).idxOf I:Int)<(bz W g).idxOf (gi M.held g)then gi M.held g else I:=by
 unfold q7;refine O (Lx r D h1) ?_;by_cases q:((bz W g).idxOf I:Int)<(bz W g).idxOf (gi M.held g);.exact O (if_pos (.inr q)) (O (if_pos q) (xeB (jO _ _)))
 .exact O (if_neg λz=>z.elim h q) (O (if_neg q) (ye _ _))
theorem Ly(r:fh M k)(D:0<=g)(h1:g<5)(a:0<=who)(V:who<5)(h:¬gi M.held g<0):0<=q7 W M who g/\q7 W M who g<5:=by
 refine O (EB r D h1 h) ?_;have:=r.qa g D h1;split;.exact⟨fD.mp h,this.2.1⟩
 .exact⟨a,V⟩
theorem EC(a b:Stat):(j7 a b).t.length<=a.t.length+b.t.length:=by show(jH a.t b.t).length<=_;unfold jH;have h1:=yu (f:=jU) JZ b.t (a.t.foldl (λd p=>ir d p.1 p.2) []);have J:=yu (f:=λd(p:ai×Int)=>ir d p.1 p.2) (λd p=>AH d p.1 p.2) a.t [];exact aZ h1 (qv (aZ J (dh (jn _))) _)
theorem Up(d:List (ai×T))(x:ai)(t:T):(fJ d x t).length<=d.length+1:=by unfold fJ;split<;>simp
theorem AJ(t:fR W)(r:fh M k)(c:Int):fh (gp W nf turn M c) (k+1):=by
 unfold gp;by_cases l:M.free=[];.exact O (if_pos l) ⟨r.held,r.qa,r.aJ,r.bW,r.free,r.zg,by have:=r.alone;exact nS this,r.ref,λd m=>by have:=r.sY d m;exact nS this,r.book,λx m=>by have:=r.uO x m;exact nS this⟩
 refine O (if_neg l) ?_;have p:=yJ (turn:=turn) (step:=c) l;have C:=FY (turn:=turn) (step:=c) r l;have h:(M.free.eraseIdx (iE turn M c).toNat).length+1=M.free.length:=by exact O V7 (O (if_pos (iu p.1 p.2)) (qy (HS (iu p.1 p.2))))
 have j:∀x∈M.free.eraseIdx (iE turn M c).toNat,0<=x/\x<5:=λx m=>r.zg x (UD m);have F:=r.free;simp only;generalize s:iF turn M c=I at C⊢;by_cases Y:gi M.aJ I=4;.exact O (if_pos Y) ⟨r.held,r.qa,r.aJ,r.bW,by show(M.free.eraseIdx _).length<=5;exact aZ (dM _) (jz h F),j,by have:=r.alone;simp;exact this,r.ref,λd m=>by have:=r.sY d m;exact nS this,r.book,λx m=>by have:=r.uO x m;exact nS this⟩
 refine O (if_neg Y) ?_;have Z:=r.aJ.el I C.1 C.2;have K:=t.at C.1 C.2 Z.1 (je Z.2 Y);generalize v:bu W I (gi M.aJ I)=g at K⊢;have f:∀i,0<=i->i<5->-1<=gi (j5 W M I g) i/\gi (j5 W M I g) i<5/\gi (j5 W M I g) i≠i:=λi D h1=>by
  have:=r.qa i D h1;unfold j5;split
  .refine O (r9 K.1 D (by rw[r.held];exact K.2.1)) ?_;split;.rename_i q;subst q;exact⟨fW C.1,C.2,λz=>K.2.2 z.symm⟩
   .exact this
  .exact this
 have o:fS (M.aJ.set I.toNat (gi M.aJ I+1)):=⟨by exact O jN r.aJ.len,λi D h1=>by
refine O (r9 C.1 D (by rw[r.aJ.len];exact C.2)) ?_;split;.exact iT (DZ Z.1) (je Z.2 Y)
.exact r.aJ.el i D h1⟩;have a:(M.bW.set I.toNat (gf (bK M.bW I))).length=5:=by exact O jN r.bW
 have n:(sG W nf M I g).length=5:=by unfold sG;exact O jN r.book
 have b:∀x∈sG W nf M I g,x.t.length<=k+1:=λx m=>by
  unfold sG at m;refine bw (Jg m) (λm=>?_) λy=>?_;.have:=r.uO x m;exact nS this
  .subst y;refine aZ (EC _ _) ?_;have:cO M.book g∈M.book:=by unfold cO;exact O cz (O (cy (by rw[r.book];exact iu K.1 K.2.1)) (nT _))
   have:=r.uO _ this;show(cO M.book g).t.length+1<=k+1;exact tR this
 by_cases e:gi M.held g<0;.exact O (if_pos e) ⟨Ea r I g,f,o,a,by show(M.free.eraseIdx _).length<=5;exact aZ (dM _) (jz h F),j,by show M.alone.length<=k+1;have:=r.alone;exact nS this,r.ref,λd m=>by have:=r.sY d m;exact nS this,n,b⟩
 .refine O (if_neg e) ?_;have V:=Ly (W:=W) r (who:=I) K.1 K.2.1 C.1 C.2 e;refine⟨Ea r I g,f,o,a,?_,?_,by show M.alone.length<=k+1;have:=r.alone;exact nS this,?_,λd m=>?_,n,b⟩;.show(M.free.eraseIdx _++[_]).length<=5;exact O cK (O Js (jz h F))
  .intro x m;refine bw (bC.mp m) (λm=>?_) λm=>?_;.exact j x m
   .exact O (aW.mp m) V
  .show(M.refused.set _ _).length=5;exact O jN r.ref
  .refine bw (Jg m) (λm=>?_) λy=>?_;.have:=r.sY d m;exact nS this
   .subst y;refine aZ (Up _ _ _) ?_;have:M.refused.getD (q7 W M I g).toNat []∈M.refused:=by exact O cz (O (cy (by rw[r.ref];exact iu V.1 V.2)) (nT _))
    have:=r.sY _ this;exact tR this
end
def g6:Nat->ai->ai|0,x=>x|n+1,x=>gf (g6 n x)
noncomputable def nK(u:List ai)(M:bG):Prop:=∀i,0<=i->i<5->bK M.bW i=g6 (gi M.aJ i).toNat (bK u i)
theorem MP{c:List ai}{i j:Int}(F:0<=i)(Y:0<=j)(h1:i<c.length):bK (c.set i.toNat v) j=if j=i then v else bK c j:=by
 unfold bK;refine O cz (O cz ?_);by_cases e:j=i;.subst e;refine O (if_pos rfl) (O (zR (iu Y h1)) ?_);rfl
 .exact O (if_neg e) (O (C5 (Gj F Y e)) rfl)
theorem QC(u:List ai):nK u (iG u):=λi D h1=>by have:i=0\/i=1\/i=2\/i=3\/i=4:=lz D h1;rcases this with rfl|rfl|rfl|rfl|rfl<;>rfl
theorem Lz{W:List (List Int)}{nf:ai->ai}{turn:Int}{u:List ai}{M:bG}{k:Nat}(r:fh M k)(m:nK u M)(c:Int):nK u (gp W nf turn M c):=by
 unfold gp;by_cases l:M.free=[];.exact O (if_pos l) m
 refine O (if_neg l) ?_;have C:=FY (turn:=turn) (step:=c) r l;simp only;generalize iF turn M c=I at C⊢;by_cases Y:gi M.aJ I=4;.exact O (if_pos Y) m
 refine O (if_neg Y) ?_;have Z:=r.aJ.el I C.1 C.2;have d:∀i,0<=i->i<5->bK (M.bW.set I.toNat (gf (bK M.bW I))) i=g6 (gi (M.aJ.set I.toNat (gi M.aJ I+1)) i).toNat (bK u i):=λi D h1=>by
  refine O (MP C.1 D (O r.bW C.2)) (O (r9 C.1 D (O r.aJ.len C.2)) ?_);by_cases e:i=I;.subst e;rw[if_pos rfl,if_pos rfl,show(gi M.aJ i+1).toNat=(gi M.aJ i).toNat+1 from Int.toNat_add_nat Z.1 1,m i D h1];rfl
  .exact O (if_neg e) (O (if_neg e) (m i D h1))
 by_cases y:gi M.held (bu W I (gi M.aJ I))<0;.exact O (if_pos y) d
 .exact O (if_neg y) d
structure se(S:Int->Bool)(b:Int->Option ai)(u:List ai):Prop where
s2:∀i c,0<=i->i<5->c<4->sD (kC (g6 c (bK u i)).cps) (g6 c (bK u i)) "\r\n"s1:∀i c,0<=i->i<5->c<4->sD (kB (rj (g6 c (bK u i))).cps) (rj (g6 c (bK u i))) ".."nz:∀i c,0<=i->i<5->c<4->(g6 (c+1) (bK u i)).cps.toList.length<=100000
nw:∀i c,0<=i->i<5->c<4->((m8 S b (g6 (c+1) (bK u i))).map (·.length)).sum+(m8 S b (g6 (c+1) (bK u i))).length<=1048576
noncomputable def lA(i:Int):T:=.tup [.int i,.bool af]
noncomputable def bZ(l:List ai):T:=.list (l.map .str)
noncomputable def uP(a:List ah):T:=.list (a.map λr=>.aI (.ref r))
structure qk where
h:ah
c:ah
m:ah
f:ah
a:ah
b:ah
r:List ah
def runM(D:qk)(M:bG):List (ah×T):=[(D.h,LI M.held),(D.c,LI M.aJ),(D.m,bZ M.bW),(D.f,LI M.free),(D.a,.list (M.alone.map lA)),(D.b,.list (M.book.map cA))]++(D.r.zip M.refused).map λp=>(p.1,DS p.2)
theorem rY(D:qk){M:bG}(h:M.refused.length=D.r.length):(runM D M).map (·.1)=[D.h,D.c,D.m,D.f,D.a,D.b]++D.r:=by
 unfold runM;refine O fY (O bO ?_);have:(D.r.zip M.refused).map ((λp=>p.1)∘λp:ah×List (ai×T)=>(p.1,DS p.2))=D.r:=by show(D.r.zip M.refused).map Ge=D.r;rw[J9];exact jq h (cQ _)
 refine O this ?_;rfl
theorem Ou{L N:Type}:∀{a:List L}{b:List N}{i:Nat}{x:L}{y:N},a[i]?=aa x->b[i]?=aa y->(a.zip b)[i]?=aa (x,y)|_::_,_::_,0,_,_,h1,J=>by cases h1;cases J;rfl|_::_,_::_,i+1,_,_,h1,J=>Ou (i:=i) h1 J|[],_,_,_,_,h1,_=>by cases h1|_::_,[],_,_,_,_,J=>by cases J
theorem MQ{L N:Type}:∀(a:List L)(b:List N)(i:Nat)(x:L)(y:N),a[i]?=aa x->a.zip (b.set i y)=(a.zip b).set i (x,y)|_::_,_::_,0,_,_,h1=>by cases h1;rfl|_::a,_::b,i+1,x,y,h1=>by show(_,_)::a.zip (b.set i y)=_::(a.zip b).set i (x,y);rw[MQ a b i x y h1]|[],_,_,_,_,h1=>by cases h1|_::_,[],_,_,_,_=>rfl
theorem XT(D:qk){M:bG}(h:M.refused.length=D.r.length)(F:i<D.r.length):(runM D M)[6+i]?=aa (D.r[i],DS (M.refused.getD i [])):=by unfold runM;refine O (Uj (by simp)) (O eS ?_);simp only[fC,qC];refine O (show 6+i-(0+1+1+1+1+1+1)=i from pG ..) (O (Ou (cy F) (cy (tP F h.symm))) ?_);simp only[Aa];refine O cz (O (cy (tP F h.symm)) ?_);rfl
theorem UX(D:qk){st:bG}(h:st.refused.length=D.r.length)(F:i<D.r.length):(runM D st).set (6+i) (D.r[i],DS d)=runM D {st with refused:=st.refused.set i d}:=by unfold runM;refine O (List.set_append_right _ _ (by simp)) ?_;simp only[fC,qC];refine O (show 6+i-(0+1+1+1+1+1+1)=i from pG ..) ?_;congr 1;exact O (MQ _ _ i _ d (cy F)) (O wc rfl)
section
open Sem(wp)
noncomputable def eY:List aj:=[.type "OSError",.type "Exception",.type "BaseException",.type "object"]
theorem xbG:mroOf (.type "OSError")=pure eY:=by kernel_rfl
noncomputable def uw(h:aA):List (ah×(ai->Option aj))->Prop|[]=>True|(C,m)::r=>(∃o s,h.get? C=aa o/\o.cls=.type "type"/\o.data=.cls s/\h.Ns s.ns m)/\uw h r
noncomputable def fm:List (ah×(ai->Option aj))->ai->Option aj|[],_=>none|(_,m)::r,n=>match m n with|aa v=>aa v|none=>fm r n
theorem uw.kp(k:Kp h h'):∀{l:List (ah×(ai->Option aj))},uw h l->uw h' l|[],_=>trivial|(C,m)::r,⟨⟨o,s,a,b,c,d⟩,e⟩=>⟨⟨o,s,k _ _ a,b,c,d.keeps k⟩,e.kp k⟩
structure XC(h:aA)(C:ah)(l:List (ah×(ai->Option aj))):Prop where
obj:∃(n q:ai)(N:ah)(z:List aj)(s:List ai)(T:List aj)(i:Bool)(a:Option Bool)(m:Option ah)(H V M r W:Option aj),h.get? C=aa (Fp n q C N z (l.tail.map (λp=>bV p.1)++eY) af s T i a m H V M r W "OSError.__new__")hd:l.head?.map (·.1)=aa C
ch:uw h l
theorem XC.kp(k:Kp h h')(x:XC h C l):XC h' C l:=by obtain⟨n,q,N,z,s,T,i,a,m,H,V,M,r,W,e⟩:=x.obj;exact⟨⟨n,q,N,z,s,T,i,a,m,H,V,M,r,W,k _ _ e⟩,x.hd,x.ch.kp k⟩
section
variable{M:vc}{A:aF}{E:aj->aq->Prop}{h:aA}{g:Array mO}{d:nC}{t:Nat}{P:bN}
theorem TA{o:bR}{s:ClassData}(a:h.get? C=aa o)(U:o.data=.cls s)(K:h.Ns s.ns m)(B:Q (m i) ⟨h,g,d,t,P⟩):au M A (classOwn (.ref C) i) Q E ⟨h,g,d,t,P⟩:=by unfold classOwn;refine ao ?_;unfold classData;refine ao (Ba (s:=⟨h,g,d,t,P⟩) a ?_);exact O U (aM (wpAny_nsGet (s:=⟨h,g,d,t,P⟩) K B))
theorem JQ(D:OM u i=pure y):∀(l:List (ah×(ai->Option aj))),uw h l->Q (match fm l i with|some v=>some v|none=>y) ⟨h,g,d,t,P⟩->au M A (OM (l.map (λp=>bV p.1)++u) i) Q E ⟨h,g,d,t,P⟩|[],_,B=>by exact O xcM (O (tX ..) (O D (aM B)))|(C,m)::r,⟨⟨o,s,a,_,b,c⟩,e⟩,B=>by refine O f6 (O z6 (O (lookupAlong_cons ..) ?_));refine ao (TA a b c ?_);unfold fm at B;cases K:m i with|some v=>rw[K]at B;exact aM B|none=>rw[K]at B;exact JQ D r e B
theorem rq(x:XC h C l)(w:jQ (.type "OSError") name=pure y)(B:Q (match fm l name with|aa v=>aa v|none=>y) ⟨h,g,d,t,P⟩):au M A (jQ (.ref C) name) Q E ⟨h,g,d,t,P⟩:=by
 have b:OM eY name=pure y:=by replace w:=xbG▸typeLookup_eq ..▸w;exact w
 obtain⟨n,q,N,z,s,T,i,a,m,H,j,f,c,W,e⟩:=x.obj;refine O (typeLookup_eq ..) ?_;refine ao (Mn e ?_);have V:bV C::(l.tail.map (λp=>bV p.1)++eY)=l.map (λp=>bV p.1)++eY:=by have:=x.hd;cases l with|nil=>cases this|cons p r=>simp only[List.head?_cons,Aa,zX]at this;refine aQ this ?_;rfl
 exact O V (JQ b l x.ch B)
end
theorem nW:StoreFacts "OSError" eY "object.__setattr__" "object"where
mro:=by kernel_rfl
slot:=.of (owner:="object") (n:="__setattr__") (by refine O (iR ..) (O iO ?_);kernel_rfl) (by decide+kernel) (by decide+kernel) (by decide+kernel) (by first|exact .inl (by decide+kernel)|exact .inr (by decide+kernel)) (by refine O (Ej ..) ?_;kernel_rfl);entry:=PySem.F.entry_object_sa;kind:=by decide+kernel
split:=by decide+kernel
hasOwner:=by decide+kernel
args:=by intros;unfold sN;kernel_rfl
passes:=by intros;kernel_rfl
end
section
open Sem(wp)
open Builtin Builtin.ObjectAttr
theorem DN(b:aj)(a:ai)(l:List aj):∀(r:List (ah×(ai->Option aj))),Gd b a (r.map (λp=>bV p.1)++l)=Gd b a l|[]=>rfl|p::r=>by exact O f6 (O z6 (O (MC ..) (DN b a l r)))
theorem ua{C:ah}{r:List (ah×(ai->Option aj))}{T:String}(h:eY.contains (.type T)=af):(bV C::(r.map (λp=>bV p.1)++eY)).contains (.type T)=af:=by have:Value.type T∈eY:=jB.mp h;exact jB.mpr (aY _ (cJ _ this))
section
variable{j:dw}{A:aF}{E:aj->aq->Prop}{h:aA}{g:Array mO}{d:nC}{t:Nat}{P:bN}{C x:ah}{l:List (ah×(ai->Option aj))}{D:ai->Option aj}{i:ai}{v:aj}
theorem Ov{o:bR}{b:aj}{Q:Unit->aq->Prop}(X:XC h C l)(Y:h.get? x=aa o)(Z:o.cls=.ref C)(B:Q () ⟨h,g,d,t,P⟩):au (az j w) A (tV "object.__setattr__" ⟨[.ref x,b,v],[]⟩) Q E ⟨h,g,d,t,P⟩:=by
 obtain⟨n,q,N,z,s,T,e,a,m,H,V,M,r,W,J⟩:=X.obj;have c:=nW;have k:(bV C::(l.tail.map (λp=>bV p.1)++eY)).contains (.type "object")=af:=ua dk;have K:=c.args (.ref x) b v;simp only[tV,c.kind,c.split];refine ao ?_
 .unfold wD;repeat(first|(with_reducible refine iQ Y ?_;refine O Z ?_)|(with_reducible refine pI J ?_;refine O k ?_)|wp_step)
  exact B
noncomputable def FZ(h h':aA)(x C:ah)(D:ai->Option aj)(i:ai)(v:aj):Prop:=h'.Inst x C (λy=>if y=i then aa v else D y)/\(∀b o,b≠x->(∀c a,h.get? x=aa c->c.dict=aa a->b≠a)->h.get? b=aa o->h'.get? b=aa o)/\∀c,h.get? x=aa c->∃k,h'.get? x=aa k/\k.cls=c.cls/\k.data=c.data/\∀a,k.dict=aa a->c.dict=aa a\/h.get? a=ak
theorem Uq{ns:List ai}(X:XC h C l)(M:fm l i=ak)(hB:jQ (.type "OSError") i=pure ak)(I:h.Inst x C D)(hq:∀h' V,FZ h h' x C D i v->Q (.done (.ret .none)) ⟨h',g,d,V,P⟩)(hw:Within D ns)(hsz:ns.length<=1000):au (az j w) A (Builtin.«object.__setattr__» ⟨[.ref x,.str i tk,v],[]⟩) Q E ⟨h,g,d,t,P⟩:=by
 obtain⟨nm,q,N,bs,sn,sub,ab,col,dd,k0,k1,k2,k3,k5,hC⟩:=X.obj;refine fU I λo Y hc m hd=>?_;have G:Gd (.ref x) "__setattr__" (l.tail.map (λp=>bV p.1)++eY)=pure ():=by exact O (DN ..) (nW.passes (.ref x))
 unfold Builtin.«object.__setattr__»;repeat(first|refine O (refuse_eq ..) ?_|(refine O (MC ..) (O G ?_))|(with_reducible refine iQ Y ?_;refine O hc ?_)|with_reducible refine Mn hC ?_|(with_reducible refine rq X hB ?_;refine O M ?_)|wp_step)
 rcases hd with⟨hdn,hmA⟩|⟨J,z,S,U⟩
 .refine O hdn (O (if_neg (by simp[typeHasDict])) ?_);split;.rename_i u;cases u
  split;.rename_i c u;exact absurd u (m c)
  .have a:(h.push {cls:=.type "dict",data:=.dict #[]}).get? x=aa o:=bX _ Y;have r:x≠h.objs.size:=bS (dQ Y);refine ao (wpAny_alloc' ?_);refine ao (wpAny_update' a ?_);refine aM ?_;have Z:((h.push {cls:=.type "dict",data:=.dict #[]}).update x λo=>{cls:=o.cls,dict:=aa h.objs.size,data:=o.data,slots:=o.slots}).get? h.objs.size=aa {cls:=.type "dict",data:=.dict #[]}:=(Dd _ _ _ _ r.symm).trans (Heap.get?_push_at rfl rfl);have hnd:((h.push {cls:=.type "dict",data:=.dict #[]}).update x λo=>{cls:=o.cls,dict:=aa h.objs.size,data:=o.data,slots:=o.slots}).Ns h.objs.size λ_=>ak:=⟨_,#[],_,Z,rfl,λe he=>absurd he (by simp),λ_=>rfl⟩;show au _ _ (storeInDict h.objs.size (.str i tk) i v) _ _ _;unfold storeInDict newKeyGuard;refine ao (aM (ao (wpAny_nsSet1 (Heap.Ns1.of_empty hnd) λh' k W=>?_)));refine AD (k.count (Mr i v xcW)) λoD esD K n F s=>?_;refine ao (xeo n (by exact O F (xep (aZ s (by rw[fC,qC,dJ];exact gQ _ _)))) ?_);wp_walk;have H:h'.get? x=aa {cls:=o.cls,dict:=aa h.objs.size,data:=o.data,slots:=o.slots}:=by refine(W.2 x r).trans (qu _ a ?_);have L:=(Heap.get?_some_iff.mp Y).2;obtain⟨oc,od,T,osl⟩:=o;cases T<;>first|rfl|exact L
   refine hq h' _ ⟨⟨{cls:=o.cls,dict:=aa h.objs.size,data:=o.data,slots:=o.slots},H,hc,m,.inr ⟨h.objs.size,rfl,r.symm,?_⟩⟩,λb ob hbx _ R=>?_,λf B=>?_⟩;.refine DU k λo' es ep e1 e2 e3 eu e4=>?_;exact⟨o',es,ep,e1,e2,e3,eu,λy=>by refine O (e4 y) ?_;by_cases hy:y=i<;>simp[hy,hmA]⟩
   .exact(W.2 b (bS (dQ R))).trans ((Dd _ _ _ _ hbx).trans (bX _ R))
   .obtain rfl:o=f:=nU (Y.symm.trans B);exact⟨_,H,rfl,rfl,λJ e=>.inr (by cases e;exact get?_none_of_le (cQ _))⟩
 .refine O z ?_;refine aM ?_;show au _ _ (storeInDict J (.str i tk) i v) _ _ _;unfold storeInDict newKeyGuard;refine ao (aM (ao (wpAny_nsSet1 U λh' k W=>?_)));refine AD (k.count (Mr i v hw)) λoD esD K n F s=>?_;refine ao (xeo n (by exact O F (xep (aZ s (by rw[fC,dJ];exact zl hsz)))) ?_);wp_walk;refine hq h' _ ⟨⟨o,(W.2 x S.symm).trans Y,hc,m,.inr ⟨J,z,S,k⟩⟩,λb ob _ hbd R=>?_,λf B=>⟨f,(W.2 x S.symm).trans B,rfl,rfl,λ_ e=>.inl e⟩⟩;exact(W.2 b (hbd o J Y z)).trans R
theorem XU{s:List ai}(X:XC h C l)(n:fm l "__setattr__"=ak)(b:fm l i=ak)(f:jQ (.type "OSError") i=pure ak)(I:h.Inst x C D)(B:∀h' V,FZ h h' x C D i v->Q () ⟨h',g,d,V,P⟩)(a:Within D s)(T:s.length<=1000):au (az j w) A (HR (.ref x) i v) Q E ⟨h,g,d,t,P⟩:=by
 refine dj (id I) λo Y Z _=>?_;have y:=nW.slot.bind (.ref x);unfold HR callSpecial? specialOf;repeat(any_goals(first|assumption|(with_reducible refine iQ Y ?_;refine O Z ?_)|(with_reducible refine rq X nW.slot.lookup ?_;refine O n ?_)|wp_step))
 refine zY nW.slot.plain nW.entry (Ov X Y Z (Uq X b f I (λh' V M=>?_) a T));repeat(any_goals(first|assumption|wp_step))
 exact B h' V M
end
end
section
open Sem(wp)
open Builtin Builtin.OSError
theorem Ur:Bp CL "OSError.__new__"=aa Builtin.«OSError.__new__»:=Ae (by kernel_rfl)
theorem ZX:builtinKind "OSError.__new__"=aa .builtinFn:=by decide+kernel
theorem XW:splitId "OSError.__new__"=aa ("OSError","__new__"):=by decide+kernel
noncomputable abbrev xo:Manifest.Signature:=⟨.constructor,"*","OSError",.cls,[⟨"args",.varPos,av⟩]⟩
theorem xbH:Manifest.signature? "OSError.__new__"=aa xo:=by kernel_rfl
section
variable{j:dw}{A:aF}{E:aj->aq->Prop}{h:aA}{g:Array mO}{d:nC}{t:Nat}{P:bN}{C x:ah}{l:List (ah×(ai->Option aj))}{D:ai->Option aj}{i:ai}{v:aj}
theorem Us(X:XC h C l)(B:Q () ⟨h,g,d,t,P⟩):au M A (xaT "OSError.__new__" xo ⟨.ref C::u,[]⟩) Q E ⟨h,g,d,t,P⟩:=by
 obtain⟨e,q,N,m,s,T,f,c,o,H,V,k,r,W,J⟩:=X.obj;unfold xaT;show au M A (Ms "*" af xo (aa (.ref C))>>=λa=>Ms "OSError" av xo (aa (.ref C))>>=λb=>(NF xo a b (u.length+1-1) []).onRaise _) Q E ⟨h,g,d,t,P⟩;unfold Ms;refine O (if_neg dk) (O (if_pos dk) ?_);refine ao (ao (aM (ao ?_)));unfold typeNameWhole classData;refine ao (ao (Ba J (aM (aM (aM (ao (aM ?_)))))));refine As ?_;have Z:∀a n,NF xo a "OSError" n []=pure ():=λa n=>by unfold NF Bind.checkCount;simp;exact λ_ z=>absurd z dk
 exact O (Z ..) (aM B)
theorem XX(X:XC h C l)(B:Q () ⟨h,g,d,t,P⟩):au M A (tV "OSError.__new__" ⟨.ref C::u,[]⟩) Q E ⟨h,g,d,t,P⟩:=by obtain⟨n,q,N,z,s,T,c,a,m,H,V,e,r,W,J⟩:=id X.obj;have b:(bV C::(l.tail.map (λp=>bV p.1)++eY)).contains (.type "OSError")=af:=ua dk;simp only[tV,ZX,XW,xbH];repeat(first|with_reducible exact Us X B|refine iQ J ?_|(refine pI J ?_;refine O b ?_)|refine wpAny_staticBase_exc J ?_|refine K9 J ?_|simp only[bne_self_eq_false,rJ,if_false]|wp_step)
theorem xbI(X:XC h C l)(F:fm l "__init__"=aa (.ref f))(B:R (.ok (.ret (.ref (h.objs.size+1)))) ⟨(h.push {cls:=.type "tuple",data:=.seq #[]}).push {cls:=.ref C,data:=.fields #[.ref h.objs.size,.none,.none,.none,.bool av,.none,e9 0,e9 0,e9 0,e9 0,e9 (-1)]},g,d,t,P⟩):pW (az j w) A (.builtin "OSError.__new__" ⟨.ref C::u,[]⟩) R ⟨h,g,d,t,P⟩:=by
 obtain⟨n,q,N,z,s,T,c,a,m,H,V,M,r,W,J⟩:=id X.obj;have b:(bV C::(l.tail.map (λp=>bV p.1)++eY)).contains (.type "OSError")=af:=ua (by decide);refine t6 Ur ?_;unfold Builtin.«OSError.__new__»OSError.osReadsInInit;have k:(⟨h,g,d,t,P⟩:aq).TypeIs (.ref C) "type":=⟨_,J,rfl⟩;repeat(first|with_reducible refine iQ J ?_|(with_reducible refine pI J ?_;refine O b ?_)|(with_reducible refine rq X (name:="__init__") (y:=aa (.builtin "OSError.__init__")) (by refine O (iR ..) (O iO ?_);kernel_rfl) ?_;refine O F ?_)|with_reducible refine K9 J ?_|rw[e]|wp_step)
 show R _ _;exact O (mD ..) B
end
end
section
open Sem(wp)
open Builtin Builtin.OSError
section
variable{j:dw}{A:aF}{E:aj->aq->Prop}{h:aA}{g:Array mO}{d:nC}{t:Nat}{P:bN}{C x:ah}{l:List (ah×(ai->Option aj))}{D:ai->Option aj}{i:ai}{v:aj}
noncomputable def uQ(C a:ah):bR:={cls:=.ref C,data:=.fields #[.ref a,.none,.none,.none,.bool av,.none,e9 0,e9 0,e9 0,e9 0,e9 (-1)]}
theorem UY{oI:bR}(X:XC h C l)(F:fm l "__init__"=aa (.ref m))(y:h.get? m=aa oI)(a:oI.cls=.type "function")(H:∀h' e,Kp h h'->h.get? e=ak->(∃B,h'.get? e=aa (uQ C B))->au (az j w) A (dO (.ref m) (.ref e::u)) (λr S=>r=.none/\Q (.done (.ret (.ref e))) S) E ⟨h',g,d,t,P⟩):au (az j w) A (Builtin.«type.__call__» ⟨.ref C::u,[]⟩) Q E ⟨h,g,d,t,P⟩:=by
 obtain⟨M,q,N,bs,L,T,U,n,dd,k0,k1,Z,Y,V,J⟩:=id X.obj;repeat(first|with_reducible refine iQ J ?_|with_reducible refine K9 J ?_|wp_step)
 refine codeAny_call_builtin_code (JT _ (by decide+kernel)) (XX X ?_);refine xbI X F ?_;show au _ _ _ _ _ _;have W:Kp h ((h.push {cls:=.type "tuple",data:=.seq #[]}).push (uQ C h.objs.size)):=λb o R=>bX _ (bX _ R);have I:=X.kp W;have f:=W _ _ J;have G:=W _ _ y;have k:((h.push {cls:=.type "tuple",data:=.seq #[]}).push (uQ C h.objs.size)).get? (h.objs.size+1)=aa (uQ C h.objs.size):=by unfold uQ;heap_get
 have K:(bV C::(l.tail.map (λp=>bV p.1)++eY)).contains (.ref C)=af:=by simp
 unfold wD;repeat(first|with_reducible refine iQ k ?_|(with_reducible refine pI f ?_;rw[K])|wp_step)
 show au _ _ (QO (.ref C) (.ref C)) _ _ _;refine pI f ?_;refine O K ?_;repeat(first|with_reducible refine iQ k ?_|wp_step)
 show au _ _ (jQ (.ref C) _) _ _ _;refine rq I (name:="__init__") (y:=aa (.builtin "OSError.__init__")) (by refine O (iR ..) (O iO ?_);kernel_rfl) ?_;refine O F ?_;refine dH (ao ?_);unfold bindSpecial;refine ao (EK (T:="function") ⟨_,G,a⟩ ?_);refine O (if_pos dk) ?_;refine aM (ao (aB (H _ (h.objs.size+1) W (Heap.get?_none_of_le (dM _)) ⟨_,k⟩) (λr S c=>?_) λ_ _ x=>x));refine aV c λz s=>?_;try clear c;subst z
 wp_walk;exact s
theorem xdG{oI:bR}(X:XC h C l)(F:fm l "__init__"=aa (.ref c))(y:h.get? c=aa oI)(p:oI.cls=.type "function")(B:∀h' e,Kp h h'->h.get? e=ak->(∃f,h'.get? e=aa (uQ C f))->au (az j w) (A.under (.builtin "type.__call__" ⟨.ref C::u,[]⟩)) (dO (.ref c) (.ref e::u)) (λr S=>r=.none/\Q (.ref e) S) E ⟨h',g,d,t,P⟩):au (az j w) A (dO (.ref C) u) Q E ⟨h,g,d,t,P⟩:=by
 obtain⟨n,q,N,G,s,T,k,a,I,H,V,M,o,m,J⟩:=id X.obj;have z:=tc_lookup;have L:=tc_bind (.ref C);have R:(⟨h,g,d,t,P⟩:aq).TypeIs (.ref C) "type":=⟨_,J,rfl⟩;refine A8 (Mj ?_);show au _ _ (callAny (.ref C) _) _ _ _;repeat(any_goals(first|assumption|with_reducible refine iQ J ?_|wp_step))
 refine⟨rfl,?_⟩;refine codeAny_call_builtin_at (JT _ (by decide+kernel)) entry_typeCall (wpAny_check_type_call_sub J (UY X F y p λh' e W K b=>?_));exact B h' e W K b
end
end
section
open Sem(wp)
open Builtin Builtin.ObjectAttr Builtin.Getset_descriptor Builtin.BaseException
theorem Ut:Bp CL "getset_descriptor.__set__"=aa Builtin.«getset_descriptor.__set__»:=Ae (by kernel_rfl)
theorem UZ(a b c:aj):sN "getset_descriptor.__set__" ⟨[a,b,c],[]⟩:=by unfold sN;kernel_rfl
theorem TF:Bp CL "BaseException.args#set"=aa Builtin.«BaseException.args#set»:=Ae (by kernel_rfl)
section
variable{j:dw}{A:aF}{E:aj->aq->Prop}{h:aA}{g:Array mO}{d:nC}{t:Nat}{P:bN}{C x:ah}{l:List (ah×(ai->Option aj))}{D:ai->Option aj}{i:ai}{v:aj}
theorem xdH{o:bR}(X:XC h C l)(Y:h.get? x=aa o)(Z:o.cls=.ref C)(U:o.data=.fields c)(b:c[0]?=aa (.ref G))(m:h.IsTuple a f)(B:R (.ok (.ret .none)) ⟨h.update x (i6 (·.setIfInBounds 0 (.ref a))),g,d,t,P⟩):pW (az j w) A (.call (.builtin "getset_descriptor.__set__") ⟨[.builtin "BaseException.args",.ref x,.ref a],[]⟩) R ⟨h,g,d,t,P⟩:=by
 obtain⟨n,q,N,I,s,T,r,e,K,H,V,M,z,y,J⟩:=id X.obj;have u:(⟨h,g,d,t,P⟩:aq).TypeIs (.builtin "BaseException.args") "getset_descriptor":=J7;have k:(bV C::(l.tail.map (λp=>bV p.1)++eY)).contains (.type (".".intercalate ("BaseException.args".cutAt '.').dropLast))=af:=by exact O F.owner_bexc_args (ua dk)
 have W:(0:Nat)<c.size:=(Ud.mp b).1;refine zY Ek.plain Ut (Ek.check _ _ _ _ _ _ _ _ u (UZ _ _ _) ?_);repeat(any_goals(first|assumption|(with_reducible refine iQ Y ?_;refine O Z ?_)|(with_reducible refine pI J ?_;refine O k ?_)|wp_step))
 refine⟨JT _ (by decide+kernel),?_⟩;show pW _ _ (.builtin "BaseException.args#set" ⟨[.ref x,.ref a],[]⟩) _ _;refine t6 TF ?_;unfold Builtin.«BaseException.args#set»bexcPut;refine ao (call_tuple_same m ?_);refine ao (ao (jr Y U b (ao (Ar Y U W (AP ?_)))));exact aM B
theorem T6{o:bR}(X:XC h C l)(b:fm l "args"=ak)(Y:h.get? x=aa o)(Z:o.cls=.ref C)(U:o.data=.fields n)(k:n[0]?=aa (.ref G))(m:h.IsTuple a f)(B:Q (.done (.ret .none)) ⟨h.update x (i6 (·.setIfInBounds 0 (.ref a))),g,d,t,P⟩):au (az j w) A (Builtin.«object.__setattr__» ⟨[.ref x,.str "args" H,.ref a],[]⟩) Q E ⟨h,g,d,t,P⟩:=by
 obtain⟨r,q,N,R,s,T,y,c,S,K,V,M,z,W,J⟩:=id X.obj;have e:Gd (.ref x) "__setattr__" (l.tail.map (λp=>bV p.1)++eY)=pure ():=by exact O (DN ..) (nW.passes (.ref x))
 have I:=J7;have L:=Ek.lookup;have u:(⟨h,g,d,t,P⟩:aq).TypeIs (.builtin "BaseException.args") "getset_descriptor":=J7;unfold Builtin.«object.__setattr__»;repeat(first|refine O (refuse_eq ..) ?_|(refine O (MC ..) (O e ?_))|(with_reducible refine iQ Y ?_;refine O Z ?_)|with_reducible refine Mn J ?_|(with_reducible refine rq X (name:="args") (y:=aa (.builtin "BaseException.args")) (by refine O (iR ..) (O iO ?_);kernel_rfl) ?_;refine O b ?_)|assumption|wp_step)
 refine wA (Ek.bind _) ?_;show au _ _ (dO _ _>>=_) _ _ _;refine ao (A8 (xdH X Y Z U k m ?_));wp_walk;exact B
theorem XY{o:bR}(X:XC h C l)(n:fm l "__setattr__"=ak)(b:fm l "args"=ak)(Y:h.get? x=aa o)(Z:o.cls=.ref C)(U:o.data=.fields e)(a:e[0]?=aa (.ref k))(c:h.IsTuple N f)(B:∀G,Q () ⟨h.update x (i6 (·.setIfInBounds 0 (.ref N))),g,d,G,P⟩):au (az j w) A (HR (.ref x) "args" (.ref N)) Q E ⟨h,g,d,t,P⟩:=by
 have y:=nW.slot.bind (.ref x);unfold HR callSpecial? specialOf;repeat(any_goals(first|assumption|(with_reducible refine iQ Y ?_;refine O Z ?_)|(with_reducible refine rq X nW.slot.lookup ?_;refine O n ?_)|wp_step))
 refine zY nW.slot.plain nW.entry (Ov X Y Z (T6 X b Y Z U a c ?_));repeat(any_goals(first|assumption|wp_step))
 exact B _
end
end
section
open Sem(wp)
open Builtin Builtin.ObjectAttr
theorem GQ:tH "OSError" "__getattribute__" "BaseException.__getattribute__":=.of (owner:="BaseException") (n:="__getattribute__") (by refine O (iR ..) (O iO ?_);kernel_rfl) (by decide+kernel) (by decide+kernel) (by decide+kernel) (by first|exact .inl (by decide+kernel)|exact .inr (by decide+kernel)) (by refine O (Ej ..) ?_;kernel_rfl)
theorem ZY:jQ (.type "OSError") "__getattr__"=pure ak:=by refine O (iR ..) (O iO ?_);kernel_rfl
section
variable{j:dw}{A:aF}{E:aj->aq->Prop}{h:aA}{g:Array mO}{d:nC}{t:Nat}{P:bN}{C x:ah}{l:List (ah×(ai->Option aj))}{D:ai->Option aj}{i:ai}{v:aj}
theorem XZ{o:bR}(X:XC h C l)(Y:h.get? x=aa o)(Z:o.cls=.ref C)(B:Q () ⟨h,g,d,t,P⟩):au M A (tV "BaseException.__getattribute__" ⟨[.ref x,b],[]⟩) Q E ⟨h,g,d,t,P⟩:=by
 obtain⟨n,q,N,z,s,T,f,a,u,H,V,m,r,W,J⟩:=id X.obj;have e:builtinKind "BaseException.__getattribute__"=aa .slot:=by decide+kernel
 have c:splitId "BaseException.__getattribute__"=aa ("BaseException","__getattribute__"):=by decide+kernel
 have k:(bV C::(l.tail.map (λp=>bV p.1)++eY)).contains (.type "BaseException")=af:=ua dk;have K:=F.args_bexc_ga (.ref x) b;simp only[tV,e,c];refine ao ?_
 .unfold wD;repeat(first|(with_reducible refine iQ Y ?_;refine O Z ?_)|(with_reducible refine pI J ?_;refine O k ?_)|wp_step)
  exact B
theorem U0(X:XC h C l)(b:fm l i=ak)(f:jQ (.type "OSError") i=pure ak)(I:h.Inst x C D)(K:D i=aa v)(B:Q (.done (.ret v)) ⟨h,g,d,t,P⟩):au (az j w) A (Builtin.«object.__getattribute__» ⟨[.ref x,.str i G],[]⟩) Q E ⟨h,g,d,t,P⟩:=by
 obtain⟨e,q,N,z,s,T,m,a,L,H,V,M,r,W,J⟩:=id X.obj;refine fU I λo Y Z p U=>?_;rcases U with⟨_,y⟩|⟨F,u,S,n⟩;.exact gone K (y i)
 unfold Builtin.«object.__getattribute__»;repeat(first|(with_reducible refine iQ Y ?_;refine O Z ?_)|(with_reducible refine rq X f ?_;refine O b ?_)|wp_step)
 split;.rename_i c k;exact absurd k (p c)
 unfold instanceDict;repeat(first|(with_reducible refine iQ Y ?_;refine O Z ?_)|with_reducible refine iQ J ?_|wp_step)
 refine O u ?_;repeat(first|(with_reducible refine wpAny_nsGet n.ns ?_;refine O K ?_)|wp_step)
 exact B
theorem xdI(X:XC h C l)(c:fm l "__getattribute__"=ak)(e:fm l "__getattr__"=ak)(b:fm l i=ak)(f:jQ (.type "OSError") i=pure ak)(I:h.Inst x C D)(K:D i=aa v)(n:wV v=pure v)(B:Q v ⟨h,g,d,t+1,P⟩):au (az j w) A (HQ (.ref x) i a) Q E ⟨h,g,d,t,P⟩:=by
 refine dj (id I) λo Y Z _=>?_;have y:=GQ.bind (.ref x);have m:(a&&onTheHeap (vZ "BaseException.__getattribute__"))=av:=by cases a<;>rfl
 have k:(vZ "BaseException.__getattribute__"==vZ "object.__getattribute__")=av:=by decide+kernel
 have q:(onTheHeap (bV C)&&vZ "BaseException.__getattribute__"==vZ "object.__getattribute__")=av:=by refine O k ?_;rfl
 unfold HQ getAttrBy;repeat(any_goals(first|assumption|(with_reducible refine iQ Y ?_;refine O Z ?_)|(with_reducible refine rq X GQ.lookup ?_;refine O c ?_)|(with_reducible refine rq X ZY ?_;refine O e ?_)|wp_step))
 refine zY GQ.plain F.entry_bexc_ga (XZ X Y Z (U0 X b f I K ?_));show au _ _ (wV v) _ _ _;exact O n (aM B)
end
end
section
open Sem(wp)
noncomputable def u6:List (ai×aj)->ai->Option aj|[]=>λ_=>ak|(n,v)::r=>λy=>if y=n then aa v else u6 r y
theorem J1:∀l,Within (u6 l) (l.map (·.1))|[]=>xcW|(n,v)::r=>Mr n v (J1 r)
noncomputable def kG(P:Gm):Prop:=∀x t,P x=aa t->∃v,t=.aI v
theorem CX.MR{G:aN}(c:CX (aK G) h G f)(b:kG f)(k:bf Y h h')(g:∀a∈aK G,a∉Y)(H:G.globals∉Y)(R:G.builtins∉Y):CX (aK G) h' G f:=by
 have d:lQ (aK G++Y) h G:=⟨c.ok.fn,c.ok.ns,bI _ c.ok.loc,λm=>(bC.mp m).elim c.ok.eN H,λm=>(bC.mp m).elim c.ok.blt R,c.ok.cell,λx q m=>bI _ (c.ok.own x q m),c.ok.apart,c.ok.off⟩;refine⟨c.ok.dK k g,λa m=>?_,⟨c.eZ.1.imp λ_ e=>k _ _ H e,c.eZ.2.imp λ_ e=>k _ _ R e⟩,λx t e=>?_⟩;.refine aC (c.live a m) λo e=>?_;exact⟨o,k a o (g a m) e⟩
 .refine aG (c.val x t e) λv r n=>?_;refine aC (b x t e) λu z=>?_;subst z;obtain rfl:=r.cR;exact⟨_,.ie _,n.dK k d g λa m=>cJ _ m⟩
structure XI(B s:aq)(x C:ah)(l:List (ai×aj)):Prop where
eq:s={B with heap:=s.heap,toks:=s.toks}inst:s.heap.Inst x C (u6 l)kp:bf [x] B.heap s.heap
was:∃o,B.heap.get? x=aa o
dict:∀o d,s.heap.get? x=aa o->o.dict=aa d->B.heap.get? d=ak
dat:∃o K v,s.heap.get? x=aa o/\o.cls=.ref C/\o.data=.fields K/\K.size=11/\K[0]?=aa (.ref v)/\K[1]?=aa .none
theorem XI.step(f:XI B s x C l)(k:Ks s a):XI B a x C l:=by
 refine aC f.was λc g=>?_;have W:∀o,a.heap.get? x=aa o->s.heap.get? x=aa o:=λo e=>by refine ow f.dat λT K v H _=>?_;have:=k.kp _ _ H;replace e:=this▸e;cases e;exact H
 refine⟨?_,wI k.kp f.inst,λb o m e=>k.kp _ _ (f.kp b o m e),f.was,λo d H L=>f.dict o d (W o H) L,?_⟩;.have H:=k.eq;have L:=f.eq;refine O H ?_;show({s with heap:=a.heap,toks:=a.toks}:aq)=_;exact O L rfl
 .refine ow f.dat λT K v H r=>?_;exact⟨T,K,v,k.kp _ _ H,r⟩
theorem XI.IE{B s:aq}{D:aA}(f:XI B s x C l)(k:Kp D B.heap)(n:D.get? x=ak):Kp D s.heap:=λb o e=>f.kp b o (λm=>by replace e:=aW.mp m▸e;exact gone e n) (k b o e)
structure IB(D:aA)(B:aq)(G:aN)(x C:ah)(Y:List (ah×(ai->Option aj))):Prop where
k0:Kp D B.heap
n0:D.get? x=ak
xc:XC D C Y
gl:∃o,D.get? G.globals=aa o
bl:∃o,D.get? G.builtins=aa o
own:∀a∈aK G,(∃o,B.heap.get? a=aa o)/\a≠x
section
variable{A:aF}{E:aj->aq->Prop}{D:aA}{B s:aq}{G:aN}{P:Gm}{x C:ah}{Y:List (ah×(ai->Option aj))}{l:List (ai×aj)}
theorem Wt(b:IB D B G x C Y)(f:XI B s x C l)(F:CX (aK G) s.heap G P)(z:kG P)(M:FZ s.heap h' x C (u6 l) p v):XI B {s with heap:=h',toks:=tk} x C ((p,v)::l)/\CX (aK G) h' G P:=by
 refine gW M λI N U=>?_;refine v7 f.dat λT X w H Z V L J u=>?_;refine fU (U T H) λt h c1 y K=>?_;have W:bf (x::T.dict.toList) s.heap h':=λa o m e=>N a o (λq=>m (q▸aP ..)) (λk dx D h1 q=>m (by replace D:=H▸D;cases D;exact O h1 (O q (aY _ (aW.mpr rfl))))) e;have i:∀a,(∃o,B.heap.get? a=some o)->a≠x->a∉x::T.dict.toList:=λa⟨o,e⟩n m=>by
  rcases bA.mp m with q|q;.exact n q
  .cases j:T.dict with|none=>replace q:=j▸q;cases q|some d=>replace q:=j▸q;replace e:=aW.mp q▸e;exact gone e (f.dict T d H j)
 have r:∀a,(∃o,D.get? a=some o)->a∉x::T.dict.toList:=λa⟨o,e⟩=>i a ⟨o,b.k0 _ _ e⟩ λq=>by replace e:=q▸e;exact gone e b.n0
 refine⟨⟨by have:=f.eq;exact O this rfl,I,λa o m e=>?_,f.was,λo d c Q=>?_,t,X,w,h,c1.trans Z,y.trans V,L,J,u⟩,F.MR z W (λa m=>i a (b.own a m).1 (b.own a m).2) (r _ b.gl) (r _ b.bl)⟩;.exact W a o (i a ⟨o,e⟩ λq=>m (q▸aW.mpr rfl)) (f.kp a o m e)
 .have c:h'.get? x=some o:=c;replace c:=h▸c;cases c;rcases K d Q with q|q;.exact f.dict T d H q
  .cases R:B.heap.get? d with|none=>rfl|some S=>
by_cases g:d=x;.replace q:=H▸g▸q;cases q
.rw[f.kp d S (λm=>g (aW.mp m)) R]at q;cases q
theorem ZZ(b:IB D B G x C Y)(f:XI B s x C l)(u:CX (aK G) s.heap G P)(z:kG P):XI B {s with heap:=s.heap.update x (i6 (·.setIfInBounds 0 (.ref tp))),toks:=tk} x C l/\CX (aK G) (s.heap.update x (i6 (·.setIfInBounds 0 (.ref tp)))) G P:=by
 refine v7 f.dat λT S F H X V L K t=>?_;have i:=vU V (·.setIfInBounds 0 (bV tp));have h:=qu (i6 (·.setIfInBounds 0 (bV tp))) H (zU i);have W:bf [x] s.heap (s.heap.update x (i6 (·.setIfInBounds 0 (.ref tp)))):=λa o m e=>(x9 _ _ λq:x=a=>m (by exact O q (aW.mpr rfl))).trans e;have n:(i6 (·.setIfInBounds 0 (bV tp)) T).cls=T.cls:=J8 _ _;have j:(i6 (·.setIfInBounds 0 (bV tp)) T).dict=T.dict:=by obtain⟨c,d,y,J⟩:=T;simp only at V;subst V;rfl
 have g:∀a,(∃o,D.get? a=aa o)->a∉[x]:=λa⟨o,e⟩m=>by replace e:=aW.mp m▸e;exact gone e b.n0
 refine⟨⟨by have:=f.eq;exact O this rfl,?_,f.kp.trans W,f.was,λo d I N=>?_,_,_,tp,h,n.trans X,i,by simp[L],by simp[L],by simp[t]⟩,u.MR z W (λa m q=>(b.own a m).2 (aW.mp q)) (g _ b.gl) (g _ b.bl)⟩;.refine fU f.inst λo Q R M Z=>?_;replace Q:=H▸Q;cases Q;refine⟨_,h,n.trans X,λc q=>(by replace q:=i▸q;cases q),?_⟩;exact O j (Z.imp id λ⟨d,k,r,v⟩=>⟨d,k,r,let⟨o,p,w,I,N⟩:=v;⟨o,p,w,W d o (λm=>r (aW.mp m)) I,N⟩⟩)
 .have I:(s.heap.update x (i6 (·.setIfInBounds 0 (.ref tp)))).get? x=aa o:=I;replace I:=h▸I;cases I;replace N:=j▸N;exact f.dict T d H N
end
end
section
open Sem(wp)
section
variable{A:aF}{E:aj->aq->Prop}{D:aA}{B s:aq}{i:aN}{P:Gm}{x C:ah}{Y:List (ah×(ai->Option aj))}{l:List (ai×aj)}
theorem A2{p1 p2 p3 R:aR}(b:IB D B i x C Y)(f:XI B s x C l)(k:CX (aK i) s.heap i P)(z:kG P)(W:P H=aa (.aI (.ref x)))(S:P n=aa (.aI v))(U:isVar i H=af)(L:isVar i n=af)(a:fm Y "__setattr__"=ak)(m:fm Y p=ak)(G:jQ (.type "OSError") p=pure ak)(T:l.length<=900)(h:∀d,XI B d x C ((p,v)::l)->CX (aK i) d.heap i P->au (az PW w) A (b8 u i) Q E d)(g:autoParam (lJ (.Name n p3) (aa (.Attribute (.Name H p1) p p2)) R.line i=pure av) yAR):au (az PW w) A (b8 (.Assign [.Attribute (.Name H p1) p p2] (.Name n p3) R::u) i) Q E s:=by refine@bY _ _ _ _ _ _ _ (I7 (aB ((EV.name (pos:=p3) k S L) s _ λ_ _ e=>e) (λX J y=>?_) λ_ _ e=>e) g);obtain⟨M,Z⟩:=y;obtain rfl:=Z.cR;refine aB ((EV.name (pos:=p1) k W U) J _ M.kp) (λo j y=>?_) λ_ _ e=>e;obtain⟨r,K⟩:=y;obtain rfl:=K.cR;have c:=f.step (M.trans r);have F:=k.kp (M.trans r).kp;have N:=b.xc.kp (c.IE b.k0 b.n0);obtain⟨hh,gg,dd,tt,oo⟩:=j;refine XU N a m G c.inst (λh' V I=>?_) (J1 l) (by exact O (aH ..) (cC T));obtain⟨q,t⟩:=Wt (tk:=V) b c F z I;exact⟨rfl,h _ q t⟩
theorem Ow{p1 p2 a R:aR}{K:List T}(b:IB D B i x C Y)(f:XI B s x C l)(m:CX (aK i) s.heap i P)(z:kG P)(hs:P H=aa (.aI (.ref x)))(m1:isVar i H=af)(g:EL A i (aK i) s.heap a I K)(hl:K.length<=1000)(n:fm Y "__setattr__"=ak)(G:fm Y "args"=ak)(h:∀q,XI B q x C l->CX (aK i) q.heap i P->au (az PW w) A (b8 u i) Q E q)(v:autoParam (lJ (.Tuple I c a) (aa (.Attribute (.Name H p1) "args" p2)) R.line i=pure av) yAR):au (az PW w) A (b8 (.Assign [.Attribute (.Name H p1) "args" p2] (.Tuple I c a) R::u) i) Q E s:=by
 refine@bY _ _ _ _ _ _ _ (I7 (aB ((EV.tup (c:=c) m.live g (cC hl)) s _ λ_ _ e=>e) (λv' J y=>?_) λ_ _ e=>e) v);refine aV y λM Z=>?_;refine cH Z λN xs p _ ht _=>?_;try clear Z;subst p
 refine aB ((EV.name (pos:=p1) m hs m1) J _ M.kp) (λo j y=>?_) λ_ _ e=>e;refine aV y λd X=>?_;obtain rfl:=X.cR;have k:=f.step (M.trans d);have F:=m.kp (M.trans d).kp;have L:=b.xc.kp (k.IE b.k0 b.n0);refine v7 k.dat λo1 vs t0 W ec V e2 e3 e4=>?_;have t:j.heap.IsTuple N xs:=let⟨o,e,r⟩:=ht;⟨o,d.kp _ _ e,r⟩;obtain⟨hh,gg,dd,tt,oo⟩:=j;refine XY L n G W ec V e3 t λtk=>?_;refine aV (ZZ (tp:=N) (tk:=tk) b k F z) λS U=>?_;exact⟨rfl,h _ S U⟩
theorem kG.upd(h:kG P)(y:ai)(v:aj):kG (upd P y (.aI v)):=λz t e=>by
 unfold Mine.upd at e;split at e;.cases e;exact⟨v,rfl⟩
 .exact h z t e
theorem kG.bQ:∀{P:Gm}(h:kG P)(f:List ai)(K:List aj),kG (bQ P f (K.map .aI))|P,h,[],K=>by cases K<;>exact h|P,h,y::f,[]=>h|P,h,y::f,v::K=>kG.bQ (h.upd y v) f K
theorem K0:∀{P a:Gm}(h:∀x t,P x=aa t->a x=aa t)(f:List ai)(F:List T),∀x t,bQ P f F x=aa t->bQ a f F x=aa t
|P,a,h,[],F=>by cases F<;>exact h|P,a,h,y::f,[]=>h|P,a,h,y::f,t::F=>K0 (λz u e=>by
unfold Mine.upd at e⊢;split;.rename_i q;rw[if_pos q]at e;exact e
.rename_i q;rw[if_neg q]at e;exact h z u e) f F
structure oX(s S:aq)(x C:ah)(l:List (ai×aj)):Prop where
ks:Ks s S
new:s.heap.get? x=ak
inst:S.heap.Inst x C (u6 l)dict:∀o d,S.heap.get? x=aa o->o.dict=aa d->s.heap.get? d=ak
dat:∃o K v,S.heap.get? x=aa o/\o.cls=.ref C/\o.data=.fields K/\K.size=11/\K[0]?=aa (.ref v)/\K[1]?=aa .none
theorem x_call{oI:bR}{fd:eU}{M:List ai}{K:List aj}(X:XC s.heap C Y)(hi:fm Y "__init__"=some (.ref j))(N:s.heap.get? j=some oI)(T:oI.cls=.type "function")(fn:FnAt s.heap j fd z M)(g:GX s.heap fd.globals fd.builtins G)(Q:cF A (n+2))(hl:M.length=K.length+1)(hb:∀(A':aF)(B:aq)(x L:ah)(E:aj->aq->Prop),IB s.heap B (cu fd L j) x C Y->XI B B x C []->CX (aK (cu fd L j)) B.heap (cu fd L j) (bQ (λ_=>none) M (.aI (.ref x)::K.map .aI))->(∀x,fd.scope.names.lookup x=some .local\/fd.scope.names.lookup x=some .cell->(cu fd L j).kindOf x=some .local\/(cu fd L j).kindOf x=some .cell)->au (az PW w) A' (b8 z (cu fd L j)) (λf S=>f=.next/\XI B S x C l) E B):au (az PW w) A (dO (.ref C) K []) (λr S=>∃x,r=.ref x/\oX s S x C l) E s:=by
 obtain⟨h,gg,d,t,os⟩:=s;refine xdG X hi N T λh' x V F v=>?_;obtain⟨t0,v⟩:=v;have p:cF (A.under (.builtin "type.__call__" ⟨.ref C::K,[]⟩)) (n+1):=⟨Q.hd,by
have:=Q.dep;have e:(ue "type.__call__" ⟨.ref C::K,[]⟩).weight=1:=by first|rfl|kernel_rfl|simp[xen]
show A.depth+(ue "type.__call__" ⟨.ref C::K,[]⟩).weight+(n+1)<660;exact PY this e,by
have:=Q.jJ;have e:(ue "type.__call__" ⟨.ref C::K,[]⟩).cUnits=1:=by first|rfl|kernel_rfl
show A.units+(ue "type.__call__" ⟨.ref C::K,[]⟩).cUnits+8*(n+1)<2000;exact PX this e⟩;have rl:∀W:List aj,ay [x] h' (W.map .aI) W:=λW=>by induction W with|nil=>trivial|cons u W ih=>exact⟨.ie _,ih⟩
 have g':=g.kp V;refine wk (s:=⟨h',gg,d,t,os⟩) (X:=[x]) (ts:=.aI (.ref x)::K.map .aI) (fn.kp V) g' p (λa m=>⟨uQ C t0,by exact O (aW.mp m) v⟩) (λm=>?_) (λm=>?_) (by exact O fC (O (aH ..) hl)) (rl (.ref x::K)) λU E Z L f p hw=>?_;.obtain⟨o,e⟩:=g.gU;replace e:=aW.mp m▸e;exact gone e F
 .obtain⟨o,e⟩:=g.bU;replace e:=aW.mp m▸e;exact gone e F
 have J:∀a∈aK (cu fd L j),(∃o,U.heap.get? a=some o)/\a≠x:=λa m=>⟨f.cx.live a (bI _ (f.own a m)),λq=>by have:=f.new a (f.own a m);replace this:=(show(⟨h',gg,d,t,os⟩:aq).heap.get? x=_ from v)▸q▸this;cases this⟩;have R:IB h U (cu fd L j) x C Y:=⟨V.trans f.ks.kp,F,X,g.gU,g.bU,J⟩;have I:=f.ks.kp _ _ v;have xi:XI U U x C []:=⟨rfl,⟨_,I,rfl,λc q=>(by cases q),.inl ⟨rfl,λ_=>rfl⟩⟩,λb o _ e=>e,⟨_,I⟩,λo d H k=>(by replace H:=I▸H;cases H;cases k),_,_,t0,I,rfl,rfl,rfl,rfl,rfl⟩;refine aB (hb _ U x L E R xi ((f.cx.narrow (λa m=>bI _ (f.own a m)) (λa m=>m) λa m=>(J a m).1).less (K0 (λ_ _ e=>by cases e) _ _)) λy hy=>(hw y hy).1) (λfl S y=>?_) λ_ _ e=>e;obtain⟨rfl,q⟩:=y;refine⟨rfl,x,rfl,⟨q.IE R.k0 F,?_⟩,F,q.inst,λo dd H k=>?_,q.dat⟩;.have H:=q.eq;have k:=f.ks.eq;exact O H (O k rfl)
 .have:=q.dict o dd H k;cases hh:h.get? dd with|none=>rfl|some ob=>rw[R.k0 _ _ hh]at this;cases this
end
end
section
open Sem(wp)
section
variable{A:aF}{E:aj->aq->Prop}{s:aq}{C:ah}{Y:List (ah×(ai->Option aj))}
noncomputable def Quiet(Y:List (ah×(ai->Option aj))):Prop:=∀n∈(["__setattr__","args","smtp_code","smtp_error","sender","recipients","__getattribute__","__getattr__"]:List ai),fm Y n=ak
theorem U1{c:ah}{oI:bR}{d q:ai}{D i I J M:aj}{G:Gm}{n:Nat}(X:XC s.heap C Y)(F:fm Y "__init__"=aa (.ref c))(a:Quiet Y)(y:s.heap.get? c=aa oI)(p:oI.cls=.type "function")(j:FnAt s.heap c (qq (lO PW 12 0) d q D i) (bodyOf (lO PW 12 0)) ["self","code","msg","sender"])(g:GX s.heap 3 0 G)(u:cF A (n+2)):au (az PW w) A (dO (.ref C) [I,J,M] []) (λr S=>∃x,r=.ref x/\oX s S x C [("sender",M),("smtp_error",J),("smtp_code",I)]) E s:=by refine x_call (n:=n) X F y p j g u rfl λQ B x L E b f k N=>?_;have z:kG (bQ (λ_=>ak) ["self","code","msg","sender"] (.aI (.ref x)::[I,J,M].map .aI)):=kG.bQ (λ_ _ e=>by cases e) _ [.ref x,I,J,M];refine A2 b f k z (by rfl) (by rfl) (by kernel_rfl) (by kernel_rfl) (a _ dk) (a _ dk) (by refine O (iR ..) (O iO ?_);kernel_rfl) (by simp) λU f k=>?_;refine A2 b f k z (by rfl) (by rfl) (by kernel_rfl) (by kernel_rfl) (a _ dk) (a _ dk) (by refine O (iR ..) (O iO ?_);kernel_rfl) (by simp) λU f k=>?_;refine A2 b f k z (by rfl) (by rfl) (by kernel_rfl) (by kernel_rfl) (a _ dk) (a _ dk) (by refine O (iR ..) (O iO ?_);kernel_rfl) (by simp) λU f k=>?_;refine Ow b f k z (by rfl) (by kernel_rfl) (EL.cons (EV.name k) (EL.cons (EV.name k) (EL.cons (EV.name k) EL.nil))) (by simp) (a _ dk) (a _ dk) λU f k=>?_;exact iA ⟨rfl,f⟩
theorem VG{c:ah}{oI:bR}{d q:ai}{D i I:aj}{G:Gm}{n:Nat}(X:XC s.heap C Y)(F:fm Y "__init__"=aa (.ref c))(a:Quiet Y)(y:s.heap.get? c=aa oI)(p:oI.cls=.type "function")(j:FnAt s.heap c (qq (lO PW 13 0) d q D i) (bodyOf (lO PW 13 0)) ["self","recipients"])(g:GX s.heap 3 0 G)(u:cF A (n+2)):au (az PW w) A (dO (.ref C) [I] []) (λr S=>∃x,r=.ref x/\oX s S x C [("recipients",I)]) E s:=by refine x_call (n:=n) X F y p j g u rfl λQ B x L E b f k N=>?_;have z:kG (bQ (λ_=>ak) ["self","recipients"] (.aI (.ref x)::[I].map .aI)):=kG.bQ (λ_ _ e=>by cases e) _ [.ref x,I];refine A2 b f k z (by rfl) (by rfl) (by kernel_rfl) (by kernel_rfl) (a _ dk) (a _ dk) (by refine O (iR ..) (O iO ?_);kernel_rfl) (by simp) λU f k=>?_;refine Ow b f k z (by rfl) (by kernel_rfl) (EL.cons (EV.name k) EL.nil) (by simp) (a _ dk) (a _ dk) λU f k=>?_;exact iA ⟨rfl,f⟩
end
end
def rt(v I:Int):List (Int×T):=(en 0 (cW I)).map λq=>(q.2,pe (mk v q.1,bB q.2))
theorem LA(C:I∈r5)(g:o∈cW I):Po (rt v I) o=aa (pe (rowAt v I o)):=by have q:=aE.mp C;have:I=0\/I=1\/I=2\/I=3\/I=4:=lz q.1 q.2;rcases this with rfl|rfl|rfl|rfl|rfl<;>.simp only[cW,r5]at g;have p:o∈([0,1,2,3,4]:List Int):=(d7.mp g).1;simp only[bA,b9,or_false]at p;rcases p with rfl|rfl|rfl|rfl|rfl<;>first|rfl|(exfalso;revert g;decide)
theorem Wu:∀I∈r5,∀q∈en 0 (cW I),(0<=q.1/\q.1<4)/\0<=q.2/\q.2<5:=by decide+kernel
theorem X0:∀I∈r5,((en 0 (cW I)).map (·.2)).Nodup:=by decide+kernel
theorem fE{L:Type}(l:List L):l.filter (λ_=>af)=l:=zW.mpr λ_ _=>rfl
section
variable{A:aF}{G:aN}{X:List ah}{B:aA}{P:Gm}
theorem EF.tup{D c R F}(l:bJ X B)(h:EL A G X B R D F)(n:F.length<=100000):EF A G X B (.Tuple D c R) (.tup F):=λs E k=>by show au _ _ (do fL R;w7 (<-fN (cM R (bh D G)))) _ _ _;refine ao (cV (ao (aB (h s E k) (λK U x=>?_) λ_ _ e=>e)));have r:=x.2;refine Aq ⟨x.1.trans (.push ..),?_,_,rfl,g9 x.1.kp (get?_none_of_le (cQ _))⟩ (by refine O dJ ?_;have:=r.length;exact iW n this);exact⟨_,_,rfl,((l.kp k).kp x.1.kp).new,⟨_,cE _ rfl,rfl,0,rfl⟩,ay.kp (λb o _ e=>bX _ e) _ _ r⟩
theorem X3(v p:Int):0<=mk v p/\mk v p<4:=⟨vP _ dk,rK _ dk⟩
theorem EF.xgh{c1 c2 x u Z j:Nat}{p1 p2 p3 a e F h T l I N p d t k n z m S:aR}{v who o:Int}{b i f:ai}(c:CX X B G P)(C:who∈r5)(g:o∈cW who)(gr:P b=aa (DI (rt v who)))(E:P i=aa (.list ((keysOf v).map mh)))(U:P f=aa (.int o))(D:isVar G b=af)(r:isVar G i=af)(Y:isVar G f=af):EF A G X B (.Tuple [.BinOp (.Subscript (.Subscript (.Name b p1) (.Name f p2) p3) (.Constant (.int 0) c1 a) e) .Mult (.Subscript (.Subscript (.Name i F) (.Constant (.int 0) c2 h) T) (.Constant (.int 1) x l) I) N,.BinOp (.Name f p) .Mult (.Subscript (.Subscript (.Name i d) (.Constant (.int 1) u t) k) (.Constant (.int 1) Z n) z) m] j S) (fQ (g4 v who o)):=by have K:∀R,EV A G X B (.Name f R) (.int o):=λR=>EV.name c U Y;have J:∀R,EV A G X B (.Name i R) (.list ((keysOf v).map mh)):=λR=>EV.name c E r;have w:∀R,EV A G X B (.Name b R) (DI (rt v who)):=λR=>EV.name c gr D;have q:EV A G X B (.Subscript (.Subscript (.Name b p1) (.Name f p2) p3) (.Constant (.int 0) c1 a) e) (.int (rowAt v who o).1):=EV.sub (EV.sub (w p1) (K p2) (cS.dI (LA C g))) EV.int (cS.tup dk dk rfl);have H:EV A G X B (.Subscript (.Subscript (.Name i F) (.Constant (.int 0) c2 h) T) (.Constant (.int 1) x l) I) (.int (lY v)):=EV.sub (EV.sub (J F) EV.int (cS.list (t:=mh (0,lY v)) dk dk rfl)) EV.int (cS.tup dk dk rfl);have V:EV A G X B (.Subscript (.Subscript (.Name i d) (.Constant (.int 1) u t) k) (.Constant (.int 1) Z n) z) (.int (lZ v)):=EV.sub (EV.sub (J d) EV.int (cS.list (t:=mh (1,lZ v)) dk dk rfl)) EV.int (cS.tup dk dk rfl);have Q:=X3 v ((cW who).idxOf o);have y:=aE.mp (Kh g).1;have b1:EV A G X B (.BinOp (.Subscript (.Subscript (.Name b p1) (.Name f p2) p3) (.Constant (.int 0) c1 a) e) .Mult (.Subscript (.Subscript (.Name i F) (.Constant (.int 0) c2 h) T) (.Constant (.int 1) x l) I) N) (.int ((rowAt v who o).1*lY v)):=EV.bin q H (bD.zq (by show(mk v _).natAbs<_;exact BV Q.1 Q.2));have b2:EV A G X B (.BinOp (.Name f p) .Mult (.Subscript (.Subscript (.Name i d) (.Constant (.int 1) u t) k) (.Constant (.int 1) Z n) z) m) (.int (o*lZ v)):=EV.bin (K p) V (bD.zq (BV y.1 y.2));exact EF.tup c.live (EL.cons b1 (EL.cons b2 EL.nil)) (by simp)
end
noncomputable def NM:T:=.list (gJ.map .str)
def uR(v I:Int):T:=.tup [LI (cX v I),.bool af]
section
variable{A:aF}{G:aN}{X:List ah}{P:Gm}{s:aq}{E:aj->aq->Prop}
theorem Wv(k:CX X s.heap G P)(Y:P x=aa (.aI (.ref 55)))(u:P y=aa t)(h1:mS G x=af)(T:isVar G y=af)(K:Kp hH s.heap)(B:cF A (n+2))(i:∀a∈V,∃o,s.heap.get? a=aa o):au (az PW w) A (aT (.Call (.Name x h) [.Name y Q] [] b) G) (λz S=>Ks s S/\∃v g,Rep X S.heap t v/\z=.ref g/\uN S.heap V g 55 λy=>if y="comp_select_list"then aa v else ak) E s:=by
 show au _ _ (do mP b (<-aT (.Name x h) G) [] (cM b (bh [.Name y Q] G)) (oA b (n9 [] G))) _ _ _;refine ao (aB ((EV.glob (pos:=h) k Y h1) s E λ_ _ e=>e) (λv U R=>?_) λ_ _ e=>e);refine aV R λl D=>?_;obtain rfl:=D.cR;refine callWith_cls (h₀:=s.heap) (C:=55) (N:=54) (mN:=rF) ⟨(u5.kp K).obj,(u5.kp K).ns⟩ (aB ((EL.cons (EV.name (pos:=Q) k u T) (EL.nil (pos:=b))) U E l.kp) (λW J C=>?_) λ_ _ e=>e);refine aV C λM Z=>?_;have j:=l.trans M;refine⟨j.kp,?_⟩;refine aC (ay.jy Z) λN q=>?_;subst q;have Z:=Z.1;refine aB (Wq (n:=n) (K.trans j.kp) B) (λz c F=>?_) λ_ _ e=>e;obtain⟨r,g,rfl,f,I,p⟩:=F;refine⟨j.trans r,N,g,Rep.kp (r.kp.bL _) _ _ Z,rfl,I,λm=>?_,λo d H L m=>?_⟩;.refine aC (i _ m) λo e=>?_;rw[j.kp _ _ e]at f;cases f
 .refine aC (i _ m) λo' e=>?_;have:=p o d H L;rw[j.kp _ _ e]at this;cases this
end
section
open Sem(wp)
section
variable{M:vc}{A:aF}{E:aj->aq->Prop}{G:aN}{C:ah}{lc:List (ah×(ai->Option aj))}
theorem U3(f:A.handled=ak)(h:au M A x (λv U=>∃e o K,v=.ref e/\XC U.heap C lc/\U.heap.get? e=aa o/\o.cls=.ref C/\o.data=.fields K/\K[1]?=aa .none/\E (.ref e) U) E s):au M A (raiseStmt G (aa x) ak) Q E s:=by
 unfold raiseStmt;refine ao (aB h (λv U Z=>?_) λ_ _ x=>x);obtain⟨e,o,K,rfl,X,L,c,b,h1,u⟩:=Z;obtain⟨n,q,N,z,i,T,j,a,t,H,V,l,r,W,J⟩:=id X.obj;have k:(bV C::(lc.tail.map (λp=>bV p.1)++eY)).contains (.type "BaseException")=af:=ua dk;obtain⟨w,g,d,m,P⟩:=U;repeat(first|(with_reducible refine iQ L ?_;rw[c])|with_reducible refine iQ J ?_|(with_reducible refine pI J ?_;rw[k])|with_reducible refine jr L b h1 ?_|wp_step)
 exact wpAny_raiseNew_none f u
end
section
variable{A:aF}{E:aj->aq->Prop}{s:aq}{G:aN}{C:ah}{lc:List (ah×(ai->Option aj))}
theorem VH(h:au (az PW w) A (fN (cM a (bh (e::u) G))) (λK U=>XC U.heap C lc/\au (az PW w) A (dO (.ref C) K) Q E U) E s)(L:autoParam (bh (e::u) G=(av,aT e G)::bh u G) yAR)(p:autoParam ((cM a (bh u G)).any (·.1)=av) yAR):au (az PW w) A (mP a (.ref C) [] (cM a (bh (e::u) G)) []) Q E s:=by
 rw[L]at h⊢;have y:((cM a ((av,aT e G)::bh u G)).any (λx=>x.fst)||([]:List (Option ai×bg aj)).any λx=>x.fst.isNone)=av:=by show(av||(cM a (bh u G)).any (·.1)||av)=av;refine O p ?_;rfl
 unfold mP;refine ao (dH (mZ (aB h (λK U Z=>?_) λ_ _ x=>x)));obtain⟨c,g,d,t,P⟩:=U;obtain⟨n,q,N,z,f,T,i,b,m,H,V,M,j,W,J⟩:=id Z.1.obj;have k:=tc_lookup;have l:(⟨c,g,d,t,P⟩:aq).TypeIs (.ref C) "type":=⟨_,J,rfl⟩;refine ao (cV ?_);show au _ _ (za (.ref C)>>=_) _ _ _;refine ao (wpAny_keeperOf_exc J ?_);refine O y ?_;show au _ _ (dO (.ref C) K []>>=λr=>do ic [r] point;pure r) _ _ _;exact ao (aB Z.2 (λr S D=>ao (dH (wpAny_point (aM D)))) λ_ _ x=>x)
theorem x_raise{x:ai}{d a R:aR}{e:aS}{D:List aS}{ts:List T}{P:Gm}{X:List ah}{Q:ek->aq->Prop}{lf:List aj->List (ai×aj)}(k:CX X s.heap G P)(Y:P x=aa (.aI (.ref C)))(h1:mS G x=af)(t:A.handled=ak)(m:XC s.heap C lc)(h:EL A G X s.heap a (e::D) ts)(i:∀J b,Ks s J->ay X J.heap ts b->au (az PW w) A (dO (.ref C) b []) (λr S=>∃y,r=.ref y/\oX J S y C (lf b)) E J)(u:∀J S b y,Ks s J->ay X J.heap ts b->oX J S y C (lf b)->E (.ref y) S)(B:autoParam (bh (e::D) G=(av,aT e G)::bh D G) yAR)(p:autoParam ((cM a (bh D G)).any (·.1)=av) yAR):au (az PW w) A (dY (.Raise (aa (.Call (.Name x d) (e::D) [] a)) ak R) G) Q E s:=by
 refine O (arm_exec_Raise ..) ?_;refine ao (cV (U3 (C:=C) (lc:=lc) t ?_));show au _ _ ((do mP a (<-aT (.Name x d) G) [] (cM a (bh (e::D) G)) (oA a (n9 [] G)))>>=λv=>do fL R;pure v) _ _ _;refine ao (ao (aB ((EV.glob (pos:=d) k Y h1) s E λ_ _ e=>e) (λv U I=>?_) λ_ _ e=>e));refine aV I λV l=>?_;obtain rfl:=l.cR;refine VH (C:=C) (lc:=lc) (aB (h U E V.kp) (λb J g=>?_) λ_ _ e=>e) B p;refine aV g λM Z=>?_;have c:=V.trans M;refine⟨m.kp c.kp,aB (i J b c Z) (λr j F=>?_) λ_ _ e=>e⟩;refine aG F λy z f=>?_;try clear F;subst z
 refine ao (cV (aM ?_));refine v7 f.dat λo W t0 H L n N K q=>?_;exact⟨y,o,W,rfl,m.kp (c.trans f.ks).kp,H,L,n,q,u J j b y c Z f⟩
end
end
section
open Sem(wp)
structure Pp(F:List ah)(e:ah)(h h':aA):Prop where
kp:bf (e::F) h h'
soft:dF F h h'
exc:∀oe vs,h.get? e=aa oe->oe.data=.fields vs->1<vs.size->∃X T oT a,h'.get? e=aa X/\X.cls=oe.cls/\X.dict=oe.dict/\X.data=.fields (vs.setIfInBounds 1 (.ref T))/\h.get? T=ak/\T≠e/\h'.get? T=aa oT/\oT.data=.fields a/\3<a.size
section
variable{M:vc}{A:aF}{E:aj->aq->Prop}{s:aq}
theorem xbJ{G:aN}{v:bR}(F:A.frames=aa (G::a))(V:s.heap.FunFrames N (G::a))(W:G.frame=aa L)(p:s.heap.get? e=aa v)(U:v.data=.fields H)(h1:H[1]?=aa .none)(h:∀h',Pp ((G::a).filterMap (·.frame)) e s.heap h'->Q () {s with heap:=h'}):au M A (yO (.ref e) G) (λ_ s'=>au M A (Gh (.ref e) ak) Q E s') E s:=by
 have T:1<H.size:=(Ud.mp h1).1;unfold yO;simp only[W];refine ao (jr p U h1 ?_);refine O (if_neg dk) ?_;have y:e∉(G::a).filterMap (·.frame):=λX=>by obtain⟨_,o,g,I⟩:=V.mem X;rw[p]at g;injection g with g;subst g;exact I H U
 refine ao (wpAny_frameOf_fun F V W λZ l=>?_);refine ao (wpAny_entryPlaceOf λP B=>?_);unfold xhB newFields;refine ao (qz ?_ (B.sizeOk5 _ _ _ _ _));have w:Z.get? e=aa v:=(l.2.1 e y).trans p;have n:=bX (h:=Z) {cls:=.type "traceback",dict:=ak,data:=.fields ([fk,.ref L,.none,e9 L,.none]++if P.isEmpty then eH 6 fk else P).toArray} w;refine Ar n U T ?_;have z:Z.objs.size≠e:=gb (dQ w);have i:=vU U (·.setIfInBounds 1 (bV Z.objs.size));have k:=qu (i6 (·.setIfInBounds 1 (bV Z.objs.size))) n (zU i);have t:=(x9 (Z.push {cls:=.type "traceback",dict:=ak,data:=.fields ([fk,.ref L,.none,e9 L,.none]++if P.isEmpty then eH 6 fk else P).toArray}) (i6 (·.setIfInBounds 1 (bV Z.objs.size))) (gu z)).trans (cE Z rfl);unfold Gh;refine ao (jr k i (x:=.ref Z.objs.size) (by simp[T]) ?_);refine O (if_pos (show(bV Z.objs.size !=fk)=af from by simp)) ?_;refine Ar t rfl (by simp only[iZ,cK,fC,qC]<;>exact kI _ (dM _)) (h _ ?_);have x:∀b o,b≠e->Z.get? b=aa o->(((Z.push {cls:=.type "traceback",dict:=ak,data:=.fields ([fk,.ref L,.none,e9 L,.none]++if P.isEmpty then eH 6 fk else P).toArray}).update e (i6 (·.setIfInBounds 1 (bV Z.objs.size)))).update Z.objs.size (i6 (·.setIfInBounds 3 ((ak:Option ah).elim fk λf=>e9 f)))).get? b=aa o:=λb o r R=>by have C:Z.objs.size≠b:=gb (dQ R);exact O (x9 _ _ C) (O (x9 _ _ (gu r)) (bX _ R))
 have j:(i6 (·.setIfInBounds 1 (bV Z.objs.size)) v).dict=v.dict:=by obtain⟨c,d,dt,K⟩:=v;simp only at U;subst U;rfl
 have D:s.heap.get? Z.objs.size=ak:=by rw[l.1];exact get?_none_of_le (cQ _)
 refine⟨λb o m u=>x b o (λq=>m (q▸aP ..)) ((l.2.1 b λq=>m (aY _ q)).trans u),λb m o u=>?_,λY vs' J S q3=>?_⟩;.refine aC (l.2.2 b o u) λK e1=>?_;exact⟨K,x b _ (λq=>y (q▸m)) e1⟩
 .rw[p]at J;cases J;rw[U]at S;cases S;refine⟨_,Z.objs.size,_,_,(x9 _ _ z).trans k,J8 _ _,j,i,D,z,qu _ t (zU (vU rfl _)),vU rfl _,?_⟩;simp only[Array.size_setIfInBounds,iZ,cK,fC,qC];exact kI _ (dM _)
end
end
section
open Sem(wp)
section
variable{A:aF}{H X Y F S:List ah}{h h':aA}{i B s j:aq}{Z:List ah}{G:aN}{P l:Gm}{M:List (ah×T)}{E:aj->aq->Prop}
theorem LB(k:bf Y h h')(z:dF Y h h')(b:ah)(o:bR)(e:h.get? b=aa o):∃J,h'.get? b=aa {o with slots:=J}:=by
 by_cases m:b∈Y;.exact z b m o e
 .exact⟨o.slots,k b o m e⟩
theorem wN(a:∀b o,h.get? b=aa o->∃J,h'.get? b=aa {o with slots:=J})(n:h.Ns N m):h'.Ns N m:=by refine AD n λo D t e d r=>?_;refine aC (a _ _ e) λJ U=>?_;exact⟨_,D,t,U,d,r⟩
theorem Eb(a:∀b o,h.get? b=aa o->∃J,h'.get? b=aa {o with slots:=J})(n:h.IsCell N v):h'.IsCell N v:=by refine aG n λo e d=>?_;refine aC (a _ _ e) λJ U=>?_;exact⟨_,U,d⟩
theorem J2(a:∀b o,h.get? b=aa o->∃J,h'.get? b=aa {o with slots:=J})(n:iV h G x v):iV h' G x v:=by
 have g:uY h G x v->uY h' G x v:=λ⟨u,p,q⟩=>⟨u,wN a p,q.imp id λ⟨I,d,N,y⟩=>⟨I,d,wN a N,y⟩⟩;refine bw n (λe=>?_) λf=>bw f (λt=>?_) λk=>?_;.obtain⟨q,a⟩:=e;exact .inl ⟨q,g a⟩
 .obtain⟨q,m,p,r⟩:=t;exact .inr (.inl ⟨q,m,wN a p,r⟩)
 .obtain⟨q,c,p,r⟩:=k;exact .inr (.inr ⟨q,c,p,Eb a r⟩)
theorem CX.soft(c:CX X h G P)(k:bf Y h h')(z:dF Y h h')(w:∀a∈Y,a∈X):CX X h' G P:=by have a:=LB k z;have d:∀b,(∃o,h.get? b=aa o)->∃o,h'.get? b=aa o:=λb⟨o,e⟩=>let⟨J,U⟩:=a b o e;⟨_,U⟩;exact⟨⟨c.ok.fn,c.ok.ns.imp λm p=>wN a p,c.ok.loc,c.ok.eN,c.ok.blt,λx e=>let⟨q,f,p,r⟩:=c.ok.cell x e;⟨q,f,p,Eb a r⟩,c.ok.own,c.ok.apart,c.ok.off⟩,λb m=>d b (c.live b m),⟨d _ c.eZ.1,d _ c.eZ.2⟩,λx t e=>let⟨v,r,n⟩:=c.val x t e;⟨v,Rep.kp (k.mono w) t v r,J2 a n⟩⟩
theorem FS.soft(f:FS H i B s Z G P M)(k:bf F s.heap j.heap)(z:dF F s.heap j.heap)(L:j={s with heap:=j.heap,toks:=j.toks})(d:∀a∈F,a∈Z++H)(I:∀p∈M,p.1∉F)(D:∀a∈F,i.heap.get? a=ak)(R:∀a∈F,a∈aK G\/B.heap.get? a=ak):FS H i B j Z G P M:=by
 refine⟨⟨λb o e=>k b o (λm=>by exact gone e (D b m)) (f.ks.kp b o e),?_⟩,⟨λb o m e=>k b o (λq=>?_) (f.kx.kp b o m e),?_⟩,f.new,f.own,f.cx.soft k z d,λp m=>⟨(f.acc p m).1,(f.acc p m).2.1,(f.acc p m).2.2.kp (k.mono d) λo e=>k _ _ (I p m) e⟩,f.nd⟩;.have c:=f.ks.eq;exact O L (O c rfl)
 .refine bw (R b q) (λq=>?_) λq=>?_;.exact m (bI _ q)
  .exact gone e q
 .have c:=f.kx.eq;exact O L (O c rfl)
theorem FS.xdJ(f:FS H i s s Z G P M)(S:List ah):FS H i {s with heap:=kW s.heap S} s Z G P M:=⟨f.ks,⟨λb o _ e=>wF _ e,rfl⟩,f.new,f.own,f.cx,f.acc,f.nd⟩
theorem LC(f:FS H i {s with heap:=kW s.heap S} j Z G P M):bf (aK G++M.map (·.1)++S) s.heap j.heap:=λb o m e=>f.kx.kp b o (λq=>m (bI _ q)) (rW _ e λq=>m (cJ _ q))
theorem Ox{M:vc}{n:ai}{r:aR}{Q:Unit->aq->Prop}(c:CX X s.heap G P)(hl:G.kindOf n=aa .local)(h:∀j,br [G.locals] s j->CX X j.heap G (λy=>if y=n then ak else P y)->Q () j):au M A (do kQ G n .none;xaL G n r) Q E s:=by
 refine aC c.ok.ns λm K=>?_;refine wpAny_nameGoes_keeps hl K (by refine O c.ok.fn ?_;rfl) λh' v k I=>?_;have U:bf [G.locals] s.heap h':=λb o R e=>(I.2 b λq=>R (by exact O q (aW.mpr rfl))).trans e;have T:∀a∈[G.locals],a∈X:=λa q=>by exact O (aW.mp q) c.ok.loc
 have w:∀d f,(∃y,(y,d)∈G.cells)->s.heap.IsCell d f->h'.IsCell d f:=λd f⟨y,N⟩hc=>hc.sameBut I (c.ok.off y d N);have C:∀o,s.heap.get? G.globals=aa o->h'.get? G.globals=aa o:=λo e=>U _ _ (λq=>c.ok.eN (T _ q)) e;have D:∀o,s.heap.get? G.builtins=aa o->h'.get? G.builtins=aa o:=λo e=>U _ _ (λq=>c.ok.blt (T _ q)) e;refine h _ ⟨U,rfl⟩ ⟨⟨c.ok.fn,⟨_,k⟩,c.ok.loc,c.ok.eN,c.ok.blt,λy e=>?_,c.ok.own,c.ok.apart,c.ok.off⟩,λb R=>?_,⟨c.eZ.1.imp C,c.eZ.2.imp D⟩,λy u e=>?_⟩;.refine eK (c.ok.cell y e) λd f a b=>?_;exact⟨d,f,a,w d f ⟨y,mem_of_lookup a⟩ b⟩
 .by_cases q:b=G.locals;.refine ow k λo _ _ g _=>?_;exact O q ⟨o,g⟩
  .refine aC (c.live b R) λo g=>?_;exact⟨o,(I.2 b q).trans g⟩
 .by_cases q:y=n;.exact gone e (if_pos q)
  .replace e:=if_neg q▸e;refine aG (c.val y u e) λx r' W=>?_;refine⟨x,Rep.kp (U.mono T) u x r',?_⟩;refine W.map C D (λm' a b=>⟨_,k,?_⟩) λd a b=>w d _ ⟨y,a⟩ b;have:m=m':=by funext z;refine uo K λo es ep g hd hk hf=>?_;refine uo a λo' L V p J hk' t=>?_;replace p:=g▸p;cases p;replace J:=hd▸J;cases J;exact aQ (hf ..) (aQ (t ..) rfl)
   subst this;exact(if_neg q).trans b
end
end
section
open Sem(wp)
structure jA(h:aA)(e C:ah)(l:List (ai×aj)):Prop where inst:h.Inst e C (u6 l)dat:∃v K T oT F,h.get? e=aa v/\v.cls=.ref C/\v.data=.fields K/\K[1]?=aa (.ref T)/\T≠e/\(∀d,v.dict=aa d->d≠T)/\h.get? T=aa oT/\oT.data=.fields F/\3<F.size
theorem jA.kp(k:Kp h h')(x:jA h e C l):jA h' e C l:=by obtain⟨v,K,T,oT,F,a,b,c,d,H,L,f,g,i⟩:=x.dat;exact⟨wI k x.inst,v,K,T,oT,F,k _ _ a,b,c,d,H,L,k _ _ f,g,i⟩
noncomputable def nA(h:aA)(e:ah)(b:ah):Prop:=b=e\/∃v,h.get? e=aa v/\(v.dict=aa b\/∃K,v.data=.fields K/\K[1]?=aa (.ref b))
theorem jA.dK(k:bf X h h')(x:jA h e C l)(Y:∀b,nA h e b->b∉X):jA h' e C l:=by obtain⟨v,K,T,oT,F,a,b,c,d,H,L,f,g,i⟩:=x.dat;have S:=k _ _ (Y e (.inl rfl)) a;refine⟨?_,v,K,T,oT,F,S,b,c,d,H,L,k _ _ (Y T (.inr ⟨v,a,.inr ⟨K,c,d⟩⟩)) f,g,i⟩;refine fU x.inst λo Q R M Z=>?_;replace Q:=a▸Q;cases Q;refine⟨_,S,R,M,Z.imp id λ⟨m,j,r,u⟩=>⟨m,j,r,?_⟩⟩;refine ow u λW D t I N=>?_;exact⟨W,D,t,k _ _ (Y m (.inr ⟨v,a,.inl j⟩)) I,N⟩
section
variable{M:vc}{A:aF}{E:aj->aq->Prop}{h:aA}{g:Array mO}{d:nC}{t:Nat}{P:bN}{C D e:ah}{Y o:List (ah×(ai->Option aj))}
theorem MS{v:bR}(X:XC h C Y)(c:XC h D o)(L:h.get? e=aa v)(Z:v.cls=.ref C)(B:Q ((bV C::(Y.tail.map (λp=>bV p.1)++eY)).contains (.ref D)) ⟨h,g,d,t,P⟩):au M A (excMatches (.ref e) (.ref D)) Q E ⟨h,g,d,t,P⟩:=by
 obtain⟨n,q,N,bs,s,T,r,b,dd,V,k1,H,z,W,J⟩:=X.obj;obtain⟨l,R,S,x,I,u,K,y,G,U,F,j,w,i,a⟩:=c.obj;have k:(bV D::(o.tail.map (λp=>bV p.1)++eY)).contains (.type "BaseException")=af:=ua dk;have hT:(⟨h,g,d,t,P⟩:aq).TypeIs (.ref D) "type":=⟨_,a,rfl⟩;have f:=tc_notTuple;unfold excMatches;repeat(first|(with_reducible refine iQ L ?_;refine O Z ?_)|(with_reducible refine pI a ?_;refine O k ?_)|with_reducible refine pI J ?_|wp_step)
 generalize(bV C::(Y.tail.map (λp=>bV p.1)++eY)).contains (.ref D)=m at B⊢;cases m<;>(wp_walk;exact B)
end
theorem jA.of{J j:aq}(x:oX J j e C l)(n:Pp F e j.heap h')(v:∀b∈F,∃o,J.heap.get? b=some o):jA h' e C l/\bf F J.heap h'/\dF F J.heap h'/\∀b,nA h' e b->J.heap.get? b=none:=by
 refine v7 x.dat λo K t0 H L U h e5 e6=>?_;obtain⟨X,T,oT,G,g,i,y,Y,d,s,P,w,V⟩:=n.exc o K H U (vf (i8 h));have u:∀b S,J.heap.get? b=some S->b≠e:=λb S q z=>by replace q:=z▸q;exact gone q x.new
 have B:J.heap.get? T=none:=by cases q:J.heap.get? T with|none=>rfl|some ot=>rw[x.ks.kp _ _ q]at d;cases d
 have f:(K.setIfInBounds 1 (.ref T))[1]?=some (.ref T):=by exact O (Array.getElem?_setIfInBounds_self_of_lt (vf (i8 h))) rfl
 refine⟨⟨?_,X,_,T,oT,G,g,i.trans L,Y,f,s,λa I N=>?_,P,w,V⟩,λb S m q=>n.kp b S (λz=>(bA.mp z).elim (u b S q) m) (x.ks.kp _ _ q),λb m S q=>n.soft b m S (x.ks.kp _ _ q),λb q=>?_⟩
 .refine fU x.inst λW Q R M Z=>?_;replace Q:=H▸Q;cases Q;refine⟨X,g,i.trans L,λc q=>(by replace q:=Y▸q;cases q),?_⟩;refine O y ?_;refine Z.imp id λ⟨a,E,r,W,D,t,I,N⟩=>⟨a,E,r,W,D,t,n.kp a W (λm=>?_) I,N⟩;rcases bA.mp m with m|m;.exact r m
  .refine aC (v a m) λS q=>?_;exact gone q (x.dict o a H E)
 .replace I:=y▸I;refine fU x.inst λW Q R M Z=>?_;replace Q:=H▸Q;cases Q;rcases Z with⟨k,_⟩|⟨d2,E,r,W,D,t,p,q4⟩;.exact gone I k
  .replace I:=E▸I;cases I;replace p:=d▸N▸p;cases p
 .rcases q with rfl|⟨oe,I,N⟩;.exact x.new
  .replace I:=g▸I;cases I;rcases N with N|⟨A,N,p⟩;.replace N:=y▸N;exact x.dict o b H N
   .replace N:=Y▸N;cases N;replace p:=f▸p;cases p;exact B
end
section
open Sem(wp)
section
variable{A:aF}{H X Y F S:List ah}{h h':aA}{N B s s':aq}{Z:List ah}{G:aN}{P d:Gm}{M:List (ah×T)}{E:aj->aq->Prop}
theorem CX.GS(c:CX X h G P)(k:bf F h h')(z:dF F h h')(w:∀a∈F,a∈X)(K:∀a∈Y,h.get? a=ak)(g:∀a∈Y,∃o,h'.get? a=aa o):CX (Y++X) h' G P:=by
 have a:=LB k z;have i:∀b,(∃o,h.get? b=aa o)->∃o,h'.get? b=aa o:=λb⟨o,e⟩=>let⟨J,U⟩:=a b o e;⟨_,U⟩;have j:∀b,(∃o,h.get? b=aa o)->b∉Y:=λb⟨o,e⟩m=>by exact gone e (K b m)
 have f:∀{b},b∈X->b∈Y++X:=λm=>cJ _ m;exact⟨⟨c.ok.fn,c.ok.ns.imp λm p=>wN a p,f c.ok.loc,λm=>(bC.mp m).elim (j _ c.eZ.1) c.ok.eN,λm=>(bC.mp m).elim (j _ c.eZ.2) c.ok.blt,λx e=>let⟨q,l,p,r⟩:=c.ok.cell x e;⟨q,l,p,Eb a r⟩,λx q m=>f (c.ok.own x q m),c.ok.apart,c.ok.off⟩,λb m=>(bC.mp m).elim (g b) λm=>i b (c.live b m),⟨i _ c.eZ.1,i _ c.eZ.2⟩,λx t e=>let⟨v,r,n⟩:=c.val x t e;⟨v,Rep.kp (k.mono λb m=>f (w b m)) t v (Rep.wide (λb m=>(bC.mp m).elim (λm=>.inl (K b m)) .inr) t v r),J2 a n⟩⟩
theorem FS.GS(f:FS H N B s Z G P M)(k:bf F s.heap s'.heap)(z:dF F s.heap s'.heap)(L:s'={s with heap:=s'.heap,toks:=s'.toks})(i:∀a∈F,a∈Z++H)(I:∀p∈M,p.1∉F)(D:∀a∈F,N.heap.get? a=ak)(R:∀a∈F,a∈aK G\/B.heap.get? a=ak)(K:∀a∈Y,s.heap.get? a=ak)(j:∀a∈Y,∃o,s'.heap.get? a=aa o):FS H N B s' (Y++Z) G P M:=by
 have g:∀{b},b∈Z++H->b∈Y++Z++H:=λm=>by exact O (fT ..) (cJ _ m)
 refine⟨⟨λb o e=>k b o (λm=>by exact gone e (D b m)) (f.ks.kp b o e),?_⟩,⟨λb o m e=>k b o (λq=>?_) (f.kx.kp b o m e),?_⟩,λa m=>(bC.mp m).elim (λm=>g9 f.ks.kp (K a m)) (f.new a),λa m=>cJ _ (f.own a m),?_,λp m=>⟨cJ _ (f.acc p m).1,(f.acc p m).2.1,?_⟩,f.nd⟩;.have c:=f.ks.eq;exact O L (O c rfl)
 .refine bw (R b q) (λq=>?_) λq=>?_;.exact m (bI _ q)
  .exact gone e q
 .have c:=f.kx.eq;exact O L (O c rfl)
 .exact O (fT ..) (f.cx.GS k z i K j)
 .have:=fz.NZ (Y:=Y) (h':=s.heap) (λ_ _ e=>e) K (f.acc p m).2.2;rw[<-fT]at this;exact this.kp (k.mono λb m=>g (i b m)) λo e=>k _ _ (I p m) e
end
section
variable{A:aF}{H:List ah}{N B s S:aq}{Z:List ah}{G:aN}{P r:Gm}{M:List (ah×T)}{E:aj->aq->Prop}{C D e:ah}{Y g:List (ah×(ai->Option aj))}{l:List (ai×aj)}
theorem Pq(f:FS H N B s Z G P M)(hcn:P cn=aa (.aI (.ref D)))(h1:mS G cn=af)(hn:G.kindOf n=aa .local)(hnw:dg G n∈aK G)(X:XC s.heap C Y)(XD:XC s.heap D g)(xgi:(bV C::(Y.tail.map (λp=>bV p.1)++eY)).contains (.ref D)=af)(er:jA s.heap e C l)(W:∀b,nA s.heap e b->b∈Z/\b∉aK G/\b∉M.map (·.1)/\B.heap.get? b=ak)(h:∀U E',FS H N B U Z G (upd P n (.aI (.ref e))) M->jA U.heap e C l->(∀b o,b∉aK G->¬nA s.heap e b->s.heap.get? b=aa o->U.heap.get? b=aa o)->(∀b,nA U.heap e b->nA s.heap e b)->au (az PW w) (A.mark (aa (.ref e))) (b8 (b₀::x) G) (λfl s₂=>au (az PW w) A (do kQ G n .none;xaL G n pos) (λ_ R=>Q fl R) E s₂) E' U):au (az PW w) A (G7 (.ref e) G (.ExceptHandler (aa (.Name cn cp)) (aa n) (b₀::x) pos::rest)) Q E s:=by
 refine xaU (Ze (aB ((EV.glob (pos:=cp) f.cx hcn h1) s _ λ_ _ e=>e) (λc U y=>?_) λ_ _ e=>e)) (by intro q;cases q);refine aV y λV r1=>?_;obtain rfl:=r1.cR;have f1:=f.step V;have Sl:=er.kp V.kp;have X1:=X.kp V.kp;have XD1:=XD.kp V.kp;refine KA er.dat λK vs0 T0 oT0 ts0 z0 _=>?_;have t:∀b,nA U.heap e b->b∈Z/\b∉aK G/\b∉M.map (·.1)/\B.heap.get? b=ak:=λb q=>W b (q.imp id λ⟨v,I,J⟩=>⟨v,by rw[V.kp _ _ z0]at I;cases I;exact z0,J⟩);obtain⟨v,vs,T,oT,ts,a,b,c,d,e1,e2,g1,g2,g3⟩:=Sl.dat;obtain⟨L,gg,dd,tt,oo⟩:=U;refine MS X1 XD1 a b ?_;refine O xgi ?_;refine codeAny_handlers_suite_as (wpAny_setFlight_none a c d g1 g2 g3 ?_);have i:=t T (.inr ⟨v,a,.inr ⟨vs,c,d⟩⟩);have j:=vU g2 (·.setIfInBounds 3 fk);have gT:=qu (i6 (·.setIfInBounds 3 fk)) g1 (zU j);have F:bf [T] L (L.update T (i6 (·.setIfInBounds 3 .none))):=λq o m eq=>(x9 _ _ λz:T=q=>m (by exact O z (aW.mpr rfl))).trans eq;have f2:FS H N B ⟨L.update T (i6 (·.setIfInBounds 3 .none)),gg,dd,tt,oo⟩ Z G P M:=f1.other (Y:=[T]) ⟨F,rfl⟩ (λq m=>by exact O (aW.mp m) i.1) (λq m z=>by replace m:=aW.mp z▸m;exact i.2.1 m) (λp m z=>i.2.2.1 (by exact aQ (aW.mp z) (bE.mpr ⟨p,m,rfl⟩))) (λq m=>by exact O (aW.mp m) ⟨_,gT⟩) λq m=>by exact O (aW.mp m) i.2.2.2
 have er2:jA (L.update T (i6 (·.setIfInBounds 3 .none))) e C l:=by refine⟨?_,v,vs,T,_,_,F _ _ (λm=>e1 (aW.mp m).symm) a,b,c,d,e1,e2,gT,j,by simpa using g3⟩;refine fU Sl.inst λo i1 i2 i3 i4=>?_;replace i1:=a▸i1;cases i1;refine⟨_,F _ _ (λm=>e1 (aW.mp m).symm) a,i2,i3,i4.imp id λ⟨dd,j1,j2,j3⟩=>⟨dd,j1,j2,?_⟩⟩;refine ow j3 λo' es ep I J=>?_;exact⟨o',es,ep,F _ _ (λm=>e2 dd j1 (aW.mp m)) I,J⟩
 have u:∀b,nA (L.update T (i6 (·.setIfInBounds 3 .none))) e b->b∉aK G:=λb q=>(t b (q.imp id λ⟨IF,I,J⟩=>⟨v,a,by rw[F _ _ (λm=>e1 (aW.mp m).symm) a]at I;cases I;exact J⟩)).2.1;refine Jp f2.cx (.inl hn) (.ie (.ref e)) λS k' c'=>?_;have k:br (aK G) _ S:=k'.mono λq m=>by exact O (aW.mp m) hnw
 have Sm:K=v:=by have:=V.kp _ _ z0;replace this:=(show L.get? e=_ from a)▸this;cases this;rfl
 refine h S _ (f2.re k c') (er2.dK k.kp λb q=>u b q) (λb o m p eb=>k.kp b o m (F b o (λq=>p ?_) (V.kp b o eb))) λb q=>?_;.exact O (aW.mp q) (.inr ⟨K,z0,.inr ⟨vs,Sm▸c,d⟩⟩)
 .refine q.imp id λ⟨IF,I,J⟩=>⟨K,z0,?_⟩;have he':S.heap.get? e=aa v:=k.kp e v (u e (.inl rfl)) (F e v (λm=>e1 (aW.mp m).symm) a);replace I:=he'▸I;cases I;exact O Sm J
end
end
section
open Sem(wp)
noncomputable def Sn:aA:={objs:=#[]}
noncomputable def FO(h:aA)(i:List aN):Prop:=∀en∈i,en.scope.kind≠.module/\∃L m,en.frame=aa L/\h.Ns L m
theorem FO.soft{h h':aA}(f:FO h i)(a:∀b o,h.get? b=aa o->∃J,h'.get? b=aa {o with slots:=J}):FO h' i:=λen m=>let⟨k,L,H,e,n⟩:=f en m;⟨k,L,H,e,wN a n⟩
theorem FO.kp(f:FO h i)(k:Kp h h'):FO h' i:=f.soft λb o e=>⟨o.slots,k b o e⟩
theorem FO.fun{h:aA}(f:FO h i):h.FunFrames Sn i:=by induction i with|nil=>trivial|cons en r G=>obtain⟨k,L,m,e,o,D,t,a,b,c⟩:=f en (aP ..);exact⟨k,⟨L,o,e,rfl,a,λK q=>by replace q:=b▸q;cases q⟩,G λg H=>f g (aY _ H)⟩
theorem FO.live{h:aA}{i:List aN}(f:FO h i):∀a∈i.filterMap (·.frame),∃o,h.get? a=aa o:=λa m=>by refine aG (Xi.mp m) λen U s=>?_;obtain⟨k,L,H,e,o,D,t,q,_⟩:=f en U;replace s:=e▸s;cases s;exact⟨o,q⟩
section
variable{A:aF}{H:List ah}{N B s J S:aq}{Z:List ah}{G:aN}{P r:Gm}{M:List (ah×T)}{E:aj->aq->Prop}{C D e:ah}{Y g:List (ah×(ai->Option aj))}{l:List (ai×aj)}{i:List aN}
theorem xbK(f:FS H N B s Z G P M)(t:P k=aa (.aI (.ref D)))(h1:mS G k=af)(X:XC s.heap C Y)(F:XC s.heap D g)(x:(bV C::(Y.tail.map (λp=>bV p.1)++eY)).contains (.ref D)=av)(m:jA s.heap e C l)(h:∀U,Ks s U->au (az PW w) A (G7 (.ref e) G u) Q E U):au (az PW w) A (G7 (.ref e) G (.ExceptHandler (aa (.Name k L)) (aa n) (j::z) v::u)) Q E s:=by refine xaU (Ze (aB ((EV.glob (pos:=L) f.cx t h1) s _ λ_ _ e=>e) (λc U y=>?_) λ_ _ e=>e)) (by intro q;cases q);obtain⟨V,K⟩:=y;obtain rfl:=K.cR;obtain⟨oe,vs,T,oT,ts,a,b,c,d,e1,e2,g1,g2,g3⟩:=(m.kp V.kp).dat;have W:=X.kp V.kp;have I:=F.kp V.kp;have R:=h U V;obtain⟨o,gg,dd,tt,oo⟩:=U;refine MS W I a b ?_;exact O x R
theorem LD(f:FS H N B s Z G P M)(k:Ks s J)(V:oX J S e C l)(hfr:A.frames=some (G::i))(hL:G.frame=some L)(hl:L=G.locals)(fo:FO s.heap i)(hS:∀a∈i.filterMap (·.frame),a∈H/\a∉Z/\N.heap.get? a=none/\B.heap.get? a=none)(hML:L∉M.map (·.1))(h:∀j Z',(∀a∈Z,a∈Z')->(∀a∈Z',a∈Z\/s.heap.get? a=none)->FS H N B j Z' G P M->jA j.heap e C l->(∀b,nA j.heap e b->b∈Z'/\b∉aK G/\b∉M.map (·.1)/\B.heap.get? b=none)->bf (L::i.filterMap (·.frame)) s.heap j.heap->dF (L::i.filterMap (·.frame)) s.heap j.heap->Q () j):au (az PW w) A (yO (.ref e) G) (λ_ t=>au (az PW w) A (Gh (.ref e) none) Q E t) E S:=by
 refine v7 V.dat λo vs t0 e1 e2 e3 e4 e5 e6=>?_;have v:=f.step k;have W:=fo.kp k.kp;have So:=W.kp V.ks.kp;refine aC v.cx.ok.ns λm hn=>?_;have hn':=hn.keeps V.ks.kp;have hff:S.heap.FunFrames Sn (G::i):=FO.fun (h:=S.heap) λen mm=>by
  rcases bA.mp mm with rfl|mm;.exact⟨by refine O v.cx.ok.fn ?_;decide,L,m,hL,by exact O hl hn'⟩
  .exact So en mm
 refine xbJ hfr hff hL e1 e3 e6 λh' no=>?_;have hfm:(G::i).filterMap (·.frame)=L::i.filterMap (·.frame):=by exact O List.filterMap_cons (O hL rfl)
 replace no:=hfm▸no;have y:L∈aK G:=by exact O hl (aP ..)
 have U:∀b∈L::i.filterMap (·.frame),∃o,J.heap.get? b=some o:=λb mb=>by
  rcases bA.mp mb with rfl|mb;.exact v.cx.live _ (bI _ (v.own _ y))
  .exact W.live b mb
 refine kZ (jA.of V no U) λer kF sF x=>?_;obtain⟨F,us,T,oT,ts,a,b,c,d,q1,q2,g1,g2,g3⟩:=id er.dat;have hY:∀z,nA h' e z↔z∈e::T::F.dict.toList:=λz=>by
  constructor
  .rintro(rfl|⟨IF,R,n⟩);.exact aP ..
   .replace R:=a▸R;cases R;rcases n with n|⟨us',n,I⟩;.exact O n (aY _ (aY _ (aW.mpr rfl)))
    .replace n:=c▸n;cases n;replace I:=d▸I;cases I;exact aY _ (aP ..)
  .intro u;rcases bA.mp u with rfl|u;.exact .inl rfl
   .rcases bA.mp u with rfl|u;.exact .inr ⟨F,a,.inr ⟨us,c,d⟩⟩
    .refine .inr ⟨F,a,.inl ?_⟩;cases hd:F.dict with|none=>replace u:=hd▸u;cases u|some dd=>replace u:=hd▸u;exact congrArg some (aW.mp u).symm
 have eqs:({S with heap:=h'}:aq)={J with heap:=h',toks:=S.toks}:=by have:=V.ks.eq;exact O this rfl
 have hup:∀z∈e::T::F.dict.toList,∃o,h'.get? z=some o:=λz u=>by
  rcases(hY z).mpr u with rfl|⟨IF,R,n⟩;.exact⟨_,a⟩
  .replace R:=a▸R;cases R;rcases n with n|⟨us',n,I⟩
   .refine fU er.inst λo' i1 i2 i3 i4=>?_;replace i1:=a▸i1;cases i1;rcases i4 with⟨j0,_⟩|⟨d2,j1,j2,o',es,ep,q3,q4⟩;.exact gone n j0
    .replace n:=j1▸n;cases n;exact⟨_,q3⟩
   .replace n:=c▸n;cases n;replace I:=d▸I;cases I;exact⟨_,g1⟩
 have fZ:∀z∈e::T::F.dict.toList,J.heap.get? z=none:=λz u=>x z ((hY z).mpr u);have f4:=v.GS (s':=({S with heap:=h'}:aq)) (Y:=e::T::F.dict.toList) kF sF eqs (λz u=>by
rcases bA.mp u with rfl|u;.exact bI _ (v.own _ y)
.exact cJ _ (hS z u).1) (λp X u=>by
rcases bA.mp u with q|u;.exact hML (q▸bE.mpr ⟨p,X,rfl⟩)
.exact(hS _ u).2.1 (v.acc p X).1) (λz u=>by
rcases bA.mp u with rfl|u;.exact v.new _ (v.own _ y)
.exact(hS z u).2.2.1) (λz u=>by
rcases bA.mp u with rfl|u;.exact .inl y
.exact .inr (hS z u).2.2.2) fZ hup;have K:∀z,J.heap.get? z=none->s.heap.get? z=none:=λz q=>g9 k.kp q;refine h _ _ (λz u=>cJ _ u) (λz u=>(bC.mp u).elim (λu=>.inr (K z (fZ z u))) .inl) f4 er (λz u=>?_) (λz o u q=>kF z o u (k.kp _ _ q)) λz u o q=>sF z u o (k.kp _ _ q);have hz:=x z u;refine⟨bI _ ((hY z).mp u),λmo=>?_,λmM=>?_,v.B6 hz⟩;.refine aC (v.cx.live z (bI _ (v.own _ mo))) λo q=>?_;exact gone q hz
 .refine aG (bE.mp mM) λp X ep=>?_;have qo:p.1=z:=ep;refine aC (v.acc p X).2.2.up λo q=>?_;replace q:=qo▸q;exact gone q hz
end
end
section
open Sem(wp)
section
variable{j:dw}{w:bF}{A:aF}{E:aj->aq->Prop}{h:aA}{g:Array mO}{d:nC}{t:Nat}{P:bN}{C D e:ah}{Y o:List (ah×(ai->Option aj))}
theorem U4{v:bR}(r:k=.int f tk)(X:XC h C Y)(i:XC h D o)(S:C≠D)(x:(bV C::(Y.tail.map (λp=>bV p.1)++eY)).contains (.ref D)=af)(L:h.get? e=aa v)(Z:v.cls=.ref C)(R:Q (.done (.ret (.bool af))) ⟨h,g,d,t,P⟩):au (az j w) A (Builtin.«isinstance.nested» ⟨[.ref e,.ref D,k],[]⟩) Q E ⟨h,g,d,t,P⟩:=by
 subst r;obtain⟨B,q,N,bs,z,T,H,a,dd,k0,k1,k2,M,W,J⟩:=X.obj;obtain⟨l,q',V,n,I,u,K,y,G,U,F,c,b,s,m⟩:=i.obj;have hT:(⟨h,g,d,t,P⟩:aq).TypeIs (.ref D) "type":=⟨_,m,rfl⟩;have hn:(bV C==bV D)=av:=by simpa using S
 repeat(any_goals(first|assumption|(with_reducible refine iQ L ?_;refine O Z ?_)|(with_reducible refine pI J ?_;refine O x ?_)|wp_step))
theorem Cd{v:bR}(X:XC h C Y)(c:XC h D o)(S:C≠D)(x:(bV C::(Y.tail.map (λp=>bV p.1)++eY)).contains (.ref D)=af)(L:h.get? e=aa v)(Z:v.cls=.ref C)(B:Q (.bool af) ⟨h,g,d,t,P⟩):au (az j w) A (dO (.builtin "isinstance") [.ref e,.ref D]) Q E ⟨h,g,d,t,P⟩:=call_isinstance (S:=λ_ R s=>s=⟨h,g,d,t,P⟩/\R (.ok (.ret (.bool af))) s) (λ_ _ _ _ s W=>by
refine aV W λI a=>?_;try clear W;subst I
exact isinstance_outer (U4 rfl X c S x L Z a) (by intro q;cases q)) ⟨rfl,B⟩
end
section
variable{A:aF}{G:aN}{X:List ah}{B:aA}{C D e:ah}{Y c:List (ah×(ai->Option aj))}{l:List (ai×aj)}
theorem CA.Cd(h:XC B C Y)(d:XC B D c)(S:C≠D)(x:(bV C::(Y.tail.map (λp=>bV p.1)++eY)).contains (.ref D)=af)(w:jA B e C l):CA A X B (.builtin "isinstance") [.aI (.ref e),.aI (.ref D)] (.bool af):=λs E K k r=>by refine lu (ay.nI r) λv u z=>?_;subst z;have r:=iT r.1 r.2.1;obtain rfl:=r.1.cR;obtain rfl:=r.2.cR;refine Vh (w.kp k).dat λg W T oT F a b _=>?_;have f:=h.kp k;have I:=d.kp k;obtain⟨j,i,m,n,L⟩:=s;exact Mine.Cd f I S x a b ⟨.refl _,.AV _⟩
theorem EV.BA{R:aR}(g:EV A G X B o (.aI (.ref e)))(h:XC B C Y)(a:Quiet Y)(b:fm Y p=ak)(f:jQ (.type "OSError") p=pure ak)(w:jA B e C l)(K:u6 l p=aa v)(d:wV v=pure v)(r:Rep X B t v)(L:∀G,aT (.Attribute o p R) G=(do let q<-aT o G;fL R.atName;let r<-ic [q] (HQ q p af)MA o q r;pure r):=by intro _;with_unfolding_all rfl):EV A G X B (.Attribute o p R) t:=λs E k=>by refine xgS (aB (g s E k) (λu U y=>?_) λ_ _ e=>e) (L G);obtain rfl:=y.2.cR;have V:=k.trans y.1.kp;exact xdI (h.kp V) (a _ (by decide)) (a _ (by decide)) b f (w.kp V).inst K d ⟨y.1.trans (.tok ..),Rep.kp (V.bL X) _ _ r⟩
end
end
section
variable{A:aF}{X:List ah}{B:aA}
theorem aX.isRef:aX A X B .Is (.aI (.ref a)) (.aI (.ref a)) af:=λs E u v k J c=>by obtain rfl:=J.cR;obtain rfl:=c.cR;show au _ A (do return Nt (<-isSame (.ref a) (.ref a))) _ E s;exact ao (wpAny_isSame_ref_self (aM ⟨.refl _,rfl⟩))
end
def qCk(l:List (ah×(ai->Option aj))):Bool:=(["__setattr__","args","smtp_code","smtp_error","sender","recipients","__getattribute__","__getattr__"]:List ai).all λn=>(fm l n).isNone
theorem LF(h:qCk l=af):Quiet l:=λn m=>Uc.mp (cg.mp h n m)
noncomputable abbrev zG(C N:ah):Prop:=∃o s,hH.get? C=aa o/\o.cls=.type "type"/\o.data=.cls s/\hH.Ns s.ns (hH.nsMap N)
theorem Cy{o:bR}(e:h1.get? C=aa o)(n:C∉[PL])(c:o.cls=.type "type")(d:o.data=.cls (j4 o))(K:(j4 o).ns=N)(i:hH.isNs N=af):zG C N:=⟨o,_,ku e n,c,d,by exact O K (.of_isNs i)⟩
theorem Cz{o:bR}{l:List (ah×(ai->Option aj))}(e:h1.get? C=aa (Fp (j4 o).name (j4 o).qualname C (j4 o).ns (j4 o).bases (l.tail.map (λp=>bV p.1)++eY) af (j4 o).slotNames (j4 o).subclasses (j4 o).abstract (j4 o).collection o.dict (qj o 0) (qj o 1) (qj o 2) (qj o 3) (qj o 5) "OSError.__new__"))(n:C∉[PL])(U:l.head?.map (·.1)=aa C)(a:uw hH l):XC hH C l:=⟨⟨_,_,_,_,_,_,_,_,_,_,_,_,_,_,ku e n⟩,U,a⟩
theorem Ce:zG 100 99:=Cy (C:=100) (N:=99) (o:=MineH.Fw) (by kernel_rfl) (by decide) (by kernel_rfl) (by kernel_rfl) (by kernel_rfl) (by kernel_rfl)
theorem QD:zG 120 119:=Cy (C:=120) (N:=119) (o:=MineH.Ft) (by kernel_rfl) dk (by kernel_rfl) (by kernel_rfl) (by kernel_rfl) (by kernel_rfl)
theorem xgj:zG 139 138:=Cy (C:=139) (N:=138) (o:=MineH.Fv) (by kernel_rfl) dk (by kernel_rfl) (by kernel_rfl) (by kernel_rfl) (by kernel_rfl)
theorem xgk:zG 158 157:=Cy (C:=158) (N:=157) (o:=MineH.Fx) (by kernel_rfl) (by decide) (by kernel_rfl) (by kernel_rfl) (by kernel_rfl) (by kernel_rfl)
noncomputable abbrev lE:List (ah×(ai->Option aj)):=[(100,hH.nsMap 99)]
noncomputable abbrev lB:List (ah×(ai->Option aj)):=[(120,hH.nsMap 119),(100,hH.nsMap 99)]
noncomputable abbrev lS:List (ah×(ai->Option aj)):=[(139,hH.nsMap 138),(120,hH.nsMap 119),(100,hH.nsMap 99)]
noncomputable abbrev lR:List (ah×(ai->Option aj)):=[(158,hH.nsMap 157),(100,hH.nsMap 99)]
theorem xgl:XC hH 100 lE:=Cz (o:=MineH.Fw) (by kernel_rfl) dk rfl ⟨Ce,trivial⟩
theorem xgm:XC hH 120 lB:=Cz (o:=MineH.Ft) (by kernel_rfl) (by decide) rfl ⟨QD,Ce,trivial⟩
theorem QE:XC hH 139 lS:=Cz (o:=MineH.Fv) (by kernel_rfl) (by decide) rfl ⟨xgj,QD,Ce,trivial⟩
theorem QF:XC hH 158 lR:=Cz (o:=MineH.Fx) (by kernel_rfl) dk rfl ⟨xgk,Ce,trivial⟩
structure iH(A:aF)(h:aA):Prop where
K:Kp hH h
rm:cF A 2
section
variable{A:aF}{h:aA}(x:iH A h)
include x
theorem iH.quote(h':aA)(k:Kp h h')(y:ai)(b:sD (kC y.cps) y "\r\n")(a:sD (kB (rj y).cps) (rj y) ".."):CA A [] h' (.ref 167) [.str y] (.str (gf y)):=Uo (n:=1) x.rm (.nil (x.K.trans k)) b a
theorem iH.name(h':aA)(k:Kp h h')(y:ai)(a:y.cps.toList.length<=100000)(b:((m8 setB cB y).map (·.length)).sum+(m8 setB cB y).length<=1048576):CA A [] h' (.ref 236) [.str y] (.str (nameOf setB cB y)):=UT (n:=0) x.rm (.nil (x.K.trans k)) a b
theorem iH.stats(h':aA)(X:List ah)(k:Kp h h')(P:bJ X h')(R:3∉X)(D:0∉X)(t u:Stat)(c:t.t.length<=1000)(Z:u.t.length<=1000):CA A X h' (.ref 66) [cA t,cA u] (cA (j7 t u)):=Jc (n:=0) x.rm ⟨x.K.trans k,P,R,D⟩ c Z
theorem iH.fq:∃o fd,h.get? 167=aa o/\o.data=.func fd:=let⟨o,e,d⟩:=(N8.kp x.K).obj;⟨o,_,e,d⟩
theorem iH.fn:∃o fd,h.get? 236=aa o/\o.data=.func fd:=let⟨o,e,d⟩:=(Ob.kp x.K).obj;⟨o,_,e,d⟩
theorem iH.fu:∃o fd,h.get? 66=aa o/\o.data=.func fd:=let⟨o,e,d⟩:=(GK.kp x.K).obj;⟨o,_,e,d⟩
theorem iH.sm:∃o,h.get? eo=aa o:=FT.imp λ_ e=>x.K _ _ e
theorem iH.xE:XC h 100 lE:=xgl.kp x.K
theorem iH.xB:XC h 120 lB:=xgm.kp x.K
theorem iH.xS:XC h 139 lS:=QE.kp x.K
theorem iH.xR:XC h 158 lR:=QF.kp x.K
end
theorem u7:Quiet lS:=LF (by kernel_rfl)
theorem HJ:Quiet lR:=LF (by kernel_rfl)
theorem iH.mkS(x:iH A h)(s:aq)(E:aj->aq->Prop)(I J M:aj)(k:Kp h s.heap):au (az PW w) A (dO (.ref 139) [I,J,M] []) (λr S=>∃y,r=.ref y/\oX s S y 139 [("sender",M),("smtp_error",J),("smtp_code",I)]) E s:=have K:=x.K.trans k
U1 (n:=0) (QE.kp K) (by kernel_rfl) u7 ((x.K.trans k) _ _ (ku (o:=MineH.Bb PW) (by kernel_rfl))) (by kernel_rfl) (ZQ.kp K) (rE.kp K) x.rm
theorem iH.mkR(x:iH A h)(s:aq)(E:aj->aq->Prop)(I:aj)(k:Kp h s.heap):au (az PW w) A (dO (.ref 158) [I] []) (λr S=>∃y,r=.ref y/\oX s S y 158 [("recipients",I)]) E s:=have K:=x.K.trans k
VG (n:=0) (QF.kp K) (by kernel_rfl) HJ ((x.K.trans k) _ _ (ku (o:=MineH.Bc PW) (by kernel_rfl))) (by kernel_rfl) (ZR.kp K) (rE.kp K) x.rm
theorem xgn:(bV 139::(lS.tail.map (λp=>bV p.1)++eY)).contains (.ref 139)=af:=dk
theorem xgo:(bV 139::(lS.tail.map (λp=>bV p.1)++eY)).contains (.ref 120)=af:=dk
theorem xgp:(bV 158::(lR.tail.map (λp=>bV p.1)++eY)).contains (.ref 158)=af:=dk
theorem xgq:(bV 158::(lR.tail.map (λp=>bV p.1)++eY)).contains (.ref 100)=af:=dk
theorem xgr:(bV 158::(lR.tail.map (λp=>bV p.1)++eY)).contains (.ref 139)=av:=dk
theorem xgs:(139:ah)≠120:=dk
theorem xgt:(158:ah)≠100:=dk
def gY(W:List (List Int))(G:T)(B:Int)(D:qk):Gm:=upd (upd (upd (upd (upd (upd (upd (bQ (eX (d9 (aO PW 23)) G0) ["wishes","typed","names","turn"] [b7 W,G,bZ gJ,.int B]) "held" (.aI (.ref D.h))) "came" (.aI (.ref D.c))) "mails" (.aI (.ref D.m))) "free" (.aI (.ref D.f))) "alone" (.aI (.ref D.a))) "refused" (uP D.r)) "book" (.aI (.ref D.b))
def F0:List cZ:=bodyOf (sS (bodyOf (aO PW 23)) 2)
def BB:cZ:=sS F0 2
section
variable{A:aF}{H:List ah}{N B s:aq}{Z:List ah}{E:aj->aq->Prop}
abbrev bP(L:ah):aN:=cu Ca L 246
theorem EV.jF{b:List ah}{k:Int}(K:EV A G X a v (uP b))(F:EV A G X a i (.int k))(D:0<=k)(h1:k<b.length)(I:b.length<=1000)(W:autoParam (jT i) yAW):EV A G X a (.Subscript v i c) (.aI (.ref (b.getD k.toNat 0))):=by refine EV.sub K F (cS.list D (sP h1 I) ?_ W);refine O eS (O (cy (iu D h1)) (O cz (O (cy (iu D h1)) ?_)));rfl
theorem FS.GU(f:FS H N B s Z G g M)(h:TV A G s.heap c b)(h1:b=true->∀a,Ks s a->FS H N B a Z G g M->au (az PW w) A (b8 d G) Q E a)(J:b=false->∀a,Ks s a->FS H N B a Z G g M->au (az PW w) A (b8 i G) Q E a):au (az PW w) A (dY (.If c d i j) G) Q E s:=by
 refine Q6 (aB (h s E λ_ _ e=>e) (λr a y=>?_) λ_ _ e=>e);refine aV y λk u=>?_;try clear y;subst u
 cases r with|true=>exact h1 rfl a k (f.step k)|false=>exact J rfl a k (f.step k)
theorem LG(k:Kp h h')(w:jA h e C l)(p:nA h' e b):nA h e b:=by refine KA w.dat λv K T oT F a _=>?_;exact p.imp id λ⟨d,I,c⟩=>⟨v,a,by rw[k _ _ a]at I;cases I;exact c⟩
theorem Ww{L:ah}{W:List (List Int)}{ty:T}{c h I:Int}{D:qk}{M:bG}{k:Nat}{i:List aN}{Q:ek->aq->Prop}(hh:A.handled=ak)(hfr:A.frames=aa (bP L::i))(hun:A.units+1<fy)(r:iH A N.heap)(C:D.r.length=5)(l:fh M k)(hk:k<=25)(f:FS H N B s Z (bP L) (upd (upd (gY W ty c D) "step" (.int h)) "who" (.int I)) (runM D M))(w0:0<=I)(w1:I<5)(h4:gi M.aJ I=4)(fo:FO s.heap i)(hS:∀a∈i.filterMap (·.frame),a∈H/\a∉Z/\N.heap.get? a=ak/\B.heap.get? a=ak)(hQ:∀V,FS H N B V Z (bP L) (gY W ty c D) (runM D {M with alone:=M.alone++[I]})->dF (i.filterMap (·.frame)) s.heap V.heap->Q .next V):au (az PW w) A (dY BB (bP L)) Q E s:=by
 refine xeq ?_;have cv:=f.view (x:="came") (i:=1) (by rfl) rfl;refine nV (FS.GU f (b:=gi M.aJ I==4) ?_ ?_ ?_);.exact TV.cmp (EV.gi (EV.name cv) (EV.name cv) w0 (by exact O l.aJ.len w1) (by refine O l.aJ.len ?_;decide)) EV.int aX.eq
 .intro _ s₁ k1 f;have kS:=f.ks.kp;have IG:=fo.kp k1.kp;refine di (x_raise (lf:=λvs=>[("recipients",vs.headD .none)]) f.cx (by exact I1) (by kernel_rfl) hh (r.xR.kp kS) (EL.cons (EV.jF (EV.name f.cx) (EV.name f.cx) w0 (by exact O C w1) (by refine O C ?_;decide)) EL.nil) (λJ vs k2 K=>?_) λJ V vs y k2 K xm=>?_);.refine aC (ay.jy K) λv u=>?_;subst u;exact r.mkR J _ v (kS.trans k2.kp)
  .have hv:vs.headD .none=.ref (D.r.getD I.toNat 0):=by refine aC (ay.jy K) λv u=>?_;subst u;have K:=K.1;exact K.cR
   have xm:oX J V y 158 [("recipients",.ref (D.r.getD I.toNat 0))]:=by exact aQ hv xm
   have n:L∈aK (bP L):=aP ..;refine LD (L:=L) f k2 xm hfr rfl rfl IG hS (λm=>?_) λs₄ Z' hZ II f4 er j kL sL=>?_;.refine aG (bE.mp m) λp mp ep=>?_;have F:p.1=L:=ep;exact(f.acc p mp).2.1 (F▸n)
   .have k4:=f4.ks.kp;refine xbK f4 (by exact CR) (by kernel_rfl) (r.xR.kp k4) (r.xS.kp k4) xgr er λs₅ Y=>?_;have f5:=f4.step Y;have er5:=er.kp Y.kp;have Sp:=f5.ks.kp;refine Pq f5 (by exact I1) (by kernel_rfl) (by kernel_rfl) n (r.xR.kp Sp) (r.xR.kp Sp) xgp er5 (λb p=>j b (LG Y.kp er p)) λs₆ E' d tE X _=>?_;have k6:=d.ks.kp;refine di (FS.append (i:=4) (t:=lA I) d.rebase (by rfl) rfl ?_ (by refine O (aH ..) ?_;have:=l.alone;exact aZ (aZ this hk) (gQ _ _)) λP S=>?_)
    .refine EV.tup d.cx.live (EL.cons (EV.name d.cx) (EL.cons (EV.uZ (b:=af) (c:=af) ?_ λ_=>?_) EL.nil)) (by simp);.exact EV.cmp (EV.BA (v:=.ref (D.r.getD I.toNat 0)) (EV.name d.cx) (r.xR.kp k6) HJ (HJ _ dk) (by refine O (iR ..) (O iO ?_);kernel_rfl) tE (by rfl) rfl (.ie _)) (EV.jF (EV.name d.cx) (EV.name d.cx) w0 (by exact O C w1) (by refine O C ?_;decide)) aX.isRef
     .exact EV.cP (EV.glob d.cx (by exact Dt)) rfl (EL.cons (EV.name d.cx) (EL.cons (EV.glob d.cx (by exact Ti)) EL.nil)) (CA.Cd (r.xR.kp k6) (r.xE.kp k6) xgt xgq tE)
    .have eM:(runM D M).set 4 (D.a,.list (M.alone.map lA++[lA I]))=runM D {M with alone:=M.alone++[I]}:=by unfold runM;simp only[fY];rfl
     have fM:((runM D M).set 4 (D.a,.list (M.alone.map lA++[lA I]))).map (·.1)=(runM D M).map (·.1):=by exact O eM (O (rY D (by rw[l.ref,C])) (O (rY D (by rw[l.ref,C])) rfl))
     have f7:=d.B7 S fM;refine Ox f7.cx (by kernel_rfl) λg k8 c8=>?_;have U:br (aK (bP L)) P g:=k8.mono λq m=>by exact O (aW.mp m) n
     have f8:=f7.re U c8;have f9:=f8.less (δ:=gY W ty c D) λx t e=>by
      have n1:x≠"no":=λq=>by replace e:=q▸e;cases e
      have n2:x≠"step":=λq=>by replace e:=q▸e;cases e
      have n3:x≠"who":=λq=>by replace e:=q▸e;cases e
      show(if x="no"then ak else upd (upd (upd (gY W ty c D) "step" (.int h)) "who" (.int I)) "no" _ x)=aa t;refine O (if_neg n1) (O (eE _ _ n1) (O (eE _ _ n3) (O (eE _ _ n2) ?_)));exact e
     have IJ:=f9.GG (Z':=Z) hZ f.own λp m=>by
      have:p.1∈(runM D M).map (·.1):=by exact aQ fM (bE.mpr ⟨p,m,rfl⟩)
      refine aG (bE.mp this) λq mq eq=>?_;have G:q.1=p.1:=eq;exact aQ G (f.acc q mq).1
     refine hQ g (IJ.conv eM) λb m o e=>?_;have R:=hS b m;have bo:b∉aK (bP L):=λq=>R.2.1 (f.own b q);refine aC (sL b (aY _ m) o (k1.kp _ _ e)) λsl e4=>?_;refine⟨sl,U.kp b _ bo (S.kx.kp b _ (λq=>?_) (X b _ bo (λq=>?_) (Y.kp _ _ e4)))⟩
     .refine bw (bC.mp q) (λq=>?_) λq=>?_;.exact bo q
      .refine aG (bE.mp q) λp mp ep=>?_;have F:p.1=b:=ep;have:p.1∈(runM D M).map (·.1):=by exact aQ fM (bE.mpr ⟨p,mp,rfl⟩)
       refine aG (bE.mp this) λq' mq eq=>?_;have G:q'.1=p.1:=eq;exact R.2.1 (by exact aQ F (aQ G (f.acc q' mq).1))
     .have:=(j b (LG Y.kp er q)).1;refine bw (II b this) (λz=>?_) λz=>?_;.exact R.2.1 z
      .rw[k1.kp _ _ e]at z;cases z
 .intro R;replace R:=h4▸R;cases R
end
section
variable{A:aF}{H:List ah}{N B s:aq}{Z:List ah}{G:aN}{P:Gm}{M:List (ah×T)}{E:aj->aq->Prop}
theorem FS.getItem{x:ai}{g:aS}{w Y:aR}{D:ah}{l:List T}{i:Nat}{k:Int}{t:T}{X1:List ah}(f:FS H N B s Z G P M)(K:P x=aa (.aI (.ref D)))(F:M[i]?=aa (D,.list l))(h:EV A G X1 s.heap g (.int k))(n:0<=k)(h1:k<2^63)(e:l[k.toNat]?=aa t)(W:autoParam (jT g) yAW)(V:autoParam (isVar G x=af) yAK):EV A G (Z++H) s.heap (.Subscript (.Name x w) g Y) t:=λS E q=>by refine Subscript_ (aB (f.q8 (X:=[]) K V S E q) (λa U I=>aB (h U E (q.trans I.1.kp)) (λb J c=>?_) λ_ _ e=>e) λ_ _ e=>e);obtain rfl:=I.2.cR;refine aC c.2.cL λu z=>?_;subst z;have j:=q.trans (I.1.trans c.1).kp;refine aG (f.acc _ (eO F)).2.2 λxs p r=>?_;have p2:J.heap.PlainList D xs:=p.at λo e=>j _ _ e;have y:=Mine.ay.kp (j.bL (Z++H)) _ _ r;refine aG (y.at e) λv m d=>?_;exact G4 p2.isList.typeIs Ky.lookup (Kq p2.isList n h1 (by exact aQ gM m) ⟨I.1.trans c.1,d⟩) (W _ _)
def E2:List cZ:=bodyOf BB
theorem E3{l:List ai}{k:Int}(D:0<=k)(h1:k<l.length):(l.map T.str)[k.toNat]?=aa (.str (bK l k)):=by unfold bK;refine O eS (O (cy (iu D h1)) (O cz (O (cy (iu D h1)) ?_)));rfl
theorem X4{l:List Stat}{k:Int}(D:0<=k)(h1:k<l.length):(l.map cA)[k.toNat]?=aa (cA (cO l k)):=by unfold cO;refine O eS (O (cy (iu D h1)) (O cz (O (cy (iu D h1)) ?_)));rfl
def xq(W:List (List Int))(b:ai->ai)(a:bG)(I:Int):bG:={a with bW:=a.bW.set I.toNat (gf (bK a.bW I)),aJ:=a.aJ.set I.toNat (gi a.aJ I+1),book:=sG W b a I (bu W I (gi a.aJ I)),held:=j5 W a I (bu W I (gi a.aJ I))}
theorem Z0{L:ah}{W:List (List Int)}{ty:T}{c d I:Int}{D:qk}{a:bG}{k:Nat}{u:List ai}{Q:ek->aq->Prop}(hh:A.handled=ak)(hun:A.units+1<fy)(r:iH A N.heap)(hDr:D.r.length=5)(t:fR W)(l:fh a k)(IL:nK u a)(mo:se setB cB u)(hk:k<=25)(f:FS H N B s Z (bP L) (upd (upd (gY W ty c D) "step" (.int d)) "who" (.int I)) (runM D a))(b:0<=I)(V:I<5)(h4:gi a.aJ I≠4)(hQ:∀s',FS H N B s' Z (bP L) (upd (upd (upd (upd (upd (gY W ty c D) "step" (.int d)) "who" (.int I)) "asked" (.int (bu W I (gi a.aJ I)))) "last" (.int ((bz W (bu W I (gi a.aJ I))).idxOf I))) "other" (.int (gi a.held (bu W I (gi a.aJ I))))) (runM D (xq W (nameOf setB cB) a I))->au (az PW w) A (b8 (E2.drop 5) (bP L)) Q E s'):au (az PW w) A (b8 E2 (bP L)) Q E s:=by
 have Y:=l.aJ.el I b V;have K:=t.at b V Y.1 (je Y.2 h4);have F:=f.view (x:="came") (i:=1) (by rfl) rfl;refine nV (FS.cond f (b:=gi a.aJ I==4) ?_ ?_ ?_);.exact TV.cmp (EV.gi (EV.name F) (EV.name F) b (by exact O l.aJ.len V) (by refine O l.aJ.len ?_;decide)) EV.int aX.eq
 .intro R;exact absurd (eq_of_beq R) h4
 intro _ s₁ f;refine iA ?_;show au _ _ (b8 _ _) _ _ _;have F:=f.view (x:="came") (i:=1) (by rfl) rfl;have X:=f.view (x:="mails") (i:=2) (by rfl) rfl;have kS:=f.ks.kp;have h:(gi a.aJ I).toNat<4:=o9 (je Y.2 h4);have hm:=IL I b V;have U:=mo.s2 I _ b V h;have S:=mo.s1 I _ b V h;rw[<-hm]at S U;refine eK r.fq λoq fdq hoq hdq=>?_;refine@bY _ _ _ _ _ _ _ (FS.xgg (xa:="asked") (xb:="mails") (xc:="came") (nb:=2) (nc:=1) (kb:=I) (kc:=I) (Db:=D.m) (Dc:=D.c) (lb:=a.bW.map .str) (lc:=a.aJ.map .int) (ta:=.int (bu W I (gi a.aJ I))) (tb:=.str (gf (bK a.bW I))) (tc:=.int (gi a.aJ I+1)) (X1:=[]) (X2:=[]) f hh ?_ (.inl (by kernel_rfl)) (aP ..) (by rfl) (by rfl) rfl rfl (λs' f'=>?_) (λs' f'=>?_) b (by exact O (aH ..) (O l.bW V)) (by refine O (aH ..) (O l.bW ?_);decide) b (by exact O (aH ..) (O l.aJ.len V)) (by refine O (aH ..) (O l.aJ.len ?_);decide) (by intro _ _ _ q;cases q) (by intro _ _ _ q;cases q) (by kernel_rfl) (by kernel_rfl) ?_ λs₂ f=>⟨rfl,?_⟩)
 .refine EL.cons ?_ (EL.cons ?_ (EL.cons ?_ EL.nil));.exact(EV.bu (X:=aK (bP L)) t (EV.name F) (EV.name F) (EV.gi (EV.name F) (EV.name F) b (by exact O l.aJ.len V) (by refine O l.aJ.len ?_;decide)) b V Y.1 (je Y.2 h4)).flat rfl
  .exact(EV.uJ (X:=[]) (EV.glob (X:=Z++H) f.cx (by exact US)|>.flat rfl) (kS _ _ hoq) hdq (EL.cons ((EV.sub (X:=aK (bP L)) (EV.name X) (EV.name X) (cS.list b (eF V) (E3 b (by exact O l.bW V)))).flat rfl) EL.nil) (r.quote _ kS _ U S)).flat rfl
  .exact(EV.bin (X:=aK (bP L)) (EV.gi (EV.name F) (EV.name F) b (by exact O l.aJ.len V) (by refine O l.aJ.len ?_;decide)) EV.int bD.add).flat rfl
 .exact(EV.name f'.cx).flat rfl
 .exact(EV.name f'.cx).flat rfl
 .exact bI _ (f.acc _ (eO (i:=2) rfl)).1
 have i:=t.row _ K.1 K.2.1;have p:I∈bz W (bu W I (gi a.aJ I)):=t.all _ K.1 K.2.1 I b V λq=>K.2.2 q.symm;generalize v:bu W I (gi a.aJ I)=g at K i p f hQ⊢;have eM:((runM D a).set 2 (D.m,.list ((a.bW.map .str).set I.toNat (.str (gf (bK a.bW I)))))).set 1 (D.c,.list ((a.aJ.map .int).set I.toNat (.int (gi a.aJ I+1))))=runM D {a with bW:=a.bW.set I.toNat (gf (bK a.bW I)),aJ:=a.aJ.set I.toNat (gi a.aJ I+1)}:=by unfold runM bZ LI;simp only[wc];rfl
 have f:=f.conv eM;have hv:=f.view (x:="held") (i:=0) (by rfl) rfl;have kS:=f.ks.kp;refine@bY _ _ _ _ _ _ _ (FS.Ew (X₀:=H) (s₀:=N) (sb:=B) (γ:=upd (upd (upd (gY W ty c D) "step" (.int d)) "who" (.int I)) "asked" (.int g)) ["other","last"] hh (FS.FP (t:=.int (gi a.held g)) f ?_ λv1 s₃ f r1=>FS.FP (t:=.int ((bz W g).idxOf I)) f ?_ λv2 s₄ f r2=>FS.yU ?_) (λx m=>?_) (by rfl) (by rfl));.exact(EV.gi (X:=aK (bP L)) (EV.name hv) (EV.name hv) K.1 (by exact O l.held K.2.1) (by refine O l.held ?_;decide)).flat rfl
 .exact EV.pS (EV.bz t (EV.name f.cx) (EV.name f.cx) K.1 K.2.1) (EV.name f.cx) p (by refine O i ?_;decide)
 .refine aC r1.cL λt1 z=>?_;subst z;refine⟨Z,runM D _,[.int (gi a.held g),.int ((bz W g).idxOf I)],f,⟨.fO _ _,r2,trivial⟩,rfl,by simp,λs₅ f=>⟨rfl,?_⟩⟩;have hv:=f.view (x:="held") (i:=0) (by rfl) rfl;have F:=f.view (x:="came") (i:=1) (by rfl) rfl;have X:=f.view (x:="mails") (i:=2) (by rfl) rfl;have kS:=f.ks.kp;have J:gi (a.aJ.set I.toNat (gi a.aJ I+1)) I=gi a.aJ I+1:=by exact O (r9 b b (by rw[l.aJ.len];exact V)) (O (if_pos rfl) rfl)
  have hgm:bK (a.bW.set I.toNat (gf (bK a.bW I))) I=gf (bK a.bW I):=by exact O (MP b b (by rw[l.bW];exact V)) (O (if_pos rfl) rfl)
  have zn:=mo.nz I _ b V h;have zw:=mo.nw I _ b V h;have hit:g6 ((gi a.aJ I).toNat+1) (bK u I)=gf (bK a.bW I):=by refine O hm ?_;rfl
  rw[hit]at zn zw;refine eK r.fu λou fdu hou hdu=>?_;refine eK r.fn λon fdn hon hdn=>?_;refine@bY _ _ _ _ _ _ _ (FS.setItem (i:=5) (l:=a.book.map cA) (k:=g) (t:=cA (j7 (cO a.book g) ⟨if gi a.held g<0 then 1 else 0,1,gi a.aJ I+1,(bz W g).idxOf I,[(nameOf setB cB (gf (bK a.bW I)),gi a.aJ I+1)]⟩)) (X1:=[]) f (by rfl) rfl ?_ ((EV.name f.cx).flat rfl) K.1 (by exact O (aH ..) (O l.book K.2.1)) (by refine O (aH ..) (O l.book ?_);decide) λs₆ f=>⟨rfl,?_⟩)
  .refine EV.uJ (X:=Z++H) (EV.glob f.cx (by exact S7)) (kS _ _ hou) hdu (EL.cons (t:=cA (cO a.book g)) ?_ (EL.cons (t:=cA ⟨if gi a.held g<0 then 1 else 0,1,gi a.aJ I+1,(bz W g).idxOf I,[(nameOf setB cB (gf (bK a.bW I)),gi a.aJ I+1)]⟩) ?_ EL.nil)) (r.stats _ _ kS f.cx.live f.cx.ok.eN f.cx.ok.blt _ _ ?_ ?_);.exact f.getItem (i:=5) (X1:=[]) (by rfl) rfl ((EV.name f.cx).flat rfl) K.1 (eF K.2.1) (X4 K.1 (by exact O l.book K.2.1))
   .refine EV.tup f.cx.live (EL.cons (t:=.int (if gi a.held g<0 then 1 else 0)) ?_ (EL.cons EV.int (EL.cons (t:=.int (gi a.aJ I+1)) ?_ (EL.cons (EV.name f.cx) (EL.cons (t:=DS [(nameOf setB cB (gf (bK a.bW I)),.int (gi a.aJ I+1))]) (EF.ev (EF.xdp f.cx.live (r.sm.imp λo e=>kS _ _ e) ?_ ?_ (by rfl))) EL.nil))))) (by simp)
    .refine EV.ite (b:=decide (gi a.held g<0)) (TV.cmp (EV.name f.cx) EV.int aX.lt) (λR=>?_) λR=>?_;.exact O (if_pos (of_decide_eq_true R)) EV.int
     .exact O (if_neg (of_decide_eq_false R)) EV.int
    .exact aQ J ((EV.gi (X:=aK (bP L)) (EV.name F) (EV.name F) b (by rw[jN,l.aJ.len];exact V) (by rw[jN,l.aJ.len];decide)).flat rfl)
    .refine(EV.uJ (X:=[]) (EV.glob (X:=Z++H) f.cx (by exact Vz)|>.flat rfl) (kS _ _ hon) hdn (EL.cons (t:=.str (gf (bK a.bW I))) ?_ EL.nil) (r.name _ kS _ zn zw)).flat rfl;exact aQ hgm ((EV.sub (X:=aK (bP L)) (EV.name X) (EV.name X) (cS.list b (eF V) (E3 b (by rw[jN,l.bW];exact V)))).flat rfl)
    .exact aQ J ((EV.gi (X:=aK (bP L)) (EV.name F) (EV.name F) b (by rw[jN,l.aJ.len];exact V) (by rw[jN,l.aJ.len];decide)).flat rfl)
   .have:cO a.book g∈a.book:=by unfold cO;exact O cz (O (cy (by rw[l.book];exact iu K.1 K.2.1)) (nT _))
    have:=l.uO _ this;exact aZ (aZ this hk) (gQ _ _)
   .simp
  have eM:(runM D {a with bW:=a.bW.set I.toNat (gf (bK a.bW I)),aJ:=a.aJ.set I.toNat (gi a.aJ I+1)}).set 5 (D.b,.list ((a.book.map cA).set g.toNat (cA (j7 (cO a.book g) ⟨if gi a.held g<0 then 1 else 0,1,gi a.aJ I+1,(bz W g).idxOf I,[(nameOf setB cB (gf (bK a.bW I)),gi a.aJ I+1)]⟩))))=runM D {a with bW:=a.bW.set I.toNat (gf (bK a.bW I)),aJ:=a.aJ.set I.toNat (gi a.aJ I+1),book:=sG W (nameOf setB cB) a I g}:=by unfold runM sG;simp only[wc];rfl
  have f:=f.conv eM;have j:=l.qa g K.1 K.2.1;refine nV (FS.cond f (b:=decide (gi a.held g<0)||(decide (((bz W g).idxOf I:Int)<(bz W g).idxOf (gi a.held g))||av)) (TV.rD (AT.or (TV.cmp (EV.name f.cx) EV.int aX.lt) λR=>AT.or (TV.cmp (EV.name f.cx) (EV.pS (EV.bz t (EV.name f.cx) (EV.name f.cx) K.1 K.2.1) (EV.name f.cx) (t.all _ K.1 K.2.1 _ (fD.mp (of_decide_eq_false R)) j.2.1 j.2.2) (by refine O i ?_;decide)) aX.lt) λ_=>AT.Bt)) ?_ ?_)
  .intro R n f;have y:gi a.held g<0\/((bz W g).idxOf I:Int)<(bz W g).idxOf (gi a.held g):=by simpa using R
   refine di (FS.setItem (i:=0) (l:=a.held.map .int) (k:=g) (t:=.int I) (X1:=[]) f (by rfl) rfl (EV.name f.cx) ((EV.name f.cx).flat rfl) K.1 (by exact O (aH ..) (O l.held K.2.1)) (by refine O (aH ..) (O l.held ?_);decide) λC f=>?_);refine hQ C (f.conv ?_);unfold xq j5;refine O v (O (if_pos y) ?_);unfold runM LI;simp only[wc];rfl
  .intro R n f;have y:¬(gi a.held g<0\/((bz W g).idxOf I:Int)<(bz W g).idxOf (gi a.held g)):=by simpa using R
   refine iA (hQ n (f.conv ?_));unfold xq j5;exact O v (O (if_neg y) rfl)
 .simp only[bA,b9,or_false]at m;rcases m with rfl|rfl<;>exact⟨.inl (by kernel_rfl),aP ..⟩
end
section
variable{A:aF}{H:List ah}{N B s:aq}{Z:List ah}{E:aj->aq->Prop}
def X5:List ExceptHandler:=(kS BB).2.2.1
theorem xbL:∀l:Nat,l<5->gJ.idxOf (bB l)=l/\bB l∈gJ:=dk
theorem Z1(D:0<=l)(h1:l<5):(gJ.idxOf (bB l):Int)=l/\bB l∈gJ:=by have t:=xbL l.toNat (o9 h1);have e:=mu D;rw[e]at t;exact⟨(congrArg (λx:Nat=>(x:Int)) t.1).trans e,t.2⟩
theorem LH{k:Int}(D:0<=k)(h1:k<5):(gJ.map T.str)[k.toNat]?=aa (.str (bB k)):=E3 (l:=gJ) D h1
theorem EV.xbM{b:List ah}{j k:Int}(K:EV A G X a v (uP b))(F:EV A G X a i (.int j))(Y:j=k)(D:0<=k)(h1:k<b.length)(I:b.length<=1000)(T:b.getD k.toNat 0=R)(W:autoParam (jT i) yAW):EV A G X a (.Subscript v i c) (.aI (.ref R)):=by subst Y;subst T;exact EV.jF K F D h1 I W
theorem EV.xdK(K:EV A G X a v (bZ gJ))(F:EV A G X a i (.int j))(Y:j=k)(D:0<=k)(h1:k<5)(W:autoParam (jT i) yAW):EV A G X a (.Subscript v i b) (.str (bB k)):=by subst Y;exact EV.sub K F (cS.list D (eF h1) (LH D h1) W)
theorem EV.QG{m R:aR}(g:EV A G X a o (bZ gJ))(L:EV A G X a e (.str x))(h:x∈gJ)(b:(gJ.idxOf x:Int)=k)(P:autoParam (kJ o "index" G (aT o G)=aT o G) yAR)(W:autoParam (bh [e] G=[(av,aT e G)]) yAR)(u:autoParam ((m.endLine==R.line)=af) yAR):EV A G X a (.Call (.Attribute o "index" m) [e] [] R) (.int k):=by subst b;exact EV.yV g L h (by decide) P W u
def uz(M:bG)(n g l:Int):bG:=if n<0 then M else{M with free:=M.free++[l],refused:=M.refused.set l.toNat (fJ (M.refused.getD l.toNat []) (bB g) (jg g))}
theorem X6{L:ah}{W:List (List Int)}{ty:T}{F step I g last n:Int}{D:qk}{st:bG}{k:Nat}{i:List aN}{Q:ek->aq->Prop}(hh:A.handled=ak)(hfr:A.frames=aa (bP L::i))(hun:A.units+1<fy)(rf:iH A N.heap)(C:D.r.length=5)(hk:k<=25)(hf5:st.free.length<=5)(V:st.refused.length=5)(hrE:∀d∈st.refused,d.length<=k)(hheld:st.held.length=5)(a0:0<=g)(a1:g<5)(l0:¬n<0->0<=I+n-gi st.held g/\I+n-gi st.held g<5)(f:FS H N B s Z (bP L) (upd (upd (upd (upd (upd (gY W ty F D) "step" (.int step)) "who" (.int I)) "asked" (.int g)) "last" (.int last)) "other" (.int n)) (runM D st))(fo:FO s.heap i)(hS:∀a∈i.filterMap (·.frame),a∈H/\a∉Z/\N.heap.get? a=ak/\B.heap.get? a=ak)(hQ:∀s',FS H N B s' Z (bP L) (gY W ty F D) (runM D (uz st n g (I+n-gi st.held g)))->dF (i.filterMap (·.frame)) s.heap s'.heap->Q .next s'):au (az PW w) A (b8 (E2.drop 5) (bP L)) λfl U=>match fl with|.next=>au (az PW w) A (b8 [] (bP L)) Q E U|fl=>Q fl U
 (λe U=>au (az PW w) A (yO e (bP L)) (λ_ J=>au (az PW w) A (Gh e ak) (λ_ s₃=>au (az PW w) A (G7 e (bP L) X5) Q E s₃) E J) E U) s:=by
 have IM:L∈aK (bP L):=aP ..;have less:∀{s':aq}{M':List (ah×T)}{γ':Gm},FS H N B s' Z (bP L) γ' M'->(∀x t,gY W ty F D x=aa t->x≠"no"->x≠"step"->x≠"who"->x≠"asked"->x≠"last"->x≠"other"->γ' x=aa t)->FS H N B s' Z (bP L) (gY W ty F D) M':=λf' hx=>f'.less λx t e=>hx x t e (λq=>gone (q▸e) rfl) (λq=>gone (q▸e) rfl) (λq=>gone (q▸e) rfl) (λq=>gone (q▸e) rfl) (λq=>gone (q▸e) rfl) λq=>gone (q▸e) rfl;refine nV (FS.GU f (b:=decide (0<=n)) (TV.cmp (EV.name f.cx) EV.int aX.ge) ?_ ?_)
 .intro R U k1 f;have R:=of_decide_eq_true R;have hl:=l0 (fD.mpr R);have eT:uz st n g (I+n-gi st.held g)={st with free:=st.free++[I+n-gi st.held g],refused:=st.refused.set (I+n-gi st.held g).toNat (fJ (st.refused.getD (I+n-gi st.held g).toNat []) (bB g) (jg g))}:=by unfold uz;exact O (if_neg (fD.mpr R)) rfl
  replace hQ:=eT▸hQ;generalize xbN:I+n-gi st.held g=l at hl hQ;have kS:=f.ks.kp;have IG:=fo.kp k1.kp;have hv:=f.view (x:="held") (i:=0) (by rfl) rfl;refine di (x_raise (lf:=λvs=>[("sender",vs.getD 2 .none),("smtp_error",vs.getD 1 .none),("smtp_code",vs.getD 0 .none)]) (ts:=[.int (550+g),.bytes #[110,111],.str (bB l)]) f.cx (by exact CR) (by kernel_rfl) hh (rf.xS.kp kS) (EL.cons (EV.bin EV.int (EV.name f.cx) bD.add) (EL.cons EV.bytes (EL.cons ?_ EL.nil))) (λJ vs k2 r2=>?_) λJ s' vs y k2 r2 xm=>?_);.refine EV.sub (EV.name f.cx) (EV.bin (EV.bin (EV.name f.cx) (EV.name f.cx) bD.add) ((EV.gi (X:=aK (bP L)) (EV.name hv) (EV.name hv) a0 (O hheld a1) (O hheld dk)).flat rfl) bD.sub) ?_;exact O xbN (cS.list hl.1 (eF hl.2) (LH hl.1 hl.2))
  .refine iU (ay.zo r2) λv1 v2 v3 u=>?_;subst u;exact rf.mkS J _ v1 v2 v3 (kS.trans k2.kp)
  .refine iU (ay.zo r2) λv1 v2 v3 u=>?_;subst u;have r2:=iT r2.1 (iT r2.2.1 r2.2.2.1);refine gW r2 λrv1 rv2 rv3=>?_;refine aC rv1.cL λt1 u=>?_;subst u;obtain⟨t2,rfl⟩:∃t,v2=.bytes #[110,111] t:=rv2;refine aC rv3.eV λt3 u=>?_;subst u;have xm:oX J s' y 139 [("sender",.str (bB l) t3),("smtp_error",.bytes #[110,111] t2),("smtp_code",.int (550+g) t1)]:=xm;refine LD (L:=L) f k2 xm hfr rfl rfl IG hS (λm=>?_) λs₄ Z' hZ II f4 er j kL sL=>?_;.refine aG (bE.mp m) λp mp ep=>?_;have qo:p.1=L:=ep;exact(f.acc p mp).2.1 (qo▸IM)
   .have k4:=f4.ks.kp;refine Pq f4 (by exact CR) (by kernel_rfl) (by kernel_rfl) IM (rf.xS.kp k4) (rf.xS.kp k4) xgn er j λS E' G tE keep M=>?_;have k6:=G.ks.kp;have P:l.toNat<D.r.length:=jk hl.2 C;have hri:D.r.getD l.toNat 0=D.r[l.toNat]:=by refine O cz (O (cy P) ?_);rfl
    have r:=Z1 hl.1 hl.2;have exS:fm lS "sender"=ak:=u7 _ dk;have exC:fm lS "smtp_code"=ak:=u7 _ dk;have exE:fm lS "smtp_error"=ak:=u7 _ dk;have QH:=G.rebase;have K:∀{X:List ah}{c:aq}{γ':Gm}{M':List (ah×T)}{np ap:aR},FS H N S c Z' (bP L) γ' M'->γ' "no"=aa (.aI (.ref y))->jA c.heap y 139 [("sender",.str (bB l) t3),("smtp_error",.bytes #[110,111] t2),("smtp_code",.int (550+g) t1)]->EV (A.mark (aa (.ref y))) (bP L) X c.heap (.Attribute (.Name "no" np) "sender" ap) (.str (bB l)):=λf7 hg IP=>(EV.BA (X:=Z'++H) (v:=.str (bB l) t3) (EV.name f7.cx hg) (rf.xS.kp f7.ks.kp) u7 exS (by refine O (iR ..) (O iO ?_);kernel_rfl) IP (by rfl) rfl (.ni _ _)).flat rfl;have Y:∀{X:List ah}{np ap:aR},EV (A.mark (aa (.ref y))) (bP L) X S.heap (.Attribute (.Name "no" np) "smtp_code" ap) (.int (550+g)):=(EV.BA (X:=Z'++H) (v:=.int (550+g) t1) (EV.name G.cx) (rf.xS.kp k6) u7 exC (by refine O (iR ..) (O iO ?_);kernel_rfl) tE (by rfl) rfl (.fO _ _)).flat rfl;have xgu:∀{X:List ah}{np ap:aR},EV (A.mark (aa (.ref y))) (bP L) X S.heap (.Attribute (.Name "no" np) "smtp_error" ap) (.bytes #[110,111]):=(EV.BA (X:=Z'++H) (t:=.bytes #[110,111]) (v:=.bytes #[110,111] t2) (EV.name G.cx) (rf.xS.kp k6) u7 exE (by refine O (iR ..) (O iO ?_);kernel_rfl) tE (by rfl) rfl ⟨_,rfl⟩).flat rfl;refine@bY _ _ _ _ _ _ _ (FS.ZW (i:=6+l.toNat) (D:=D.r[l.toNat]) (d:=st.refused.getD l.toNat []) (k:=bB g) (t:=jg g) (X1:=Z'++H) (X2:=Z'++H) QH (XT D (by exact O V (O C rfl)) P) ?_ ?_ ?_ ?_ λc f7=>⟨rfl,?_⟩);.exact EV.tup G.cx.live (EL.cons Y (EL.cons xgu (EL.cons (EV.cP (EV.glob G.cx (by exact Dt)) rfl (EL.cons (EV.name G.cx) (EL.cons (EV.glob G.cx (by exact SW)) EL.nil)) (CA.Cd (rf.xS.kp k6) (rf.xB.kp k6) xgs xgo tE)) EL.nil))) (by simp)
    .exact EV.xbM (EV.name G.cx) (EV.yV (EV.name G.cx) (K QH (by rfl) tE) r.2 dk) r.1 hl.1 (O C hl.2) (O C dk) hri
    .exact EV.xdK (EV.name G.cx) (EV.bin Y EV.int bD.sub) (O (jO 550 g) (ye g 550)) a0 a1
    .have:st.refused.getD l.toNat []∈st.refused:=by exact O cz (O (cy (jk hl.2 V)) (nT _))
     exact cC (aZ (hrE _ this) hk)
    .have eM1:=UX D (st:=st) (i:=l.toNat) (d:=fJ (st.refused.getD l.toNat []) (bB g) (jg g)) (by exact O V (O C rfl)) P;have f7:=f7.conv eM1;have IQ:∀{st':bG},st'.refused.length=5->(runM D st').map (·.1)=(runM D st).map (·.1):=λh=>by exact O (rY D (by rw[h,C])) (O (rY D (by rw[V,C])) rfl)
     have v:(st.refused.set l.toNat (fJ (st.refused.getD l.toNat []) (bB g) (jg g))).length=5:=by exact O jN V
     have QI:∀{st':bG}b,st'.refused.length=5->b∉aK (bP L)->b∉(runM D st).map (·.1)->b∉aK (bP L)++(runM D st').map (·.1):=λb h m1 m2 m=>(bC.mp m).elim m1 (by exact O (IQ h) m2);have IP:=tE.dK f7.kx.kp λb p=>QI b v (j b (M b p)).2.1 (j b (M b p)).2.2.1;refine di (FS.append (i:=3) (l:=st.free.map .int) (t:=.int l) f7 (by rfl) rfl ?_ (O (aH ..) (cC hf5)) λs₈ f8=>?_);.exact EV.QG (EV.name f7.cx) (K f7 (by rfl) IP) r.2 r.1
     .have eM2:(runM D {st with refused:=st.refused.set l.toNat (fJ (st.refused.getD l.toNat []) (bB g) (jg g))}).set 3 (D.f,.list (st.free.map .int++[.int l]))=runM D {st with free:=st.free++[l],refused:=st.refused.set l.toNat (fJ (st.refused.getD l.toNat []) (bB g) (jg g))}:=by unfold runM LI;simp only[fY];rfl
      have f8:=f8.conv eM2;have f9:=G.B7 f8 (IQ v);refine Ox f9.cx (by kernel_rfl) λHC k9 c9=>?_;have Ss:br (aK (bP L)) s₈ HC:=k9.mono λq m=>by exact O (aW.mp m) IM
      have IJ:=f9.re Ss c9;have f11:=IJ.GG (Z':=Z) hZ f.own λp m=>by
       have:p.1∈(runM D st).map (·.1):=by exact aQ (IQ (st':={st with free:=st.free++[l],refused:=st.refused.set l.toNat (fJ (st.refused.getD l.toNat []) (bB g) (jg g))}) v) (bE.mpr ⟨p,m,rfl⟩)
       refine aG (bE.mp this) λq mq eq=>?_;have eq':q.1=p.1:=eq;exact aQ eq' (f.acc q mq).1
      refine hQ HC (less f11 λx t e n1 n2 n3 n4 n5 n6=>?_) λb m o e=>?_;.show(if x="no"then ak else upd _ "no" _ x)=aa t;exact O (if_neg n1) (O (eE _ _ n1) (O (eE _ _ n6) (O (eE _ _ n5) (O (eE _ _ n4) (O (eE _ _ n3) (O (eE _ _ n2) e))))))
      .have R:=hS b m;have bo:b∉aK (bP L):=λq=>R.2.1 (f.own b q);have bM:b∉(runM D st).map (·.1):=λq=>by refine aG (bE.mp q) λp mp ep=>?_;have qo:p.1=b:=ep;exact R.2.1 (by exact aQ qo (f.acc p mp).1)
       refine aC (sL b (aY _ m) o (k1.kp _ _ e)) λsl e4=>?_;refine⟨sl,Ss.kp b _ bo (f8.kx.kp b _ (QI b v bo bM) (keep b _ bo (λq=>?_) e4))⟩;have:=(j b q).1;refine bw (II b this) (λz=>?_) λz=>?_;.exact R.2.1 z
       .rw[k1.kp _ _ e]at z;cases z
 .intro R U k1 f;have R:=of_decide_eq_false R;refine iA (iA (iA ?_));have eT:uz st n g (I+n-gi st.held g)=st:=by unfold uz;exact O (if_pos (yF.mp R)) rfl
  replace hQ:=eT▸hQ;refine hQ U (less f λx t e n1 n2 n3 n4 n5 n6=>?_) (dF.of (k1.kp.bL []) λb m=>b9);exact O (eE _ _ n6) (O (eE _ _ n5) (O (eE _ _ n4) (O (eE _ _ n3) (O (eE _ _ n2) e))))
end
theorem FO.BC{i:List aN}(f:FO h i)(z:dF (i.filterMap (·.frame)) h h'):FO h' i:=λen m=>by obtain⟨k,L,H,e,o,D,t,q,r⟩:=f en m;refine aC (z L (Xi.mpr ⟨en,m,e⟩) o q) λJ U=>?_;exact⟨k,L,H,e,_,D,t,U,r⟩
section
variable{A:aF}{H:List ah}{N B s:aq}{Z:List ah}{E:aj->aq->Prop}
theorem T7{W:List (List Int)}{nf:ai->ai}{a c:Int}{M:bG}(h:M.free≠[])(Y:gi M.aJ (iF a M c)=4):gp W nf a M c={M with free:=M.free.eraseIdx (iE a M c).toNat,alone:=M.alone++[iF a M c]}:=by unfold gp;refine O (if_neg h) ?_;simp only;exact O (if_pos Y) rfl
theorem U5{W:List (List Int)}{nf:ai->ai}{a c:Int}{M:bG}(h:M.free≠[])(Y:gi M.aJ (iF a M c)≠4):gp W nf a M c=uz (xq W nf {M with free:=M.free.eraseIdx (iE a M c).toNat} (iF a M c)) (gi M.held (bu W (iF a M c) (gi M.aJ (iF a M c)))) (bu W (iF a M c) (gi M.aJ (iF a M c))) (q7 W M (iF a M c) (bu W (iF a M c) (gi M.aJ (iF a M c)))):=by unfold gp uz;refine O (if_neg h) ?_;simp only;refine O (if_neg Y) ?_;rfl
theorem X7{L:ah}{W:List (List Int)}{V:T}{c d:Int}{D:qk}{M:bG}{k:Nat}{u:List ai}{i:List aN}{Q:ek->aq->Prop}(hh:A.handled=ak)(hfr:A.frames=aa (bP L::i))(n:A.units+1<fy)(rf:iH A N.heap)(g:D.r.length=5)(wo:fR W)(l:fh M k)(IL:nK u M)(mo:se setB cB u)(hk:k<=25)(hs0:0<=d)(f:FS H N s s Z (bP L) (upd (gY W V c D) "step" (.int d)) (runM D M))(fo:FO s.heap i)(hS:∀a∈i.filterMap (·.frame),a∈H/\a∉Z/\N.heap.get? a=ak)(hB:M.free=[]->∀J,FS H N J J Z (bP L) (upd (gY W V c D) "step" (.int d)) (runM D M)->dF (i.filterMap (·.frame)) s.heap J.heap->Q .brk J)(hQ:∀J,FS H N J J Z (bP L) (gY W V c D) (runM D (gp W (nameOf setB cB) c M d))->bf (aK (bP L)++(runM D M).map (·.1)++i.filterMap (·.frame)) s.heap J.heap->dF (i.filterMap (·.frame)) s.heap J.heap->Q .next J):au (az PW w) A (b8 F0 (bP L)) Q E s:=by
 have G:=f.view (x:="free") (i:=3) (by rfl) rfl;have z:∀b∈i.filterMap (·.frame),b∉aK (bP L)/\b∉(runM D M).map (·.1):=λb m=>by have R:=hS b m;refine⟨λq=>R.2.1 (f.own b q),λq=>?_⟩;refine aG (bE.mp q) λp mp ep=>?_;have qo:p.1=b:=ep;exact R.2.1 (by exact aQ qo (f.acc p mp).1)
 refine nV (FS.GU f (b:=(M.free.map T.int).isEmpty) (TV.cmp (EV.name G) (EV.list G.live EL.nil) (aX.Pe n)) ?_ ?_)
 .intro R U k1 f1;have R:M.free=[]:=by simpa using R
  exact di (wpAny_Break (hB R U f1.rebase (dF.of (k1.kp.bL []) λb m=>b9)))
 intro R U k1 f1;have R:M.free≠[]:=by simpa using R
 refine iA ?_;have pk:=yJ (turn:=c) (step:=d) R;have C:=FY (turn:=c) (step:=d) l R;have G:=f1.view (x:="free") (i:=3) (by rfl) rfl;refine@bY _ _ _ _ _ _ _ (FS.setPop (x:="who") (y:="free") (i:=3) (l:=M.free) (k:=iE c M d) (X1:=aK (bP L)) f1.rebase (.inl (by kernel_rfl)) (aP ..) (by rfl) rfl ?_ pk.1 pk.2 (by have:=l.free;exact cC this) λJ v=>⟨rfl,?_⟩)
 .have X:0<(M.free.length:Int):=by have:=JI.mpr R;exact gR.mpr this
  exact EV.bin (EV.bin (EV.name G) (EV.name G) (bD.shr hs0)) (EV.cP (EV.glob G (by exact GO)) rfl (EL.cons (EV.name G) EL.nil) (by have:=CA.zp (A:=A) (X:=aK (bP L)) (h₀:=U.heap) (l:=M.free.map T.int) (by refine O (aH ..) ?_;have:=l.free;exact cC this);rw[aH]at this;exact this)) (bD.uM X)
 have eM:(runM D M).set 3 (D.f,LI (M.free.eraseIdx (iE c M d).toNat))=runM D {M with free:=M.free.eraseIdx (iE c M d).toNat}:=rfl;have v:FS H N U J Z (bP L) (upd (upd (gY W V c D) "step" (.int d)) "who" (.int (iF c M d))) (runM D {M with free:=M.free.eraseIdx (iE c M d).toNat}):=v.conv eM;have P:∀{st':bG},st'.refused.length=5->(runM D st').map (·.1)=(runM D M).map (·.1):=λh=>by exact O (rY D (by rw[h,g])) (O (rY D (by rw[l.ref,g])) rfl)
 have f2:=((f.xdJ (i.filterMap (·.frame))).step k1).B7 v (P (st':={M with free:=M.free.eraseIdx (iE c M d).toNat}) l.ref);have Y:∀{st':bG}b,st'.refused.length=5->b∈i.filterMap (·.frame)->b∉aK (bP L)++(runM D st').map (·.1):=λb h m q=>(bC.mp q).elim (z b m).1 (by exact O (P h) (z b m).2);have r:dF (i.filterMap (·.frame)) s.heap U.heap:=dF.of (k1.kp.bL []) λb m=>b9;have t:dF (i.filterMap (·.frame)) U.heap J.heap:=dF.of v.kx.kp λb m=>Y (st':={M with free:=M.free.eraseIdx (iE c M d).toNat}) b l.ref m;have hfe:(M.free.eraseIdx (iE c M d).toNat).length+1=M.free.length:=by exact O V7 (O (if_pos (iu pk.1 pk.2)) (qy (HS (iu pk.1 pk.2))))
 have o:fh {M with free:=M.free.eraseIdx (iE c M d).toNat} k:=⟨l.held,l.qa,l.aJ,l.bW,by have:=l.free;show(M.free.eraseIdx _).length<=5;exact aZ (dM _) (jz hfe this),λx m=>l.zg x (UD m),l.alone,l.ref,l.sY,l.book,l.uO⟩;have Su:∀b∈i.filterMap (·.frame),b∈H/\b∉Z/\N.heap.get? b=ak/\({s with heap:=kW s.heap (i.filterMap (·.frame))}:aq).heap.get? b=ak:=λb m=>⟨(hS b m).1,(hS b m).2.1,(hS b m).2.2,wg _ m⟩;have hne:M.free≠[]:=R;generalize e:iF c M d=I at C f2 v;refine di ?_;show au _ _ (dY BB _) _ _ _;by_cases h4:gi M.aJ I=4;.have S:=T7 (W:=W) (nf:=nameOf setB cB) hne (by exact O e h4);rw[e]at S;refine Ww hh hfr n rf g o hk f2 C.1 C.2 h4 (fo.BC (r.trans t)) Su λj f3 y=>?_;have fM:(runM D (gp W (nameOf setB cB) c M d)).map (·.1)=(runM D M).map (·.1):=P (by exact O S l.ref);have Sv:FS H N {s with heap:=kW s.heap (i.filterMap (·.frame))} j Z (bP L) (gY W V c D) (runM D (gp W (nameOf setB cB) c M d)):=f3.conv (by exact O S rfl);refine hQ j Sv.rebase ?_ ((r.trans t).trans y);have:=LC Sv;rw[fM]at this;exact this
 .have S:=U5 (W:=W) (nf:=nameOf setB cB) hne (by exact O e h4);rw[e]at S;have hc:=l.aJ.el I C.1 C.2;have ha:=wo.at C.1 C.2 hc.1 (je hc.2 h4);refine xeq ?_;refine Z0 hh n rf g wo o IL mo hk v.rebase C.1 C.2 h4 λj Sw=>?_;have K:(xq W (nameOf setB cB) {M with free:=M.free.eraseIdx (iE c M d).toNat} I).refused.length=5:=l.ref;have f3:=f2.B7 Sw ((P K).trans (P (st':={M with free:=M.free.eraseIdx (iE c M d).toNat}) l.ref).symm);have y:dF (i.filterMap (·.frame)) J.heap j.heap:=dF.of Sw.kx.kp λb m=>Y b K m;refine X6 (st:=xq W (nameOf setB cB) {M with free:=M.free.eraseIdx (iE c M d).toNat} I) hh hfr n rf g hk o.free K l.sY (Ea o I _) ha.1 ha.2.1 (λhn=>?_) f3 (fo.BC ((r.trans t).trans y)) Su λF f4 so4=>?_;.exact Ly (W:=W) o ha.1 ha.2.1 C.1 C.2 hn
  .have fM:(runM D (gp W (nameOf setB cB) c M d)).map (·.1)=(runM D M).map (·.1):=P (AJ (nf:=nameOf setB cB) (turn:=c) wo l d).ref;have Sx:FS H N {s with heap:=kW s.heap (i.filterMap (·.frame))} F Z (bP L) (gY W V c D) (runM D (gp W (nameOf setB cB) c M d)):=f4.conv (by refine O S ?_;rfl);refine hQ F Sx.rebase ?_ (((r.trans t).trans y).trans so4);have:=LC Sx;rw[fM]at this;exact this
end
noncomputable def r6(B:aA)(D:ah)(n:Nat)(X:List ah)(h:aA):Prop:=∃i:List ah,i.length=n/\i.Nodup/\(∀r∈i,r∉X/\r≠D/\B.get? r=ak/\(r==eo)=av/\h.DictOf (strKind PW w) r [])/\h.PlainList D (i.map bV).toArray
theorem r6.kp{h h':aA}(k:bf X h h')(T:∀o,h.get? D=aa o->h'.get? D=aa o)(d:r6 B D n X h):r6 B D n X h':=by refine fU d λi a b c p=>?_;exact⟨i,a,b,λr m=>let⟨c1,c2,x,u,Z⟩:=c r m;⟨c1,c2,x,u,D4 Z λo e=>k r o c1 e⟩,p.at T⟩
theorem r6.less(y:∀a∈Y,a∈X)(d:r6 B D n X h):r6 B D n Y h:=by refine fU d λi a b c p=>?_;exact⟨i,a,b,λr m=>let⟨c1,c2⟩:=c r m;⟨λn=>c1 (y _ n),c2⟩,p⟩
section
variable{A:aF}{G:aN}{X:List ah}{P:Gm}{s:aq}{E:aj->aq->Prop}
theorem Wx{t:List T}(c:CX X s.heap G P)(W:∃o,s.heap.get? eo=aa o)(hi:IT A G X s.heap iter (.Name x u) t)(hz:t.length<=1000)(ok:jb j G=af)(h1:iD j x=af)(hs:autoParam (∀y,g7 iter G y=pure y) yAI):au (az PW w) A (aT (.ListComp (.Dict [] [] dp) [⟨.Name x u,iter,[],0⟩] j z) G) (λv R=>Ks s R/\∃D,v=.ref D/\s.heap.get? D=ak/\r6 s.heap D t.length X R.heap) E s:=by
 show au (az PW w) A (Eo (.ListComp (.Dict [] [] dp) [⟨.Name x u,iter,[],0⟩] j z) j G (OI [⟨.Name x u,iter,[],0⟩] z) (uH []) (PG [⟨.Name x u,iter,[],0⟩]) (QV [⟨.Name x u,iter,[],0⟩] G)) _ E s;have p:t.map id=t:=xej _;have i:(fl (λ_=>af) (λ_=>[()]) t).length=t.length:=by exact O ET (O (aH ..) rfl)
 refine Av (PP:=[]) (AC:=λD l Y h=>r6 s.heap D l.length Y h) (ok:=λl=>l.length<=1000) (as:=t) (kf:=id) (p:=λ_=>af) (g:=λ_=>[()]) (cU:=λa=>upd (dU j G P) x a) (λ_ m=>absurd m b9) (λ_ m=>absurd m b9) ⟨λk kd d=>d.kp k (kd _ (aP ..)),λy d=>d.less y,λ{l m}h=>aZ (by exact O cK (e7 ..)) h⟩ c ok .list (by exact O p hi) rfl (λ_ _ _=>D6) Ah (λh=>cE _ rfl) (λh X _ _=>⟨[],rfl,t7,λr m=>absurd m b9,⟨0,cE _ rfl⟩⟩) (λa m=>.name h1 (m7 h1)) (λa m C cs Y h M k'=>TS.nil) ?_ (by exact O i hz) (λD C R m I hD hC hn L H=>?_) hs
 .intro C cs V D S a ham _ l Y U E' k' Q' g hY M J H hk;have J:=J.nil;have Q:=hY D (aP ..);have Z:=(S.off D (aP ..)).2;have g:l.length<=1000:=aZ (by exact O cK (e7 ..)) g;unfold pZ;refine ao (ao ?_);refine O (Nn ..) ?_;refine ao (cV ?_);show au _ _ (wz []) _ _ _;refine O (show wz []=BR from rfl) ?_;refine DJ _ _ _ ?_;refine fU H λrs e1 e2 e3 e4=>?_;have kp:Kp U.heap (U.heap.push {cls:=.type "dict",data:=.dict #[]}):=λb o e=>bX _ e;have K:U.heap.get? U.heap.objs.size=ak:=get?_none_of_le (cQ _);refine ao (Jv (hsz:=by refine O dJ ?_;simp[e1];exact cC g) (e4.at λo e=>kp _ _ e) λh' p' B=>aM ?_);have kD:bf [D] (U.heap.push {cls:=.type "dict",data:=.dict #[]}) h':=qn B;have f:bf [D] U.heap h':=(kp.bL _).trans kD;have hDl:∃o,U.heap.get? D=aa o:=let⟨n,e⟩:=e4;⟨_,e⟩;have F:U.heap.objs.size≠D:=λq=>by refine aC hDl λo e=>?_;rw[<-q]at e;exact gone e K
  have N:U.heap.objs.size∉Y:=M.live.new;have up:∃o,h'.get? D=aa o:=let⟨n,e⟩:=p';⟨_,e⟩;refine hk {U with heap:=h'} ⟨f.mono (one (aP ..)),rfl⟩ ?_ ⟨rs++[U.heap.objs.size],by simp[e1],?_,λr m=>?_,?_⟩;.exact M.dK f (λa m n=>Z (aW.mp n▸m)) (one Q) (M.live.dK f (one up))
  .refine nQ.mpr ⟨e2,by simp,λr m r' m' q=>?_⟩;rw[aW]at m';refine qM (e3 r m) λ_ _ _ _ hd=>?_;refine ow hd λo _ _ ho _=>?_;rw[q,m']at ho;exact gone ho K
  .refine bw (bC.mp m) (λm=>?_) λm=>?_;.refine qM (e3 r m) λc1 c2 c3 c4 c5=>?_;exact⟨c1,c2,c3,c4,D4 c5 λo e=>f r o (by simp[c2]) e⟩
   .rw[aW]at m;subst m;refine⟨N,F,g9 J K,beq_eq_false_iff_ne.mpr λq=>?_,?_⟩;.refine aC W λo e=>?_;have:=J _ _ e;rw[<-q]at this;exact gone this K
    .exact D4 (Dl U.heap) λo e=>kD _ o (by simp[F]) e
  .simpa using p'
 .rw[i]at H;have I:=I.nil;refine⟨m,L,λh' B=>⟨?_,D,rfl,hD,?_⟩⟩;.have e:=I.eq;refine⟨λb o e=>(B.2 b λq=>by rw[q]at e;exact gone e hC).trans (I.kp b o e),?_⟩;dsimp only;exact O e rfl
  .exact(H.kp (λb o n e=>(B.2 b λq=>n (by exact O q (aY _ (aP ..)))).trans e) λo e=>(B.2 D hn).trans e).less λa m=>aY _ (aY _ m)
end
section
variable{A:aF}{X H:List ah}{B:aA}{G:aN}{P:Gm}{N g s S:aq}{Z:List ah}{M M':List (ah×T)}{E:aj->aq->Prop}
theorem EF.xdL{D R F}(l:bJ X B)(h:EL A G X B R D F)(n:F.length<=100000):EF A G X B (.List D R) (.list F):=λs E k=>by show au _ _ (do fL R;uH (<-fN (cM R (bh D G)))) _ _ _;refine ao (cV (ao (aB (h s E k) (λK U x=>?_) λ_ _ e=>e)));have r:=x.2;refine uc ⟨x.1.trans (.push ..),?_,_,rfl,g9 x.1.kp (get?_none_of_le (cQ _))⟩ (by refine O dJ ?_;have:=r.length;exact iW n this);exact⟨_,_,rfl,((l.kp k).kp x.1.kp).new,⟨0,cE _ rfl⟩,ay.kp (λb o _ e=>bX _ e) _ _ r⟩
theorem FS.perm(f:FS H N g s Z G P M)(p:M'.Perm M):FS H N g s Z G P M':=⟨f.ks,f.kx.mono λa m=>by
refine bw (bC.mp m) (λm=>?_) λm=>?_;.exact bI _ m
.exact cJ _ ((p.map (·.1)).mem_iff.mpr m),f.new,f.own,f.cx,λq m=>f.acc q (p.mem_iff.mp m),(p.map (·.1)).nodup_iff.mpr f.nd⟩
theorem FS.LJ:∀(i:List ah){M:List (ah×T)},i.Nodup->(∀r∈i,r∈Z/\r∉aK G/\r∉M.map (·.1)/\(r==eo)=av/\s.heap.DictOf (strKind PW w) r [])->FS H N g s Z G P M->FS H N g s Z G P (i.map (λr=>(r,DS []))++M)
|[],_,_,_,f=>f|r::i,M,l,h,f=>by
 have a:=FS.LJ i (mC.mp l).2 (λq m=>h q (aY _ m)) f;refine qM (h r (aP ..)) λh1 J R Y y=>?_;refine a.promote h1 J (λm=>?_) ⟨Y,[],by simpa using y,rfl,trivial⟩;rw[fY,bO]at m;refine bw (bC.mp m) (λm=>?_) λm=>?_;.refine aG (bE.mp m) λq j C=>?_;have e:q=r:=C;exact(mC.mp l).1 (e▸j)
 .exact R m
theorem CX.yY(c:CX X h G P)(K:P x=aa a)(r:∀v,Rep X h a v->Rep X h t v):CX X h G (upd P x t):=by
 refine⟨c.ok,c.live,c.eZ,λy u e=>?_⟩;by_cases q:y=x;.subst q;replace e:=pL ..▸e;cases e;refine aG (c.val y _ K) λv b n=>?_;exact⟨v,r v b,n⟩
 .replace e:=eE _ _ q▸e;exact c.val y u e
theorem Wy(i:List ah):∀(a:List (List (ai×T)))(K:List aj),(∀p∈i.zip a,Rep X h (DS p.2) (.ref p.1))->i.length=a.length->ay X h (i.map λr=>.aI (.ref r)) K->ay X h (a.map DS) K:=by induction i with
|nil=>intro a K _ V D;cases a with|cons=>cases V|nil=>exact D
|cons r i b=>intro a K Q V D;cases a with|nil=>cases V|cons d a=>cases K with|nil=>exact D.elim|cons v K=>exact⟨D.1.cR▸Q (r,d) (aP ..),b a K (λp m=>Q p (aY _ m)) (Ao V) D.2⟩
end
section
variable{A:aF}{H:List ah}{N B s:aq}{Z:List ah}{E:aj->aq->Prop}
def yZ(W:List (List Int))(u:List ai)(a:Int):Gm:=bQ (eX (d9 (aO PW 23)) G0) ["wishes","typed","names","turn"] [b7 W,bZ u,bZ gJ,.int a]
theorem VI{u:List ai}(o:A.handled=ak)(i:u.length=5)(f:FS H N B s Z (bP L) (yZ W u a) [])(X:∀(v M e b l:ah)d,FS H N B d (l::b::e::M::v::Z) (bP L) (upd (upd (upd (upd (upd (yZ W u a) "held" (.aI (.ref v))) "came" (.aI (.ref M))) "mails" (.aI (.ref e))) "free" (.aI (.ref b))) "alone" (.aI (.ref l))) [(l,.list []),(b,LI [0,1,2,3,4]),(e,bZ u),(M,LI [0,0,0,0,0]),(v,LI [-1,-1,-1,-1,-1])]->au (az PW w) A (b8 ((bodyOf (aO PW 23)).drop 1) (bP L)) Q E d):au (az PW w) A (b8 (bodyOf (aO PW 23)) (bP L)) Q E s:=by
 refine@bY _ _ _ _ _ _ _ (FS.D8 (X₀:=H) (s₀:=N) (sb:=B) (γ:=yZ W u a) ["held","came","mails","free","alone"] (ps:=[_,_,_,_,_]) o ?_ λx m=>?_);.refine FS.wY (t:=LI [-1,-1,-1,-1,-1]) f ((EF.rZ f.cx.live (EV.list f.cx.live (EL.cons (EV.neg EV.int) EL.nil)) EV.int dk dk).em λt m=>by refine O (vL m) ?_;rfl) λv U c=>?_;refine FS.wY (t:=LI [0,0,0,0,0]) c ((EF.rZ c.cx.live (EV.list c.cx.live (EL.cons EV.int EL.nil)) EV.int dk dk).em λt m=>by refine O (vL m) ?_;rfl) λM J n=>?_;refine FS.wY (t:=bZ u) n ((EF.cP (EV.glob n.cx (by exact Oh)) rfl (EL.cons (EV.name n.cx) EL.nil) (CF.list n.cx.live (by refine O (aH ..) (O i ?_);decide))).em λt m=>by refine aG (bE.mp m) λx _ q=>?_;subst q;rfl) λe j y=>?_;refine FS.wY (t:=LI [0,1,2,3,4]) y ((EF.xdL y.cx.live (EL.cons EV.int (EL.cons EV.int (EL.cons EV.int (EL.cons EV.int (EL.cons EV.int EL.nil))))) dk).em (AI (l:=[0,1,2,3,4]))) λb g Y=>?_;refine FS.wY (t:=.list []) Y EM.nil λl h I=>FS.yU ?_;refine⟨_,_,[.aI (.ref v),.aI (.ref M),.aI (.ref e),.aI (.ref b),.aI (.ref l)],I,⟨.ie _,.ie _,.ie _,.ie _,.ie _,trivial⟩,rfl,by simp,λG k=>⟨rfl,?_⟩⟩;exact X v M e b l G k
 .simp only[bA,b9,or_false]at m;rcases m with rfl|rfl|rfl|rfl|rfl<;>exact⟨.inl (by kernel_rfl),aP ..⟩
end
section
variable{A:aF}{H:List ah}{N B s:aq}{Z:List ah}{E:aj->aq->Prop}
theorem EV.HK(x:EM A G X a e t)(l:bJ X a):EV A G X a e t:=(x.ef l).ev
theorem VJ(hh:A.handled=ak)(rg:u "range"=aa (.aI (.type "range")))(V:∃o,s.heap.get? eo=aa o)(f:FS H N B s Z (bP L) u M)(hQ:∀(b G:ah)(i:List ah)s',i.length=5->b∉G::(i++Z)++H->FS H N B s' (G::(i++Z)) (bP L) (upd (upd u "book" (.aI (.ref G))) "refused" (uP i)) ((G,.list ((eH 5 (⟨0,0,0,0,[]⟩:Stat)).map cA))::(i.map (λr=>(r,DS []))++M))->au (az PW w) A (b8 ((bodyOf (aO PW 23)).drop 2) (bP L)) Q E s'):au (az PW w) A (b8 ((bodyOf (aO PW 23)).drop 1) (bP L)) Q E s:=by
 have j:∀{X:List ah}{d:aA}{wp:aR}{c:CX X d (bP L) u}{np p1 p2:aR}{k:Nat},IT A (bP L) X d (.Call (.Name "range" np) [.Constant (.int 5) k p1] [] p2) (.Name "who" wp) (((gc 5).map lI).map .int):=λ{X d wp c np p1 p2 k}=>IT.cP (EV.glob c rg) rfl (EL.cons EV.int EL.nil) (IC.oJ (n:=5) hh rfl c.live dk);refine@bY _ _ _ _ _ _ _ (FS.Ew (X₀:=H) (s₀:=N) (sb:=B) (γ:=u) ["refused","book"] hh ?_ (λx m=>?_) (by rfl) (by rfl))
 .refine FS.FW f (λE=>Wx f.cx V (j (c:=f.cx)) dk (by kernel_rfl) (by kernel_rfl)) λv U f1 k1 h1=>?_;obtain⟨b,rfl,y,i,P,hnd,D,S⟩:=h1;have P:i.length=5:=by refine O P ?_;rfl
  have fw:FS H N B U (i++Z) (bP L) u M:=f.Bf k1 (λr m=>(D r m).2.2.1) λr m=>by refine ow (D r m).2.2.2.2 λo _ _ ho _=>?_;exact⟨o,ho⟩
  have I:∀r∈i,∀o,s.heap.get? r≠aa o:=λr m o q=>by exact gone q (D r m).2.2.1
  have W:=FS.LJ i hnd (λr m=>⟨bI _ m,λq=>by refine aC (f.cx.live r (bI _ (f.own r q))) λo e=>?_;exact I r m o e,λq=>by refine aG (bE.mp q) λp mp ep=>?_;refine aC (f.acc p mp).2.2.up λo e=>?_;have qo:p.1=r:=ep;rw[qo]at e;exact I r m o e,(D r m).2.2.2.1,(D r m).2.2.2.2⟩) fw;refine FS.FW W (Φ:=λv s'=>∃a,v=.ref a/\U.heap.get? a=ak/\fz (a::(i++Z++H)) a s'.heap (.list ((eH 5 (⟨0,0,0,0,[]⟩:Stat)).map cA))) (λE=>?_) λv J f2 k2 h2=>FS.yU ?_;.have K:∃o,U.heap.get? eo=aa o:=V.imp λo e=>k1.kp _ _ e;have eT:T.list ((((gc 5).map lI).filter λ_=>af).map λ_=>cA ⟨0,0,0,0,[]⟩)=.list ((eH 5 (⟨0,0,0,0,[]⟩:Stat)).map cA):=rfl;exact aQ eT (CU.em (CU.l1 (kf:=.int) (as:=(gc 5).map lI) (p:=λ_=>af) (f:=λ_=>cA ⟨0,0,0,0,[]⟩) W.cx (j (c:=W.cx)) (λx m C cs Y h c k=>TS.nil) (λx m _ C cs Y h c hY k=>EV.tup c.live (EL.cons EV.int (EL.cons EV.int (EL.cons EV.int (EL.cons EV.int (EL.cons (EV.HK (EM.Bg (K.imp λo e=>k _ _ e)) c.live) EL.nil))))) (by simp)) dk) U E λ_ _ e=>e)
  .refine dj h2 λG z g ac=>?_;try clear h2;subst z
   have f3:=W.B5 k2 g ac;have F:∃o,U.heap.get? b=aa o:=by refine aC S λn e=>?_;exact⟨_,e⟩
   have R:b∉G::(i++Z)++H:=λq=>by
    refine aC F λo e=>?_;have q:b=G\/(b∈i\/b∈Z)\/b∈H:=by simpa[or_assoc]using q
    rcases q with q|(q|q)|q;.rw[q]at e;exact gone e g
    .exact(D b q).2.1 rfl
    .refine aC (f.cx.live b (bI _ q)) λo' e'=>?_;exact gone e' y
    .refine aC (f.cx.live b (cJ _ q)) λo' e'=>?_;exact gone e' y
   refine⟨_,_,[uP i,.aI (.ref G)],f3,?_,rfl,by simp,λt f4=>⟨rfl,hQ b G i t P R f4⟩⟩;refine⟨?_,.ie _,trivial⟩;unfold uP;refine⟨b,_,rfl,R,S.at λo e=>k2.kp _ _ e,?_⟩;have:∀l:List ah,ay (G::(i++Z)++H) J.heap (l.map λr=>T.aI (.ref r)) (l.map bV):=λl=>by induction l with|nil=>trivial|cons r l ih=>exact⟨.ie _,ih⟩
   exact this i
 .simp only[bA,b9,or_false]at m;rcases m with rfl|rfl<;>exact⟨.inl (by kernel_rfl),aP ..⟩
end
section
variable{A:aF}{H:List ah}{N B s:aq}{Z:List ah}{E:aj->aq->Prop}
def nJ(M:bG):T:=.tup [LI M.held,bZ M.bW,.list (M.alone.map lA),.list (M.refused.map DS),.list (M.book.map cA)]
theorem Z2{D:qk}{M:bG}(C:D.r.length=5)(z:M.refused.length=5)(f:FS H N B s Z (bP L) (gY W J l D) (runM D M))(x:∀b∈H,b∉Z)(P:bJ H s.heap)(X:∀v k,Ks s k->Rep H k.heap (nJ M) v->Q (.ret v) k):au (az PW w) A (b8 ((bodyOf (aO PW 23)).drop 3) (bP L)) Q E s:=by
 have a:∀b∈aK (bP L)++H,b∈Z++H:=λb m=>(bC.mp m).elim (λm=>bI _ (f.own b m)) λm=>cJ _ m;have o:=f.cx.narrow (Y:=aK (bP L)++H) a (λb m=>bI _ m) λb m=>f.cx.live b (a b m);have g:∀{i:Nat}{d:ah}{t:T},(runM D M)[i]?=aa (d,t)->∀v,Rep (aK (bP L)++H) s.heap (.aI (.ref d)) v->Rep (aK (bP L)++H) s.heap t v:=λ{i d t}F v h=>by obtain rfl:=h.cR;have j:=f.acc _ (eO F);exact(j.2.2.less a).rep λm=>(bC.mp m).elim j.2.1 λm=>x _ m j.1
 have c1:=o.yY (x:="held") (t:=LI M.held) (by rfl) (g (i:=0) rfl);have c2:=c1.yY (x:="mails") (t:=bZ M.bW) (by rfl) (g (i:=2) rfl);have I:=c2.yY (x:="alone") (t:=.list (M.alone.map lA)) (by rfl) (g (i:=4) rfl);have G:=I.yY (x:="book") (t:=.list (M.book.map cA)) (by rfl) (g (i:=5) rfl);have c:=G.yY (x:="refused") (t:=.list (M.refused.map DS)) (by rfl) λv h=>by unfold uP at h;refine cH h λd xs e n p r=>?_;refine⟨d,xs,e,n,p,Wy D.r M.refused _ (λq m=>?_) (by exact O C (O z rfl)) r⟩;obtain⟨i,F,u⟩:=JC.mp m;refine g (i:=6+i) (d:=q.1) (t:=DS q.2) ?_ _ (.ie _);unfold runM;refine O (Uj (by simp)) (O eS ?_);simp only[fC,qC];refine O (show 6+i-(0+1+1+1+1+1+1)=i from pG ..) (O (cy F) (O u ?_));rfl
 refine di (DG (aB ((EV.less (Y:=H) (EV.tup c.live (EL.cons (EV.name c) (EL.cons (EV.name c) (EL.cons (EV.name c) (EL.cons (EV.name c) (EL.cons (EV.name c) EL.nil))))) (by simp)) λb m=>cJ _ m) s E λ_ _ e=>e) (λv U y=>X v U y.1 y.2) λ_ _ e=>e))
theorem X8{i:List ah}(V:i.length=5):(runM ⟨h,c,m,f,a,b,i⟩ (iG typed)).Perm ((b,.list ((eH 5 (⟨0,0,0,0,[]⟩:Stat)).map cA))::(i.map (λr=>(r,DS []))++[(a,.list []),(f,LI [0,1,2,3,4]),(m,bZ typed),(c,LI [0,0,0,0,0]),(h,LI [-1,-1,-1,-1,-1])])):=by
 have e:(i.zip (iG typed).refused).map (λp=>(p.1,DS p.2))=i.map λr=>(r,DS []):=by refine oh (oV V) λg S j d o z=>?_;subst z;rfl
 unfold runM;show(_++(i.zip (iG typed).refused).map λp=>(p.1,DS p.2)).Perm _;refine O e ?_;refine(VZ).trans ?_;refine Ds ?_ (List.perm_append_singleton _ _);refine O (fT ..) ?_;refine List.Perm.append_left _ ?_;have:=(YY [(h,LI [-1,-1,-1,-1,-1]),(c,LI [0,0,0,0,0]),(m,bZ typed),(f,LI [0,1,2,3,4]),(a,T.list [])]).symm.append_right [(b,T.list ((eH 5 (⟨0,0,0,0,[]⟩:Stat)).map cA))];exact this
theorem FS.Pr(f:FS H N B s Z G c M)(S:List ah):FS H {N with heap:=kW N.heap S} B s Z G c M:=⟨⟨λb o e=>f.ks.kp b o (wF _ e),by have:=f.ks.eq;exact O this rfl⟩,f.kx,λa m=>g9 (h:=kW N.heap S) (h':=N.heap) (λb o e=>wF _ e) (f.new a m),f.own,f.cx,f.acc,f.nd⟩
theorem LK(t:fR W):∀(l:List Int){M:bG}{k:Nat},fh M k->nK u M->fh (gx W nf turn M l) (k+l.length)/\nK u (gx W nf turn M l)|[],_,_,r,m=>⟨r,m⟩|x::l,M,k,r,m=>by have:=LK (nf:=nf) (turn:=turn) t l (AJ (nf:=nf) (turn:=turn) t r x) (Lz (W:=W) (nf:=nf) (turn:=turn) r m x);replace this:=(show k+1+l.length=k+(x::l).length by exact O fC (jL _ _ _))▸this;exact this
theorem Yb{F:aq}{u:List ai}{i:List aN}(hh:A.handled=ak)(hfr:A.frames=aa (bP L::i))(hun:A.units+1<fy)(rf:iH A (kW F.heap (i.filterMap (·.frame))))(wo:fR W)(ht:u.length=5)(mo:se setB cB u)(f:FS H F s s Z (bP L) (yZ W u a) [])(fo:FO F.heap i)(lX:bJ H F.heap)(X:∀b∈i.filterMap (·.frame),b∈H)(hQ:∀v z,br (i.filterMap (·.frame)) F z->dF (i.filterMap (·.frame)) F.heap z.heap->Rep H z.heap (nJ (gx W (nameOf setB cB) a (iG u) ((gc 25).map lI))) v->Q (.ret v) z):au (az PW w) A (b8 (bodyOf (aO PW 23)) (bP L)) Q E s:=by
 refine VI hh ht f λp M j g n s₁ f1=>?_;refine VJ hh (by exact i7) (rf.sm.imp λo e=>f1.ks.kp _ _ (wF _ e)) f1 λDr G d J D hDr f2=>?_;have S:∀b∈H,b∉G::(d++n::g::j::M::p::Z):=λb m q=>by obtain⟨o,e⟩:=lX b m;exact gone e (f2.new b q)
 have so2:dF (i.filterMap (·.frame)) F.heap J.heap:=dF.of (f2.ks.kp.bL []) λb m=>b9;have Sy:=fo.kp f2.ks.kp;have f3:=((f2.Pr (i.filterMap (·.frame))).rebase.perm (X8 (h:=p) (c:=M) (m:=j) (f:=g) (a:=n) (b:=G) (typed:=u) D)).less (δ:=gY W (bZ u) a ⟨p,M,j,g,n,G,d⟩) (by show bq _ _;unfold gY yZ;repeat(first|exact bq.refl _|refine bq.iM ?_ (by rfl)|refine bq.out ?_ (by kernel_rfl)));have C:∀st':bG,st'.refused.length=5->(runM ⟨p,M,j,g,n,G,d⟩ st').map (·.1)=(runM ⟨p,M,j,g,n,G,d⟩ (iG u)).map (·.1):=λst' h=>by rw[rY _ (by exact O h D.symm),rY _ (by show 5=d.length;exact O D rfl)]
 have c:∀l:List Int,fh (gx W (nameOf setB cB) a (iG u) l) l.length/\nK u (gx W (nameOf setB cB) a (iG u) l):=λl=>by have:=LK (nf:=nameOf setB cB) (turn:=a) wo l (QB ht) (QC u);replace this:=jn ..▸this;exact this
 have fin:∀(z:aq)(E:aj->aq->Prop),FS H {F with heap:=kW F.heap (i.filterMap (·.frame))} z z (G::(d++n::g::j::M::p::Z)) (bP L) (gY W (bZ u) a ⟨p,M,j,g,n,G,d⟩) (runM ⟨p,M,j,g,n,G,d⟩ (gx W (nameOf setB cB) a (iG u) ((gc 25).map lI)))->dF (i.filterMap (·.frame)) J.heap z.heap->au (az PW w) A (b8 ((bodyOf (aO PW 23)).drop 3) (bP L)) Q E z:=λz E f' Y=>by have So:=Sy.BC Y;refine Z2 D (c _).1.ref f' S f'.O9 λv s'' k r=>hQ v s'' ?_ ((so2.trans Y).trans (dF.of (k.kp.bL []) λb m=>b9)) r;have kk:=f'.ks.trans k;refine⟨λb o m e=>kk.kp b o (rW _ e m),?_⟩;have:=kk.eq;exact O this rfl
 refine@bY _ _ _ _ _ _ _ (FS.xgd (as:=(gc 25).map lI) (kf:=.int) (cU:=λ_=>gY W (bZ u) a ⟨p,M,j,g,n,G,d⟩) (iw:=λ_ t=>upd (gY W (bZ u) a ⟨p,M,j,g,n,G,d⟩) "step" (.int t)) (Mf:=λl=>runM ⟨p,M,j,g,n,G,d⟩ (gx W (nameOf setB cB) a (iG u) l)) (i.filterMap (·.frame)) (λb m=>X b m) (λb m=>S b (X b m)) (λl=>l.length<=25) dk f3 ?_ (λl=>C _ (c l).1.ref) (λl x _=>AS.name (.inl (by kernel_rfl)) (aP ..)) (λl x hl hP wr K E' hSW f4 R=>?_) λK hP f4 so=>⟨rfl,fin K E f4 so⟩);.exact IT.cP (EV.glob f3.cx (by exact i7)) rfl (EL.cons EV.int EL.nil) (IC.oJ (n:=25) hh rfl f3.cx.live dk)
 .obtain⟨r,hr⟩:=hl;have P:l.length+1<=25:=by have:=congrArg ug hr;simp only[aH,yf,cK,fC]at this;exact this▸iy (gQ 1 _) _
  have hx:0<=x:=by
   have:x∈(gc 25).map lI:=by refine O hr ?_;simp
   obtain⟨y,_,rfl⟩:=bE.mp this;exact iP y
  have ro:=c l;have foT:=Sy.BC (R (C _ ro.1.ref) f4 (.refl _ _)).2;show au _ _ (b8 F0 _) _ _ _;refine X7 (E:=E') hh hfr hun rf D wo ro.1 ro.2 mo (eB P) hx f4 foT (λb m=>⟨X b m,hSW b m,wg _ m⟩) (λT I f5 U=>?_) λI f5 V U=>?_
  .have hb:=R (C _ ro.1.ref) f5 U;have eA:gx W (nameOf setB cB) a (iG u) ((gc 25).map lI)=gx W (nameOf setB cB) a (iG u) l:=by exact O hr (O (Lw ..) (KZ T _))
   refine⟨rfl,fin I E ((hb.1.less λy t e=>?_).conv (by exact O eA rfl)) hb.2⟩;have n1:y≠"step":=λq=>by replace e:=q▸e;cases e
   exact O (eE _ _ n1) e
  .refine⟨by exact O cK P,?_,?_,U⟩
   .have e1:gx W (nameOf setB cB) a (iG u) (l++[x])=gp W (nameOf setB cB) a (gx W (nameOf setB cB) a (iG u) l) x:=by refine O (Lw ..) ?_;rfl
    exact f5.conv (by exact O e1 rfl)
   .have:=C _ ro.1.ref;replace V:=this▸V;exact V
end
section
variable{A:aF}{s:aq}{E:aj->aq->Prop}
theorem VK{u:List ai}{outer:List aN}(N:Top X s.heap)(g:∀b∈X,hH.get? b=ak)(a:∀b∈outer.filterMap (·.frame),b∈X)(F:A.frames=aa outer)(k:cF A (n+3))(q:FO s.heap outer)(h:ay X s.heap [b7 W,bZ u,bZ gJ,.int B] r)(t:fR W)(l:u.length=5)(T:se setB cB u)(j:∀v c,br (outer.filterMap (·.frame)) s c->dF (outer.filterMap (·.frame)) s.heap c.heap->Rep X c.heap (nJ (gx W (nameOf setB cB) B (iG u) ((gc 25).map lI))) v->Q v c):au (az PW w) A (dO (.ref 246) r []) Q E s:=by
 refine wk (X:=X) (n:=n+2) (Oc.kp N.K) (rE.kp N.K) k N.live N.n3 N.n0 rfl h λU E Z L f i C=>?_;have p:(A.deeper (cu Ca L 246)).units+1<fy:=by have:=i.jJ;show _<9900;exact ry _ this
 have d:cF (A.deeper (cu Ca L 246)) 2:=⟨i.hd,by have:=i.dep;exact lU this,by have:=i.jJ;exact lU this⟩;exact Yb i.hd (Vg F) p ⟨λb o e=>rW _ (N.K b o e) λm=>by exact gone e (g b (a b m)),d⟩ t l T f q N.live a j
end
theorem VL{B:aA}{o:List (Int×Int)}(rm:cF A (n+1))(N:Top X B)(I:B.Inst x 55 mA)(hv:mA "comp_select_list"=aa v)(hh:wV v=pure v)(rv:Rep X B (.list (o.map mh)) v)(hk:∀p∈o,p.1=0\/p.1=1):CA A X B (.ref 52) [.aI (.ref x),pe l,pe r] (.int (j8 l r o)):=by
 refine CA.top xbx N rm rfl rfl rfl λs U E Z L f k i C=>?_;have D:=i.hd;have w:Kp B U.heap:=k.trans f.ks.kp;have F:Rep (Z++X) U.heap (.list (o.map mh)) v:=Rep.kp (f.ks.kp.bL _) _ _ (Rep.wide (λb m=>by
refine bw (bC.mp m) (λm=>?_) λm=>?_;.exact .inl (f.new b m)
.exact .inr m) _ _ (Rep.kp (k.bL X) _ _ rv));have ki:=C "index" (.inl (by kernel_rfl));have kd:=C "direction" (.inl (by kernel_rfl));have V:=C "l" (.inl (by kernel_rfl));have W:=C "r" (.inl (by kernel_rfl));refine nV (FS.for (as:=o) (kf:=mh) (cU:=λ_=>bQ (eX (d9 (lO PW 2 1)) G0) ["self","left","right"] [.aI (.ref x),pe l,pe r]) (iw:=λ_ q=>bQ (bQ (eX (d9 (lO PW 2 1)) G0) ["self","left","right"] [.aI (.ref x),pe l,pe r]) ["index","direction"] [.int q.1,.int q.2]) (Mf:=λ_=>[]) (λP=>∀q∈P,l9 l r q.1=av/\l9 r l q.1=av) (λq m=>by cases m) f ?_ (λ_=>rfl) (λl a _=>AS.tup D (ps:=[_,_]) (λx m=>?_) rfl rfl rfl) (λP q M d wr J E f K=>?_) λJ d f=>?_);.refine IT.list D (.inr (by rfl)) f.cx.live (EV.xdq (EV.name f.cx) (u5.kp (N.K.trans w)).t (wI w I) Om Oo (by refine O (iR ..) (O iO ?_);kernel_rfl) hv hh F)
 .refine bw (bA.mp m) (λz=>?_) λm=>?_;.subst z;exact ki
  .replace m:=aW.mp m;exact O m kd
 .have hq:q∈o:=qN M;have t:=hk q hq;have H:0<=q.1:=by rcases t with e|e<;>rw[e]<;>decide
  have Q:q.1<2^63:=by rcases t with e|e<;>rw[e]<;>decide
  refine bY (FS.set f V.1 V.2 (EV.sub (EV.name f.cx) (EV.name f.cx) (cS.tup H Q (A0 t))) λj _ f=>⟨rfl,?_⟩);refine bY (FS.set f W.1 W.2 (EV.sub (EV.name f.cx) (EV.name f.cx) (cS.tup H Q (A0 t))) λg _ f=>⟨rfl,?_⟩);refine aC M λu Y=>?_;have T:j8 l r o=j8 l r (q::u):=by exact O Y (Ls d)
  refine nV (FS.cond (b:=l9 l r q.1) f (TV.cmp (EV.name f.cx) (EV.name f.cx) aX.l9) (λR h f=>?_) λR h f=>?_);.refine di (FS.ret f ((EV.neg (EV.name f.cx)).less inR) λv S k c=>⟨k,?_⟩);rw[T,j8,if_pos R];exact c
  .refine iA ?_;refine di (FS.cond (b:=l9 r l q.1) f (TV.cmp (EV.name f.cx) (EV.name f.cx) aX.gtE) (λy G f=>?_) λy G f=>?_);.refine di (FS.ret f ((EV.name f.cx).less inR) λv S k c=>⟨k,?_⟩);rw[T,j8,if_neg (by refine O R ?_;decide),if_pos y];exact c
   .refine iA ⟨λp m=>?_,?_⟩
    .refine bw (bC.mp m) (λm=>?_) λm=>?_;.exact d p m
     .replace m:=aW.mp m;exact O m ⟨R,y⟩
    .refine f.less ?_;show bq _ _;repeat(first|exact bq.refl _|refine bq.iM ?_ (by rfl)|refine bq.out ?_ (by kernel_rfl))
 .refine di (FS.ret f EV.int λv S k c=>⟨k,?_⟩);have:=Ls (r:=[]) d;replace this:=g8 ..▸this;exact O this c
section
variable{A:aF}{G:aN}{X:List ah}{B:aA}{P:Gm}
theorem A3(c:CX X B G P)(C:who∈r5)(g:o∈cW who)(gr:P b=aa (DI (rt v who)))(U:P f=aa (.int o))(D:isVar G b=af)(Y:isVar G f=af):EV A G X B (.Subscript (.Name b p1) (.Name f p2) p3) (pe (rowAt v who o)):=EV.sub (EV.name c gr D) (EV.name c U Y) (cS.dI (LA C g))
theorem xbO{f b z o:ai}{p1 p2 p3 l e F h T R:aR}{v who one two:Int}{g:ah}{i:aj}{n:Nat}(c:CX X B G P)(C:who∈r5)(h1:one∈cW who)(J:two∈cW who)(w:P f=aa (.aI (.ref g)))(gr:P b=aa (DI (rt v who)))(a:P z=aa (.int one))(r:P o=aa (.int two))(Z:isVar G f=af)(D:isVar G b=af)(q:isVar G z=af)(k:isVar G o=af)(K:Kp hH B)(I:B.Inst g 55 λy=>if y="comp_select_list"then aa i else ak)(j:cF A (n+1))(s:wV i=pure i)(d:Rep [] B (.list ((keysOf v).map mh)) i)(u:(p2.endLine==R.line)=af):EV A G X B (.Call (.Attribute (.Name f p1) "compare" p2) [.Subscript (.Name b p3) (.Name o l) e,.Subscript (.Name b F) (.Name z h) T] [] R) (.int (j8 (rowAt v who two) (rowAt v who one) (keysOf v))):=by refine EV.xdr (C:=55) (N:=54) (fa:=52) (mN:=rF) (y:=ak) (EV.name c w Z) (u5.kp K).t I Om xbC UW (K _ _ xgc) xdy xdz (by refine O (iR ..) (O iO ?_);kernel_rfl) (if_neg dk) (EL.cons (A3 c C J gr r D k) (EL.cons (A3 c C h1 gr a D q) EL.nil)) (CA.xdF (VL j (.nil K) I (by simp) s d λp m=>?_) rfl) rfl rfl rfl u;simp only[keysOf,bA,b9,or_false]at m;rcases m with rfl|rfl<;>simp
end
abbrev lC(L:ah):aN:=cu HB L 241
def wG0(v I:Int):Gm:=bQ (eX (d9 (aO PW 22)) G0) ["value","who","names"] [.int v,.int I,NM]
def IS(v I:Int):Gm:=upd (upd (upd (upd (wG0 v I) "others" (LI (cW I))) "rows" (DI (rt v I))) "keys" (.list ((keysOf v).map mh))) "plain" (LI (cX v I))
theorem Ec(C:I∈r5)(h:o∈cX v I):o∈cW I:=(yD C).1.mem_iff.mp h
theorem plain_len(C:I∈r5):(cX v I).length=4:=(yD C).1.length_eq.trans (wL I C).1
theorem nj{L:Type}:∀(i:Int)(l:List L),(en i l).length=l.length|_,[]=>rfl|i,a::l=>by simp[en,nj (i+1) l]
theorem Bh{L:Type}:∀(i:Int)(l:List L),(en i l).map (·.2)=l|_,[]=>rfl|i,a::l=>by simp[en,Bh (i+1) l]
theorem FS.MU{N B s:aq}(f:FS H N B s Z G c M)(L:EM A G (Z++H) s.heap e t)(k:∀D U,FS H N B U (D::Z) G c ((D,t)::M)->s.heap.get? D=ak->au (az PW w) A (fN (cM a (bh b G))) (λK J=>Q (.ref D::K) J) E U)(W:autoParam (bh (e::b) G=(av,aT e G)::bh b G) yAR):au (az PW w) A (fN (cM a (bh (e::b) G))) Q E s:=by refine O W ?_;show au _ _ (fN ((av,aT e G)::cM a (bh b G))) _ _ _;refine n8 (aB (L s E λ_ _ e=>e) (λv U y=>?_) λ_ _ e=>e);obtain⟨d,D,rfl,n,r⟩:=y;exact k D U (f.B5 d n r) n
def CB(v I:Int)(g H a:ah):Gm:=bQ (IS v I) ["comp","told","due"] [.aI (.ref g),.aI (.ref H),.aI (.ref a)]
def wM(v I:Int)(H a:ah)(l:List (Int×Int)):List (ah×T):=[(a,.list (l.map λq=>LI (jW v I q.1 q.2))),(H,.list (l.map λq=>LI (qP v I q.2)))]
theorem xbP(r:List (List Int)):TE 3 (b7 r) (b7 r):=by
 have k:∀i:Int,TE 1 (.int i) (.int i):=λ_=>.flat rfl;have n:∀l:List Int,TE 2 (LI l) (LI l):=λl=>by unfold LI;refine .list rfl λi t u h1 J=>?_;replace J:=h1▸J;cases J;replace h1:=eS▸h1;refine aG (vN.mp h1) λx _ I=>?_;subst I;exact .flat rfl
 unfold b7;refine .list rfl λi t u h1 J=>?_;replace J:=h1▸J;cases J;replace h1:=eS▸h1;refine aG (vN.mp h1) λx _ I=>?_;subst I;exact n x
theorem Yc(a:List (List Int))(b:List Int):u0 (a.map LI) (b.map T.int)=(PE a b).map λq=>.tup [LI q.1,.int q.2]:=by induction a generalizing b with|nil=>simp[u0]|cons x a G=>cases b with|nil=>simp[u0]|cons y b=>simpa[u0]using G b
theorem pairs_len(C:I∈r5):(oO v I).length=4:=by unfold oO toldOf;refine O (aH ..) (O gP (O (aH ..) (O (nj ..) (O (plain_len C) ?_))));rfl
theorem first_is:∀(l:List Int),(l.map T.int++[T.int 0])[(0:Int).toNat]?=aa (.int ((l++[0]).getD 0 0))|[]=>rfl|a::l=>rfl
theorem Wz(v I one i:Int):0<=mR v I one i/\mR v I one i<=100:=by unfold mR xJ keysOf;rcases ML v with d|d<;>rcases E1 v with j|j<;>rw[d,j]<;>cases h1:pD (rowAt v I i) (rowAt v I one) 0<;>cases J:pD (rowAt v I i) (rowAt v I one) 1<;>simp[h1,J]
theorem Yd{A:aF}{N sb s:aq}(f:FS X N sb s Z (lC L) (IS v I) [])(K:Kp hH N.heap)(rm:cF (A.deeper (lC L)) (n+5))(lX:bJ X N.heap)(B:I∈r5)(t:∀x,(d9 (aO PW 22)).names.lookup x=aa .local\/(d9 (aO PW 22)).names.lookup x=aa .cell->((lC L).kindOf x=aa .local\/(lC L).kindOf x=aa .cell)/\dg (lC L) x∈aK (lC L)):au (az PW w) (A.deeper (lC L)) (b8 ((bodyOf (aO PW 22)).drop 4) (lC L)) (λf s'=>Ks N s'/\Rep X s'.heap (uR v I) (match f with|.ret v=>v|_=>.none)) E s:=by
 have k5:=t "comp" (.inr (by kernel_rfl));have k6:=t "told" (.inl (by kernel_rfl));have k7:=t "due" (.inl (by kernel_rfl));have k8:=t "place" (.inr (by kernel_rfl));have k9:=t "one" (.inr (by kernel_rfl));have IU:=t "line" (.inl (by kernel_rfl));have j:=rm.hd;have hun:(A.deeper (lC L)).units+3<fy:=by have:=rm.jJ;show _<9900;exact ry _ this
 have u:=plain_len (v:=v) B;refine@bY _ _ _ _ _ _ _ (FS.VE (X₀:=X) (s₀:=N) (γ:=IS v I) ["comp","told","due"] (ps:=[_,_,_]) j (FS.FW f (λE=>Wv (n:=n+3) (V:=aK (lC L)) (t:=.list ((keysOf v).map mh)) f.cx (by exact UP) (by rfl) (by kernel_rfl) (by kernel_rfl) (K.trans f.ks.kp) rm λb m=>f.cx.live b (f.cx.ok.iX b m)) λcv U i k₁ Sz=>?_) ?_)
 .refine wG Sz λkv S rk q1 IK=>?_;try clear Sz;subst q1
  refine FS.MU i.rebase EM.nil λH s₂ D n1=>FS.MU D EM.nil λd s₃ xgv V=>FS.yU ⟨U,_,_,[.aI (.ref S),.aI (.ref H),.aI (.ref d)],xgv,⟨.ie _,.ie _,.ie _,trivial⟩,rfl,by simp,λW a=>⟨rfl,?_⟩⟩;have n2':=V;have V:U.heap.get? d=ak:=D.B6 V;have a:FS X N U W (d::H::Z) (lC L) (CB v I S H d) (wM v I H d []):=a;have IKV:uN U.heap (aK (lC L)++[d,H]) S 55 λy=>if y="comp_select_list"then aa kv else ak:=IK.more λb m=>by
   rcases bC.mp m with m|m;.exact .inl m
   .simp only[bA,b9,or_false]at m;rcases m with rfl|rfl;.exact .inr V
    .exact .inr n1
  have rk':Rep (d::H::(Z++X)) U.heap (.list ((keysOf v).map mh)) kv:=Rep.wide (λb m=>by
rcases bA.mp m with rfl|m;.exact .inl V
.rcases bA.mp m with rfl|m;.exact .inl n1
 .exact .inr m) _ _ rk;have hkv:wV kv=pure kv:=by refine eK rk.d8 λb xs q1 _=>?_;subst q1;rfl
  have kk1:Kp s.heap U.heap:=k₁.kp;refine@bY _ _ _ _ _ _ _ (FS.for (as:=en 0 (cX v I)) (kf:=λq=>.tup [.int q.1,.int q.2]) (cU:=λ_=>CB v I S H d) (iw:=λ_ q=>bQ (CB v I S H d) ["place","one"] [.int q.1,.int q.2]) (Mf:=wM v I H d) (λ_=>True) trivial a ?_ (λ_=>rfl) (λl q _=>AS.tup j (ps:=[_,_]) (λx m=>?_) rfl rfl rfl) (λl q hl _ wr g E f back=>?_) λg _ f=>⟨rfl,?_⟩);.exact aQ uv (IT.cP (EV.glob a.cx (by exact Aj)) rfl (EL.cons (EV.name a.cx) EL.nil) (IC.enumerate j a.cx.live))
  .rcases bA.mp m with rfl|m;.exact k8
   .rw[aW]at m;exact O m k9
  .have hq:q∈en 0 (cX v I):=qN hl;have zD:q.2∈cW I:=Ec (v:=v) B (by exact aQ (Bh 0 (cX v I)) (bE.mpr ⟨q,hq,rfl⟩));have SA:bf (aK (lC L)++[d,H]) U.heap g.heap:=(back (j6:=wM v I H d l) rfl f).kx.kp;have I5:=IKV.dK SA;have rk5:Rep [] g.heap (.list ((keysOf v).map mh)) kv:=Rep.less (λb m=>absurd m b9) _ _ (Rep.kp (SA.mono λb m=>by
rcases bC.mp m with m|m;.exact aY _ (aY _ (bI _ (i.own b m)))
.simp only[bA,b9,or_false]at m;rcases m with rfl|rfl;.exact aP ..
 .exact aY _ (aP ..)) _ _ rk');have kk5:=f.ks.kp;have SD:l.length<=4:=by refine aC hl λr e=>?_;have:=congrArg ug e;rw[nj,u,cK,fC]at this;exact jq this (e7 _ _)
   refine@bY _ _ _ _ _ _ _ (FS.append (x:="told") (i:=1) (t:=LI (qP v I q.2)) f (by rfl) (by rfl) ?_ (by exact O (aH ..) (cC SD)) λs₆ f=>⟨rfl,?_⟩)
   .have et:T.list (((cX v I).filter λ_=>af).map λG=>T.int (j8 (rowAt v I G) (rowAt v I q.2) (keysOf v)))=LI (qP v I q.2):=by refine O (fE ..) ?_;unfold LI qP;rw[bO];rfl
    refine aQ et ?_;exact EF.ev (CU.ef (CU.l1 (kf:=.int) f.cx (IT.list j (.inl rfl) f.cx.live (EV.name f.cx)) (λG m C J Y h c k=>TS.nil) (λG m _ C J Y h c hY k=>xbO (v:=v) (who:=I) (one:=q.2) (two:=G) (n:=n+4) c B zD (Ec B m) (by rfl) (by rfl) (by rfl) (by rfl) (by kernel_rfl) (by kernel_rfl) (by kernel_rfl) (by kernel_rfl) (K.trans (kk5.trans k)) (wI k I5) rm hkv (Rep.kp (k.bL _) _ _ rk5) (by rfl)) (by refine O u ?_;decide)) f.cx.live)
   refine@di _ _ _ _ _ _ (FS.append (x:="due") (i:=0) (t:=LI (jW v I q.1 q.2)) f (by rfl) (by rfl) ?_ (by exact O (aH ..) (cC SD)) λs₇ f=>?_)
   .have et:T.list (((en 0 (cX v I)).filter λ_=>af).map λR=>T.int (mR v I q.2 R.2*if q.1<R.1 then 1 else-1))=LI (jW v I q.1 q.2):=by refine O (fE ..) ?_;unfold LI jW;refine O bO ?_;rfl
    refine aQ et ?_;refine EF.ev (CU.ef (CU.l2 (kf:=λR:Int×Int=>.int R.1) (kg:=λR:Int×Int=>.int R.2) j f.cx ?_ (λR m C J Y h c k=>TS.nil) (λR m _ C J Y h c hY k=>?_) (by refine O (nj ..) (O u ?_);decide)) f.cx.live);.exact aQ uv (IT.cP (EV.glob f.cx (by exact Aj)) rfl (EL.cons (EV.name f.cx) EL.nil) (IC.enumerate j f.cx.live))
    .have ho2:R.2∈cW I:=Ec (v:=v) B (by exact aQ (Bh 0 (cX v I)) (bE.mpr ⟨R,m,rfl⟩));have hsm:=Wz v I q.2 R.2;refine EV.bin (t:=.int (mR v I q.2 R.2)) (EV.sub (t:=.list ((((keysOf v).filter λr=>pD (rowAt v I R.2) (rowAt v I q.2) r.1).map λr=>T.int (if r.2<0 then-r.2 else r.2))++[T.int 0])) (EV.bin (EF.ev (CU.ef (CU.l2 (as:=keysOf v) (kf:=λr:Int×Int=>.int r.1) (kg:=λr:Int×Int=>.int r.2) j c (IT.list j (.inr (by rfl)) c.live (EV.name c)) (λr mr C' Q Y' h' M k'=>?_) (λr mr _ C' Q Y' h' M hY' k'=>EV.cP (EV.glob M (by exact xdu)) rfl (EL.cons (EV.name M) EL.nil) CA.abs) (by simp[keysOf]) (ok:=by kernel_rfl)) c.live)) (EV.list c.live (EL.cons EV.int EL.nil)) (bD.QA c.live ?_)) EV.int (cS.list dk dk ?_)) (EV.ite (b:=decide (q.1<R.1)) (TV.cmp (EV.name c) (EV.name c) aX.gt) (λhb=>?_) λhb=>?_) (bD.zq (OO hsm.1 hsm.2))
     .have F:r.1=0\/r.1=1:=by simp only[keysOf,bA,b9,or_false]at mr;rcases mr with rfl|rfl<;>simp
      have i0:0<=r.1:=F.elim (λe=>O e dk) λe=>O e dk;have i1:r.1<2^63:=F.elim (λe=>O e dk) λe=>O e dk;exact TS.one (TV.cmp (X:=Y') (EV.sub (A3 (v:=v) (who:=I) (o:=R.2) M B ho2 (by rfl) (by rfl) (by kernel_rfl) (by kernel_rfl)) (EV.name M) (cS.tup i0 i1 (A0 F))) (EV.sub (A3 (v:=v) (who:=I) (o:=q.2) M B zD (by rfl) (by rfl) (by kernel_rfl) (by kernel_rfl)) (EV.name M) (cS.tup i0 i1 (A0 F))) aX.pD)
     .have:=nM (λr:Int×Int=>pD (rowAt v I R.2) (rowAt v I q.2) r.1) (keysOf v);simp only[aH,fC,qC];exact cC (qA this)
     .have:=first_is (((keysOf v).filter λr=>pD (rowAt v I R.2) (rowAt v I q.2) r.1).map λr=>if r.2<0 then-r.2 else r.2);rw[bO]at this;exact this
     .exact O (if_pos (of_decide_eq_true hb)) EV.int
     .exact O (if_neg (of_decide_eq_false hb)) (EV.neg EV.int)
   .refine⟨trivial,FS.conv (f.less ?_) ?_⟩;.show bq _ _;repeat(first|exact bq.refl _|refine bq.iM ?_ (by rfl)|refine bq.out ?_ (by kernel_rfl))
    .simp[wM]
  .have hD2:d∉H::Z++X:=λm=>by refine aC (D.cx.live d m) λo e=>?_;exact gone e n2'
   have hD1:H∉Z++X:=λm=>by refine aC (i.cx.live H m) λo e=>?_;exact gone e n1
   have ed:T.list ((en 0 (cX v I)).map λq=>LI (jW v I q.1 q.2))=b7 (toldOf v I):=by refine O (Lv B) ?_;unfold b7 GP;refine O bO ?_;rfl
   have et:T.list ((en 0 (cX v I)).map λq=>LI (qP v I q.2))=b7 (toldOf v I):=by unfold b7 toldOf;refine O bO ?_;rfl
   have f:FS X N U g (d::H::Z) (lC L) (CB v I S H d) [(d,b7 (toldOf v I)),(H,b7 (toldOf v I))]:=f.conv (by unfold wM;exact O ed (O et rfl));have f:=f.freeze (x:="due") (by rfl) V (λb m=>aY _ (i.own b m)) (one (aP ..)) hD2;have f:=f.freeze (x:="told") (by rfl) n1 (λb m=>i.own b m) (λp m=>absurd m b9) hD1;refine@bY _ _ _ _ _ _ _ (FS.set f IU.1 IU.2 (t:=.list ((Bw (oO v I)).map fQ)) (EF.ev (EF.cP (EV.glob f.cx (by exact Ln)) rfl (EL.cons ?_ EL.nil) (CF.ZK (ps:=oO v I) f.cx.live (by refine O (pairs_len B) ?_;decide) (by refine O (pairs_len B) ?_;decide) (by exact O (pairs_len B) B8)))) λs₆ _ f=>⟨rfl,?_⟩)
   .have e:T.list (((PE (toldOf v I) (cX v I)).filter λ_=>af).map λq=>fQ (((q.1.filter λn=>decide (n<0)).length:Int),q.2))=.list ((oO v I).map fQ):=by refine O (fE ..) ?_;unfold oO;refine O bO ?_;rfl
    refine aQ e ?_;refine EF.ev (CU.ef (CU.l2 (kf:=λq:List Int×Int=>LI q.1) (kg:=λq:List Int×Int=>.int q.2) j f.cx ?_ (λq m C J Y h c k=>TS.nil) (λq m _ C J Y h c hY k=>?_) ?_) f.cx.live);.exact aQ (Yc ..) (IT.cP (EV.glob f.cx (by exact xdv)) rfl (EL.cons (EV.name f.cx) (EL.cons (EV.name f.cx) EL.nil)) (IC.zip2 j f.cx.live))
    .have SE:q.1.length<=4:=by have:=(Ab m).1;unfold toldOf at this;refine aG (bE.mp this) λz _ ez=>?_;refine aQ ez ?_;simp only[qP,aH];exact dh u
     have P:=CA.zp (A:=A.deeper (lC L)) (X:=Y) (h₀:=h) (l:=(q.1.filter λn=>decide (n<0)).map T.int) (by refine O (aH ..) ?_;have:=nM (λn:Int=>decide (n<0)) q.1;exact aZ (aZ this SE) (gQ _ _));rw[aH]at P;exact EV.tup c.live (EL.cons (EV.cP (EV.glob c (by exact GO)) rfl (EL.cons (EF.ev (CU.ef (CU.l1 (kf:=.int) (f:=.int) c (IT.list j (.inl rfl) c.live (EV.name c)) (λx mx C' Q Y' h' M k'=>TS.one (TV.cmp (X:=Y') (EV.name M) EV.int aX.lt)) (λx mx _ C' Q Y' h' M hY' k'=>EV.name M) (cC SE)) c.live)) EL.nil) P) (EL.cons (EV.name c) EL.nil)) (by simp)
    .refine O gP ?_;exact O u (aZ (tS _ _) dk)
   rw[ZV B]at f;refine@di _ _ _ _ _ _ (FS.ret (t:=uR v I) f (EV.less (EV.tup f.cx.live (EL.cons (t:=LI (cX v I)) ?_ (EL.cons (EV.cmp (EV.name f.cx) (EV.name f.cx) (aX.same (xbP _) hun (.inl ⟨_,rfl⟩))) EL.nil)) (by simp)) inR) λv s' k r=>⟨k,r⟩);have e:T.list (((en 0 (cX v I)).filter λ_=>af).map λq=>T.int q.2)=LI (cX v I):=by refine O (fE ..) ?_;unfold LI;rw[show((en 0 (cX v I)).map λq=>T.int q.2)=((en 0 (cX v I)).map (·.2)).map T.int by refine O bO ?_;rfl,Bh]
   refine aQ e ?_;exact EF.ev (CU.ef (CU.l2 (kf:=λq:Int×Int=>.int q.1) (kg:=λq:Int×Int=>.int q.2) j f.cx (IT.list j (.inr (by rfl)) f.cx.live (EV.name f.cx)) (λq m C J Y h c k=>TS.nil) (λq m _ C J Y h c hY k=>EV.name c) (by refine O (nj ..) (O u ?_);decide)) f.cx.live)
 .exact dP k5 (dP k6 (dP k7 nD))
abbrev j9:ai:=(fdOf (MineH.Be PW)).qualname++".<locals>."++"<lambda>"
noncomputable abbrev jI:aR:=⟨83,31,83,94⟩
theorem xgw:CodeHd hH 240 PL:=⟨MineH.wW,qh MineH.wW,_,_,_,_,_,_,_,ku (by kernel_rfl),rfl,rfl,rfl,rfl,rfl,rfl,rfl,rfl,dk⟩
theorem xgx:hH.Ns mJ (hH.nsMap 3):=.of_isNs Cu
theorem xgy:hH.BuiltinsAt (hH.nsMap 3) PL:=⟨4,G3 w.params,by kernel_rfl,dk,dk,dk,ku (by kernel_rfl),rfl,rfl,rfl⟩
theorem xgz(K:Kp hH h)(k:bf [PL] h h'):Kp hH h':=λb o e=>k b o (λm=>by rw[hH]at e;exact gone e (wg _ m)) (K b o e)
theorem T8{s:aq}(rm:cF A (n+6))(N:Top X s.heap)(j:PL∈X)(D:dD X jI j9 s.heap PL)(h0:0<=v)(h1:v<2^60)(g:I∈r5)(rv:ay X s.heap [.int v,.int I,NM] vs):au (az PW w) A (dO (.ref 241) vs []) (λz S=>br [PL] s S/\dD X jI j9 S.heap PL/\Rep X S.heap (uR v I) z) E s:=by
 refine wk (Og.kp N.K) (rE.kp N.K) rm N.live N.n3 N.n0 rfl rv λs₁ E Z L f i x=>?_;have f0:=f;have k1:=x "others" (.inl (by kernel_rfl));have k2:=x "rows" (.inr (by kernel_rfl));have k3:=x "keys" (.inr (by kernel_rfl));have M:=x "plain" (.inl (by kernel_rfl));have k5:=x "comp" (.inr (by kernel_rfl));have k6:=x "told" (.inl (by kernel_rfl));have k7:=x "due" (.inl (by kernel_rfl));have k8:=x "place" (.inr (by kernel_rfl));have k9:=x "one" (.inr (by kernel_rfl));have IU:=x "line" (.inl (by kernel_rfl));have Q:=i.hd;have hw5:=aE.mp g;refine aV (wL I g) λR xhE=>?_;refine bY (FS.qO f k1.1 k1.2 (t:=LI (cW I)) (CU.l1 (kf:=.int) (f:=.int) f.cx (IT.lg Q f.cx (by exact i7)) (λo m C H Y h c k=>TS.one (TV.cmp (X:=Y) (EV.name c) (EV.name c) aX.ne)) (λo m _ C H Y h c _ k=>EV.name c) dk) λJ f=>⟨rfl,?_⟩);have p:∃o,J.heap.get? eo=aa o:=N.sm.imp λ_ e=>f.ks.kp _ _ e;refine bY (FS.set f k2.1 k2.2 (t:=DI (rt v I)) ?_ λs₃ _ f=>⟨rfl,?_⟩)
 .have e:T.dI (((en 0 (cW I)).filter λ_=>af).map λq=>q.2) (((en 0 (cW I)).filter λ_=>af).map λq=>pe (mk v q.1,bB q.2))=DI (rt v I):=by unfold DI rt;refine O (fE ..) (O bO (O bO ?_));rfl
  refine aQ e ?_;refine EF.ev (CU.ef (CU.dI2 (kf:=λq:Int×Int=>.int q.1) (kg:=λq:Int×Int=>.int q.2) (as:=en 0 (cW I)) (p:=λ_=>af) (g:=λq=>q.2) (f:=λq=>pe (mk v q.1,bB q.2)) Q f.cx p ?_ (λa m C H Y h c k=>TS.nil) (λq m _ C H Y h c k=>EV.name c) (λq m _ C H Y h c hY k=>?_) ?_ ?_) f.cx.live);.exact aQ uv (IT.cP (EV.glob f.cx (by exact Aj)) rfl (EL.cons (EV.name f.cx) EL.nil) (IC.enumerate Q f.cx.live))
  .refine gW (Wu I g q m) λu q2 q3=>?_;refine aV u λq0 q1=>?_;refine EV.tup c.live (EL.cons (EV.bin (EV.bin (EV.name c) (EV.bin EV.int (EV.name c) (bD.xge q0 (eF (kN q1)))) (bD.uL (Int.pow_pos dk) ?_)) EV.int (bD.uM dk)) (EL.cons (EV.sub (EV.name c) (EV.name c) (cS.list q2 (eF q3) ?_)) EL.nil));.have:q.1=0\/q.1=1\/q.1=2\/q.1=3:=PS q0 q1;rcases this with e|e|e|e<;>rw[e]<;>decide
   .have:q.2=0\/q.2=1\/q.2=2\/q.2=3\/q.2=4:=lz q2 q3;rcases this with e|e|e|e|e<;>rw[e]<;>rfl
  .exact O (fE ..) (X0 I g)
  .have:∀I∈r5,(en 0 (cW I)).length<=100000:=by decide+kernel
   exact this I g
 refine@FS.Ws _ _ _ _ _ _ _ _ _ _ _ _ _ _ _ _ _ _ _ _ _ _ _ _ _ _ _ _ _ _ _ _ _ _ _ _ _ _ _ _ _ _ _ _ _ _ _ _ _ _ _ _ _ _ _ _ f k3.1 k3.2 (by rfl) (by kernel_rfl) λs₄ f=>?_;have P:=f.ks.kp;refine bY (FS.xfC (P:=PL) (I:=λh=>dD (Z++X) jI j9 h PL) (t:=LI (cX v I)) f j (N.live PL j) (λh t=>let⟨ps,a,_⟩:=t;⟨_,a⟩) M.1 M.2 (λE=>?_) λd G f h1 K=>⟨rfl,?_⟩)
 .have l:PL∉aK (cu HB L 241):=λm=>by refine aC (N.live PL j) λo e=>?_;have:=f.new PL (f.own PL m);replace this:=e▸this;cases this
  refine jP xgy λbm ob b1 b2 b3 b4 b5 b6=>?_;refine ZL (n:=n+3) (key:=g4 v I) (its:=cW I) (x:="other") f.cx (by exact Ln) (by kernel_rfl) (EV.name f.cx) rfl rfl (xgx.keeps (N.K.trans P)) ⟨bm,ob,b1,b2,b3,b4,(N.K.trans P) _ _ b5,b6⟩ rfl (xgw.keeps (N.K.trans P)) ((D.Ph f.new).kp P) f.cx.live (cJ _ j) l (Se.keeps (N.K.trans P)) (by kernel_rfl) (by kernel_rfl) rfl rfl rfl i (jq R (gQ _ _)) (O R dk) (by exact O R B8) (λpm W ctv v=>rfl) λo B A' L' f' W h rm2 c=>?_;exact EF.xgh (v:=v) (who:=I) (o:=o) c g B (by rfl) (by rfl) (by rfl) (by kernel_rfl) (by kernel_rfl) (by kernel_rfl)
 .refine fU h1 λs₇ hT hkx hok l=>?_;have hT6:dD (Z++X) jI j9 G.heap PL:=by exact dD.dK (λm=>by replace m:=aW.mp m;replace l:=m▸l;exact l M.2) hkx.kp (one (bC.mpr (.inl (f.own _ M.2)))) hT
  have V:PL∉Z:=λm=>by refine aC (N.live PL j) λo e=>?_;have:=f0.new PL m;replace this:=e▸this;cases this
  have F:=(K d (.refl _)).1.kp;refine aB (Yd (n:=n) f (xgz N.K F) i ?_ g x) (λfl S y=>?_) λ_ _ e=>e
  .intro b m;by_cases q:b=PL;.refine O q ?_;refine aC (f.O9 PL j) λo B=>?_;exact⟨o,(K d (.refl _)).2 _ _ V B⟩
   .refine aC (N.live b m) λo B=>?_;exact⟨o,F b o (by simp[q]) B⟩
  .refine aV y λks r=>?_;refine aV (K S ks) λb1 b2=>?_;refine⟨b1,?_,r⟩;refine dj hT6 λps e1 e2 e3=>?_;refine⟨ps,b2 _ _ V e1,e2,e3.imp id λ⟨cv,d1,dn,d2⟩=>⟨cv,d1,λm=>dn (cJ _ m),?_⟩⟩;refine DT d2 λc' o U t e4 g' r' z'=>?_;cases e4;exact⟨cv,o,U,t,rfl,b2 _ _ (λm=>dn (bI _ m)) g',r',z'⟩
theorem Jr{y:List ai}{K:List Int}(u:cF A (n+1))(N:Top X B)(b:y.length=K.length):CA A X B (.ref 80) [.dS y (K.map .int)] (.int (jf K)):=by
 refine CA.top GN N u rfl rfl rfl λs U E Z L f k i C=>?_;have V:=C "nc" (.inl (by kernel_rfl));have M:=C "calls" (.inl (by kernel_rfl));refine bY (FS.set f V.1 V.2 EV.int λJ _ f=>⟨rfl,?_⟩);refine bY (FS.for (as:=K) (kf:=.int) (cU:=λl=>upd (bQ (eX (d9 (aO PW 5)) G0) ["callers"] [.dS y (K.map .int)]) "nc" (.int (jf l))) (iw:=λl a=>upd (upd (bQ (eX (d9 (aO PW 5)) G0) ["callers"] [.dS y (K.map .int)]) "nc" (.int (jf l))) "calls" (.int a)) (Mf:=λ_=>[]) (λ_=>True) trivial f ?_ (λ_=>rfl) (λl a _=>AS.name M.1 M.2) (λl a _ _ z j E f _=>?_) λj _ f=>⟨rfl,?_⟩);.exact IT.ZG i.hd rfl f.cx.live (EV.name f.cx) (by simp[b])
 .refine di (FS.xbr f V.1 V.2 (by rfl) (EV.name f.cx) λS h=>⟨trivial,?_⟩);refine O (UL ..) ?_;refine h.less ?_;show bq _ _;repeat(first|exact bq.refl _|refine bq.iM ?_ (by rfl)|refine bq.out ?_ (by kernel_rfl))
 .exact di (FS.ret f ((EV.name f.cx).less inR) λv S k r=>⟨k,r⟩)
theorem J3{L b:Type}{F:b->L->Option b}{l:List L}{a:L}{r:List L}{i o:b}(h:l.foldlM F i=aa o)(J:F o a=ak):(l++a::r).foldlM F i=ak:=by refine O JU (O h ?_);show(a::r).foldlM F o=ak;refine O DB (O J ?_);rfl
theorem Ak{L b:Type}{F:b->L->Option b}{l:List L}{a:L}{i o w:b}(h:l.foldlM F i=aa o)(J:F o a=aa w):(l++[a]).foldlM F i=aa w:=by refine O JU (O h ?_);show[a].foldlM F o=aa w;refine O DB (O J ?_);rfl
structure BD(c:List Int):Prop where
ne:c≠[]le:c.length<=5
el:∀x∈c,0<=x/\x<5
theorem BD.gi{c:List Int}(h:BD c){k:Int}(D:0<=k)(h1:k<c.length):0<=Mine.gi c k/\Mine.gi c k<5:=by unfold Mine.gi;exact O cz (O (cy (iu D h1)) (h.el _ (nT _)))
theorem U6{A:aF}{X:List ah}{U:aA}{e p:List (List Int)}{n:Nat}(rm:cF A (n+1))(tp:Top X U)(sq:Sq e)(hc:∀c∈p,BD c):CA A X U (.ref 261) [b7 e,b7 p] (.bool (ny e p)):=by
 refine CA.top Of tp rm rfl rfl rfl λs s₁ E Z L f k vH hw=>?_;have kf:=hw "far" (.inr (by kernel_rfl));have kc:=hw "cycle" (.inl (by kernel_rfl));have kp:=hw "place" (.inl (by kernel_rfl));have kw:=hw "who" (.inl (by kernel_rfl));have M:=vH.hd;refine bY (FS.NY f kf.1 kf.2 ((EF.rZ f.cx.live (EV.list f.cx.live (EL.cons EV.int EL.nil)) EV.int dk dk).em λt m=>by refine O (vL m) ?_;rfl) λD s₂ f=>⟨rfl,?_⟩);refine nV (FS.for (as:=p) (kf:=LI) (cU:=λl=>upd (bQ (eX (d9 (aO PW 26)) G0) ["rank","cycles"] [b7 e,b7 p]) "far" (.aI (.ref D))) (iw:=λl c=>upd (upd (bQ (eX (d9 (aO PW 26)) G0) ["rank","cycles"] [b7 e,b7 p]) "far" (.aI (.ref D))) "cycle" (LI c)) (Mf:=λl=>[(D,LI ((l.foldlM (pQ e) [4,4,4,4,4]).getD []))]) (λl=>∃o,l.foldlM (pQ e) [4,4,4,4,4]=aa o/\o.length=5) ⟨_,rfl,rfl⟩ f ?_ (λ_=>rfl) (λl a _=>AS.name kc.1 kc.2) (λl c hl hP wr S E f back=>?_) λS hP f=>?_);.exact IT.list M (.inl rfl) f.cx.live (EV.name f.cx)
 .refine aG hP λo u d=>?_;have hcm:c∈p:=qN hl;have co:=hc c hcm;have J:(l.foldlM (pQ e) [4,4,4,4,4]).getD []=o:=by refine O u ?_;rfl
  rw[J]at f;refine di (FS.for (as:=en 0 c) (kf:=λq=>.tup [.int q.1,.int q.2]) (cU:=λ_=>upd (upd (bQ (eX (d9 (aO PW 26)) G0) ["rank","cycles"] [b7 e,b7 p]) "far" (.aI (.ref D))) "cycle" (LI c)) (iw:=λ_ q=>bQ (upd (upd (bQ (eX (d9 (aO PW 26)) G0) ["rank","cycles"] [b7 e,b7 p]) "far" (.aI (.ref D))) "cycle" (LI c)) ["place","who"] [.int q.1,.int q.2]) (Mf:=λl'=>[(D,LI ((l'.foldlM (pM e c) o).getD []))]) (λl'=>∃w,l'.foldlM (pM e c) o=aa w/\w.length=5) ⟨o,rfl,d⟩ f ?_ (λ_=>rfl) (λl a _=>AS.tup M (ps:=[_,_]) (λx m=>?_) rfl rfl rfl) (λl' q hl' IV wr' s₄ E f back'=>?_) λs₄ IV f=>?_);.refine aQ (uv (f:=T.int)) ?_;refine IT.cP (EV.glob f.cx (by exact Aj)) rfl (EL.cons (EV.name f.cx) EL.nil) (IC.enumerate M f.cx.live)
  .rcases bA.mp m with rfl|m;.exact kp
   .rw[aW]at m;exact O m kw
  .refine aG IV λw F g=>?_;have G:(l'.foldlM (pM e c) o).getD []=w:=by refine O F ?_;rfl
   rw[G]at f;have hqm:q∈en 0 c:=qN hl';refine aG (r8 hqm) λkq V e2=>?_;have j:=co.el q.2 (eO e2);have I:kq<c.length:=(rH.mp e2).1;have Q:0<c.length:=gO (jo _) I;have N:=co.le;obtain⟨P,B⟩:=q;dsimp only at V e2 j;have epl:P=kq:=V.trans (mG _);have SG:0<=jc c P/\jc c P<5:=by
    unfold jc;split;.exact co.gi (O (jO ..) (JD (gR.mpr Q))) (O (jO ..) (W9 (uh _)))
    .exact co.gi (Rd V ‹¬P=0›) (Rc I V)
   have K:0<=(P+1).fmod c.length/\(P+1).fmod c.length<c.length:=⟨vP _ (gR.mpr Q),rK _ (gR.mpr Q)⟩;have SH:0<=wX c P/\wX c P<5:=co.gi K.1 K.2;refine bY (FS.setItem (i:=0) f (by rfl) (by rfl) (t:=.int (gr e B (jc c P))) (EV.gr sq (EV.name f.cx) (EV.name f.cx) ?_ j.1 j.2 SG.1 SG.2) (EV.name f.cx) j.1 (by exact O (aH ..) (O g j.2)) (by refine O (aH ..) (O g ?_);decide) λs₅ f=>⟨rfl,?_⟩)
   .by_cases H:P=0;.rw[show jc c P=gi c (P-1+c.length)by unfold jc;refine O (if_pos H) (O H ?_);rfl];exact EV.xdm (EV.name f.cx) (EV.bin (EV.name f.cx) EV.int bD.sub) (O H dk) (O H (xcB (nY.mpr Q))) (gO N dk)
    .exact O (show jc c P=gi c (P-1)by unfold jc;rw[if_neg H]) (EV.gi (EV.name f.cx) (EV.bin (EV.name f.cx) EV.int bD.sub) (Rd V H) (Rc I V) (cC N))
   have f:=f.conv (M':=[(D,LI (w.set B.toNat (gr e B (jc c P))))]) (by show[(D,T.list ((w.map T.int).set B.toNat (.int (gr e B (jc c P)))))]=_;unfold LI;exact O wc rfl);have W:=f.view (x:="far") (i:=0) (by rfl) rfl;have SI:gi (w.set B.toNat (gr e B (jc c P))) B=gr e B (jc c P):=by unfold gi;refine O cz (O (zR (BU j.1 j.2 g)) ?_);rfl
   refine di (FS.cond f (TV.cmp (EV.gr sq (EV.name f.cx) (EV.name f.cx) (EV.gi (EV.name f.cx) (EV.bin (EV.bin (EV.name f.cx) EV.int bD.add) (EV.cP (EV.glob f.cx (by exact GO)) rfl (EL.cons (EV.name f.cx) EL.nil) (CA.zp (by exact O (aH ..) (cC N)))) (bD.fmod (by exact O (aH ..) (Em (gR.mpr Q))))) ?_ ?_ ?_) j.1 j.2 ?_ ?_) ((EV.gi (EV.name W) (EV.name W) j.1 ?_ ?_).flat rfl) aX.gt) ?_ ?_);.exact O (aH ..) K.1
   .exact O (aH ..) K.2
   .exact cC N
   .exact O (aH ..) SH.1
   .exact O (aH ..) SH.2
   .exact O jN (Bq j.2 g)
   .exact O jN (jz g (gQ _ _))
   .intro R s₆ f;rw[SI,aH]at R;have R:gr e B (jc c P)<gr e B (wX c P):=of_decide_eq_true R;refine di (FS.ret f EV.bool λv s' k r=>⟨k,?_⟩);have V:ny e p=av:=by
     refine aC hl λr er=>?_;refine aC hl' λr' er'=>?_;have h1:pM e c w (P,B)=ak:=by unfold pM;exact if_pos R
     have h2:pQ e o c=ak:=by unfold pQ;exact O er' (J3 F h1)
     have h3:yI e p=ak:=by unfold yI;exact O er (J3 u h2)
     unfold ny;exact O h3 rfl
    exact O V r
   .intro R s₆ f;rw[SI,aH]at R;have R:¬gr e B (jc c P)<gr e B (wX c P):=of_decide_eq_false R;have h1:pM e c w (P,B)=aa (w.set B.toNat (gr e B (jc c P))):=by unfold pM;exact if_neg R
    refine iA ⟨⟨_,Ak F h1,by exact O jN g⟩,?_⟩;rw[show((l'++[(P,B)]).foldlM (pM e c) o).getD []=w.set B.toNat (gr e B (jc c P))by refine O (Ak F h1) ?_;rfl];refine f.less ?_;show bq _ _;repeat(first|exact bq.refl _|refine bq.iM ?_ (by rfl)|refine bq.out ?_ (by kernel_rfl))
  .refine aG IV λw F g=>?_;have G:((en 0 c).foldlM (pM e c) o).getD []=w:=by refine O F ?_;rfl
   rw[G]at f;refine⟨⟨w,Ak u F,g⟩,?_⟩;have e3:((l++[c]).foldlM (pQ e) [4,4,4,4,4]).getD []=w:=by rw[Ak u F];rfl
   refine O e3 ?_;refine f.less ?_;show bq _ _;repeat(first|exact bq.refl _|refine bq.iM ?_ (by rfl)|refine bq.out ?_ (by kernel_rfl))
 .refine aG hP λo u d=>?_;have J:(p.foldlM (pQ e) [4,4,4,4,4]).getD []=o:=by refine O u ?_;rfl
  rw[J]at f;have W:=f.view (x:="far") (i:=0) (by rfl) rfl;have hfi:∀k:Int,0<=k->k<5->0<=k/\k<o.length:=λk a b=>⟨a,by exact O d b⟩;refine di (FS.ret f (EV.flat (X:=aK (cu Cb L 261)) (EV.cmp (b:=ny e p) (t:=.list (uq e o)) (u:=.list []) (EF.ev (CU.ef ?_ W.live)) (EV.list W.live EL.nil) ?_) rfl) λv s' k r=>⟨k,r⟩)
  .refine CU.ll (as:=r5) (kf:=.int) (p:=λ_=>af) (bs:=λone=>upTo one) (qs:=λ_=>.int) (p2:=λone i=>decide (gr e one i<gi o one)&&decide (gr e i one<gi o i)) (f:=λ_ _=>.int 1) W ?_ ?_ ?_ ?_ ?_ dk ?_;.exact IT.cP (its:=r5.map .int) (EV.glob W (by exact i7)) rfl (EL.cons EV.int EL.nil) (IC.oJ (n:=5) M rfl W.live dk)
   .exact λa m C cs Y h c k=>TS.nil
   .intro one m _ C cs Y h c k;have h5:one=0\/one=1\/one=2\/one=3\/one=4:=by simpa[r5]using m
    rcases h5 with rfl|rfl|rfl|rfl|rfl;.exact IT.cP (its:=(upTo 0).map .int) (EV.glob c (by exact i7)) rfl (EL.cons (EV.name c) EL.nil) (IC.oJ (n:=0) M rfl c.live dk)
    .exact IT.cP (its:=(upTo 1).map .int) (EV.glob c (by exact i7)) rfl (EL.cons (EV.name c) EL.nil) (IC.oJ (n:=1) M rfl c.live dk)
    .exact IT.cP (its:=(upTo 2).map .int) (EV.glob c (by exact i7)) rfl (EL.cons (EV.name c) EL.nil) (IC.oJ (n:=2) M rfl c.live dk)
    .exact IT.cP (its:=(upTo 3).map .int) (EV.glob c (by exact i7)) rfl (EL.cons (EV.name c) EL.nil) (IC.oJ (n:=3) M rfl c.live dk)
    .exact IT.cP (its:=(upTo 4).map .int) (EV.glob c (by exact i7)) rfl (EL.cons (EV.name c) EL.nil) (IC.oJ (n:=4) M rfl c.live dk)
   .intro one m i m' C cs Y h c k;have b1:0<=one/\one<5:=by simp[r5]at m;exact G9 m
    have b2:0<=i/\i<5:=by
     unfold upTo at m';refine aG (bE.mp m') λz hz y=>?_;subst y;have:=rN.mp hz;constructor;.exact iP z
     .show(z:Int)<5;exact jj2 this b1.2
    refine O (show(decide (gr e one i<gi o one)&&decide (gr e i one<gi o i))=(decide (gr e one i<gi o one)&&(decide (gr e i one<gi o i)&&af))by rw[t9]) ?_;refine TS.one (TV.rD (AT.and (TV.cmp (X:=Y) (EV.gr sq (EV.name c) (EV.name c) (EV.name c) b1.1 b1.2 b2.1 b2.2) (EV.gi (EV.name c) (EV.name c) b1.1 (by exact O d b1.2) (by refine O d ?_;decide)) aX.lt) λ_=>AT.and (TV.cmp (X:=Y) (EV.gr sq (EV.name c) (EV.name c) (EV.name c) b2.1 b2.2 b1.1 b1.2) (EV.gi (EV.name c) (EV.name c) b2.1 (by exact O d b2.2) (by refine O d ?_;decide)) aX.lt) λ_=>AT.yS))
   .exact λ_ _ _ _ _ C cs Y h c _ k=>EV.int
   .intro a m;have h5:a=0\/a=1\/a=2\/a=3\/a=4:=by simpa[r5]using m
    rcases h5 with rfl|rfl|rfl|rfl|rfl<;>decide
  .have:=aX.Pe (X:=aK (cu Cb L 261)) (A:=A.deeper (cu Cb L 261)) (h₀:=S.heap) (l:=uq e o) (by have:=vH.jJ;show _<9900;exact PN _ this);exact O (show ny e p=(uq e o).isEmpty by unfold ny yI;rw[u]) this
section
section
variable{j:dw}{A:aF}{E:aj->aq->Prop}{s:aq}
theorem S2{f}(P:s.heap.IsTupleIter a t i)(c:s.heap.IsTuple t f)(Y:f[i]?=aa x)(X:∀h',h'.IsTupleIter a t (i+1)->ud a s.heap h'->Q x {s with heap:=h'}):au (az j w) A (tM (.ref a)) Q E s:=by refine dj (id P) λo g Z U=>?_;obtain⟨l,b,_,h,k⟩:=c;unfold tM;refine ao (x8 (name:=n7 "__next__") P.typeIs CV (tU CV P.typeIs UE ?_ (Uw _)));show au _ _ (vd (.ref a) 0>>=_) _ _ s;refine ao (jr g U (x:=.ref t) rfl ?_);show au _ _ (if(bV t==fk)=af then _ else _) _ _ s;rw[if_neg (show¬(bV t==fk)=af from qw)];show au _ _ (vd (.ref a) 1>>=_) _ _ s;refine ao (jr g U (x:=.int i 0) rfl ?_);show au _ _ (Gf (.ref t)>>=_) _ _ s;refine ao (t8 b k ?_);simp only[rM,Y];refine ao (Ar g U (by simp) (aM ⟨x,rfl,aM (X _ ?_ (mX ..))⟩));exact⟨_,qu _ g (zU (vU U _)),(J8 ..).trans Z,by rw[vU U];simp[e9]⟩
theorem S9{f}(d:A.handled=ak)(P:s.heap.IsTupleIter a t i)(c:s.heap.IsTuple t f)(Y:f[i]?=ak)(u:∀h' e,xei a s.heap h'->(∃o,h'.get? e=aa o/\o.cls=.type "StopIteration")->E (.ref e) {s with heap:=h'}):au (az j w) A (tM (.ref a)) Q E s:=by
 refine dj (id P) λo g Z U=>?_;obtain⟨l,b,_,h,k⟩:=c;unfold tM;refine ao (x8 (name:=n7 "__next__") P.typeIs CV (tU CV P.typeIs UE ?_ (Uw _)));show au _ _ (vd (.ref a) 0>>=_) _ _ s;refine ao (jr g U (x:=.ref t) rfl ?_);show au _ _ (if(bV t==fk)=af then _ else _) _ _ s;rw[if_neg (show¬(bV t==fk)=af from qw)];show au _ _ (vd (.ref a) 1>>=_) _ _ s;refine ao (jr g U (x:=.int i 0) rfl ?_);show au _ _ (Gf (.ref t)>>=_) _ _ s;refine ao (t8 b k ?_);simp only[rM,Y];refine ao (qJ (ao (Ar g U (by simp) ?_)));show au _ _ (newExc (.type "StopIteration") []>>=_) _ _ _;refine ao ?_;simp only[newExc,w7];refine ao (qz ?_ (by size_fits));refine ao (m:=xgT _ _) (wA (a:=fk) (by first|rfl|(simp only[xgT];rfl)) ?_);refine qz ?_ (by size_fits);simp only[raiseNew];refine ao (wpAny_handled ?_);first|refine O (show A.in1.handled=ak from d) ?_|rw[d]
 refine ao (aM (wpAny_throw ?_));exact u _ _ (((mX ..).extBut.push _).push _) ⟨_,cE _ rfl,rfl⟩
end
theorem VM{A:aF}(d:A.handled=ak)(a l:ah)(S:l≠a)(f:Array aj):Draws prog w A a [a,l] f.size (λi v=>f[i]?=aa v) λi h=>h.IsTupleIter a l i/\h.IsTuple l f where
live:=λ_ _ M=>let⟨o,g,_⟩:=M.1;⟨o,g⟩;frame:=λ_ _ _ M N=>⟨let⟨o,g,r⟩:=M.1;⟨o,N a (by simp) o g,r⟩,let⟨o,g,r⟩:=M.2;⟨o,N l (by simp) o g,r⟩⟩;item:=λi s Q E F M X=>by refine S2 M.1 M.2 (x:=f[i]) (by simp[F]) λh' x I=>?_;exact X _ h' s.toks (by simp[F]) ⟨x,M.2.extBut I.extBut S⟩ I
done:=λs Q E M u=>S9 d M.1 M.2 (by simp) u
theorem VN{j:dw}{w:bF}{A:aF}{E F:aj->aq->Prop}{s:aq}{k:List (Code×aR)->Bool}{Q:Bool->aq->Prop}(h:∀b,Q b s):au (az j w) A stack (λa S=>au (az j w) A (pure (k a)) Q F S) E s:=wpAny_stack_any λM=>aM (h _)
theorem SX(l:ah)(f:Array aj):Meets (Builtin.«enumerate.__new__» ⟨[.type "enumerate",.ref l],[]⟩) λ_ R s=>s.heap.IsTuple l f/\R (.ok (.ret (.ref (s.heap.push {cls:=.type "tuple_iterator",data:=.fields #[.ref l,.int 0 0]}).objs.size))) {s with heap:=(s.heap.push {cls:=.type "tuple_iterator",data:=.fields #[.ref l,.int 0 0]}).push {cls:=.type "enumerate",data:=.fields #[.none,.bool av,.ref s.heap.objs.size,e9 0,.none,.none]}}:=.of_wp λj w A R s h=>by obtain⟨Q,g,d,G,P⟩:=s;refine aV h λC h=>?_;have k:=sub_enumerate;obtain⟨⟨c,a,r,J⟩,V,Z,n,U⟩:=id C;simp only at Z U;subst Z U;wp_walk using xex V;refine VN λb=>?_;cases b<;>wp_walk using xex V,xcJ C<;>exact⟨_,rfl,h⟩
end
section
variable{j:dw}{A:aF}{E:aj->aq->Prop}{s:aq}
theorem Tc{l:ah}{f:Array aj}{Q:aj->aq->Prop}(V:s.heap.IsTuple l f)(h:∀h',I0 h' (s.heap.objs.size+1) s.heap.objs.size 0 .none->h'.IsTupleIter s.heap.objs.size l 0->(∀b o,s.heap.get? b=aa o->h'.get? b=aa o)->Q (.ref (s.heap.objs.size+1)) {s with heap:=h'}):au (az j w) A (dO (.type "enumerate") [.ref l]) Q E s:=by
 refine callType_new F.called_enumerate dk (F.typeCall_enumerate_1 _) (F.newCall_enumerate_1 _) (λa=>YZ a _) F.entry_enumerate_new (SX l f) ⟨V,?_⟩;have I:(s.heap.push {cls:=.type "tuple_iterator",data:=.fields #[.ref l,.int 0 0]}).objs.size=s.heap.objs.size+1:=mD ..;show _/\_;refine O I ?_;have L:I0 ((s.heap.push {cls:=.type "tuple_iterator",data:=.fields #[.ref l,.int 0 0]}).push {cls:=.type "enumerate",data:=.fields #[.none,.bool av,.ref s.heap.objs.size,e9 0,.none,.none]}) (s.heap.objs.size+1) s.heap.objs.size 0 .none:=by have:=cE (s.heap.push {cls:=.type "tuple_iterator",data:=.fields #[.ref l,.int 0 0]}) (o:={cls:=.type "enumerate",data:=.fields #[.none,.bool av,.ref s.heap.objs.size,e9 0,.none,.none]}) rfl;rw[I]at this;exact this
 exact⟨⟨_,L,rfl⟩,h _ L ⟨_,bX _ (cE _ rfl),rfl,rfl⟩ λb o x=>bX _ (bX _ x)⟩
end
section
variable{A:aF}{X:List ah}{B:aA}
theorem WA(d:A.handled=ak){xs:Array aj}{F:List T}(h1:e≠a)(J:l≠e)(R:l≠a)(V:xs.size=F.length)(C:∀b∈[e,a],b∈Y):gz A e [e,a,l] [e,a] Y (.Tuple n p s) (jZ 0 F) λi h=>((∃c,I0 h e a i c)/\h.IsTupleIter a l i/\h.IsTuple l xs)/\ay Y h F xs.toList:=by
 have D:=VM (prog:=PW) (A:=A.in1) (by exact d) a l R xs;have W:=WalksT.enumerateD D e h1 (by simp[h1,J.symm]) (by simp);refine gz.AE (λh=>ay Y h F xs.toList) W (by exact O wj (O V rfl)) (λh h' r k=>Mine.ay.kp k _ _ r) (λi v t h Q j r=>?_) (λi h M b m=>?_) C
 .refine eK Q λG x f q=>?_;try clear Q;subst q
  refine aG (KN j) λu Z q=>?_;subst q;refine⟨_,rfl,?_⟩;refine⟨?_,r.get Z (by exact O gM f),trivial⟩;exact O (mG ..) (.fO _ _)
 .refine gW M λq z _=>?_;refine aC q λc x=>?_;refine aG z λo g _=>?_;refine bw (bA.mp m) (λy=>?_) λm=>?_;.subst y;exact⟨_,x⟩
  .replace m:=aW.mp m;exact O m ⟨o,g⟩
end
section
variable{A:aF}{X:List ah}{B:aA}
theorem Ye(e:A.handled=ak){s:aq}{xs:Array aj}{h':aA}(l:bJ X s.heap)(n:y∉X)(p:s.heap.IsTuple y xs)(R:ay X s.heap c xs.toList)(L:I0 h' (s.heap.objs.size+1) s.heap.objs.size 0 .none)(P:h'.IsTupleIter s.heap.objs.size y 0)(V:Kp s.heap h'):jG A X s.heap h' (s.heap.objs.size+1) [s.heap.objs.size+1,s.heap.objs.size,y] [s.heap.objs.size+1,s.heap.objs.size] (.Tuple i j k) (jZ 0 c):=by
 refine aG (id p) λf a D=>?_;have W:=dQ a;have H:s.heap.get? s.heap.objs.size=ak:=get?_none_of_le (cQ _);have d:s.heap.get? (s.heap.objs.size+1)=ak:=get?_none_of_le (dM _);have N:∀b∈[s.heap.objs.size+1,s.heap.objs.size],s.heap.get? b=ak:=λb m=>by
  refine bw (bA.mp m) (λz=>?_) λm=>?_;.subst z;exact d
  .replace m:=aW.mp m;exact O m H
 have I:xs.size=c.length:=by exact aQ R.length (O dm rfl)
 have h:h'.IsTuple y xs:=⟨f,V _ _ a,D⟩;refine⟨λb m=>?_,λb m=>?_,N,λb m=>?_,λY J C=>⟨_,WA e (DC _) (bS (vW W)) (bS W) I C,⟨⟨_,L⟩,P,h⟩,om V J N R⟩⟩
 .refine bw (bA.mp m) (λz=>?_) λm=>?_;.subst z;exact⟨_,L⟩
  .refine bw (bA.mp m) (λz=>?_) λm=>?_;.subst z;refine aG P λo g _=>?_;exact⟨o,g⟩
   .replace m:=aW.mp m;exact O m ⟨_,V _ _ a⟩
 .refine bw (bA.mp m) (λz=>?_) λm=>?_;.subst z;exact l.above (dM _)
  .refine bw (bA.mp m) (λz=>?_) λm=>?_;.subst z;exact l.above (cQ _)
   .replace m:=aW.mp m;exact O m n
 .refine bw (bA.mp m) (λz=>?_) λm=>?_;.subst z;exact aP ..
  .replace m:=aW.mp m;exact O m (aY _ (aP ..))
theorem VO(d:A.handled=ak){s:aq}{xs:Array aj}(l:bJ X s.heap)(n:y∉X)(p:s.heap.IsTuple y xs)(R:ay X s.heap a xs.toList):au (az PW w) A (dO (.type "enumerate") [.ref y] []) (λx U=>au (az PW w) A (sM x) (λv J=>Ks s J/\∃I S z,v=.ref I/\jG A X s.heap J.heap I S z (.Tuple D j m) (jZ 0 a)) E U) E s:=by refine@Tc PW A E s y xs _ p λh' L P V=>?_;exact@xcN PW w A E _ _ _ _ _ _ L ⟨.mk' s h' s.toks V,_,_,_,rfl,Ye d l n p R L P V⟩
theorem ay.inv1(r:ay Y h [t] a):∃v,a=[v]/\Rep Y h t v:=by refine aC (ay.jy r) λv q=>?_;subst q;exact⟨v,rfl,r.1⟩
theorem IC.VP(d:A.handled=ak)(l:bJ X B):IC A X B (.type "enumerate") [.tup a] (.Tuple D j m) (jZ 0 a):=λs E K k r=>by refine aG r.inv1 λv q S=>?_;subst q;refine cH S.jS λy xs q n p R=>?_;subst q;exact VO d (l.kp k) n p R
end
theorem TH(a b c:aj):checkTypeCall "zip" ⟨[a,b,c],[]⟩=pure ():=by kernel_rfl
theorem T9(a b c:aj):tV "zip.__new__" ⟨[.type "zip",a,b,c],[]⟩=pure ():=by kernel_rfl
theorem S0(a b c d:aj):sN "object.__init__" ⟨[a,b,c,d],[]⟩:=by unfold sN;refine O (signature?_of (id:="object.__init__") (n:=['_','_','t','i','n','i','_','_']) (o:=['t','c','e','j','b','o']) (by kernel_rfl) F.owner_object) ?_;kernel_rfl
theorem nq(h:¬a=b):a≠b:=h
noncomputable abbrev o6(h:aA)(T:ah)(a b c:aj):Prop:=h.get? T=aa {cls:=.type "tuple",data:=.seq #[a,b,c]}
structure Z3(h:aA)(n k:Nat)(l1 l2 l3:ah)(xs d t:Array aj)(f:aj)(a b c:aj):Prop where
z:ve h (n+5) (n+3) (n+4) f
ti:o6 h (n+3) (.ref n) (.ref (n+1)) (.ref (n+2))to:o6 h (n+4) a b c
i1:h.IsListIter n l1 k
i2:h.IsListIter (n+1) l2 k
i3:h.IsListIter (n+2) l3 k
l1:h.IsList l1 xs
l2:h.IsList l2 d
l3:h.IsList l3 t
noncomputable def mW(n:Nat):List ah:=[n+5,n+4,n,n+1,n+2]
def CC(n:Nat)(R G l3:ah):List ah:=[n+5,n+3,n+4,n,n+1,n+2,R,G,l3]
theorem zH(h:autoParam ((d==3)=av) yAR):n+d<n\/n+d=n+3->False:=λq=>q.elim (λa=>rX.mpr (e7 ..) a) λe=>ne_of_beq_false h (Nat.add_left_cancel e)
theorem yK{n:Nat}{P:ah->Prop}(a:P (n+5))(b:P (n+4))(c:P n)(d:P (n+1))(e:P (n+2)):∀x∈mW n,P x:=both a (both b (both c (both d (one e))))
theorem MV{n R G l3:Nat}{P:ah->Prop}(a:P (n+5))(y:P (n+3))(b:P (n+4))(c:P n)(d:P (n+1))(e:P (n+2))(f:P R)(g:P G)(h:P l3):∀x∈CC n R G l3,P x:=both a (both y (both b (both c (both d (both e (both f (both g (one h))))))))
theorem Bj(h:c∉mW n):c≠n+5/\c≠n+4/\c≠n/\c≠n+1/\c≠n+2:=have t:=λ(a:ah)(m:a∈mW n)(e:c=a)=>h (e▸m)
⟨t _ (.head _),t _ (.tail _ (.head _)),t _ (.tail _ (.tail _ (.head _))),t _ (.tail _ (.tail _ (.tail _ (.head _)))),t _ (.tail _ (.tail _ (.tail _ (.tail _ (.head _)))))⟩
section
variable{prog:dw}{A:aF}{E:aj->aq->Prop}{s:aq}
theorem Dk{T:ah}{a b c x:aj}{k:Nat}{Q:Unit->aq->Prop}(f:o6 s.heap T a b c)(h:∀h',h'.get? T=aa {cls:=.type "tuple",data:=.seq ((#[a,b,c]:Array aj).setIfInBounds k x)}->ud T s.heap h'->Q () {s with heap:=h'}):au (az prog w) A (Gg T (·.setIfInBounds k x)) Q E s:=by refine xew f rfl (h _ ?_ (mX ..));refine O (qu _ f rfl) ?_;simp[c7]
theorem WB{n k l1 l2 l3:Nat}{xs ys zs:Array aj}{x y u a b c:aj}{Q:aj->aq->Prop}(H:Z3 s.heap n k l1 l2 l3 xs ys zs .none a b c)(X:l1<n)(N:l2<n)(V:l3<n)(hx:xs[k]?=aa x)(hy:ys[k]?=aa y)(hu:zs[k]?=aa u)(hQ:∀h',Z3 h' n (k+1) l1 l2 l3 xs ys zs (e9 s.heap.objs.size) x y u->o6 h' s.heap.objs.size x y u->(∀d o,d∉mW n->s.heap.get? d=aa o->h'.get? d=aa o)->Q (.ref s.heap.objs.size) {s with heap:=h'}):au (az prog w) A (Builtin.«zip.__next__» ⟨[.ref (n+5)],[]⟩) (λfin s'=>∃v,fin=.done (.ret v)/\Q v s') E s:=by
 show au _ _ (vd (.ref (n+5)) 2>>=_) _ _ _;refine ao (jr H.z rfl (x:=.bool av) rfl ?_);show au _ _ (vd (.ref (n+5)) 3>>=_) _ _ _;refine ao (jr H.z rfl (x:=.ref (n+3)) rfl ?_);refine ao (t8 H.ti rfl ?_);show au _ _ (CN (.ref (n+5))>>=_) _ _ _;refine ao ?_;unfold CN;refine ao (jr H.z rfl (x:=.none) rfl (aM ?_));simp only[if_true];refine ao (qJ ?_);refine ao (jr H.z rfl (x:=.ref (n+4)) rfl ?_);refine ao (z4 H.z (by simp) λh₁ z l=>?_);replace z:ve h₁ (n+5) (n+3) (n+4) .ellipsis:=z;refine ao ?_;simp only[Zf,xaM,tW,K6];refine ao (ao (As ?_));show au _ _ (tM (.ref n)>>=_) _ _ _;refine ao (JF (H.i1.extBut l.extBut (nq (bS (sO (pG _ _))))) (H.l1.extBut l.extBut (nq (bS (kI _ X)))) hx λh₂ xdM g=>aM ?_);have j:o6 h₂ (n+4) a b c:=g.extBut _ _ (nq (gb (sO (pG _ _)))) (l.extBut _ _ (nq (bS (gA _))) H.to);refine ao (t8 j rfl ?_);refine ao (Dk j λh₃ L h=>?_);replace L:o6 h₃ (n+4) x b c:=L;refine ao (AP (aM ?_));refine ao (ao (As ?_));show au _ _ (tM (.ref (n+1))>>=_) _ _ _;refine ao (JF (((H.i2.extBut l.extBut (nq (bS (lU (gA _))))).extBut g.extBut (nq (gb (gA _)))).extBut h.extBut (nq (bS (eB (dM _))))) (((H.l2.extBut l.extBut (nq (bS (kI _ N)))).extBut g.extBut (nq (bS N))).extBut h.extBut (nq (bS (kI _ N)))) hy λh₄ T q=>aM ?_);have p:o6 h₄ (n+4) x b c:=q.extBut _ _ (nq (gb (eB (dM _)))) L;refine ao (t8 p rfl ?_);refine ao (Dk p λh₅ W r=>?_);replace W:o6 h₅ (n+4) x y c:=W;refine ao (AP (aM ?_));refine ao (ao (As ?_));show au _ _ (tM (.ref (n+2))>>=_) _ _ _;refine ao (JF (((((H.i3.extBut l.extBut (nq (bS (eB (dM _))))).extBut g.extBut (nq (gb (dM _)))).extBut h.extBut (nq (bS (dM _)))).extBut q.extBut (nq (gb (gA _)))).extBut r.extBut (nq (bS (dM _)))) (((((H.l3.extBut l.extBut (nq (bS (kI _ V)))).extBut g.extBut (nq (bS V))).extBut h.extBut (nq (bS (kI _ V)))).extBut q.extBut (nq (bS (vW V)))).extBut r.extBut (nq (bS (kI _ V)))) hu λh₆ xdN F=>aM ?_);have t:o6 h₆ (n+4) x y c:=F.extBut _ _ (nq (gb (dM _))) W;refine ao (t8 t rfl ?_);refine ao (Dk t λi K J=>?_);replace K:o6 i (n+4) x y u:=K;refine ao (AP (aM (aM ?_)));refine ao (t8 K rfl ?_);refine ao (Aq ?_);have hsz:i.objs.size=s.heap.objs.size:=by rw[J.1,F.1,r.1,q.1,h.1,g.1,l.1]
 have D:ve i (n+5) (n+3) (n+4) .ellipsis:=J.extBut _ _ (nq (gb (gA _))) (F.extBut _ _ (nq (gb (eB (dM _)))) (r.extBut _ _ (nq (gb (gA _))) (q.extBut _ _ (nq (gb (lU (gA _)))) (h.extBut _ _ (nq (gb (gA _))) (g.extBut _ _ (nq (gb (sO (pG _ _)))) z)))));have hk:∀d o,d∉mW n->s.heap.get? d=aa o->i.get? d=aa o:=λd o hd e=>by refine qM (Bj hd) λd1 d2 d3 d4 d5=>?_;exact J.extBut _ _ d2 (F.extBut _ _ d5 (r.extBut _ _ d2 (q.extBut _ _ d4 (h.extBut _ _ d2 (g.extBut _ _ d3 (l.extBut _ _ d1 e))))))
 have P:∀d:Nat,d<n\/d=n+3->d∉mW n:=λd hd m=>yK (P:=λx=>x<n\/x=n+3->False) (zH (d:=5)) (zH (d:=4)) (zH (d:=0)) (zH (d:=1)) (zH (d:=2)) d m hd;have Y:i.IsListIter n l1 (k+1):=((((xdM.extBut h.extBut (nq (bS (sO (pG _ _))))).extBut q.extBut (nq (bS (gA _)))).extBut r.extBut (nq (bS (sO (pG _ _))))).extBut F.extBut (nq (bS (dM _)))).extBut J.extBut (nq (bS (sO (pG _ _))));have U:i.IsListIter (n+1) l2 (k+1):=((T.extBut r.extBut (nq (bS (eB (dM _))))).extBut F.extBut (nq (bS (gA _)))).extBut J.extBut (nq (bS (eB (dM _))));have Z:i.IsListIter (n+2) l3 (k+1):=xdN.extBut J.extBut (nq (bS (dM _)));have S:n+5<i.objs.size:=dQ D;show au _ _ (SS (.ref (n+5)) (.ref i.objs.size)>>=_) _ _ _;refine ao ?_;unfold SS;have xdO:ve (i.push {cls:=.type "tuple",data:=.seq #[x,y,u]}) (n+5) (n+3) (n+4) .ellipsis:=bX _ D;refine ao (z4 xdO (by simp) λxgA f C=>?_);replace f:ve xgA (n+5) (n+3) (n+4) (e9 i.objs.size):=f;refine z4 f (by simp) λB M I=>?_;replace M:ve B (n+5) (n+3) (n+4) (e9 i.objs.size):=M;have R:∀d o,d≠n+5->i.get? d=aa o->B.get? d=aa o:=λd o d1 e=>I.extBut _ _ d1 (C.extBut _ _ d1 (bX _ e));have G:o6 B i.objs.size x y u:=I.extBut _ _ (gb S) (C.extBut _ _ (gb S) (cE _ rfl));rw[hsz]at M G;refine aM ⟨_,rfl,?_⟩;show Q (.ref i.objs.size) _;refine O hsz ?_;exact hQ B ⟨M,R _ _ (nq (bS (dM _))) (hk _ _ (P _ (.inr rfl)) H.ti),R _ _ (nq (bS (gA _))) K,Y.at λo e=>R _ o (nq (bS (tR (e7 _ _)))) e,U.at λo e=>R _ o (nq (bS (lU (gA _)))) e,Z.at λo e=>R _ o (nq (bS (lU (gA _)))) e,H.l1.at λo e=>R _ o (nq (bS (kI _ X))) (hk _ _ (P _ (.inl X)) e),H.l2.at λo e=>R _ o (nq (bS (kI _ N))) (hk _ _ (P _ (.inl N)) e),H.l3.at λo e=>R _ o (nq (bS (kI _ V))) (hk _ _ (P _ (.inl V)) e)⟩ G λd o hd e=>R d o (Bj hd).1 (hk d o hd e)
theorem Yg(j:A.handled=ak)(H:Z3 s.heap n k f I l3 xs B t .none a b c)(p:f<n)(Y:xs[k]?=ak)(u:∀h' e,(∀d o,d∉mW n->s.heap.get? d=aa o->h'.get? d=aa o)->(∃o,h'.get? e=aa o/\o.cls=.type "StopIteration")->E (.ref e) {s with heap:=h'}):au (az prog w) A (Builtin.«zip.__next__» ⟨[.ref (n+5)],[]⟩) Q E s:=by
 show au _ _ (vd (.ref (n+5)) 2>>=_) _ _ _;refine ao (jr H.z rfl (x:=.bool av) rfl ?_);show au _ _ (vd (.ref (n+5)) 3>>=_) _ _ _;refine ao (jr H.z rfl (x:=.ref (n+3)) rfl ?_);refine ao (t8 H.ti rfl ?_);show au _ _ (CN (.ref (n+5))>>=_) _ _ _;refine ao ?_;unfold CN;refine ao (jr H.z rfl (x:=.none) rfl (aM ?_));simp only[if_true];refine ao (qJ ?_);refine ao (jr H.z rfl (x:=.ref (n+4)) rfl ?_);refine ao (z4 H.z (by simp) λZ z l=>?_);replace z:ve Z (n+5) (n+3) (n+4) .ellipsis:=z;refine ao ?_;simp only[Zf,xaM,tW,K6];refine ao (ao (As ?_));show au _ _ (tM (.ref n)>>=_) _ _ _;refine ao (wpAny_nextOf_list_end j (H.i1.extBut l.extBut (nq (bS (vM dk)))) (H.l1.extBut l.extBut (nq (bS (kI 5 p)))) Y λC e g L=>?_);refine aG L λv i q=>?_;have m:ve C (n+5) (n+3) (n+4) .ellipsis:=g _ _ (nq (gb (vM dk))) z;have r:e≠n+5:=λx=>by subst x;replace i:=m▸i;cases i;simp at q
 exact z4 m (by simp) λD _ h=>u D e (λd o U x=>by refine qM (Bj U) λy G F K J=>?_;exact h.extBut _ _ y (g _ _ F (l.extBut _ _ y x))) ⟨v,h.extBut _ _ r i,q⟩
theorem Kl(hh:A.handled=ak)(n R G l3:Nat)(g:R<n)(C:G<n)(V:l3<n)(xs r t:Array aj)(P:r.size=xs.size)(e3:t.size=xs.size):WalksT prog w A (n+5) (CC n R G l3) (mW n) xs.size (λi J=>∃x y u,xs[i]?=aa x/\r[i]?=aa y/\t[i]?=aa u/\J=#[x,y,u]) (λi h=>∃a b c,Z3 h n i R G l3 xs r t .none a b c) λi T h=>(∃a b c,Z3 h n (i+1) R G l3 xs r t (e9 T) a b c)/\T∉mW n where
sub:=yK (.head _) (.tail _ (.tail _ (.head _))) (.tail _ (.tail _ (.tail _ (.head _)))) (.tail _ (.tail _ (.tail _ (.tail _ (.head _))))) (.tail _ (.tail _ (.tail _ (.tail _ (.tail _ (.head _))))));frame:=λi h h' f N=>by refine iU f λa b c H=>?_;have S:=N _ (.head _);have Y:=N _ (.tail _ (.head _));have N:=λd m=>N d (.tail _ (.tail _ m));have k4:=N _ (.head _);have N:=λd m=>N d (.tail _ m);exact⟨a,b,c,S _ H.z,Y _ H.ti,k4 _ H.to,H.i1.at (N _ (.head _)),H.i2.at (N _ (.tail _ (.head _))),H.i3.at (N _ (.tail _ (.tail _ (.head _)))),H.l1.at (N _ (.tail _ (.tail _ (.tail _ (.head _))))),H.l2.at (N _ (.tail _ (.tail _ (.tail _ (.tail _ (.head _)))))),H.l3.at (N _ (.tail _ (.tail _ (.tail _ (.tail _ (.tail _ (.head _)))))))⟩
item:=λi s Q E z f X=>by refine iU f λa b c H=>?_;have v:i<r.size:=P▸z;have B:i<t.size:=e3▸z;have l:s.TypeIs (.ref (n+5)) "zip":=⟨_,H.z,rfl⟩;have W:n+5<s.heap.objs.size:=dQ H.z;unfold zx;refine ao (Nu (x8 (name:=n7 "__next__") l DR (tU DR l xcK (WB H g C V (kH z) (kH v) (kH B) λh' H' K N=>aM ?_) (xaV _))));exact X s.heap.objs.size #[xs[i],r[i],t[i]] h' s.toks ⟨_,_,_,kH z,kH v,kH B,rfl⟩ (cQ _) ⟨_,K,rfl,_,rfl⟩ ⟨⟨_,_,_,H'⟩,λm=>by have q:∀j:Nat,j<=5->s.heap.objs.size=n+j->False:=λj b a=>xcY (a▸W) (iy b _);exact yK (P:=λx=>s.heap.objs.size=x->False) (q 5 dk) (q 4 dk) (q 0 dk) (q 1 dk) (q 2 dk) _ m rfl⟩ N
go:=λM k U i T s Q E D X=>by refine aV D λp _=>?_;refine iU p λa b c H=>?_;refine wpAny_letOwnedTupleGo_zip H.z λh' L I=>X h' ⟨a,b,c,L,I.extBut _ _ (nq (bS (dM _))) H.ti,I.extBut _ _ (nq (bS (gA _))) H.to,H.i1.extBut I.extBut (nq (bS (sO (pG _ _)))),H.i2.extBut I.extBut (nq (bS (lU (gA _)))),H.i3.extBut I.extBut (nq (bS (eB (dM _)))),H.l1.extBut I.extBut (nq (bS (kI _ g))),H.l2.extBut I.extBut (nq (bS (kI _ C))),H.l3.extBut I.extBut (nq (bS (kI _ V)))⟩ λd o Z e=>I.extBut _ _ (Bj Z).1 e
apart:=λi T h D l=>D.2 l;done:=λs Q E f X=>by refine iU f λa b c H=>?_;have l:s.TypeIs (.ref (n+5)) "zip":=⟨_,H.z,rfl⟩;unfold zx;refine ao (Nu (x8 (name:=n7 "__next__") l DR (tU DR l xcK (Yg hh H g (Vb (cQ _)) λh' e N he=>?_) (xaV _))));refine aG he λo ho hc=>?_;refine ao (Ad (T:="StopIteration") (b:=af) ⟨o,ho,hc⟩ isSubtype_stop ?_);exact aM (X h' s.toks N)
self:=λi s Q E f X=>by refine iU f λa b c H=>?_;exact K8 H.z X
end
noncomputable abbrev xU(h:aA)(R:ah):aA:=h.push {cls:=.type "list_iterator",data:=.fields #[.ref R,.int 0 0]}
abbrev xV(h:aA)(R G:ah):aA:=(xU h R).push {cls:=.type "list_iterator",data:=.fields #[.ref G,.int 0 0]}
abbrev zI(h:aA)(R G l3:ah):aA:=(xV h R G).push {cls:=.type "list_iterator",data:=.fields #[.ref l3,.int 0 0]}
abbrev zJ(h:aA)(R G l3:ah):aA:=(zI h R G l3).push {cls:=.type "tuple",data:=.seq #[.ref h.objs.size,.ref (xU h R).objs.size,.ref (xV h R G).objs.size]}
abbrev xW(h:aA)(R G l3:ah):aA:=(zJ h R G l3).push {cls:=.type "tuple",data:=.seq #[.none,.none,.none]}
abbrev lG(h:aA)(R G l3:ah):aA:=(xW h R G l3).push {cls:=.type "zip",data:=.fields #[.none,.bool av,.bool av,.ref (zI h R G l3).objs.size,.ref (zJ h R G l3).objs.size]}
theorem TJ(a G l3:ah)(xs i t:Array aj):Meets (Builtin.«zip.__new__» ⟨[.type "zip",.ref a,.ref G,.ref l3],[]⟩) λ_ R s=>s.heap.IsList a xs/\s.heap.IsList G i/\s.heap.IsList l3 t/\R (.ok (.ret (.ref (xW s.heap a G l3).objs.size))) {s with heap:=lG s.heap a G l3}:=.of_wp λj w A R s h=>by obtain⟨Q,g,d,c,P⟩:=s;refine kZ h λp C V h=>?_;have k:=sub_zip;have f:Nl (Mt ⟨Q,g,d,c,P⟩) a xs:=p;have e:Nl (Mt ⟨xU Q a,g,d,c,P⟩) G i:=JG C _;have b:Nl (Mt ⟨xV Q a G,g,d,c,P⟩) l3 t:=JG (JG V _) _;wp_walk using z7 f,z7 e,z7 b;exact⟨_,rfl,h⟩
theorem Z4{h:aA}(p:h.IsList a xs)(C:h.IsList G j)(V:h.IsList l3 t):(xW h a G l3).objs.size=h.objs.size+5/\Z3 (lG h a G l3) h.objs.size 0 a G l3 xs j t .none .none .none .none/\Kp h (lG h a G l3):=by
 have f:(xU h a).objs.size=h.objs.size+1:=mD ..;have b:(xV h a G).objs.size=h.objs.size+2:=by exact O (mD ..) (O f rfl)
 have d:(zI h a G l3).objs.size=h.objs.size+3:=by exact O (mD ..) (O b rfl)
 have c:(zJ h a G l3).objs.size=h.objs.size+4:=by exact O (mD ..) (O d rfl)
 have i:(xW h a G l3).objs.size=h.objs.size+5:=by exact O (mD ..) (O c rfl)
 have v:Kp (xW h a G l3) (lG h a G l3):=λ_ _ x=>bX _ x;have S:Kp (zJ h a G l3) (lG h a G l3):=λ_ _ x=>v _ _ (bX _ x);have T:Kp (zI h a G l3) (lG h a G l3):=λ_ _ x=>S _ _ (bX _ x);have q:Kp (xV h a G) (lG h a G l3):=λ_ _ x=>T _ _ (bX _ x);have w:Kp (xU h a) (lG h a G l3):=λ_ _ x=>q _ _ (bX _ x);have W:Kp h (lG h a G l3):=λ_ _ x=>w _ _ (bX _ x);have g:(lG h a G l3).get? (xW h a G l3).objs.size=aa _:=cE _ rfl;have y:(lG h a G l3).get? (zJ h a G l3).objs.size=aa _:=v _ _ (cE _ rfl);have s:(lG h a G l3).get? (zI h a G l3).objs.size=aa _:=S _ _ (cE _ rfl);have U:(lG h a G l3).get? (xV h a G).objs.size=aa _:=T _ _ (cE _ rfl);have r:(lG h a G l3).get? (xU h a).objs.size=aa _:=q _ _ (cE _ rfl);have B:(lG h a G l3).get? h.objs.size=aa _:=w _ _ (cE _ rfl);rw[i,d,c]at g;rw[c]at y;rw[d,f,b]at s;rw[b]at U;rw[f]at r;exact⟨i,⟨g,s,y,⟨_,B,rfl,rfl⟩,⟨_,r,rfl,rfl⟩,⟨_,U,rfl,rfl⟩,p.at λo e=>W _ o e,C.at λo e=>W _ o e,V.at λo e=>W _ o e⟩,W⟩
section
variable{j:dw}{A:aF}{E:aj->aq->Prop}{s:aq}
theorem VQ{R G l3:Nat}{xs f t:Array aj}{Q:aj->aq->Prop}(p:s.heap.IsList R xs)(C:s.heap.IsList G f)(V:s.heap.IsList l3 t)(h:∀h',Z3 h' s.heap.objs.size 0 R G l3 xs f t .none .none .none .none->Kp s.heap h'->Q (.ref (s.heap.objs.size+5)) {s with heap:=h'}):au (az j w) A (dO (.type "zip") [.ref R,.ref G,.ref l3]) Q E s:=by refine callType_new F.called_zip dk (TH _ _ _) (T9 _ _ _) (λa=>S0 a _ _ _) F.entry_zip_new (TJ R G l3 xs f t) ⟨p,C,V,?_⟩;refine gW (Z4 p C V) λe H k=>?_;show _/\_;exact O e ⟨⟨_,H.z,rfl⟩,h _ H k⟩
end
section
variable{A:aF}{X:List ah}{B:aA}
noncomputable def qb(F W K:List T):List T:=(F.zip (W.zip K)).map λp=>.tup [p.1,p.2.1,p.2.2]
theorem WC{F W K:List T}(h:W.length=F.length)(k:K.length=F.length):(qb F W K).length=F.length:=by rw[qb,aH,gP,gP,h,k,nZ,nZ]
theorem WD{F W K:List T}{i:Nat}{t:T}(h:(qb F W K)[i]?=aa t):∃a b c,F[i]?=aa a/\W[i]?=aa b/\K[i]?=aa c/\t=.tup [a,b,c]:=by unfold qb at h;rw[eS]at h;refine aG (vN.mp h) λp e q=>?_;subst q;exact⟨_,_,_,(zip_get e).1,(zip_get (zip_get e).2).1,(zip_get (zip_get e).2).2,rfl⟩
theorem ay.xgB(r:ay Y h [t,u,x] d):∃a b c,d=[a,b,c]/\Rep Y h t a/\Rep Y h u b/\Rep Y h x c:=by refine iU (ay.zo r) λa b c q=>?_;subst q;exact⟨a,b,c,rfl,r.1,r.2.1,r.2.2.1⟩
theorem Yh(P:A.handled=ak){D:List aS}{J:Nat}{pp:aR}{n R G l3:Nat}{Y:List ah}{xs g e:Array aj}{F f K:List T}(p:R<n)(C:G<n)(V:l3<n)(j:xs.size=F.length)(L:f.length=F.length)(l:K.length=F.length)(N:g.size=f.length)(I:e.size=K.length)(w:∀b∈mW n,b∈Y):gz A (n+5) (CC n R G l3) (mW n) Y (.Tuple D J pp) (qb F f K) λi h=>(∃a b c,Z3 h n i R G l3 xs g e .none a b c)/\ay Y h F xs.toList/\ay Y h f g.toList/\ay Y h K e.toList:=by
 have W:=Kl (prog:=PW) P n R G l3 p C V xs g e (jR (jR N L) (i8 j)) (jR (jR I l) (i8 j));refine gz.AE (λh=>ay Y h F xs.toList/\ay Y h f g.toList/\ay Y h K e.toList) W (by exact O (WC L l) (O j rfl)) (λh h' r k=>⟨Mine.ay.kp k _ _ r.1,Mine.ay.kp k _ _ r.2.1,Mine.ay.kp k _ _ r.2.2⟩) (λi v t h Q Z r=>?_) (λi h M b m=>?_) w
 .refine uo Q λx y u h1 h2 E q=>?_;try clear Q;subst q
  refine uo (WD Z) λa b c s S U q=>?_;subst q;refine⟨_,rfl,?_⟩;exact⟨r.1.get s (by exact O gM h1),r.2.1.get S (by exact O gM h2),r.2.2.get U (by exact O gM E),trivial⟩
 .exact M.elim λa z=>z.elim λc z=>z.elim λd H=>yK (P:=λb=>∃o,h.get? b=aa o) ⟨_,H.z⟩ ⟨_,H.to⟩ (H.i1.imp λo z=>z.1) (H.i2.imp λo z=>z.1) (H.i3.imp λo z=>z.1) b m
theorem Z5(h:A.handled=ak){F W K:List T}{s:aq}{xs f t:Array aj}(l:bJ X s.heap)(U:d∉X)(P:G∉X)(j:l3∉X)(p1:s.heap.IsList d xs)(p2:s.heap.IsList G f)(p3:s.heap.IsList l3 t)(S:ay X s.heap F xs.toList)(Z:ay X s.heap W f.toList)(i:ay X s.heap K t.toList)(L:W.length=F.length)(g:K.length=F.length)(H:Z3 h' s.heap.objs.size 0 d G l3 xs f t .none .none .none .none)(V:Kp s.heap h'):jG A X s.heap h' (s.heap.objs.size+5) (CC s.heap.objs.size d G l3) (mW s.heap.objs.size) (.Tuple D k m) (qb F W K):=by
 have c:d<s.heap.objs.size:=by refine aG p1 λo e _=>?_;exact dQ e
 have fc:G<s.heap.objs.size:=by refine aG p2 λo e _=>?_;exact dQ e
 have a:l3<s.heap.objs.size:=by refine aG p3 λo e _=>?_;exact dQ e
 have N:∀b∈mW s.heap.objs.size,s.heap.get? b=ak:=yK (get?_none_of_le (e7 _ _)) (get?_none_of_le (e7 _ _)) (get?_none_of_le (cQ _)) (get?_none_of_le (dM _)) (get?_none_of_le (e7 _ _));exact⟨MV ⟨_,H.z⟩ ⟨_,H.ti⟩ ⟨_,H.to⟩ (H.i1.imp λo z=>z.1) (H.i2.imp λo z=>z.1) (H.i3.imp λo z=>z.1) (H.l1.imp λo z=>z.1) (H.l2.imp λo z=>z.1) (H.l3.imp λo z=>z.1),MV (l.above (e7 _ _)) (l.above (e7 _ _)) (l.above (e7 _ _)) (l.above (cQ _)) (l.above (dM _)) (l.above (e7 _ _)) U P j,N,(Kl (prog:=PW) h _ d G l3 c fc a xs f t (by exact aQ dm (aQ dm (O S.length (O Z.length (O L rfl))))) (by exact aQ dm (aQ dm (O S.length (O i.length (O g rfl)))))).sub,λY J C=>⟨_,Yh h c fc a (by exact aQ dm (O S.length rfl)) L g (by exact aQ dm (O Z.length rfl)) (by exact aQ dm (O i.length rfl)) C,⟨_,_,_,H⟩,om V J N S,om V J N Z,om V J N i⟩⟩
theorem WE(d:A.handled=ak){F W K:List T}{s:aq}{xs f t:Array aj}(l:bJ X s.heap)(b:a∉X)(P:G∉X)(h:l3∉X)(p1:s.heap.IsList a xs)(p2:s.heap.IsList G f)(p3:s.heap.IsList l3 t)(c:ay X s.heap F xs.toList)(Z:ay X s.heap W f.toList)(i:ay X s.heap K t.toList)(L:W.length=F.length)(g:K.length=F.length):au (az PW w) A (dO (.type "zip") [.ref a,.ref G,.ref l3] []) (λx U=>au (az PW w) A (sM x) (λv J=>Ks s J/\∃I S z,v=.ref I/\jG A X s.heap J.heap I S z (.Tuple D j m) (qb F W K)) E U) E s:=by refine@VQ PW A E s a G l3 xs f t _ p1 p2 p3 λh' H V=>?_;exact@K8 PW w A E _ _ _ _ _ _ H.z ⟨.mk' s h' s.toks V,_,_,_,rfl,Z5 d l b P h p1 p2 p3 c Z i L g H V⟩
theorem IC.kj(d:A.handled=ak){F W K:List T}(l:bJ X B)(L:W.length=F.length)(g:K.length=F.length):IC A X B (.type "zip") [.list F,.list W,.list K] (.Tuple D j m) (qb F W K):=λs E w k r=>by refine uo r.xgB λa b c q S Z i=>?_;subst q;refine cH S.d8 λR xs q U p1 I=>?_;subst q;refine cH Z.d8 λG f q P p2 N=>?_;subst q;refine cH i.d8 λl3 t q h p3 p=>?_;subst q;exact WE d (l.kp k) U P h p1.isList p2.isList p3.isList I N p L g
end
section
variable{A:aF}{X:List ah}{d:aA}
theorem CA.chr{i:Int}(D:0<=i)(h1:i<=0x10FFFF):CA A X d (.builtin "chr") [.int i] (.str ⟨#[i.toNat]⟩):=λs E K k r=>by refine aC (ay.jy r) λv I=>?_;subst I;have r:=r.1;refine aC r.cL λt I=>?_;subst I;exact PySem.P.chr_of_int (by simp;exact iT D h1) ⟨.tok ..,.ni _ _⟩
theorem CA.min2(a:A.handled=ak):CA A X d (.builtin "min") [.int i,.int j] (.int (if j<i then j else i)):=λs E K k r=>by refine lu (ay.nI r) λv u I=>?_;subst I;have r:=iT r.1 r.2.1;refine aC r.1.cL λt I=>?_;subst I;refine aC r.2.cL λg I=>?_;subst I;refine min_two_ints a λh' G w=>⟨⟨λb o e=>w b o e,rfl⟩,?_⟩;split<;>exact .fO _ _
theorem Z6{l:List Int}:∀{K:List aj},ay X h (l.map .int) K->∃ps:List (Int×mj),K=ps.map (λp=>.int p.1 p.2)/\ps.map (·.1)=l:=by induction l with
|nil=>intro K r;cases K with|nil=>exact⟨[],rfl,rfl⟩|cons=>exact r.elim
|cons i l G=>intro K r;cases K with|nil=>exact r.elim|cons v K=>refine aC r.1.cL λt e=>?_;exact(G r.2).elim λps z=>⟨(i,t)::ps,e▸z.1▸rfl,congrArg (i::·) z.2⟩
theorem Al{l:List Int}(h:∀i x,l[i]?=aa x->f i=x)(j:Nat):j<=l.length->preSum f j=(l.take j).sum:=by induction j with|zero=>exact λ_=>rfl|succ j G=>intro Y;have V:l[j]?=aa l[j]:=cy Y;show preSum f j+f j=_;rw[G (eB Y),h j _ V,List.take_add_one,V,DO];exact congrArg _ List.sum_singleton.symm
theorem F1(f:0<=B){l:List Int}:(∀x∈l,0<=x/\x<B)->0<=l.sum/\l.sum<=B*l.length:=by induction l with|nil=>exact λ_=>by simp|cons x l G=>intro h;have h1:=h x (aP ..);have J:=G λy m=>h y (aY _ m);exact O rP (O fC (O (Int.natCast_add ..) (O (xey ..) ⟨ym h1.1 J.1,jO (B*l.length) _▸La (gG (kN h1.2) (mH (Nx B).symm)) J.2⟩)))
theorem MW{l:List Int}(I:l.length<=1000)(R:∀x∈l,0<=x/\x<1099511627776)(j:Nat):0<=(l.take j).sum/\(l.take j).sum<2^63:=have t:=F1 (B:=1099511627776) dk (l:=l.take j) λx m=>R x (nO m)
⟨t.1,jM (gG t.2 (I8 (nY.mpr (O jC (BX I))) dk)) (show(1099511627776:Int)*(1000:Nat)<2^63 by decide)⟩
theorem CA.jf{l:List Int}(z:A.handled=ak)(m:l.length<=1000)(R:∀x∈l,0<=x/\x<1099511627776):CA A X d (.builtin "sum") [LI l] (.int l.sum):=λs E K k r=>by
 refine aC (ay.jy r) λv I=>?_;subst I;have r:=r.1;refine cH (Rep.d8 r) λa xs I n p t=>?_;subst I;refine aG (Z6 t) λps H L=>?_;have y:xs=intItems ps.toArray:=by apply Ny;refine O H ?_;simp[intItems]
 have f:∀i x,l[i]?=aa x->numAt ps.toArray i=x:=λi x h=>by replace h:=eS▸L.symm▸h;refine aG (vN.mp h) λq h1 J=>?_;unfold numAt;exact O List.getElem?_toArray (O h1 J)
 have P:ps.toArray.size=l.length:=by exact aQ L (O (aH ..) (O iZ rfl))
 have g:=p.isList;replace g:=y▸g;have u:=λj(_:j<=l.length)=>MW m R j;refine sum_intList z g (λj Y=>?_) λh' G B w=>?_;.replace Y:=P▸Y;have e:=f j _ (cy Y);have b:=R _ (nT Y);rw[e,Al f (j+1) Y];have c:=u (j+1) Y;exact⟨⟨fW b.1,eF b.2⟩,⟨fW c.1,c.2⟩⟩
 .exact O P (O (Al f _ (cQ _)) (O Dv ⟨⟨λb o e=>w b o e,rfl⟩,.fO _ _⟩))
end
section
variable{A:aF}{X:List ah}{B:aA}{G:aN}
theorem ay.xdP(r:ay Y h [t] a):∃v,a=[v]/\Rep Y h t v:=by refine aC (ay.jy r) λv I=>?_;subst I;exact⟨v,rfl,r.1⟩
noncomputable def VV(X:List ah)(y:List ai)(F:List T)(v:aj)(h:aA):Prop:=∃r D W t,v=.ref r/\h.IsValuesView r D/\h.DictAt (rO PW w) D (y.zip W) t/\W.length=y.length/\ay X h F W
noncomputable def xX(A:aF)(G:aN)(B:aA)(e:aS)(P:aj->aA->Prop):Prop:=∀(s:aq)(E:aj->aq->Prop),Kp B s.heap->au (az PW w) A (aT e G) (λv S=>Ks s S/\P v S.heap) E s
theorem xX.values{m R:aR}(h:EV A G X B o (.dS y j))(P:autoParam (kJ o "values" G (aT o G)=aT o G) yAR)(u:autoParam ((m.endLine==R.line)=af) yAR):xX A G B (.Call (.Attribute o "values" m) [] [] R) (VV X y j):=λs E k=>by refine EI P u (aB (h s E k) (λf U x=>?_) λ_ _ e=>e);refine aV x λV S=>?_;refine oi (MT.dict Dp xaI X U f S) λl a b c d e=>?_;refine⟨l,_,a,b,c,d,e,mz rfl rfl (zP ?_)⟩;refine jP S.qZ λD W I n C p g J=>?_;subst I;refine uf Dp p.typeIs Y9 (YV _) (xcO (rO PW w) D C) ⟨⟨_,p⟩,?_⟩;refine aC p.dictAt λt q=>?_;have i:Kp U.heap (U.heap.push {cls:=.type "dict_values",data:=.fields #[.ref D]}):=λ_ _ e=>bX _ e;exact⟨V.trans (.mk' U _ _ i),_,D,W,t,rfl,⟨_,cE _ rfl,rfl,rfl⟩,q.at' λo e=>i _ _ e,g,ay.kp (i.bL X) _ _ J⟩
theorem EV.F2(l:EV A G X B (.Name x d) (.aI f))(i:za f=pure .machine)(V:xX A G B e P)(h:∀(s:aq)(E:aj->aq->Prop)(v:aj),Kp B s.heap->P v s.heap->au (az PW w) A (dO f [v] []) (λv S=>Ks s S/\Rep X S.heap r v) E s)(W:autoParam (bh [e] G=(av,aT e G)::bh [] G) yAR):EV A G X B (.Call (.Name x d) [e] [] a) r:=λs E k=>by
 show au _ _ (do mP a (<-aT (.Name x d) G) [] (cM a (bh [e] G)) (oA a (n9 [] G))) _ _ _;refine ao (aB (l s E k) (λv U x=>?_) λ_ _ e=>e);obtain rfl:=x.2.cR;have M:au (az PW w) A (fN (cM a (bh [e] G))) (λK S=>Ks U S/\∃v,K=[v]/\P v S.heap) E U:=by refine O W ?_;show au _ _ (fN ((av,aT e G)::cM a (bh [] G))) _ _ _;refine n8 (aB (V U E (k.trans x.1.kp)) (λv J y=>rV ⟨y.1,v,rfl,y.2⟩) λ_ _ e=>e)
 rw[W]at M⊢;refine mz i (by show(av||(cM a (bh [] G)).any (·.1))=av;rfl) (mZ (aB M (λK J y=>?_) λ_ _ e=>e));obtain⟨b,v,rfl,g⟩:=y;exact aB (h J E v (k.trans (x.1.trans b).kp) g) (λc j z=>⟨(x.1.trans b).trans z.1,z.2⟩) λ_ _ e=>e
theorem VV.list{y:List ai}{ts:List T}{s:aq}(m:A.handled=none)(P:bJ X s.heap)(I:y.length<=100000)(V:y.length=ts.length)(h:VV X y ts v s.heap):au (az PW w) A (dO (.type "list") [v] []) (λv S=>Ks s S/\Rep X S.heap (.list ts) v) E s:=by
 refine v5 h λr D W t d K U b J=>?_;try clear h;subst d
 have l:(y.zip W).length<=qS:=by exact O dJ (O gP (BW (cC I)))
 refine kdl_call (kdl_values (knd:=rO PW w) (d:=D) (r:=r) (kvs:=y.zip W) (ep:=t)) m ⟨K,U⟩ l λh' f i c a R g=>?_;refine⟨.mk' s h' f a,?_⟩;have e:i.toList=W:=by have h1:=g.1;rw[gP,b,nZ]at h1;refine J5 λj=>?_;cases Y:i[j]? with|none=>rw[gM,Y,pH];have:=Ue.mp Y;exact jz b (h1▸this)|some u=>refine aC (g.2 j u Y) λk N=>?_;exact O gM (O Y (O (zip_get N).2 rfl))
 exact⟨_,i,rfl,P.new,⟨c,R⟩,by exact O e (ay.kp (Kp.bL a X) _ _ J)⟩
theorem VV.sum{y:List ai}{l:List Int}{s:aq}(z:A.handled=ak)(V:y.length=l.length)(I:l.length<=1000)(R:∀x∈l,0<=x/\x<1099511627776)(h:VV X y (l.map .int) v s.heap):au (az PW w) A (dO (.builtin "sum") [v] []) (λv S=>Ks s S/\Rep X S.heap (.int l.sum) v) E s:=by
 refine v5 h λr D W t g K U a q=>?_;try clear h;subst g
 have P:(y.zip W).length=l.length:=O gP (O a (O (nZ _) V));have u:=λj(_:j<=l.length)=>MW I R j;have f:∀i x,l[i]?=aa x->(λi=>l.getD i 0) i=x:=λi x h=>by show l.getD i 0=x;refine O cz (O h ?_);rfl
 refine call_sum_walk (xaQ K U ⟨_,_,_,_,_,_,λi=>l.getD i 0,rfl,YW (A:=A.in1) z s.heap.objs.size D (bS U.lt_size) (y.zip W) t,⟨⟨_,cE _ rfl,rfl,rfl⟩,U.push _⟩,λb m=>?_,λi v Q=>?_,λj Y=>?_,λh' H C N=>?_⟩)
 .have:=U.lt_size;show b<(s.heap.push _).objs.size;refine O (mD ..) ?_;refine bw (bA.mp m) (λp=>?_) λm=>?_;.subst p;exact gA _
  .replace m:=aW.mp m;exact O m (vW this)
 .refine aC Q λk N=>?_;have J:=(zip_get N).2;have F:i<l.length:=by have:=(rH.mp J).1;exact iz this (dh (V▸a))
  have d:(l.map T.int)[i]?=aa (.int (l.getD i 0)):=by refine O eS (O cz (O (cy F) ?_));rfl
  exact(q.get d J).cL
 .replace Y:=P▸Y;have e:=f j _ (cy Y);have b:=R _ (nT Y);rw[Al f (j+1) Y];have c:=u (j+1) Y;have n:l.getD j 0=l[j]:=e;show InLong (l.getD j 0)/\_;exact O n ⟨⟨fW b.1,eF b.2⟩,⟨fW c.1,c.2⟩⟩
 .refine O P (O (Al f _ (cQ _)) (O Dv ?_));refine⟨⟨λb o e=>N b o (λm=>?_) (bX _ e),rfl⟩,.fO _ _⟩;replace m:=aW.mp m;exact absurd (m▸dQ e) (v8 _)
end
section
section
variable{j:dw}{A:aF}{E:aj->aq->Prop}{s:aq}{T:String}{r d:ah}{n:Nat}{P:Nat->aj->Prop}{p:aA->Prop}
noncomputable def xdQ(s:aq)(P:Nat->aj->Prop)(n:Nat)(q:Result)(S:aq):Prop:=∃(h':aA)(G:Nat)(i:Array aj)(c:Nat),q=.ok (.ret (.ref s.heap.objs.size))/\S={s with heap:=h',toks:=G}/\(∀b o,s.heap.get? b=aa o->h'.get? b=aa o)/\h'.get? s.heap.objs.size=aa {cls:=.type "list",dict:=ak,data:=.seq i c,slots:=#[]}/\BS P i n
theorem U7(K:KdlSrc j w T r d n P p)(v:A.handled=ak)(B:p s.heap)(u:n<=qS)(X:∀(h':aA)(G:Nat)(i:Array Value),(∀b o,s.heap.get? b=aa o->h'.get? b=aa o)->BS P i n->Q i.toList {s with heap:=h',toks:=G}):au (az j w) A (collect (.ref r)) Q E s:=by
 unfold collect;refine ao (wpAny_runValue (t6 F.entry_proto_collect ?_));refine O (ya F.plain_proto_collect _) ?_;show au _ A.in1 (uH []>>=λl=>again (.builtin "list.__iadd__" ⟨[l,.ref r],[]⟩)) _ _ s;refine ao (qz ?_);refine aM ⟨v9 xaW _,t6 V5 ?_⟩;refine O (ya xaW _) ?_;show au _ A.in1 (xhr (.ref s.heap.objs.size) (.ref r) (.ref s.heap.objs.size)) _ _ _;have R:(s.heap.push {cls:=.type "list",data:=.seq ([]:List Value).toArray}).get? s.heap.objs.size=aa {cls:=.type "list",data:=.seq #[] 0}:=cE _ rfl;have W:=K.there _ B;refine aB (kdl_extend (A:=A) (R:=xdQ s P n) (s:={s with heap:=s.heap.push {cls:=.type "list",data:=.seq ([]:List Value).toArray}}) K v (K.keep _ _ B λb _ o e=>bX _ e) _ (gb W.1) (gb W.2) _ 0 R (λh' G k M N m g=>⟨h',G,k,M,rfl,rfl,λb o e=>N b o (bS (dQ e)) (bX _ e),m,g⟩) u) (λI S h=>?_) λe S h=>?_
 .have U:∀h' G i c,(∀b o,s.heap.get? b=aa o->h'.get? b=aa o)->h'.get? s.heap.objs.size=aa {cls:=.type "list",dict:=ak,data:=.seq i c,slots:=#[]}->BS P i n->au (az j w) A (match Value.ref s.heap.objs.size with
|Value.ref a=>do match(<-load a).data with|Data.seq xs _=>pure xs.toList|_=>AO "internal:collect"
|_=>AO "internal:collect") Q E {s with heap:=h',toks:=G}:=λh' G i c N m g=>by show au _ A (load s.heap.objs.size>>=_) _ _ _;refine ao (Ba m ?_);exact aM (X h' G i N g)
  cases I with|done f=>
refine v5 h λh' G i c q z N m g=>?_;try clear h;subst z
cases q;exact U h' G i c N m g|again M=>exact⟨h.1,codeAny_mono h.2 λq t D=>by
 refine v5 D λh' G i c z y N m g=>?_;try clear D;subst z;subst y
 exact U h' G i c N m g⟩
 .refine Xl h λh' G i c q _=>?_;cases q
theorem TL(K:KdlSrc j w T r d n P p)(q:A.handled=ak)(B:p s.heap)(f:n<=qS)(h:∀(h':aA)(G:Nat)(i:Array aj),(∀b o,s.heap.get? b=aa o->h'.get? b=aa o)->BS P i n->a (.ref h'.objs.size) {s with heap:=h'.push {cls:=.type "tuple",data:=.seq i},toks:=G})(m:T="dict_values"):pW (az j w) A (.call (.builtin "tuple.__new__") ⟨[.type "tuple",.ref r],[]⟩) (wants a E) s:=by
 refine Mj ?_;show au _ A.in1 (do tV "tuple.__new__" ⟨[.type "tuple",.ref r],[]⟩;again (.builtin "tuple.__new__" ⟨[.type "tuple",.ref r],[]⟩)) _ _ s;refine ao (wA (F.newCall_tuple_1 _) (aM ⟨v9 xaX _,t6 F.entry_tuple_new ?_⟩));refine O (ya xaX _) ?_;have k:=sub_tuple_self;have c:=init_tuple_lookup;have l:=madeHere_tuple;subst m;have S:=K.type s B;wp_walk using EK S,U7 (A:=A.in1) K (by exact q) B f;intro h' G i N g;show au _ _ (x7 i.toList.toArray>>=λv=>ret v) _ _ _;unfold x7;refine ao (qz ?_ (by show i.toList.toArray.size<=qS;simp only[Array.toArray_toList];rw[g.1];exact f));refine aM ?_;have e:i.toList.toArray=i:=by simp
 exact O e (h h' G i N g)
theorem TM(K:KdlSrc j w T r d n P p)(e:A.handled=ak)(B:p s.heap)(c:n<=qS)(f:T="dict_values")(X:∀(h':aA)(G:Nat)(i:Array aj),(∀b o,s.heap.get? b=aa o->h'.get? b=aa o)->BS P i n->Q (.ref h'.objs.size) {s with heap:=h'.push {cls:=.type "tuple",data:=.seq i},toks:=G}):au (az j w) A (dO (.type "tuple") [.ref r]) Q E s:=by refine callType_codes (Q₁:=λa U=>U.TypeIs a "tuple"/\Q a U) Mp (F.typeCall_tuple_1 _) F.entry_object_init (TL K e B c (λh' G i N g=>⟨⟨_,cE _ rfl,rfl⟩,X h' G i N g⟩) f) λa U Z=>?_;exact⟨Z.1,YZ a _,object_init_meets Mp.init.lookup Mp.made dk j w A.in1 _ U ⟨Z.1,rfl,Z.2⟩⟩
end
section
variable{A:aF}{X:List ah}{B:aA}{G:aN}
theorem VV.tup{y:List ai}{F:List T}{s:aq}(l:A.handled=none)(P:bJ X s.heap)(I:y.length<=100000)(V:y.length=F.length)(h:VV X y F v s.heap):au (az PW w) A (dO (.type "tuple") [v] []) (λv S=>Ks s S/\Rep X S.heap (.tup F) v) E s:=by
 refine v5 h λr D W t z K U c J=>?_;try clear h;subst z
 have f:(y.zip W).length<=qS:=by exact O dJ (O gP (BW (cC I)))
 refine TM (kdl_values (knd:=rO PW w) (d:=D) (r:=r) (kvs:=y.zip W) (ep:=t)) l ⟨K,U⟩ f rfl λh' d i a g=>?_;have M:Kp s.heap (h'.push {cls:=.type "tuple",data:=.seq i}):=λb o e=>bX _ (a b o e);refine⟨.mk' s _ d M,?_⟩;have e:i.toList=W:=by have h1:=g.1;rw[gP,c,nZ]at h1;refine J5 λj=>?_;cases Y:i[j]? with|none=>rw[gM,Y,pH];have:=Ue.mp Y;exact jz c (h1▸this)|some u=>refine aC (g.2 j u Y) λk N=>?_;exact O gM (O Y (O (zip_get N).2 rfl))
 exact⟨_,i,rfl,(P.kp a).new,⟨_,cE _ rfl,rfl,0,rfl⟩,by exact O e (ay.kp (Kp.bL M X) _ _ J)⟩
end
end
section
open PySem.MeetsSeq PySem.MeetsSeq2 PySem.MeetsSeq3 PySem.SeqAt PySem.SeqRoads2
section
variable{A:aF}{X:List ah}{h₀:aA}{G:aN}
theorem bD.j7{x y:ai}(I:x.length+y.length<=100000):bD A X h₀ .Add (.str x) (.str y) (.str (x++y)):=λs E a b k Y o=>by obtain⟨t,rfl⟩:=Y.eV;obtain⟨u,rfl⟩:=o.eV;exact xhs (λg c=>⟨.tok ..,.ni _ _⟩) (by exact O dJ (cC I))
noncomputable def zu(c:Nat)(n:Nat):ai:=⟨(eH n c).toArray⟩
theorem LL(c:Nat):∀(n:Nat)(i:Array Nat),(eH n #[c]).foldl (·++·) i=i++(eH n c).toArray|0,i=>by simp|n+1,i=>by rw[C9,pJ,LL c n,C9];apply Ny;simp
theorem bD.xbQ{n:Int}(h1:1<=n)(J:n<=1000):bD A X h₀ .Mult (.str ⟨#[c]⟩) (.int n) (.str (zu c n.toNat)):=λs E a b k Y o=>by
 refine aC Y.eV λt z=>?_;subst z;refine aC o.cL λu z=>?_;subst z;have V:(⟨#[c]⟩:ai).length=1:=rfl;have H:(2^63-1:Int)/n>=1:=by refine Int.le_ediv_of_mul_le (fW h1) (O (Int.one_mul n) (eF J))
 refine PySem.P.mul_str (by simp;exact⟨fW h1,jM J dk⟩) (λ_ _=>by exact O V (fD.mpr H)) (λ_ _=>?_) ?_;.refine O V ?_;simp only[CY,yw];refine decide_eq_false ?_;exact O dJ (tT (PR J))
 .refine O (if_neg (fD.mpr h1)) ?_;by_cases h:n=1;.subst h;rw[if_pos (by rfl)];exact⟨.refl _,.ni _ _⟩
  .refine O (if_neg (by rw[V];simp[h])) ?_;have:(⟨(eH n.toNat (⟨#[c]⟩:ai).cps).foldl (·++·) #[]⟩:ai)=zu c n.toNat:=by show(⟨(eH n.toNat #[c]).foldl (·++·) #[]⟩:ai)=_;refine O (LL ..) ?_;simp[zu]
   refine O this ?_;refine⟨?_,.tok ..,.ni _ _⟩;refine O dJ ?_;show(eH n.toNat c).toArray.size<=_;exact O iZ (O Jt (PR J))
theorem ay.take(n:Nat){F:List T}{K:List aj}(r:ay X h F K):ay X h (F.take n) (K.take n):=ay.ind (P:=λF K=>∀n:Nat,ay X h (F.take n) (K.take n)) λn=>by refine O xcL (O xcL ?_);trivial (λ_ _ _ _ x _ i n=>by cases n with|zero=>trivial|succ n=>exact⟨x,i n⟩) r n
noncomputable def sZ:aj->Int|.int i _=>i|_=>0
theorem Ed{l:List Int}:∀{K:List aj},ay X h (l.map .int) K->(∀v∈K,∃t,v=.int (sZ v) t)/\K.map sZ=l:=by induction l with
|nil=>intro K r;cases K with|nil=>exact⟨λ_ m=>absurd m b9,rfl⟩|cons=>exact r.elim
|cons i l a=>intro K r;cases K with|nil=>exact r.elim|cons v K=>refine aC r.1.cL λt z=>?_;subst z;exact⟨both ⟨t,rfl⟩ (a r.2).1,congrArg (i::·) (a r.2).2⟩
theorem LM{l:List Int}{xs:Array aj}(h:xs.toList.map sZ=l):xs.any λv=>sZ v==i=l.contains i:=by refine aQ Array.any_toList (aQ h (O List.contains_eq_any_beq (O Mq ?_)));congr 1;funext v;exact Bool.beq_comm
theorem aX.xbR{l:List Int}:aX A X h₀ .In (.int i) (LI l) (l.contains i):=λs E a b k Y o=>by refine aC Y.cL λt z=>?_;subst z;refine cH (Rep.d8 o) λm xs z n Q q=>?_;subst z;refine aV (Ed q) λH L=>?_;refine in_listAt (λv=>sZ v==i) Q.isList (λy Z=>?_) ⟨.refl _,by rw[LM L]⟩;refine aC (H y (zV.mpr Z)) λu e=>?_;rw[e];exact EqAt.int_int _ _ _ _
theorem aX.xbS{l:List Int}:aX A X h₀ .NotIn (.int i) (.tup (l.map .int)) !l.contains i:=λs E a b k Y o=>by refine aC Y.cL λt z=>?_;subst z;refine cH o.jS λm xs z n Q q=>?_;subst z;refine aV (Ed q) λH L=>?_;refine notIn_tupleAt (λv=>sZ v==i) Q (λy Z=>?_) ⟨.refl _,by exact O (LM L) rfl⟩;refine aC (H y (zV.mpr Z)) λu e=>?_;exact O e (EqAt.int_int _ _ _ _)
theorem CA.xbT{l:List Int}:CA A X h₀ (.builtin "list.count") [LI l,.int i] (.int (l.count i)):=λs E K k r=>by
 refine lu (ay.nI r) λv u z=>?_;subst z;have r:=iT r.1 r.2.1;refine aC r.2.cL λt z=>?_;subst z;refine cH (Rep.d8 r.1) λm xs z a Q q=>?_;subst z;refine aV (Ed q) λH L=>?_;refine aC Q λn g=>?_;refine wC xaY ⟨_,g,rfl⟩ F.entry_list_count (F.args_list_count_2 _ _) (list_countAt m xs n ak #[] (.int i t) λv=>sZ v==i) ⟨g,λy Z=>?_,?_⟩;.refine aC (H y (zV.mpr Z)) λu e=>?_;exact O e (EqAt.int_int _ _ _ _)
 .have:xs.toList.countP λv=>sZ v==i=l.count i:=by rw[<-L,AN,xaN];rfl
  exact O this ⟨.tok ..,.fO _ _⟩
theorem CA.xbU:CA A X h₀ (.builtin "isinstance") [.int i,.aI (.type "int")] (.bool af):=λs E K k r=>by refine lu (ay.nI r) λv u z=>?_;subst z;have r:=iT r.1 r.2.1;refine aC r.1.cL λt z=>?_;subst z;obtain rfl:=r.2.cR;exact xhd ⟨.refl _,.AV _⟩
theorem CA.HL{ks:List ai}(I:ks.length<=100000):CA A X h₀ (.builtin "len") [.dS ks vs] (.int ks.length):=λs E w k r=>by
 refine aG r.xdP λv z S=>?_;subst z;refine jP S.qZ λD W z n C p a J=>?_;subst z;have e:((ks.zip W).length:Int)=ks.length:=by exact O gP (O a (O (nZ ..) rfl))
 refine call_len_dict C p (by exact O e (jM (Q9 I) jj)) ?_;exact O e ⟨.tok ..,.fO _ _⟩
theorem bD.xgC{a b:List T}(B:bJ X h₀)(I:a.length+b.length<=100000):bD A X h₀ .Add (.tup a) (.tup b) (.tup (a++b)):=λs E u v k y p=>by
 refine cH y.jS λl xs z N V q=>?_;subst z;refine cH p.jS λm f z K Q R=>?_;subst z;have H:xs.size=a.length:=by exact aQ dm (O q.length rfl)
 have L:f.size=b.length:=by exact aQ dm (O R.length rfl)
 obtain⟨⟨c1,h,M,J⟩,g,Z,n,U⟩:=id V;obtain⟨⟨c2,j,S,i⟩,t,d,P,x⟩:=id Q;simp only at Z U d x;subst Z U d x;have w:∀{xs:Array aj}{F:List T},xs.isEmpty=af->ay X s.heap F xs.toList->F=[]:=λ{xs F}D r=>by have h1:xs=#[]:=Array.isEmpty_iff.mp D;rw[h1]at r;have:=r.length;exact CQ this.symm
 by_cases c:xs.isEmpty=af;.refine EN ⟨_,g,rfl⟩ ⟨_,t,rfl⟩ Lb Nz Jk Ji (Je _ _) (tuple_addW0 l m xs f n P h j J i c) ⟨g,t,?_⟩;exact O (w c q) ⟨.refl _,p⟩
 .by_cases C:f.isEmpty=af;.refine EN ⟨_,g,rfl⟩ ⟨_,t,rfl⟩ Lb Nz Jk Ji (Je _ _) (tuple_addW1 l m xs f n P h j J i c C) ⟨g,t,?_⟩;exact O (w C R) (O (g8 ..) ⟨.refl _,y⟩)
  .refine EN ⟨_,g,rfl⟩ ⟨_,t,rfl⟩ Lb Nz Jk Ji (Je _ _) (tuple_addW2 l m xs f n P h j J i c C (by exact O dJ (Hf I H L))) ⟨g,t,?_⟩;have W:Kp s.heap (s.heap.push {cls:=.type "tuple",data:=.seq (xs++f)}):=λb o e=>bX _ e;refine⟨.push ..,?_⟩;refine⟨_,_,rfl,(B.kp k).new,⟨_,cE _ rfl,rfl,0,rfl⟩,?_⟩;exact O tO (ay.append (ay.kp (W.bL X) _ _ q) (ay.kp (W.bL X) _ _ R))
theorem K1{f:aS}{a u:Option aS}{p R:aR}{T id:String}{s:aq}{E Q:aj->aq->Prop}(V:jQ (.type T) "__getitem__"=pure (aa (.builtin id)))(h:au (az PW w) A (aT f G) (λo U=>au (az PW w) A (aT (.Slice a u ak p) G) (λi J=>J.TypeIs o T/\au (az PW w) A (getItem o i) Q E J) E U) E s):au (az PW w) A (aT (.Subscript f (.Slice a u ak p) R) G) Q E s:=by refine O (eval_Subscript ..) ?_;refine ao (aB h (λo U Z=>ao (dH (aB Z (λi J C=>ao (cV ?_)) λ_ _ x=>x))) λ_ _ x=>x);have I:au (az PW w) A (operate [i,o] (getItem o i)) (λr j=>au (az PW w) A (MA f o r>>=λ_=>pure r) Q E j) E J:=wpAny_operating (aB C.2 (λr j D=>ao (wpAny_letTemporaryGo (aM D))) λ_ _ x=>x);first|(refine ao ?_;refine O (getitemInPython_of_ne C.1.not_modules) ?_;refine ao (Mm C.1 V ?_);first|exact aM (ao I)|exact ao (aM (ao I))|exact ao I)|(refine ao (Mm C.1 V ?_);first|exact ao (aM (ao I))|exact ao I)
theorem EV.F3{f u:aS}{p R:aR}{l:List T}{k:Int}(P:bJ X h₀)(K:EV A G X h₀ f (.list l))(Z:EV A G X h₀ u (.int k))(D:0<=k)(I:l.length<=100000):EV A G X h₀ (.Subscript f (.Slice ak (aa u) ak p) R) (.list (l.take k.toNat)):=λs E q=>by
 refine K1 (T:="list") list_getitem_lookup (aB (K s E q) (λo U x=>wpAny_Slice (Ux (Uy (aB (Z U E (q.trans x.1.kp)) (λi J y=>?_) λ_ _ e=>e)))) λ_ _ e=>e);refine aC y.2.cL λt z=>?_;subst z;have r:=Rep.kp (y.1.kp.bL X) _ _ x.2;refine cH r.d8 λm xs z n Q h=>?_;subst z;have H:xs.size=l.length:=by exact aQ dm (O h.length rfl)
 refine O (evalPart_none ..) ?_;refine aM ⟨(Q.isList.push _).typeIs,wpAny_getItem_list_slice (Q.isList.push _) (TQ ..) .none (.int k t) .none (by simp) ?_ (O dJ (iW I H))⟩;have W:Kp J.heap ((J.heap.push {cls:=.type "slice",data:=.fields #[.none,.int k t,.none]}).push {cls:=.type "list",data:=.seq (slicePick xs ak (aa k) ak)}):=λb o e=>bX _ (bX _ e);refine⟨(x.1.trans y.1).trans (.mk' _ _ _ W),?_⟩;refine⟨_,_,rfl,((P.kp q).kp (x.1.trans y.1).kp).above (by show J.heap.objs.size<=(J.heap.push _).objs.size;exact O (mD ..) (dM _)),⟨_,cE _ rfl⟩,?_⟩;have g:(slicePick xs ak (aa k) ak).toList=xs.toList.take k.toNat:=by have:=slicePick_upto' xs k.toNat;rw[mu D]at this;exact O this rfl
 exact O g (ay.kp (W.bL X) _ _ (ay.take k.toNat h))
end
end
section
variable{j:dw}{A:aF}{E:aj->aq->Prop}{s:aq}
theorem TN(W:s.heap.IsSliceOf J .none (.int 4 u) .none)(h:Q (0,1,4) s):au (az j w) A (Builtin.Slice.sliceApplied (.ref J) (pure ((5:Nat):Int))) Q E s:=by refine dj (id W) λP i D m=>?_;unfold Builtin.Slice.sliceApplied Builtin.Slice.sliceFields;refine ao (ao (jr i m (x:=.none) rfl (ao (jr i m (x:=.int 4 u) rfl (ao (jr i m (x:=.none) rfl (aM ?_)))))));refine ao (xgU ?_);show au _ _ (if((1:Int)==0)=af then _ else _) _ _ s;refine O (if_neg dk) ?_;refine ao (xgU (ao (slicePart_int (ao (aM ?_)))));show au _ _ (match Builtin.Slice.sliceAdjust Option.none (aa (4:Int)) 1 ((5:Nat):Int)with|(lo,a)=>pure (lo,(1:Int),Builtin.Slice.slicePlaces lo a 1)) _ _ s;exact O (show Builtin.Slice.sliceAdjust Option.none (aa (4:Int)) 1 ((5:Nat):Int)=(0,4)by decide) (aM h)
theorem To{f:Array aj}(i:IsTup s.heap t f)(W:s.heap.IsSliceOf J .none (.int 4 u) .none)(y:f.size=5)(h:Q (.ref s.heap.objs.size) {s with heap:=s.heap.push {cls:=.type "tuple",data:=.seq (f.toList.take 4).toArray}}):au (az j w) A (getItem (.ref t) (.ref J)) Q E s:=by
 have g:sizeOk (.seq (f.toList.take 4).toArray):=by show(f.toList.take 4).toArray.size<=qS;exact O iZ (O jC (O dm (O dJ (BW (gQ _ _)))))
 refine dj (id W) λP m D o=>?_;have n:s.TypeIs (.ref J) "slice":=⟨P,m,D⟩;unfold getItem;try with_reducible refine dH ?_
 first|refine ao (aM ?_)|skip
 refine ao (xcP i.typeIs dk ?_);refine ao (x8 (name:=n7 "__getitem__") i.typeIs Ku (tU Ku i.typeIs entry_tuple_getitem ?_ (args_tuple_getitem _ _)));show au _ _ (xhe (.ref t)>>=_) _ _ s;refine ao (tupleItemsOf_ i ?_);refine ao (EK n ?_);refine O (if_pos dk) ?_;refine O y ?_;refine ao (TN W ?_);show au _ _ (if((0:Int)==0&&(1:Int)==1&&(4:Nat)==5)=af then _ else _) _ _ s;refine O (if_neg dk) ?_;have e:((gc 4).filterMap λ(k:Nat)=>f[((0:Int)+(k:Int)*1).toNat]?).toArray=(f.toList.take 4).toArray:=by cases f with|mk l=>simp only[iZ]at y;refine oh (oV y) λa b c d e z=>?_;subst z;rfl
 refine O e ?_;first|exact ao (m:=x7 _) (qz (aM ⟨_,rfl,aM h⟩) g)|exact ao (m:=x7 _) (qz (ao (aM (aM ⟨_,rfl,aM h⟩))) g)|exact ao (ao (m:=x7 _) (qz (aM (aM ⟨_,rfl,aM h⟩)) g))|exact ao (ao (m:=x7 _) (qz (aM ⟨_,rfl,aM h⟩) g))
end
section
variable{A:aF}{X:List ah}{B:aA}{G:aN}
theorem EV.Z7(P:bJ X B)(K:EV A G X B f (.tup [a,b,c,d,e]))(Z:EV A G X B u (.int 4)):EV A G X B (.Subscript f (.Slice ak (aa u) ak p) g) (.tup [a,b,c,d]):=λs E q=>by
 refine K1 (T:="tuple") Ku.lookup (aB (K s E q) (λo U x=>wpAny_Slice (Ux (Uy (aB (Z U E (q.trans x.1.kp)) (λi J y=>?_) λ_ _ e=>e)))) λ_ _ e=>e);refine aC y.2.cL λt z=>?_;subst z;have r:=Rep.kp (y.1.kp.bL X) _ _ x.2;refine cH r.jS λm xs z n Q h=>?_;subst z;have H:xs.size=5:=by refine aQ dm (O h.length ?_);rfl
 refine O (evalPart_none ..) ?_;have k:IsTup (J.heap.push {cls:=.type "slice",data:=.fields #[.none,.int 4 t,.none]}) m xs:=IsTup.keeps (h:=J.heap) Q λ_ _ e=>bX _ e;refine aM ⟨IsTup.typeIs k,To k (TQ ..) H ?_⟩;have W:Kp J.heap ((J.heap.push {cls:=.type "slice",data:=.fields #[.none,.int 4 t,.none]}).push {cls:=.type "tuple",data:=.seq (xs.toList.take 4).toArray}):=λb o e=>bX _ (bX _ e);refine⟨(x.1.trans y.1).trans (.mk' _ _ _ W),?_⟩;refine⟨_,_,rfl,((P.kp q).kp (x.1.trans y.1).kp).above (by show J.heap.objs.size<=(J.heap.push _).objs.size;exact O (mD ..) (dM _)),⟨_,cE _ rfl,rfl,0,rfl⟩,?_⟩;exact ay.kp (W.bL X) _ _ (ay.take 4 h)
end
section
variable{A:aF}{G:aN}{X g:List ah}{P:Gm}{I:List ah->aA->Prop}
noncomputable def zK(A:aF)(G:aN)(X:List ah)(s:aq)(g:List ah)(I:List ah->aA->Prop)(e:aS)(t:T):Prop:=∃j,xg G e j/\∀(o:Option (aj->bg Unit))(Q E:aj->aq->Prop),(∀D C a m,br g s a->I (D::C::X) a.heap->s.heap.get? D=ak->s.heap.get? C=ak->D≠C->a.heap.Ns C m->fz (D::C::X) D a.heap t->G5 (az PW w) A E o Q (.ref D) C (.ok .next) a)->au (az PW w) A (j o) Q E s
theorem zK.yy{L:Type}{s:aq}{elt Z u:aS}{j:dW}{R:aR}{t:List L}{kf:L->T}{f:L->T}{cU:L->Gm}(iS:∀Y h,Kp s.heap h->(∀a∈Y,s.heap.get? a=ak\/a∈X)->I Y h)(B:∀Y h h',bf Y h h'->(∀b∈g,∀o,h.get? b=aa o->h'.get? b=aa o)->I Y h->I Y h')(iL:∀Y H h,(∀a∈H,a∈Y)->I Y h->I H h)(p:∀a∈g,a∈X)(r:∀a∈g,a∉aK G)(c:CX X s.heap G P)(K:jb j G=af)(hi:IT A G X s.heap u Z (t.map kf))(z:∀a∈t,TG A j G Z (kf a) (dU j G P) (cU a))(n:∀a∈t,∀C l Y U E,CX Y U.heap (dN j l C G) (cU a)->(∀x∈X,x∈Y)->bf g s.heap U.heap->I Y U.heap->au (az PW w) A (aT elt (dN j l C G)) (λv d=>br g U d/\I Y d.heap/\(∀b∈g,∃o,d.heap.get? b=aa o)/\Rep Y d.heap (f a) v) E U)(W:t.length<=100000)(hs:autoParam (∀x,g7 u G x=pure x) yAI):zK A G X s g I (.ListComp elt [⟨Z,u,[],0⟩] j R) (.list (t.map f)):=⟨_,.list,λuse Q E N=>by replace N:=ET.symm▸N;refine Av (as:=t) (kf:=kf) (cU:=cU) p r (aL.ok B iL) c K .list hi rfl (λ_ _ _=>D6) Ah (λh=>cE _ rfl) (λh Y k y=>⟨⟨#[],⟨0,cE _ rfl⟩,trivial⟩,iS _ _ (λb o e=>bX _ (k b o e)) y⟩) z (λa m C l Y h M J=>TS.nil) (λC l V D S a m _=>.pZ (λY U E M hY J i=>n a m C l Y U E M (Cr (a:=0) hY) J i) B (λb m=>(bA.mp m).elim (λe=>e▸aP ..) λm=>aY _ (cJ _ (p b m))) S.off S.nP) ?_ (λD C d m ks hD hC hn q F=>N D C d m ks F.2 hD hC hn q F.1) hs;refine O ET ?_;exact aZ (dh (aH f)) W⟩
end
section
variable{A:aF}{H g:List ah}{N d s S:aq}{Z:List ah}{G:aN}{P r:Gm}{M:List (ah×T)}{E:aj->aq->Prop}{I:List ah->aA->Prop}
theorem CX.xbV{h h':aA}(c:CX X h G P)(k:bf Y h h')(i:∀a∈aK G,a∉Y)(w:∀a∈Y,a∈X)(u:∀a∈Y,∃o,h'.get? a=aa o)(K:∀a∈B,h.get? a=ak)(l:∀a∈B,∃o,h'.get? a=aa o):CX (B++X) h' G P:=by
 have c1:=c.dK k i w (c.live.dK k u);have j:∀b,(∃o,h.get? b=aa o)->b∉B:=λb⟨o,e⟩m=>by exact gone e (K b m)
 have f:∀{b},b∈X->b∈B++X:=λm=>cJ _ m;exact⟨⟨c1.ok.fn,c1.ok.ns,f c1.ok.loc,λm=>(bC.mp m).elim (j _ c.eZ.1) c.ok.eN,λm=>(bC.mp m).elim (j _ c.eZ.2) c.ok.blt,c1.ok.cell,λx q m=>f (c.ok.own x q m),c.ok.apart,c.ok.off⟩,λb m=>(bC.mp m).elim (l b) (c1.live b),c1.eZ,λx t e=>(c.val x t e).imp λv z=>⟨Rep.kp (k.mono λb m=>f (w b m)) t v (Rep.wide (λb m=>(bC.mp m).imp (K b) id) t v z.1),z.2.dK k c.ok i w⟩⟩
theorem FS.Z8(f:FS H N d s Z G P M)(u:∀b∈g,b∈H)(V:∀b∈g,b∉Z)(l:∀b∈g,N.heap.get? b=ak)(k:br g s S)(i:∀b∈g,∃o,S.heap.get? b=aa o)(K:∀a∈Y,s.heap.get? a=ak)(c:∀a∈Y,∃o,S.heap.get? a=aa o):FS H N S S (Y++Z) G P M:=by
 have T:∀b∈g,b∈Z++H:=λb m=>cJ _ (u b m);refine⟨f.ks.qp k l,.refl _ S,λa m=>(bC.mp m).elim (λm=>g9 f.ks.kp (K a m)) (f.new a),λa m=>cJ _ (f.own a m),?_,λp m=>⟨cJ _ (f.acc p m).1,(f.acc p m).2.1,?_⟩,f.nd⟩;.exact O (fT ..) (f.cx.xbV k.kp (λa m n=>V a n (f.own a m)) T i K c)
 .exact O (fT ..) ((f.acc p m).2.2.map (λa o n e=>⟨λm=>(bC.mp m).elim (λm=>gone e (K a m)) n,k.kp a o (λm=>n (T a m)) e⟩) λo e=>k.kp _ o (λn=>V _ n (f.acc p m).1) e)
theorem FS.Yi{x:ai}{e:aS}{c R:aR}{t:T}{Q:ek->aq->Prop}(f:FS H N d s Z G P M)(u:∀b∈g,b∈H)(V:∀b∈g,b∉Z)(l:∀b∈g,N.heap.get? b=ak)(up:∀Y h,I Y h->∀b∈g,∃o,h.get? b=aa o)(y:∀Y h h',bf Y h h'->(∀b∈g,∀o,h.get? b=aa o->h'.get? b=aa o)->I Y h->I Y h')(iL:∀Y v h,(∀a∈v,a∈Y)->I Y h->I v h)(W:G.kindOf x=aa .local\/G.kindOf x=aa .cell)(B:dg G x∈aK G)(L:zK A G (Z++H) s g I e t)(X:∀S,FS H N S S Z G (upd P x t) M->I (Z++H) S.heap->Q .next S)(hs:autoParam (lJ e (aa (.Name x c)) R.line G=pure af) yAR):au (az PW w) A (dY (.Assign [.Name x c] e R) G) Q E s:=L.elim λct L=>(L.1 A s E).2 Q x c R hs (L.2 _ _ E λD C S m K F i J hn n j=>(f.Z8 (Y:=[D,C]) u V l K (up _ _ F) (both i (one J)) (both j.up (one (n.imp λ_ z=>z.elim λ_ z=>z.elim λ_ z=>z.1)))).EX W B f.own (λp m=>(f.acc p m).1) (f.rA i) (f.rA J) hn n j λS U k=>X S (U.N2 f.own (λp m=>(f.acc p m).1) (f.rA i)) (iL _ _ _ (λa m=>aY _ (aY _ m)) (y _ _ _ (k.kp.mono λa m=>aY _ ((bA.mp m).elim (λe=>e▸aP ..) λm=>aY _ (bI _ (f.own a m)))) (λb m o=>k.kp b o λq=>(bA.mp q).elim (λe=>f.rA J (e▸cJ _ (u b m))) λq=>V b m (f.own b q)) F)))
end
noncomputable def ux:List Int:=[6372,3297,8420,1323,6804]
noncomputable def pU(n:Nat)(a:Int):List Int:=(gc (pF a (if(n:Int)<60 then n else 60) 5).toNat).map λi:Nat=>a+(i:Int)*5
def nB(p:List Int)(a:Int):List Int:=(pU p.length a).map λk=>(gi p k).fmod (10^9)
def pV(p:List Int):List Int:=(en 0 ux).map λq=>q.2+(nB p q.1).sum
noncomputable def gV:List (List ai):=[[⟨#[102,105]⟩,⟨#[70,105]⟩,⟨#[64257]⟩,⟨#[102,173,73]⟩],[⟨#[107]⟩,⟨#[75]⟩,⟨#[8490]⟩,⟨#[119818,65039]⟩],[⟨#[223]⟩,⟨#[115,83]⟩,⟨#[83,8203,115]⟩,⟨#[115,115]⟩],[⟨#[64261]⟩,⟨#[64262]⟩,⟨#[83,84]⟩,⟨#[115,8288,116]⟩],[⟨#[8481]⟩,⟨#[84,69,76]⟩,⟨#[116,6155,101,108]⟩,⟨#[116,101,108]⟩]]
noncomputable def w4:T:=.tup (gV.map λr=>.tup (r.map .str))
def wordAt(I a:Int):ai:=(gV.getD I.toNat []).getD ((a.fdiv 1024).fmod 4).toNat ""
def lq(f:List Int):List ai:=(en 0 f).map λq=>wordAt q.1 q.2
def ju(f:List Int):List Int:=(en 0 f).map λq=>(q.2.fdiv 12288+5*q.1).fmod 27
noncomputable def uA:List Int:=[173,847,6150,6155,6156,6157,8203,8204,8205,8288,65279]
def kR(p:Int):ai:=⟨#[(if p<11 then uA.getD p.toNat 0 else 65013+p).toNat]⟩
def mT(c:Int):ai:=(["\n","\r","\r\n"]:List ai).getD ((c.fdiv 4096).fmod 3).toNat ""
def fK(f:List Int):List (List Int):=(en 0 f).map λq=>cX q.2 q.1
def uy(j w e:ai):ai:=j++e++e++"."++w++e++"."
noncomputable def kj{L N P i:Type}(f:L->N->P->i)(t:List L)(z:List N)(F:List P):List i:=(t.zip (z.zip F)).map λp=>f p.1 p.2.1 p.2.2
def jv(f:List Int):List ai:=kj uy ((ju f).map kR) (lq f) (f.map mT)
abbrev aU(L:ah):aN:=cu Cc L 266
abbrev fP(k:Nat):cZ:=sS (bodyOf (aO PW 27)) k
section
variable{A:aF}{X:List ah}{h:aA}{P:Gm}{L:ah}
theorem DW(D:0<=place)(h1:b<=60):0<=pF place b 5/\pF place b 5<=60/\∀i:Nat,(i:Int)<pF place b 5->place+i*5<b:=by
 unfold pF;refine O (if_pos (by decide)) ?_;by_cases h:place<b;.refine O (if_pos h) ?_;have R:=JD (Int.sub_pos_of_lt h);exact⟨ym (Int.ediv_nonneg R jj) jj,Xa (jM (Int.ediv_le_self _ R) (W9 (gG (xaZ b D) h1))),λi F=>Int.add_lt_of_lt_sub_left (Int.lt_of_le_sub_one ((Int.le_ediv_iff_mul_le dk).mp (yb F)))⟩
 .exact O (if_neg h) ⟨jj,jj,λi F=>absurd F (fD.mpr (iP i))⟩
theorem xY{n:Nat}:(if(n:Int)<60 then(n:Int)else 60)<=60/\(if(n:Int)<60 then(n:Int)else 60)<=n/\0<=if(n:Int)<60 then(n:Int)else 60:=by
 by_cases h:(n:Int)<60;.exact O (if_pos h) ⟨kN h,uh _,iP n⟩
 .exact O (if_neg h) ⟨uh _,fD.mp h,jj⟩
theorem Yj(Q:0<=place)(m:k∈pU n place):0<=k/\k<n/\k<60:=by unfold pU at m;refine aG (bE.mp m) λi F z=>?_;subst z;have F:=rN.mp F;have:=(DW Q xY.1).2.2 i (Mv.mp F);exact⟨ym Q (Int.mul_nonneg (iP i) jj),qx this xY.2.1,qx this xY.1⟩
theorem K2(n:Nat)(Q:0<=place):(pU n place).length<=60:=by unfold pU;exact O (aH ..) (O yf (El.mpr (DW Q xY.1).2.1))
theorem E4(m:x∈nB p place):0<=x/\x<1000000000:=by unfold nB at m;refine aG (bE.mp m) λk _ z=>?_;subst z;exact⟨vP _ dk,rK _ dk⟩
theorem Ef(m:q∈en 0 ux):0<=q.1/\q.1<5/\0<=q.2/\q.2<10000:=by have:∀q∈en 0 ux,0<=q.1/\q.1<5/\0<=q.2/\q.2<10000:=dk;exact this q m
theorem Yk{p:List Int}(d:A.handled=ak)(c:CX X h (aU L) P)(f:P "script"=aa (LI p))(g:P "enumerate"=aa (.aI (.type "enumerate")))(r:P "sum"=aa (.aI (.builtin "sum")))(U:P "range"=aa (.aI (.type "range")))(s:P "min"=aa (.aI (.builtin "min")))(y:P "len"=aa (.aI (.builtin "len")))(l:p.length<=63):CU A (aU L) X h (valOf (fP 0)) (LI (pV p)):=by
 have e:LI (pV p)=.list (((en 0 ux).filter λ_=>af).map λq=>.int (q.2+(nB p q.1).sum)):=by unfold pV LI;rw[fE,bO]<;>rfl
 refine O e ?_;refine CU.l2 (kf:=λq:Int×Int=>.int q.1) (kg:=λq:Int×Int=>.int q.2) (as:=en 0 ux) (p:=λ_=>af) (f:=λq=>.int (q.2+(nB p q.1).sum)) d c ?_ (λa m C F Y h c k=>TS.nil) (λq m _ C F Y h c J k=>?_) dk
 .have:(en 0 ux).map (λq:Int×Int=>T.tup [.int q.1,.int q.2])=jZ 0 (ux.map .int):=by exact O uv rfl
  exact O this (IT.cP (EV.glob c (by exact g)) rfl (EL.cons (EV.tup c.live (EL.cons EV.int (EL.cons EV.int (EL.cons EV.int (EL.cons EV.int (EL.cons EV.int EL.nil)))))) EL.nil) (IC.VP d c.live))
 .refine EV.bin (EV.name c) (EV.cP (EV.glob c (by exact r)) rfl (EL.cons (ts:=[]) ?_ EL.nil) (CA.jf (l:=nB p q.1) d ?_ ?_)) bD.add
  .have B:=Ef m;have n:=xY (n:=p.length);have I:=DW B.1 n.1;have j:LI (nB p q.1)=.list (((pU p.length q.1).filter λ_=>af).map λk=>.int ((gi p k).fmod (10^(9:Int).toNat))):=by unfold nB LI;rw[fE,bO]<;>rfl
   refine O j ?_;refine EF.ev (CU.ef (CU.l1 (kf:=.int) (as:=pU p.length q.1) (p:=λ_=>af) (f:=λk=>.int ((gi p k).fmod (10^(9:Int).toNat))) c ?_ (λa m C F Y h c k=>TS.nil) (λk mk _ C F Y h c J u=>?_) (cC (K2 _ B.1)) (by kernel_rfl)) c.live)
   .have t:(pU p.length q.1).map T.int=pC q.1 5 (pF q.1 (if(p.length:Int)<60 then(p.length:Int)else 60) 5).toNat:=by unfold pU pC;refine O bO ?_;rfl
    refine O t ?_;refine IT.cP (EV.glob c (by exact U)) rfl (EL.cons (EV.name c) (EL.cons (EV.cP (EV.glob c (by exact s)) rfl (EL.cons EV.int (EL.cons (EV.cP (EV.glob c (by exact y)) rfl (EL.cons (EV.name c (by exact f)) EL.nil) (CA.zp (O (aH ..) (cC l)))) EL.nil)) (CA.min2 d)) (EL.cons EV.int EL.nil))) ?_;refine O (aH ..) ?_;refine IC.xbn d rfl c.live dk ?_ (mu I.1).symm (noPylong dk);have o:∀i:Int,-1000<=i->i<=1000->S1 i=af:=λi a b=>by unfold S1;exact O (dZ ..) (O decide_eq_true_eq (O decide_eq_true_eq ⟨gG jj a,jM b dk⟩))
    unfold Jj;rw[o _ (fW B.1) (eF (kN B.2.1)),o _ (fW n.2.2) (eF n.1),o 5 dk dk,o _ (fW I.1) (eF I.2.1),if_pos (show(5:Int)>0 by decide),o _ (fW (ym n.2.2 jj)) (eF (yc n.1 _))];simp
   .have N:=Yj B.1 mk;exact EV.bin (EV.gi (EV.name c (by exact f)) (EV.name c) N.1 N.2.1 (cC l)) (EV.bin EV.int EV.int (bD.pow dk dk)) (bD.fmod dk)
  .unfold nB;exact O (aH ..) (cC (K2 _ (Ef m).1))
  .exact λx S=>⟨(E4 S).1,m6 (E4 S).2 dk⟩
end
section
variable{A:aF}{H:List ah}{N B s:aq}{Z:List ah}{G:aN}{P:Gm}{M:List (ah×T)}{E:aj->aq->Prop}
theorem FS.E5(xs:List ai){ps:List aR}{a D:List aS}{k:Nat}{c:Nat}{l i R:aR}{F:List T}{Q:ek->aq->Prop}(d:A.handled=ak)(f:FS H N B s Z G P M)(b:EL A G (Z++H) s.heap l D F)(V:xs.length=F.length)(I:F.length<=100000)(X:∀J,FS H N B J Z G (bQ P xs F) M->Q .next J)(Y:∀x∈xs,(G.kindOf x=aa .local\/G.kindOf x=aa .cell)/\dg G x∈aK G)(L:autoParam (ps.length=xs.length) yAR)(g:autoParam (pK a G=(xs.zip ps).map λy=>(av,fV (.Name y.1 y.2) G)) yAR)(W:autoParam (rT [.Tuple a k i] (.Tuple D c l) R.line G=pure av) yAR)(C:autoParam (rU [.Tuple a k i] (.Tuple D c l) G=pure ak) yAR):au (az PW w) A (dY (.Assign [.Tuple a k i] (.Tuple D c l) R) G) Q E s:=FS.D8 xs d (aB (b s E λ_ _ e=>e) (λK U y=>⟨Z,M,F,f.step y.1,y.2,V,I,X⟩) λ_ _ e=>e) Y L g W C
theorem FS.Yl(xs:List ai){a D:List aS}{k:Nat}{c:Nat}{l i R:aR}{F:List T}{Q:ek->aq->Prop}(d:A.handled=ak)(f:FS H N B s Z G P M)(L:EL A G (Z++H) s.heap l D F)(V:xs.length=F.length)(I:F.length<=100000)(X:∀J,FS H N B J Z G (bQ P xs.reverse F.reverse) M->Q .next J)(Y:∀x∈xs,(G.kindOf x=aa .local\/G.kindOf x=aa .cell)/\dg G x∈aK G)(W:autoParam (rT [.Tuple a k i] (.Tuple D c l) R.line G=pure av) yAR)(C:autoParam (rU [.Tuple a k i] (.Tuple D c l) G=pure (aa xs)) yAR):au (az PW w) A (dY (.Assign [.Tuple a k i] (.Tuple D c l) R) G) Q E s:=FS.Ew xs d (aB (L s E λ_ _ e=>e) (λK U y=>⟨Z,M,F,f.step y.1,y.2,V,I,X⟩) λ_ _ e=>e) Y W C
end
def gS(p:List Int):Gm:=bQ (eX (d9 (aO PW 27)) G0) ["script"] [LI p]
section
variable{A:aF}{X:List ah}{h:aA}{P:Gm}{L:ah}{E:aj->aq->Prop}
noncomputable abbrev tF(L:ah):Prop:=∀x,lk 27 x=aa .local\/lk 27 x=aa .cell->((aU L).kindOf x=aa .local\/(aU L).kindOf x=aa .cell)/\dg (aU L) x∈aK (aU L)
theorem E6{a b:Int}(h:0<b):0<=a.fmod b/\a.fmod b<b:=⟨vP _ h,rK _ h⟩
theorem E7{l:List Int}(V:l.length=5)(m:q∈en 0 l):0<=q.1/\q.1<5:=by refine aG (r8 m) λk e h=>?_;have:=(rH.mp h).1;exact jo7 this V e
theorem zL{l:List Int}:(en 0 l).map (λq:Int×Int=>T.tup [.int q.1,.int q.2])=jZ 0 (l.map .int):=by exact O uv rfl
theorem IT.BE(d:A.handled=ak)(c:CX X h G P)(g:P "enumerate"=aa (.aI (.type "enumerate")))(a:EV A G X h e (LI l))(H:mS G "enumerate"=af)(W:autoParam (bh [e] G=(av,aT e G)::bh [] G) yAR):IT A G X h (.Call (.Name "enumerate" f) [e] [] b) (.Tuple D j m) ((en 0 l).map λq:Int×Int=>T.tup [.int q.1,.int q.2]):=by exact O zL (IT.cP (EV.glob c g H) rfl (EL.cons a EL.nil W) (IC.enumerate d c.live) W)
noncomputable def xbW:T:=.tup [.tup [.str "fi",.str "Fi",.str "\ufb01",.str "f\xadI"],.tup [.str "k",.str "K",.str "\u212a",.str "𝐊\ufe0f"],.tup [.str "\xdf",.str "sS",.str "S\u200bs",.str "ss"],.tup [.str "\ufb05",.str "\ufb06",.str "ST",.str "s\u2060t"],.tup [.str "\u2121",.str "TEL",.str "t\u180bel",.str "tel"]]
theorem WG:w4=xbW:=by kernel_rfl
theorem Ym(l:bJ X h):EV A (aU L) X h (valOf (fP 1)) w4:=by refine O WG (O (show valOf (fP 1)=xhC _ _ _ from rfl) ?_);have f:∀{H a g b:ai}{V M r v:Nat}{p1 p2 p3 d e:aR}{c:Nat},EV A (aU L) X h (.Tuple [.Constant (.str H) V p1,.Constant (.str a) M p2,.Constant (.str g) r p3,.Constant (.str b) v d] c e) (.tup [.str H,.str a,.str g,.str b]):=λ{_ _ _ _ _ _ _ _ _ _ _ _ _ _}=>@EV.tup _ _ _ _ _ _ _ _ l (@EL.cons _ _ _ _ _ _ _ _ _ (@EV.str _ _ _ _ _ _ _) (@EL.cons _ _ _ _ _ _ _ _ _ (@EV.str _ _ _ _ _ _ _) (@EL.cons _ _ _ _ _ _ _ _ _ (@EV.str _ _ _ _ _ _ _) (@EL.cons _ _ _ _ _ _ _ _ _ (@EV.str _ _ _ _ _ _ _) (@EL.nil _ _ _ _ _) rfl) rfl) rfl) rfl) (by simp);exact@EV.tup _ _ _ _ _ _ _ _ l (@EL.cons _ _ _ _ _ _ _ _ _ f (@EL.cons _ _ _ _ _ _ _ _ _ f (@EL.cons _ _ _ _ _ _ _ _ _ f (@EL.cons _ _ _ _ _ _ _ _ _ f (@EL.cons _ _ _ _ _ _ _ _ _ f (@EL.nil _ _ _ _ _) rfl) rfl) rfl) rfl) rfl) dk
end
theorem map_getD{L N:Type}{l:List L}{f:L->N}{i:Nat}{d:L}(h:i<l.length):(l.map f)[i]?=aa (f (l.getD i d)):=by refine O eS (O cz (O (cy h) ?_));rfl
theorem toNat_lt{i:Int}{n:Nat}(h:0<=i)(h1:i<n):i.toNat<n:=iu h h1
theorem WH{I:Int}(h:0<=I)(h1:I<5):(gV.getD I.toNat []).length=4:=by have:∀n:Nat,n<5->(gV.getD n []).length=4:=dk;exact this _ (toNat_lt h h1)
section
variable{A:aF}{X:List ah}{h:aA}{P:Gm}{L:ah}{E:aj->aq->Prop}
theorem Yn{f:List Int}(d:A.handled=ak)(y:f.length=5)(c:CX X h (aU L) P)(b:P "kinds"=aa w4)(w:P "cells"=aa (LI f))(B:P "enumerate"=aa (.aI (.type "enumerate"))):CU A (aU L) X h (sR (valOf (fP 2)) 1) (bZ (lq f)):=by
 have e:bZ (lq f)=.list (((en 0 f).filter λ_=>af).map λq=>.str (wordAt q.1 q.2)):=by unfold lq bZ;refine O (fE ..) (O bO ?_);rfl
 refine O e ?_;refine CU.l2 (kf:=λq:Int×Int=>.int q.1) (kg:=λq:Int×Int=>.int q.2) (as:=en 0 f) (p:=λ_=>af) (f:=λq=>.str (wordAt q.1 q.2)) d c (IT.BE d c B (EV.name c (by exact w)) (by kernel_rfl)) (λa m C F Y h c k=>TS.nil) (λq m _ C F Y h c J k=>?_) (by refine aQ (aH (f:=λq:Int×Int=>T.tup [.int q.1,.int q.2])) (O zL (O wj (O (aH ..) (O y ?_))));decide);refine aV (E7 y m) λD h1=>?_;have N:=WH D h1;have l:=E6 (a:=q.2.fdiv 1024) (b:=4) dk;exact EV.sub (EV.sub (EV.name c (by exact b)) (EV.name c) (cS.tup D (eF h1) (map_getD (l:=gV) (f:=λr=>T.tup (r.map .str)) (d:=[]) (toNat_lt D h1)))) (EV.bin (EV.bin (EV.name c) EV.int (bD.uL dk dk)) EV.int (bD.uM dk)) (cS.tup l.1 (eF l.2) (map_getD (l:=gV.getD q.1.toNat []) (f:=T.str) (d:="") (by exact O N (toNat_lt l.1 l.2))))
theorem Yo{f:List Int}(d:A.handled=ak)(y:f.length=5)(c:CX X h (aU L) P)(w:P "cells"=aa (LI f))(B:P "enumerate"=aa (.aI (.type "enumerate"))):CU A (aU L) X h (valOf (fP 3)) (LI (ju f)):=by
 have e:LI (ju f)=.list (((en 0 f).filter λ_=>af).map λq=>.int ((q.2.fdiv 12288+5*q.1).fmod 27)):=by unfold ju LI;refine O (fE ..) (O bO ?_);rfl
 refine O e ?_;refine CU.l2 (kf:=λq:Int×Int=>.int q.1) (kg:=λq:Int×Int=>.int q.2) (as:=en 0 f) (p:=λ_=>af) (f:=λq=>.int ((q.2.fdiv 12288+5*q.1).fmod 27)) d c (IT.BE d c B (EV.name c (by exact w)) (by kernel_rfl)) (λa m C F Y h c k=>TS.nil) (λq m _ C F Y h c J k=>?_) (by refine aQ (aH (f:=λq:Int×Int=>T.tup [.int q.1,.int q.2])) (O zL (O wj (O (aH ..) (O y ?_))));decide);exact EV.bin (EV.bin (EV.bin (EV.name c) EV.int (bD.uL dk dk)) (EV.bin EV.int (EV.name c) (bD.zq dk)) bD.add) EV.int (bD.uM dk)
theorem Z9{f:List Int}(d:A.handled=ak)(y:f.length=5)(c:CX X h (aU L) P)(w:P "cells"=aa (LI f)):CU A (aU L) X h (valOf (fP 5)) (bZ (f.map mT)):=by
 have e:bZ (f.map mT)=.list ((f.filter λ_=>af).map λq=>.str (mT q)):=by unfold bZ;refine O (fE ..) (O bO ?_);rfl
 refine O e ?_;refine CU.l1 (kf:=.int) (as:=f) (p:=λ_=>af) (f:=λq=>.str (mT q)) c (IT.list d (.inl rfl) c.live (EV.name c (by exact w))) (λa m C F Y h c k=>TS.nil) (λq m _ C F Y h c J k=>?_) (by refine O y ?_;decide);have l:=E6 (a:=q.fdiv 4096) (b:=3) dk;exact EV.sub (EV.tup c.live (EL.cons EV.str (EL.cons EV.str (EL.cons EV.str EL.nil)))) (EV.bin (EV.bin (EV.name c) EV.int (bD.uL dk dk)) EV.int (bD.uM dk)) (cS.tup l.1 (eF l.2) (map_getD (l:=(["\n","\r","\r\n"]:List ai)) (f:=T.str) (d:="") (toNat_lt l.1 l.2)))
theorem VR{b:List Int}(d:A.handled=ak)(y:b.length=5)(Q:∀p∈b,0<=p/\p<27)(c:CX X h (aU L) P)(w:P "picks"=aa (LI b))(B:P "chr"=aa (.aI (.builtin "chr"))):CU A (aU L) X h (valOf (fP 4)) (bZ (b.map kR)):=by
 have e:bZ (b.map kR)=.list ((b.filter λ_=>af).map λq=>.str (kR q)):=by unfold bZ;refine O (fE ..) (O bO ?_);rfl
 refine O e ?_;refine CU.l1 (kf:=.int) (as:=b) (p:=λ_=>af) (f:=λq=>.str (kR q)) c (IT.list d (.inl rfl) c.live (EV.name c (by exact w))) (λa m C F Y h c k=>TS.nil) (λq m _ C F Y h c J k=>?_) (by refine O y ?_;decide);refine aV (Q q m) λD h1=>?_;have W:∀n:Nat,n<11->0<=uA.getD n 0/\uA.getD n 0<=65279:=dk;have R:0<=(if q<11 then uA.getD q.toNat 0 else 65013+q)/\(if q<11 then uA.getD q.toNat 0 else 65013+q)<=0x10FFFF:=by
  by_cases g:q<11;.have t:=W q.toNat (toNat_lt D g);exact O (if_pos g) ⟨t.1,eF t.2⟩
  .exact O (if_neg g) ⟨ym jj D,eF (Xj (kN h1) _)⟩
 refine EV.cP (EV.glob c (by exact B)) rfl (EL.cons (EV.ite (b:=decide (q<11)) (TV.cmp (X:=Y) (EV.name c) EV.int aX.lt) (λg=>?_) λg=>?_) EL.nil) (CA.chr R.1 R.2);.have g:=of_decide_eq_true g;exact O (if_pos g) (@EV.sub _ _ _ _ _ _ _ _ _ _ (@EV.list _ _ _ _ _ _ _ c.live (@EL.cons _ _ _ _ _ _ _ _ _ (@EV.int _ _ _ _ _ _ _) (@EL.cons _ _ _ _ _ _ _ _ _ (@EV.int _ _ _ _ _ _ _) (@EL.cons _ _ _ _ _ _ _ _ _ (@EV.int _ _ _ _ _ _ _) (@EL.cons _ _ _ _ _ _ _ _ _ (@EV.int _ _ _ _ _ _ _) (@EL.cons _ _ _ _ _ _ _ _ _ (@EV.int _ _ _ _ _ _ _) (@EL.cons _ _ _ _ _ _ _ _ _ (@EV.int _ _ _ _ _ _ _) (@EL.cons _ _ _ _ _ _ _ _ _ (@EV.int _ _ _ _ _ _ _) (@EL.cons _ _ _ _ _ _ _ _ _ (@EV.int _ _ _ _ _ _ _) (@EL.cons _ _ _ _ _ _ _ _ _ (@EV.int _ _ _ _ _ _ _) (@EL.cons _ _ _ _ _ _ _ _ _ (@EV.int _ _ _ _ _ _ _) (@EL.cons _ _ _ _ _ _ _ _ _ (@EV.int _ _ _ _ _ _ _) (@EL.nil _ _ _ _ _) rfl) rfl) rfl) rfl) rfl) rfl) rfl) rfl) rfl) rfl) rfl) dk) (EV.name c) (cS.list D (eF g) (map_getD (l:=uA) (f:=T.int) (d:=0) (toNat_lt D g))))
 .have g:=of_decide_eq_false g;exact O (if_neg g) (EV.bin EV.int (EV.name c) bD.add)
end
theorem LN:(wordAt I a).length<=4:=by have h1:∀r∈gV,∀x∈r,x.length<=4:=dk;unfold wordAt;refine O cz (O cz ?_);cases e:gV[I.toNat]? with|none=>exact(by decide:(0:Nat)<=4)|some r=>show(r[((a.fdiv 1024).fmod 4).toNat]?.getD "").length<=4;cases L:r[((a.fdiv 1024).fmod 4).toNat]? with|none=>exact(by decide:(0:Nat)<=4)|some x=>exact h1 r (eO e) x (eO L)
theorem xaa:(mT c).length<=2:=by have h:∀x∈(["\n","\r","\r\n"]:List ai),x.length<=2:=dk;unfold mT;refine O cz ?_;cases L:(["\n","\r","\r\n"]:List ai)[((c.fdiv 4096).fmod 3).toNat]? with|none=>exact(by decide:(0:Nat)<=2)|some x=>exact h x (eO L)
section
variable{L N P i:Type}{f:L->N->P->i}{t:List L}{z:List N}{F:List P}
theorem WI{f:L->T}{g:N->T}{k:P->T}:qb (t.map f) (z.map g) (F.map k)=(kj (λa b c=>(a,b,c)) t z F).map λq=>.tup [f q.1,g q.2.1,k q.2.2]:=by rewrite[qb,kj,xcX,xcX,bO,bO];rfl
theorem Yp:kj f t z F=(kj (λa b c=>(a,b,c)) t z F).map λq=>f q.1 q.2.1 q.2.2:=by rw[kj,kj,bO];rfl
theorem Yq:(kj f t z F).length<=t.length:=by rw[kj,aH,gP];exact vY _ _
theorem Yr(m:q∈kj f t z F):∃a∈t,∃b∈z,∃c∈F,q=f a b c:=by refine aG (bE.mp m) λp Q e=>?_;have h:=Ab Q;have h':=Ab h.2;exact⟨_,h.1,_,h'.1,_,h'.2,e.symm⟩
end
section
variable{A:aF}{X:List ah}{h:aA}{P:Gm}{L:ah}{E:aj->aq->Prop}
noncomputable def ES(A:aF)(G:aN)(X:List ah)(h:aA)(e:aS)(x:ai)(n:Nat):Prop:=EV A G X h e (.str x)/\x.length<=n
theorem ES.cat(a:ES A G X h l x m)(b:ES A G X h r y n)(I:m+n<=100000):ES A G X h (.BinOp l .Add r c) (x++y) (m+n):=⟨EV.bin a.1 b.1 (bD.j7 (aZ (mE a.2 b.2) I)),by exact O (strLen_append ..) (mE a.2 b.2)⟩
theorem ES.dot:ES A G X h (.Constant (.str ".") k p) "." 1:=⟨EV.str,dk⟩
def HM(k:Nat):aS:=sR (valOf (fP 8)) k
theorem Ys{j o g:List ai}(f:A.handled=ak)(V:o.length=j.length)(M:g.length=j.length)(y:j.length=5)(b1:∀x∈j,x.length<=4)(b2:∀x∈o,x.length<=4)(b3:∀x∈g,x.length<=4)(c:CX X h (aU L) P)(r:P "shields"=aa (bZ j))(u:P "words"=aa (bZ o))(w:P "ends"=aa (bZ g))(i:P "zip"=aa (.aI (.type "zip"))):CU A (aU L) X h (HM 1) (bZ (kj uy j o g)):=by
 have e:bZ (kj uy j o g)=.list (((kj (λa b c=>(a,b,c)) j o g).filter λ_=>af).map λq=>.str (uy q.1 q.2.1 q.2.2)):=by unfold bZ;refine O (fE ..) (O Yp (O bO ?_));rfl
 refine O e ?_;refine CU.l3 (kf:=λq:ai×ai×ai=>.str q.1) (kg:=λq:ai×ai×ai=>.str q.2.1) (kh:=λq:ai×ai×ai=>.str q.2.2) (as:=kj (λa b c=>(a,b,c)) j o g) (p:=λ_=>af) (f:=λq=>.str (uy q.1 q.2.1 q.2.2)) f c ?_ (λa m C F Y h c k=>TS.nil) (λq m _ C F Y h c J k=>?_) (aZ Yq (by refine O y ?_;decide));.exact aQ WI (IT.cP (EV.glob c (by exact i)) rfl (EL.cons (EV.name c (by exact r)) (EL.cons (EV.name c (by exact u)) (EL.cons (EV.name c (by exact w)) EL.nil))) (IC.kj f c.live (by rw[aH,aH,V]) (by rw[aH,aH,M])))
 .obtain⟨a,K,b,R,d,U,rfl⟩:=Yr m;have s:∀{p:aR},ES A _ Y h (.Name "shield" p) a 4:=λ{p}=>⟨EV.name c,b1 a K⟩;have l:∀{p:aR},ES A _ Y h (.Name "word" p) b 4:=λ{p}=>⟨EV.name c,b2 b R⟩;have n:∀{p:aR},ES A _ Y h (.Name "end" p) d 4:=λ{p}=>⟨EV.name c,b3 d U⟩;exact((((((s.cat n dk).cat n dk).cat ES.dot dk).cat l dk).cat n dk).cat ES.dot dk).1
theorem VS{f:List Int}(d:A.handled=ak)(y:f.length=5)(c:CX X h (aU L) P)(o:P "both"=aa (.list ((en 0 f).map λq=>uR q.2 q.1))):CU A (aU L) X h (HM 0) (b7 (fK f)):=by
 have e:b7 (fK f)=.list (((en 0 f).filter λ_=>af).map λq=>LI (cX q.2 q.1)):=by unfold fK b7;refine O (fE ..) (O bO ?_);rfl
 refine O e ?_;exact CU.l2 (kf:=λq:Int×Int=>LI (cX q.2 q.1)) (kg:=λq:Int×Int=>.bool af) (as:=en 0 f) (p:=λ_=>af) (f:=λq=>LI (cX q.2 q.1)) d c (IT.list d (.inr (by rfl)) c.live (EV.name c (by exact o))) (λa m C F Y h c k=>TS.nil) (λq m _ C F Y h c J k=>EV.name c) (by refine aQ (aH (f:=λq:Int×Int=>T.tup [.int q.1,.int q.2])) (O zL (O wj (O (aH ..) (O y ?_))));decide)
end
theorem dD.cover{h:aA}(t:dD V f q h P)(y:∀a∈Y,h.get? a=ak\/a∈V):dD Y f q h P:=by refine dj t λps a b c=>?_;refine⟨ps,a,b,c.imp id λ⟨c,d,n,e⟩=>⟨c,d,λm=>(y c m).elim (λm=>?_) n,e⟩⟩;refine KC e λ_ o _ _ x g _=>?_;cases x;exact gone g m
section
variable{A:aF}{X:List ah}{h:aA}{P:Gm}{L:ah}{E:aj->aq->Prop}
theorem K3{G:aN}{x:ai}{c R:aR}{e:aS}{D:List aS}{a:ah}{fd:eU}{d:List cZ}{ps:List ai}{F:List T}{s:aq}{Q:aj->aq->Prop}(l:EV A G X s.heap (.Name x c) (.aI (.ref a)))(j:FnAt s.heap a fd d ps)(V:EL A G X s.heap R (e::D) F)(Z:∀J b,Ks s J->ay X J.heap F b->au (az PW w) A (dO (.ref a) b []) Q E J)(W:autoParam (bh (e::D) G=(av,aT e G)::bh D G) yAR):au (az PW w) A (aT (.Call (.Name x c) (e::D) [] R) G) Q E s:=by show au _ _ (do mP R (<-aT (.Name x c) G) [] (cM R (bh (e::D) G)) (oA R (n9 [] G))) _ _ _;refine ao (aB (l s E λ_ _ e=>e) (λv U x=>?_) λ_ _ e=>e);obtain rfl:=x.2.cR;refine aG j.obj λo g f=>?_;have M:=V U E x.1.kp;rw[W]at M⊢;refine DF (o:=o) (fd:=fd) (mZ (aB M (λb J y=>?_) λ_ _ e=>e));exact⟨⟨(x.1.trans y.1).kp _ _ g,f⟩,Z J b (x.1.trans y.1) y.2⟩
theorem U8{s:aq}(i:Kp hH s.heap)(f:3∉X)(m:0∉X)(l:bJ X s.heap)(d:PL∈X)(u:cF A (n+6))(c:CX X s.heap G P)(g:P "_law_wishes"=aa (.aI (.ref 241)))(H:mS G "_law_wishes"=af)(x:dD X jI j9 s.heap PL)(j:0<=v)(h1:v<2^60)(C:I∈r5)(V:EL A G X s.heap a (e::D) [.int v,.int I,NM])(W:bh (e::D) G=(av,aT e G)::bh D G):au (az PW w) A (aT (.Call (.Name "_law_wishes" o) (e::D) [] a) G) (λz S=>br [PL] s S/\dD X jI j9 S.heap PL/\Rep X S.heap (uR v I) z) E s:=K3 (EV.glob c g H) (Og.kp i) V (λJ K k b=>aB (T8 u ⟨i.trans k.kp,l.kp k.kp,f,m⟩ d (x.kp k.kp) j h1 C b) (λz S y=>⟨(br.of k).trans y.1,y.2.1,y.2.2⟩) λ_ _ e=>e) W
theorem xab{H:aA}{f:List Int}{s:aq}(N:Kp hH H)(r:Kp H s.heap)(G:H.get? PL=ak)(i:PL∈X)(l:PL∉aK (aU L))(u:cF A (n+6))(c:CX X s.heap (aU L) P)(w:P "cells"=aa (LI f))(F:P "names"=aa NM)(g:P "_law_wishes"=aa (.aI (.ref 241)))(B:P "enumerate"=aa (.aI (.type "enumerate")))(x:dD X jI j9 s.heap PL)(j:f.length=5)(R:∀v∈f,0<=v/\v<2^60):zK A (aU L) X s [PL] (λY h=>dD Y jI j9 h PL) (valOf (fP 6)) (.list ((en 0 f).map λq=>uR q.2 q.1)):=by
 refine zK.yy (kf:=λq:Int×Int=>.tup [.int q.1,.int q.2]) (cU:=λa=>bQ (dU _ (aU L) P) ["who","cell"] [.int a.1,.int a.2]) (λY h k y=>?_) (λY h h' k D t=>t.at k (D PL (aP ..))) (λY W h y t=>t.less y) (one i) (one l) c (by kernel_rfl) (IT.BE u.hd c B (EV.name c (by exact w)) (by kernel_rfl)) (λa m=>.tup u.hd (xs:=["who","cell"]) (ps:=[_,_]) (by kernel_rfl)) (λq m C Q Y U E M d J t=>?_) ?_;.exact(x.cover y).kp k
 .have p:Kp H U.heap:=λb o e=>J b o (λm=>by replace m:=aW.mp m;replace e:=m▸e;exact gone e G) (r b o e);refine aV (E7 j m) λS I=>?_;have K:=R q.2 (by refine aG (r8 m) λk _ e=>?_;exact eO e);refine aB (U8 (n:=n) (N.trans p) (λm=>M.ok.eN m) (λm=>M.ok.blt m) M.live (d PL i) u M (by exact g) (by kernel_rfl) t K.1 K.2 (aE.mpr ⟨S,I⟩) (EL.cons (EV.name M) (EL.cons (EV.name M) (EL.cons (EV.name M (by exact F)) EL.nil))) (by rfl)) (λz V y=>⟨y.1,y.2.1,λb m=>?_,y.2.2⟩) λ_ _ e=>e;replace m:=aW.mp m;refine O m ?_;refine aG y.2.1 λps e _=>?_;exact⟨_,e⟩
 .refine aQ (aH (f:=λq:Int×Int=>T.tup [.int q.1,.int q.2])) (O zL (O wj (O (aH ..) (O j ?_))));decide
end
section
variable{A:aF}{H:List ah}{N B s:aq}{Z:List ah}{P:Gm}{L:ah}{E:aj->aq->Prop}
theorem Yt(l:bJ X h):EV A G X h (.List [.Constant (.str "fi") V p1,.Constant (.str "k") d p2,.Constant (.str "ss") r p3,.Constant (.str "st") v a,.Constant (.str "tel") c e] b) NM:=@EV.list _ _ _ _ _ _ _ l (@EL.cons _ _ _ _ _ _ _ _ _ (@EV.str _ _ _ _ _ _ _) (@EL.cons _ _ _ _ _ _ _ _ _ (@EV.str _ _ _ _ _ _ _) (@EL.cons _ _ _ _ _ _ _ _ _ (@EV.str _ _ _ _ _ _ _) (@EL.cons _ _ _ _ _ _ _ _ _ (@EV.str _ _ _ _ _ _ _) (@EL.cons _ _ _ _ _ _ _ _ _ (@EV.str _ _ _ _ _ _ _) (@EL.nil _ _ _ _ _) rfl) rfl) rfl) rfl) rfl) dk
theorem xac{h:aA}(l:bJ X h)(z:∃o,h.get? eo=aa o):EV A G X h (.Tuple [.Constant (.int 0) V p1,.Constant (.int 0) d p2,.Constant (.int 0) r p3,.Constant (.int 0) v a,.Dict [] [] e] c b) (cA ⟨0,0,0,0,[]⟩):=@EV.tup _ _ _ _ _ _ _ _ l (@EL.cons _ _ _ _ _ _ _ _ _ (@EV.int _ _ _ _ _ _ _) (@EL.cons _ _ _ _ _ _ _ _ _ (@EV.int _ _ _ _ _ _ _) (@EL.cons _ _ _ _ _ _ _ _ _ (@EV.int _ _ _ _ _ _ _) (@EL.cons _ _ _ _ _ _ _ _ _ (@EV.int _ _ _ _ _ _ _) (@EL.cons _ _ _ _ _ _ _ _ _ (EV.HK (EM.Bg z) l) (@EL.nil _ _ _ _ _) rfl) rfl) rfl) rfl) rfl) (by simp)
def gB(p:List Int):Gm:=upd (upd (gS p) "cells" (LI (pV p))) "kinds" w4
theorem DX(p:List Int):(pV p).length=5:=rfl
theorem xbX{p:List Int}(d:A.handled=ak)(C:tF L)(l:p.length<=63)(z:∃o,N.heap.get? eo=aa o)(f:FS H N B s Z (aU L) (gS p) [])(X:∀a,FS H N B a Z (aU L) (bQ (gB p) ["names","words","total"] [NM,bZ (lq (pV p)),cA ⟨0,0,0,0,[]⟩]) []->au (az PW w) A (b8 ((bodyOf (aO PW 27)).drop 3) (aU L)) Q E a):au (az PW w) A (b8 (bodyOf (aO PW 27)) (aU L)) Q E s:=by have V:=C "cells" (.inl (by kernel_rfl));have M:=C "kinds" (.inr (by kernel_rfl));have r:=C "names" (.inr (by kernel_rfl));have v:=C "words" (.inr (by kernel_rfl));have W:=C "total" (.inl (by kernel_rfl));refine@bY _ _ _ _ _ _ _ (@FS.qO _ _ _ _ _ _ _ _ _ _ _ _ _ _ (LI (pV p)) _ f V.1 V.2 (Yk d f.cx (by rfl) (by rfl) (by rfl) (by rfl) (by rfl) (by rfl) l) (λU f=>⟨rfl,?_⟩) rfl);refine@bY _ _ _ _ _ _ _ (@FS.set _ _ _ _ _ _ _ _ _ _ _ _ _ _ w4 _ f M.1 M.2 (@Ym _ _ _ _ f.cx.live) (λJ _ f=>⟨rfl,?_⟩) rfl);refine@bY _ _ _ _ _ _ _ (@FS.E5 _ _ _ _ _ _ _ _ _ _ ["names","words","total"] [_,_,_] _ _ _ _ _ _ _ [NM,bZ (lq (pV p)),cA ⟨0,0,0,0,[]⟩] _ d f (@EL.cons _ _ _ _ _ _ _ _ _ (Yt f.cx.live) (@EL.cons _ _ _ _ _ _ _ _ _ (EF.ev (CU.ef (Yn d (DX p) f.cx (by rfl) (by rfl) (by rfl)) f.cx.live)) (@EL.cons _ _ _ _ _ _ _ _ _ (xac f.cx.live (z.imp λo e=>f.ks.kp _ _ e)) (@EL.nil _ _ _ _ _) rfl) rfl) rfl) rfl (show 3<=100000 by decide) (λj f=>⟨rfl,X j f⟩) ?_ rfl rfl rfl rfl);exact dP r (dP v (dP W nD))
end
section
variable{A:aF}{H:List ah}{N B s:aq}{Z:List ah}{P:Gm}{L:ah}{E:aj->aq->Prop}
theorem Yu:∀p∈ju a,0<=p/\p<27:=λp m=>by refine aG (bE.mp m) λq _ z=>?_;subst z;exact E6 dk
def IW(p F:List Int):Gm:=bQ (upd (upd (gS p) "cells" (LI F)) "kinds" w4) ["names","words","total"] [NM,bZ (lq F),cA ⟨0,0,0,0,[]⟩]
def IX(p F:List Int):Gm:=upd (upd (upd (IW p F) "picks" (LI (ju F))) "shields" (bZ ((ju F).map kR))) "ends" (bZ (F.map mT))
theorem xbY{p F:List Int}(d:A.handled=ak)(C:tF L)(y:F.length=5)(f:FS H N B s Z (aU L) (IW p F) [])(X:∀a,FS H N B a Z (aU L) (IX p F) []->au (az PW w) A (b8 ((bodyOf (aO PW 27)).drop 6) (aU L)) Q E a):au (az PW w) A (b8 ((bodyOf (aO PW 27)).drop 3) (aU L)) Q E s:=by have V:=C "picks" (.inl (by kernel_rfl));have M:=C "shields" (.inr (by kernel_rfl));have r:=C "ends" (.inl (by kernel_rfl));refine@bY _ _ _ _ _ _ _ (@FS.qO _ _ _ _ _ _ _ _ _ _ _ _ _ _ (LI (ju F)) _ f V.1 V.2 (Yo d y f.cx (by rfl) (by rfl)) (λU f=>⟨rfl,?_⟩) rfl);refine@bY _ _ _ _ _ _ _ (@FS.set _ _ _ _ _ _ _ _ _ _ _ _ _ _ (bZ ((ju F).map kR)) _ f M.1 M.2 (EF.ev (CU.ef (VR d (by unfold ju;exact O (aH ..) (O (nj ..) (O y rfl))) Yu f.cx (by rfl) (by rfl)) f.cx.live)) (λJ _ f=>⟨rfl,?_⟩) rfl);exact@bY _ _ _ _ _ _ _ (@FS.qO _ _ _ _ _ _ _ _ _ _ _ _ _ _ (bZ (F.map mT)) _ f r.1 r.2 (Z9 d y f.cx (by rfl)) (λj f=>⟨rfl,X j f⟩) rfl)
def Pu(F:List Int):T:=.list ((en 0 F).map λq=>uR q.2 q.1)
theorem Yv{F:List Int}(d:A.handled=ak)(f:A.units+3<fy)(y:F.length=5)(c:CX X h (aU L) P)(o:P "both"=aa (Pu F)):TV A (aU L) h (valOf (fP 7)) av:=by
 have e:(.list (eH 5 (.bool af)):T)=.list (((en 0 F).filter λ_=>af).map λq=>.bool af):=by exact O (fE ..) (O List.map_const' (O (nj ..) (O y rfl)))
 refine TV.cmp (X:=X) (t:=.list (eH 5 (.bool af))) (u:=.list (eH 5 (.bool af))) (EF.ev (CU.ef ?_ c.live)) (EF.ev (EF.rZ c.live (EV.list c.live (EL.cons EV.bool EL.nil)) EV.int dk dk)) (aX.q6 (n:=2) ?_ (lU f) (.inl ⟨_,rfl⟩));.refine O e ?_;exact CU.l2 (kf:=λq:Int×Int=>LI (cX q.2 q.1)) (kg:=λq:Int×Int=>.bool af) (as:=en 0 F) (p:=λ_=>af) (f:=λq=>.bool af) d c (IT.list d (.inr (by rfl)) c.live (EV.name c (by exact o))) (λa m C F Y h c k=>TS.nil) (λq m _ C F Y h c J k=>EV.name c) (by refine O (nj ..) (O y ?_);decide)
 .refine .list rfl λi t u a b=>?_;replace b:=a▸b;cases b;exact O (vL (eO a)) (.flat rfl)
end
section
variable{A:aF}{N B s:aq}{Z:List ah}{P:Gm}{L:ah}{E:aj->aq->Prop}
def gC(p F:List Int)(W:List (List Int))(G:List ai):Gm:=upd (upd (upd (upd (upd (upd (upd (gS p) "cells" (LI F)) "names" NM) "words" (bZ (lq F))) "total" (cA ⟨0,0,0,0,[]⟩)) "shields" (bZ ((ju F).map kR))) "wishes" (b7 W)) "typed" (bZ G)
theorem Ax{F:List Int}(y:F.length=5):(ju F).length=5:=by unfold ju;exact O (aH ..) (O (nj ..) (O y rfl))
theorem K4{F:List Int}(y:F.length=5):(lq F).length=5:=by unfold lq;rw[aH,nj,y]
theorem WJ{F:List Int}(d:A.handled=ak)(y:F.length=5)(c:CX X h (aU L) P)(f:P "shields"=aa (bZ ((ju F).map kR)))(u:P "words"=aa (bZ (lq F)))(w:P "ends"=aa (bZ (F.map mT)))(i:P "zip"=aa (.aI (.type "zip"))):CU A (aU L) X h (HM 1) (bZ (jv F)):=Ys d (by exact O (K4 y) (O (aH ..) (O (Ax y) rfl))) (by exact O (aH ..) (O (aH ..) (O (Ax y) (O y rfl)))) (by exact O (aH ..) (O (Ax y) rfl)) (λx m=>by refine aG (bE.mp m) λp _ z=>?_;subst z;exact(by decide:1<=4)) (λx m=>by refine aG (bE.mp m) λq _ z=>?_;subst z;exact LN) (λx m=>by refine aG (bE.mp m) λq _ z=>?_;subst z;exact aZ xaa dk) c f u w i
theorem xbZ{p F:List Int}(z:Kp hH N.heap)(l:N.heap.get? PL=ak)(V:PL∉Z)(u:cF A (n+6))(C:tF L)(a:F.length=5)(R:∀v∈F,0<=v/\v<2^60)(f:FS [PL] N B s Z (aU L) (IX p F) [])(x:dD (Z++[PL]) jI j9 s.heap PL)(X:∀i o,FS [PL] N i o Z (aU L) (gC p F (fK F) (jv F)) []->dD (Z++[PL]) jI j9 i.heap PL->au (az PW w) A (b8 ((bodyOf (aO PW 27)).drop 9) (aU L)) Q E o):au (az PW w) A (b8 ((bodyOf (aO PW 27)).drop 6) (aU L)) Q E s:=by
 have q:=C "both" (.inl (by kernel_rfl));have M:=C "wishes" (.inr (by kernel_rfl));have r:=C "typed" (.inl (by kernel_rfl));have d:=u.hd;have g:∀{b:ah},b∈[PL]->b=PL:=λm=>aW.mp m;have c:PL∉aK (aU L):=λm=>V (f.own PL m);refine@bY _ _ _ _ _ _ _ (@FS.Yi _ _ [PL] _ _ _ _ _ _ _ _ (λY h=>dD Y jI j9 h PL) _ _ _ _ (Pu F) _ f (λb m=>m) (λb m=>g m▸V) (λb m=>g m▸l) (λY h t b m=>by refine O (g m) ?_;refine aG t λps e _=>?_;exact⟨_,e⟩) (λY h h' k D t=>t.at k (D PL (aP ..))) (λY G h y t=>t.less y) q.1 q.2 (xab z f.ks.kp l (cJ _ (aP ..)) c u f.cx (by rfl) (by rfl) (by rfl) (by rfl) x a R) (λU f t=>⟨rfl,?_⟩) rfl);refine@bY _ _ _ _ _ _ _ (@FS.cond _ _ _ _ _ _ _ _ _ _ _ _ _ _ av _ f (Yv d (by have:=u.jJ;show _<9900;exact ry _ this) a f.cx (by rfl)) (λe=>by cases e) λ_ J f=>iA ⟨rfl,?_⟩);refine@bY _ _ _ _ _ _ _ (@FS.E5 _ _ _ _ _ _ _ _ _ _ ["wishes","typed"] [_,_] _ _ _ _ _ _ _ [b7 (fK F),bZ (jv F)] _ d f (@EL.cons _ _ _ _ _ _ _ _ _ (EF.ev (CU.ef (VS d a f.cx (by rfl)) f.cx.live)) (@EL.cons _ _ _ _ _ _ _ _ _ (EF.ev (CU.ef (WJ d a f.cx (by rfl) (by rfl) (by rfl) (by rfl)) f.cx.live)) (@EL.nil _ _ _ _ _) rfl) rfl) rfl (show 2<=100000 by decide) (λj f=>⟨rfl,X U j (f.less ?_) t⟩) ?_ rfl rfl rfl rfl);.show bq _ _;unfold gC IX IW;repeat(first|exact bq.refl _|refine bq.iM ?_ (by rfl)|refine bq.out ?_ (by kernel_rfl))
 .exact dP M (dP r nD)
end
section
variable{A:aF}{N B s:aq}{Z:List ah}{P:Gm}{L:ah}{E:aj->aq->Prop}
abbrev pn(S:Int->Bool)(b:Int->Option ai)(W:List (List Int))(G:List ai)(a:Int):bG:=gx W (nameOf S b) a (iG G) ((gc 25).map lI)
theorem FS.run{S:aq}(f:FS [PL] N B s Z (aU L) P [])(k:br [L] s S)(z:dF [L] s.heap S.heap):FS [PL] N B S Z (aU L) P []:=by have C:∀a∈[L],a∈aK (aU L):=one (aP ..);exact f.soft k.kp z k.eq (λa m=>bI _ (f.own a (C a m))) (λp m=>by cases m) (λa m=>f.new a (f.own a (C a m))) λa m=>.inl (C a m)
theorem LO{ty:List ai}(F:A.frames=aa [aU L])(Y:Kp hH N.heap)(l:N.heap.get? PL=ak)(K:4<=n)(u:cF A (n+1))(t:fR W)(j:ty.length=5)(T:se setB cB ty)(f:FS [PL] N B s Z (aU L) P [])(g:P "_law_run"=aa (.aI (.ref 246)))(V:EL A (aU L) (Z++[PL]) s.heap c (e::D) [b7 W,bZ ty,NM,.int turn])(i:bh (e::D) (aU L)=(av,aT e (aU L))::bh D (aU L)):au (az PW w) A (aT (.Call (.Name "_law_run" o) (e::D) [] c) (aU L)) (λv S=>FS [PL] N B S Z (aU L) P []/\br [L] s S/\Rep (Z++[PL]) S.heap (nJ (pn setB cB W ty turn)) v) E s:=by
 have C:L∈Z:=f.own L (aP ..);refine K3 (EV.glob f.cx g) (Oc.kp (Y.trans f.ks.kp)) V (λJ p k d=>?_) i;have a:=f.step k;refine VK (n:=n-2) (outer:=[aU L]) ⟨Y.trans a.ks.kp,a.cx.live,a.cx.ok.eN,a.cx.ok.blt⟩ (λb m=>(bC.mp m).elim (λm=>g9 Y (f.new b m)) λm=>g9 Y (by exact O (aW.mp m) l)) (λb m=>?_) F (by exact O (show n-2+3=n+1 from congrArg (·+1) (qy (aZ (by decide) K))) u) (λen m=>?_) d t j T λv S U z r=>?_;.have:b=L:=aW.mp m;exact O this (bC.mpr (.inl C))
 .replace m:=aW.mp m;refine O m ?_;obtain⟨h,Q⟩:=a.cx.ok.ns;exact⟨(λq=>by cases q),L,h,rfl,Q⟩
 .exact⟨a.run U z,(br.of k).trans U,r⟩
end
section
variable{A:aF}{N B s:aq}{Z:List ah}{P:Gm}{L:ah}{E:aj->aq->Prop}
theorem xad(V:au (az PW w) A (aT l G) (λv S=>FS H N B S Z G P []/\Rep (Z++H) S.heap t v) E s)(D:∀S,FS H N B S Z G P []->EV A G (Z++H) S.heap r u)(C:∀h,aX A (Z++H) h n t u b)(m:Np n r=av)(X:∀S,FS H N B S Z G P []->au (az PW w) A (b8 (if b then g else i) G) Q E S):au (az PW w) A (dY (.If (.Compare l [n] [r] o) g i k) G) Q E s:=by
 refine Q6 (aB (Q:=λq S=>q=b/\FS H N B S Z G P []) ?_ (λq S y=>?_) λ_ _ e=>e);.refine O (xes ..) (O (Xf m) ?_);refine ao (aB V (λa U x=>?_) λ_ _ e=>e);refine ao (dH (aB (D U x.1 U E λ_ _ e=>e) (λc J y=>?_) λ_ _ e=>e));refine ao (cV (ao ?_));refine λF p W=>?_;refine O (DY ..) ?_;refine(aB (C U.heap J E a c y.1.kp (Rep.kp (y.1.kp.bL _) _ _ x.2) y.2) (λd j z=>?_) λ_ _ e=>e) F p W;obtain⟨z,rfl⟩:=z;exact dH (yg ⟨rfl,(x.1.step y.1).step z⟩)
 .refine aV y λI f=>?_;try clear y;subst I
  have:=X S f;cases q<;>exact this
def gD(p F:List Int)(W:List (List Int))(G:List ai)(M:bG):Gm:=bQ (gC p F W G) ["held","mails","alone","refused","book"] [LI M.held,bZ M.bW,.list (M.alone.map lA),.list (M.refused.map DS),.list (M.book.map cA)]
theorem xdR{F:List Int}(y:F.length=5)(R:∀v∈F,0<=v/\v<2^35):0<=F.sum/\F.sum<2^38:=by have:=F1 (B:=2^35) dk R;rw[y]at this;exact⟨this.1,jM this.2 dk⟩
theorem intBits_le{i:Int}(h:i.natAbs<2^n):zS i<=n:=by
 unfold zS;split;.exact jo _
 .rename_i F;have K:i.natAbs≠0:=by intro e;apply F;simp[JW.mp e]
  have:=(Nv K).mpr h;exact this
def BF(S:Int->Bool)(b:Int->Option ai)(W:List (List Int))(G:List ai)(F:List Int):bG:=pn S b W G (F.sum^2)
theorem xdS{p F:List Int}{G:List ai}(a:A.frames=aa [aU L])(Y:Kp hH N.heap)(l:N.heap.get? PL=ak)(K:4<=n)(u:cF A (n+1))(C:tF L)(g:F.length=5)(R:∀v∈F,0<=v/\v<2^35)(t:fR W)(i:G.length=5)(T:se setB cB G)(c:TE 5 (nJ (BF setB cB W G F)) (nJ (pn setB cB W G 0)))(f:FS [PL] N B s Z (aU L) (gC p F W G) [])(X:∀b,FS [PL] N B b Z (aU L) (gD p F W G (pn setB cB W G 0)) []->au (az PW w) A (b8 ((bodyOf (aO PW 27)).drop 11) (aU L)) Q E b):au (az PW w) A (b8 ((bodyOf (aO PW 27)).drop 9) (aU L)) Q E s:=by
 have k:=u.hd;have o:∀x∈(["held","mails","alone","refused","book"]:List ai),((aU L).kindOf x=aa .local\/(aU L).kindOf x=aa .cell)/\dg (aU L) x∈aK (aU L):=λx m=>by simp only[bA,b9,or_false]at m;rcases m with rfl|rfl|rfl|rfl|rfl<;>exact C _ (.inl (by kernel_rfl))
 refine@bY _ _ _ _ _ _ _ (AB (aB (LO (W:=W) (ty:=G) (turn:=0) a Y l K u t i T f (by rfl) (EL.cons (EV.name f.cx) (EL.cons (EV.name f.cx) (EL.cons (EV.name f.cx) (EL.cons EV.int EL.nil)))) (by rfl)) (λv U y=>?_) λ_ _ e=>e) rfl rfl);refine gW y λf _ r=>?_;refine aB (AS.tup k o (ps:=[_,_,_,_,_]) rfl rfl rfl _ U E v f.cx.ok.iX f.cx r) (λ_ J z=>⟨rfl,?_⟩) λ_ _ e=>e;have f:=f.re z.1 z.2;refine@bY _ _ _ _ _ _ _ (xad (b:=av) (t:=nJ (BF setB cB W G F)) (u:=nJ (pn setB cB W G 0)) (aB (LO (W:=W) (ty:=G) (turn:=F.sum^2) a Y l K u t i T f (by rfl) (EL.cons (EV.name f.cx) (EL.cons (EV.name f.cx) (EL.cons (EV.name f.cx) (EL.cons ?_ EL.nil)))) (by rfl)) (λv j y=>⟨y.1,y.2.2⟩) λ_ _ e=>e) (λb f=>EV.tup f.cx.live (EL.cons (EV.name f.cx) (EL.cons (EV.name f.cx) (EL.cons (EV.name f.cx) (EL.cons (EV.name f.cx) (EL.cons (EV.name f.cx) EL.nil))))) (by simp)) (λh=>aX.q6 c (by have:=u.jJ;show _<9900;exact ry _ this) (.inr ⟨_,rfl⟩)) (by with_unfolding_all rfl) λb f=>iA ⟨rfl,X b f⟩);have d:=xdR g R;refine EV.bin (EV.cP (EV.glob f.cx (by rfl)) rfl (EL.cons (EV.name f.cx) EL.nil) (CA.jf (l:=F) k (by refine O g ?_;decide) λx m=>⟨(R x m).1,m6 (R x m).2 dk⟩)) EV.int (bD.pow (i:=F.sum) (j:=2) dk ?_);have:=intBits_le (i:=F.sum) (n:=38) (BV d.1 d.2);exact gG (Int.mul_le_mul_of_nonneg_right (nY.mpr this) dk) dk
end
def dz(W:List (List Int))(I n:Int):Int:=if I=n then 4 else(bz W I).idxOf n
def ig(W:List (List Int)):List (List Int):=r5.map λI=>r5.map λn=>dz W I n
def cI(W:List (List Int)):List (List (List Int)):=(e8 r5).filter (ny (ig W))
theorem xae(W:List (List Int)):Sq (ig W):=⟨rfl,λl m=>by refine aG (bE.mp m) λx _ q=>?_;subst q;rfl⟩
theorem LP:(e8 r5).length=59:=by decide+kernel
noncomputable def QJ(c:List Int):Bool:=!c.isEmpty&&decide (c.length<=5)&&c.all λx=>decide (0<=x)&&decide (x<5)
theorem xaf:∀c∈e8 r5,∀x∈c,BD x:=by
 have:((e8 r5).all λc=>c.all QJ)=af:=by decide+kernel
 intro c m x Y;have h:=cg.mp (cg.mp this c m) x Y;unfold QJ at h;simp only[dZ,decide_eq_true_eq,cg,tQ]at h;exact⟨λe=>by rw[e]at h;exact absurd h.1.1 dk,h.1.2,h.2⟩
section
variable{A:aF}{X:List ah}{h:aA}{P:Gm}{L:ah}{E:aj->aq->Prop}
theorem xag(d:A.handled=ak)(t:fR W)(c:CX X h (aU L) P)(u:P "wishes"=aa (b7 W))(gr:P "range"=aa (.aI (.type "range"))):CU A (aU L) X h (valOf (fP 11)) (b7 (ig W)):=by
 have e:b7 (ig W)=.list ((r5.filter λ_=>af).map λI=>LI (r5.map λn=>dz W I n)):=by unfold ig b7;rw[fE,bO]<;>rfl
 refine O e ?_;refine CU.l1 (kf:=.int) (as:=r5) (p:=λ_=>af) (f:=λI=>LI (r5.map λn=>dz W I n)) c (IT.lg d c gr) (λa m C F Y h c k=>TS.nil) (λI m _ C F Y h c J k=>?_) dk;have b:LI (r5.map λn=>dz W I n)=.list ((r5.filter λ_=>af).map λn=>.int (dz W I n)):=by unfold LI;rw[fE,bO]<;>rfl
 refine O b ?_;refine aV (aE.mp m) λD h1=>?_;refine EF.ev (CU.ef (CU.l1 (kf:=.int) (as:=r5) (p:=λ_=>af) (f:=λn=>.int (dz W I n)) c (IT.lg d c (by exact gr)) (λa m C F Y h c k=>TS.nil) (λn H _ C F Y h c J k=>?_) dk (by kernel_rfl)) c.live);refine aV (aE.mp H) λf T=>?_;refine EV.ite (b:=I==n) (TV.cmp (X:=Y) (EV.name c) (EV.name c) aX.eq) (λe=>?_) λe=>?_;.have:dz W I n=4:=if_pos (eq_of_beq e);exact O this EV.int
 .have S:I≠n:=ne_of_beq_false e;have:dz W I n=(bz W I).idxOf n:=if_neg S;refine O this ?_;exact EV.pS (EV.bz t (EV.name c (by exact u)) (EV.name c) D h1) (EV.name c) (t.all I D h1 n f T (gu S)) (by refine O (t.row I D h1) ?_;decide)
theorem EV.xca{G:aN}{x:ai}{b R:aR}{a:ah}{fd:eU}{d:List cZ}{ps:List ai}{r:T}(l:EV A G X h (.Name x b) (.aI (.ref a)))(i:FnAt h a fd d ps)(Z:CA A X h (.ref a) [] r):EV A G X h (.Call (.Name x b) [] [] R) r:=λs E k=>by show au _ _ (do mP R (<-aT (.Name x b) G) [] (cM R (bh [] G)) (oA R (n9 [] G))) _ _ _;refine ao (aB (l s E k) (λv U x=>?_) λ_ _ e=>e);obtain rfl:=x.2.cR;refine aG i.obj λo g f=>?_;refine DF (o:=o) (fd:=fd) (zP ?_);refine⟨⟨k.trans x.1.kp _ _ g,f⟩,?_⟩;exact aB (Z U E [] (k.trans x.1.kp) trivial) (λc j z=>⟨x.1.trans z.1,z.2⟩) λ_ _ e=>e
theorem EV.xr{G:aN}{x:ai}{f R:aR}{e:aS}{D:List aS}{a:ah}{fd:eU}{d:List cZ}{ps:List ai}{ts:List T}{r:T}(c:CX X h G P)(g:P x=aa (.aI (.ref a)))(j:FnAt h a fd d ps)(V:EL A G X h R (e::D) ts)(Z:CA A X h (.ref a) ts r)(H:mS G x=af)(W:bh (e::D) G=(av,aT e G)::bh D G):EV A G X h (.Call (.Name x f) (e::D) [] R) r:=by refine aG j.obj λo b l=>?_;exact EV.uJ (EV.glob c g H) b l V Z W
theorem xah(b:Kp hH H)(i:Kp H h)(u:cF A (n+1))(c:CX X h (aU L) P)(d:P "rank"=aa (b7 (ig W)))(B:P "_law_cycles"=aa (.aI (.ref 256)))(r:P "_law_firm"=aa (.aI (.ref 261))):CU A (aU L) X h (sR (valOf (fP 12)) 0) (WT (cI W)):=by have e:WT (cI W)=.list (((e8 r5).filter (ny (ig W))).map b7):=rfl;refine O e ?_;have f:=u.hd;refine CU.l1 (kf:=b7) (as:=e8 r5) (p:=ny (ig W)) (f:=b7) c (IT.list f (.inl rfl) c.live (EV.xca (EV.glob c (by exact B)) (Oe.kp (b.trans i)) (T4 u ⟨b.trans i,c.live,c.ok.eN,c.ok.blt⟩))) (λa m C F Y h c k=>TS.one (TV.of (X:=Y) ?_)) (λa m _ C F Y h c J k=>EV.name c) (by refine O LP ?_;decide);exact EV.xr c (by exact r) (Of.kp (b.trans (i.trans k))) (EL.cons (EV.name c (by exact d)) (EL.cons (EV.name c) EL.nil)) (U6 u ⟨b.trans (i.trans k),c.live,c.ok.eN,c.ok.blt⟩ (xae W) (xaf a m)) (by kernel_rfl) (by rfl)
end
def ring(c:List (List Int)):List Int:=c.getD 0 []
def jX(c:List (List Int)):Tab:=(ring c).map λI=>(bB I,1)
def dG(l:List (List (List Int))):Tab:=l.foldl (λd c=>jH d (jX c)) []
theorem Yw(l:List (List (List Int)))(c:List (List Int)):dG (l++[c])=jH (dG l) (jX c):=by unfold dG;refine O vV ?_;rfl
theorem ED:∀c∈e8 r5,c≠[]/\(ring c).length<=5/\(∀x∈ring c,0<=x/\x<5)/\((ring c).map bB).Nodup:=by
 have:((e8 r5).all λc=>!c.isEmpty&&decide ((ring c).length<=5)&&((ring c).all λx=>decide (0<=x)&&decide (x<5))&&decide ((ring c).map bB).Nodup)=af:=by decide+kernel
 intro c m;have h:=cg.mp this c m;simp only[dZ,decide_eq_true_eq,cg,tQ]at h;exact⟨λe=>by replace h:=e▸h;exact absurd h.1.1.1 dk,h.1.1.2,h.1.2,h.2⟩
theorem BG{I:Int}(D:0<=I)(h1:I<5):(gJ.map T.str)[I.toNat]?=aa (.str (bB I)):=map_getD (l:=gJ) (f:=T.str) (d:="") (toNat_lt D h1)
section
variable{A:aF}{X:List ah}{h:aA}{P:Gm}{L:ah}{E:aj->aq->Prop}
def xdT:aS:=sR (valOf (sS (bodyOf (fP 13)) 0)) 2
theorem xai(d:A.handled=ak)(Q:b∈e8 r5)(c:CX X h (aU L) P)(z:∃o,h.get? eo=aa o)(r:P "names"=aa NM)(w:P "cycles"=aa (b7 b)):CU A (aU L) X h xdT (dc (jX b)):=by
 refine kZ (ED b Q) λg S Z i=>?_;have e:dc (jX b)=.dS (((ring b).filter λ_=>af).map bB) (((ring b).filter λ_=>af).map λ_=>.int 1):=by unfold dc DS eL jX;refine O (fE ..) (O bO (O bO (O bO (O bO ?_))));rfl
 refine O e ?_;refine CU.Iz (kf:=.int) (as:=ring b) (p:=λ_=>af) (g:=bB) (f:=λ_=>.int 1) c z (IT.list (ts:=(ring b).map .int) d (.inl rfl) c.live (EV.sub (EV.name c (by exact w)) EV.int (cS.list dk dk ?_))) (λa m C F Y h c k=>TS.nil) (λI m _ C F Y h c k=>?_) (λI m _ C F Y h c J k=>EV.int) (by exact O (fE ..) i) (cC S);.exact map_getD (l:=b) (f:=LI) (d:=[]) (i:=0) (JI.mpr g)
 .refine aV (Z I m) λD h1=>?_;exact EV.sub (EV.name c (by exact r)) (EV.name c) (cS.list D (eF h1) (BG D h1))
end
theorem LQ{l:List (List (List Int))}(h:∀c∈l,c∈e8 r5):(dG l).length<=5*l.length:=by
 have:∀(l:List (List (List Int)))(d:Tab),(∀c∈l,c∈e8 r5)->(l.foldl (λd c=>jH d (jX c)) d).length<=d.length+5*l.length:=by intro l;induction l with|nil=>intro d _;exact cQ _|cons c l G=>intro d h;have h1:=EC ⟨0,0,0,0,d⟩ ⟨0,0,0,0,jX c⟩;have J:=(ED c (h c (aP ..))).2.1;have R:=G (jH d (jX c)) λx m=>h x (aY _ m);have Y:(jX c).length=(ring c).length:=aH ..;have y:(jH d (jX c)).length<=d.length+(jX c).length:=h1;exact O pJ (O fC (aZ R (aZ (qv (aZ y (iy (jz Y J) _)) _) (dh ((jL _ 5 _).trans (rQ ..))))))
 have:=this l [] h;rw[qC]at this;unfold dG;exact aZ this (dh (jm _ _))
theorem wm(W:List (List Int)):∀c∈cI W,c∈e8 r5:=λc m=>(d7.mp m).1
theorem Eg(W:List (List Int)):(cI W).length<=59:=by have:=nM (ny (ig W)) (e8 r5);rw[LP]at this;exact this
section
variable{A:aF}{N B s:aq}{Z:List ah}{P:Gm}{L:ah}{E:aj->aq->Prop}
def gE(g:Gm)(W:List (List Int))(h:Tab):Gm:=upd (upd (upd g "rank" (b7 (ig W))) "firm" (WT (cI W))) "odd" (dc h)
theorem xcb{W:List (List Int)}{n:Nat}{p F:List Int}{G:List ai}{M:bG}{Q:ek->aq->Prop}(Y:Kp hH N.heap)(u:cF A (n+1))(C:tF L)(I:fR W)(f:FS [PL] N B s Z (aU L) (gD p F W G M) [])(X:∀y,FS [PL] N B y Z (aU L) (gE (gD p F W G M) W (dG (cI W))) []->au (az PW w) A (b8 ((bodyOf (aO PW 27)).drop 14) (aU L)) Q E y):au (az PW w) A (b8 ((bodyOf (aO PW 27)).drop 11) (aU L)) Q E s:=by
 have g:=u.hd;have z:=C "rank" (.inr (by kernel_rfl));have S:=C "firm" (.inl (by kernel_rfl));have h:=C "odd" (.inr (by kernel_rfl));have D:=C "cycles" (.inl (by kernel_rfl));refine@bY _ _ _ _ _ _ _ (@FS.set _ _ _ _ _ _ _ _ _ _ _ _ _ _ (b7 (ig W)) _ f z.1 z.2 (EF.ev (CU.ef (xag g I f.cx (by rfl) (by rfl)) f.cx.live)) (λU _ f=>⟨rfl,?_⟩) rfl);refine@bY _ _ _ _ _ _ _ (@FS.E5 _ _ _ _ _ _ _ _ _ _ ["firm","odd"] [_,_] _ _ _ _ _ _ _ [WT (cI W),dc []] _ g f (@EL.cons _ _ _ _ _ _ _ _ _ (EF.ev (CU.ef (xah Y f.ks.kp u f.cx (by rfl) (by rfl) (by rfl)) f.cx.live)) (@EL.cons _ _ _ _ _ _ _ _ _ (EV.HK (EM.Bg ((xj Y).imp λo e=>f.ks.kp _ _ e)) f.cx.live) (@EL.nil _ _ _ _ _) rfl) rfl) rfl (show 2<=100000 by decide) (λJ f=>⟨rfl,?_⟩) ?_ rfl rfl rfl rfl)
 .refine@bY _ _ _ _ _ _ _ (FS.for (as:=cI W) (kf:=b7) (cU:=λl=>gE (gD p F W G M) W (dG l)) (iw:=λl a=>upd (gE (gD p F W G M) W (dG l)) "cycles" (b7 a)) (Mf:=λ_=>[]) (λl=>l.length<=59) (jo _) (f.less λx t e=>e) (IT.list g (.inl rfl) f.cx.live (EV.name f.cx)) (λ_=>rfl) (λl a _=>AS.name D.1 D.2) (λl b V H wr j E f K=>?_) λj _ f=>⟨rfl,X j f⟩);have i:b∈cI W:=qN V;have k:∀c∈l,c∈e8 r5:=λc m=>wm W c (MD V m);have d:l.length+1<=59:=by refine aC V λr e=>?_;have:=Eg W;rw[e,cK,fC]at this;exact gO (e7 _ _) this
  have q:=wm W b i;have R:=LQ k;have l2:=(ED b q).2.1;have l3:(jX b).length=(ring b).length:=aH ..;have T:∃o,j.heap.get? eo=aa o:=(xj Y).imp λo e=>f.ks.kp _ _ e;refine@di _ _ _ _ _ _ (@FS.set _ _ _ _ _ _ _ _ _ _ _ _ _ _ (dc (dG (l++[b]))) _ f h.1 h.2 (EV.xr (ts:=[dc (dG l),dc (jX b)]) f.cx (by rfl) (GL.kp (Y.trans f.ks.kp)) (EL.cons (EV.name f.cx) (EL.cons (EF.ev (CU.ef (xai g q f.cx T (by rfl) (by rfl)) f.cx.live)) EL.nil)) ?_ (by kernel_rfl) (by rfl)) (λv _ f=>⟨by exact O cK d,f.less ?_⟩) rfl);.exact O (Yw ..) (Jq u ⟨Y.trans f.ks.kp,f.cx.live,f.cx.ok.eN,f.cx.ok.blt⟩ (aZ R (cC (mY 5 H))) (iW l2 l3))
  .show bq _ _;unfold gE;exact bq.iM (bq.iM (bq.iM (bq.out (bq.out (bq.out (bq.out (bq.out (bq.refl _) (by kernel_rfl)) (by kernel_rfl)) (by kernel_rfl)) (by kernel_rfl)) (by kernel_rfl)) (by rfl)) (by rfl)) (by rfl)
 .exact dP S (dP h nD)
end
theorem Oz(i:Int):TE 1 (.int i) (.int i):=.flat rfl
theorem uB{L:Type}{n:Nat}{f:L->T}(h:∀a,TE n (f a) (f a))(l:List L):TE (n+1) (.list (l.map f)) (.list (l.map f)):=.list rfl λi t u a b=>by replace b:=a▸b;cases b;refine aG (bE.mp (eO a)) λx _ z=>?_;subst z;exact h x
theorem OA(h:∀t∈l,TE n t t):TE (n+1) (.tup l) (.tup l):=.tup rfl λi t u a b=>by replace b:=a▸b;cases b;exact h t (eO a)
theorem xcc(i:Int):TE 2 (lA i) (lA i):=OA λt m=>by simp only[bA,b9,or_false]at m;rcases m with rfl|rfl<;>exact .flat rfl
noncomputable def IY(h:Tab):List Int:=if h.length=1 then h.map λp=>(gJ.idxOf p.1:Int)else[]
structure zh(W:List (List Int))(M:bG):Prop where
n:([1,3,5]:List Int).contains ((dG (cI W)).length:Int)=af
v:(dG (cI W)).map (·.2)=eH (dG (cI W)).length ((cI W).length:Int)k:∀p∈dG (cI W),p.1∈gJ
a:M.alone=IY (dG (cI W))
section
variable{A:aF}{X:List ah}{h:aA}{P:Gm}{L:ah}{E:aj->aq->Prop}
theorem xu(a:Tab):(eL a).map (·.1)=a.map (·.1):=bO ..
theorem GV(a:Tab):(eL a).map (·.2)=(a.map (·.2)).map .int:=by unfold eL;refine O bO (O bO ?_);rfl
theorem xcd{W:List (List Int)}{M:bG}(d:A.handled=ak)(Z:A.units+3<fy)(H:zh W M)(I:(dG (cI W)).length<=1000)(c:CX X h (aU L) P)(U:P "odd"=aa (dc (dG (cI W))))(f:P "firm"=aa (WT (cI W)))(B:P "len"=aa (.aI (.builtin "len")))(r:P "list"=aa (.aI (.type "list"))):TV A (aU L) h (valOf (fP 14)) av:=by
 have V:=Eg W;have a:∀{b p1 p2:aR},EV A (aU L) X h (.Call (.Name "len" b) [.Name "odd" p1] [] p2) (.int (dG (cI W)).length):=λ{b p1 p2}=>by have:=CA.HL (A:=A) (X:=X) (h₀:=h) (ks:=(eL (dG (cI W))).map (·.1)) (vs:=(eL (dG (cI W))).map (·.2)) (by exact O (xu ..) (O (aH ..) (cC I)));rw[aH,eL,aH]at this;exact EV.cP (EV.glob c B) rfl (EL.cons (EV.name c U (by kernel_rfl)) EL.nil) this
 have e:∀{b p1 p2:aR},EV A (aU L) X h (.Call (.Name "len" b) [.Name "firm" p1] [] p2) (.int (cI W).length):=λ{b p1 p2}=>by have:=CA.zp (A:=A) (X:=X) (h₀:=h) (l:=(cI W).map b7) (by exact O (aH ..) (cC V));rw[aH]at this;exact EV.cP (EV.glob c B) rfl (EL.cons (EV.name c f (by kernel_rfl)) EL.nil) this
 refine TV.rD (b:=av||(av||av)) (AT.or (TV.cmp (X:=X) (t:=.int (dG (cI W)).length) (u:=.tup (([1,3,5]:List Int).map .int)) (b:=av) a (EV.tup c.live (EL.cons EV.int (EL.cons EV.int (EL.cons EV.int EL.nil)))) ?_) λ_=>AT.or (TV.cmp (X:=X) (t:=.list ((eL (dG (cI W))).map (·.2))) (u:=.list (eH (dG (cI W)).length (.int (cI W).length))) (b:=av) ?_ ?_ ?_) λ_=>AT.Bt);.have:=aX.xbS (A:=A) (X:=X) (h₀:=h) (l:=[1,3,5]) (i:=((dG (cI W)).length:Int));rw[H.n]at this;exact this
 .exact EV.F2 (P:=VV X ((eL (dG (cI W))).map (·.1)) ((eL (dG (cI W))).map (·.2))) (EV.glob c (by exact r)) rfl (xX.values (EV.name c (by exact U))) λs E v k p=>VV.list d (c.live.kp k) (by exact O (xu ..) (O (aH ..) (cC I))) (by exact O (xu ..) (O (GV ..) (O (aH ..) (O (aH ..) (O (aH ..) rfl))))) p
 .exact EF.ev (EF.rZ (k:=((dG (cI W)).length:Int)) c.live (EV.list c.live (EL.cons e EL.nil)) a (iP _) (PU I))
 .refine O (GV ..) (O H.v (O Xk ?_));have:=uB Oz (eH (dG (cI W)).length ((cI W).length:Int));rw[Xk]at this;exact aX.q6 this (rL Z) (.inl ⟨_,rfl⟩)
theorem Yx{W:List (List Int)}{M:bG}(d:A.handled=ak)(Z:A.units+3<fy)(H:zh W M)(I:(dG (cI W)).length<=1000)(c:CX X h (aU L) P)(w:P "alone"=aa (.list (M.alone.map lA)))(U:P "odd"=aa (dc (dG (cI W))))(r:P "names"=aa NM)(B:P "len"=aa (.aI (.builtin "len"))):TV A (aU L) h (valOf (fP 15)) av:=by
 have e:(.list (M.alone.map lA):T)=.list ((((dG (cI W)).map (·.1)).filter λ_=>decide ((dG (cI W)).length=1)).map λx=>lA (gJ.idxOf x)):=by
  refine O H.a ?_;unfold IY;by_cases q:(dG (cI W)).length=1;.refine O (if_pos q) (O (decide_eq_true q) (O (fE ..) (O bO (O bO ?_))));rfl
  .refine O (if_neg q) (O (decide_eq_false q) ?_);simp
 refine O (show valOf (fP 15)=C6 _ _ _ _ from rfl) ?_;refine TV.cmp (X:=X) (EV.name c (by exact w)) (u:=.list (M.alone.map lA)) (EF.ev (CU.ef ?_ c.live)) (aX.q6 (uB xcc M.alone) Z (.inl ⟨_,rfl⟩));refine O e ?_;refine@CU.l1 A _ X h P ai _ _ _ _ _ _ _ T.str _ _ _ c ?_ (λa m C F Y h c k=>?_) (λx m _ C F Y h c J k=>?_) ?_ ?_ ?_ ?_;.exact aQ (xu ..) (IT.Pc d rfl c.live (EV.name c (by exact U)))
 .have:=CA.HL (A:=A) (X:=Y) (h₀:=h) (ks:=(eL (dG (cI W))).map (·.1)) (vs:=(eL (dG (cI W))).map (·.2)) (by exact O (xu ..) (O (aH ..) (cC I)));rw[aH,eL,aH]at this;have b:decide ((dG (cI W)).length=1)=(((dG (cI W)).length:Int)==1):=by rw[tY,decide_eq_true_eq,beq_iff_eq];exact Int.ofNat_inj.symm
  exact O b (TS.one (TV.cmp (X:=Y) (EV.cP (EV.glob c (by exact B)) rfl (EL.cons (EV.name c (by exact U)) EL.nil) this) EV.int aX.eq))
 .refine aG (bE.mp m) λp Q z=>?_;subst z;exact EV.tup c.live (EL.cons (EV.yV (EV.name c (by exact r)) (EV.name c) (H.k p Q) dk) (EL.cons EV.bool EL.nil))
 .exact O (aH ..) (cC I)
 .kernel_rfl
 .kernel_rfl
 .intro _;rfl
end
noncomputable def bH(f:List Int):List Int:=f.map λp=>if p+1<4 then p+1 else 4
def Bk(W:List (List Int))(f:List Int)(g:Int):Int:=gi (oM W f g++[-1]) 0
def keepsP(W:List (List Int))(f:List Int):List Int:=r5.map (Bk W f)
def uC(n:Int):ai:=zu 46 (1+n).toNat
def o7(f:List Int):List ai:=f.map uC
def ee(W:List (List Int))(f:List Int)(I:Int):List Int:=(bz W I).take (gi f I).toNat
def w5(W:List (List Int))(f b:List Int)(I:Int):List (ai×T):=((ee W f I).filter λa=>gi b a !=I).map λa=>(bB a,jg a)
def sH(W:List (List Int))(f b:List Int):List (List (ai×T)):=r5.map (w5 W f b)
theorem MX(c:fS f)(D:0<=i)(h1:i<5):gi (bH f) i=if gi f i+1<4 then gi f i+1 else 4:=by
 have V:i.toNat<f.length:=by exact O c.len (toNat_lt D h1)
 unfold bH gi;refine O cz (O cz (O eS (O (cy V) ?_)));rfl
theorem yL(c:fS f)(D:0<=i)(h1:i<5):1<=gi (bH f) i/\gi (bH f) i<=4:=by
 have:=c.el i D h1;refine O (MX c D h1) ?_;split;.exact⟨UG this.1,kN ‹_›⟩
 .exact⟨jj,jj⟩
theorem wB(c:fS f):∀x∈bH f,1<=x/\x<=4:=λx m=>by
 refine aG (bE.mp m) λp Q z=>z▸?_;have b:=c.mem p Q;by_cases h:p+1<4;.exact O (if_pos h) ⟨UG b.1,kN h⟩
 .exact O (if_neg h) ⟨jj,jj⟩
section
variable{A:aF}{X:List ah}{h:aA}{P:Gm}{L:ah}{E:aj->aq->Prop}
theorem xaj{f:List Int}(d:A.handled=ak)(Z:f.length=5)(c:CX X h (aU L) P)(w:P "came"=aa (LI f))(B:P "min"=aa (.aI (.builtin "min"))):CU A (aU L) X h (valOf (fP 17)) (LI (bH f)):=by
 have e:LI (bH f)=.list ((f.filter λ_=>af).map λp=>.int (if p+1<4 then p+1 else 4)):=by unfold bH LI;rw[fE,bO]<;>rfl
 refine O e ?_;exact CU.l1 (kf:=.int) (as:=f) (p:=λ_=>af) (f:=λp=>.int (if p+1<4 then p+1 else 4)) c (IT.list d (.inl rfl) c.live (EV.name c (by exact w))) (λa m C F Y h c k=>TS.nil) (λq m _ C F Y h c J k=>EV.cP (EV.glob c (by exact B)) rfl (EL.cons EV.int (EL.cons (EV.bin (EV.name c) EV.int bD.add) EL.nil)) (CA.min2 d)) (by refine O Z ?_;decide)
theorem Yy(d:A.handled=ak)(t:fR W)(D:fS f)(c:CX X h (aU L) P)(u:P "wishes"=aa (b7 W))(w:P "came"=aa (LI f))(gr:P "range"=aa (.aI (.type "range"))):CU A (aU L) X h (valOf (fP 18)) (LI (keepsP W f)):=by
 have e:LI (keepsP W f)=.list ((r5.filter λ_=>af).map λa=>.int (Bk W f a)):=by unfold keepsP LI;rw[fE,bO]<;>rfl
 refine O e ?_;have Q:=D.len;refine CU.l1 (kf:=.int) (as:=r5) (p:=λ_=>af) (f:=λa=>.int (Bk W f a)) c (IT.lg d c gr) (λa m C F Y h c k=>TS.nil) (λg m _ C F Y h c J k=>?_) dk;have I:(oM W f g).length<=5:=nM _ _;refine EV.sub (t:=LI (oM W f g++[-1])) (u:=.int 0) (EV.bin (t:=LI (oM W f g)) (u:=LI [-1]) (EF.ev (CU.ef (CU.l1 (kf:=.int) (f:=.int) c (IT.lg d c (by exact gr)) (λo m C F Y h c k=>?_) (λa m _ C F Y h c _ k=>EV.name c) dk (by kernel_rfl)) c.live)) (EV.list c.live (EL.cons (EV.neg EV.int) EL.nil)) ?_) EV.int (cS.list dk dk ?_);.have b:=aE.mp m;refine TS.one (TV.rD (AT.and (TV.cmp (X:=Y) (EV.gi (EV.name c (by exact w)) (EV.name c) b.1 (by exact O Q b.2) (by refine O Q ?_;decide)) EV.int aX.lt) λR=>?_));have R:=of_decide_eq_true R;exact AT.and (TV.cmp (X:=Y) (EV.bu t (EV.name c (by exact u)) (EV.name c) (EV.gi (EV.name c (by exact w)) (EV.name c) b.1 (by exact O Q b.2) (by refine O Q ?_;decide)) b.1 b.2 (D.el o b.1 b.2).1 R) (EV.name c) aX.eq) λ_=>AT.yS
 .have:=bD.QA (A:=A) (X:=Y) (h₀:=h) (a:=(oM W f g).map .int) (b:=([-1]:List Int).map .int) c.live (by refine O (aH ..) (O (aH ..) ?_);show _+1<=_;exact zl I);rw[<-fY]at this;exact this
 .exact map_getD (l:=oM W f g++[-1]) (f:=T.int) (d:=0) (i:=0) (by exact O cK (qE _))
theorem xak(d:A.handled=ak)(D:fS f)(c:CX X h (aU L) P)(w:P "asks"=aa (LI (bH f))):CU A (aU L) X h (valOf (fP 19)) (bZ (o7 (bH f))):=by
 have e:bZ (o7 (bH f))=.list (((bH f).filter λ_=>af).map λn=>.str (uC n)):=by unfold o7 bZ;rw[fE,bO]<;>rfl
 refine O e ?_;refine CU.l1 (kf:=.int) (as:=bH f) (p:=λ_=>af) (f:=λn=>.str (uC n)) c (IT.list d (.inl rfl) c.live (EV.name c (by exact w))) (λa m C F Y h c k=>TS.nil) (λq m _ C F Y h c J k=>?_) (by unfold bH;refine O (aH ..) (O D.len ?_);decide);have R:=wB D q m;exact EV.bin (t:=.str ⟨#[46]⟩) EV.str (EV.bin EV.int (EV.name c) bD.add) (bD.xbQ (kN (La (uh _) R.1)) (gG (mH (jO _ _)) (jM R.2 jj)))
end
theorem uD:∀i∈r5,∀j∈r5,bB i=bB j->i=j:=dk
theorem Eh{L N:Type}{f:L->N}:∀{l:List L},(∀x∈l,∀y∈l,f x=f y->x=y)->l.Nodup->(l.map f).Nodup|[],_,_=>t7|a::l,h,n=>by refine aV (mC.mp n) λU P=>?_;refine O f6 ?_;refine mC.mpr ⟨λm=>?_,Eh (λx S y Z=>h x (aY _ S) y (aY _ Z)) P⟩;refine aG (bE.mp m) λb R e=>?_;exact U (h b (aY _ R) a (aP ..) e▸R)
def y9(j o r:List ai)(I:Int):ai:=bK j I++"\r\n\r\n"++bK r I++bK o I++"\r\n"++bK r I
def sf(j o r:List ai):List ai:=r5.map (y9 j o r)
section
variable{A:aF}{X:List ah}{h:aA}{P:Gm}{L:ah}{E:aj->aq->Prop}
theorem xce{W:List (List Int)}{f b:List Int}(d:A.handled=ak)(z:∃o,h.get? eo=aa o)(t:fR W)(l:∀i∈r5,(bz W i).Nodup)(K:f.length=5)(n:∀i∈r5,0<=gi f i)(N:b.length=5)(c:CX X h (aU L) P)(u:P "wishes"=aa (b7 W))(w:P "asks"=aa (LI f))(p:P "keeps"=aa (LI b))(r:P "names"=aa NM)(gr:P "range"=aa (.aI (.type "range"))):CU A (aU L) X h (valOf (fP 20)) (.list ((sH W f b).map DS)):=by
 have e:(.list ((sH W f b).map DS):T)=.list ((r5.filter λ_=>af).map λI=>DS (w5 W f b I)):=by unfold sH;refine O (fE ..) (O bO ?_);rfl
 refine O e ?_;refine CU.l1 (kf:=.int) (as:=r5) (p:=λ_=>af) (f:=λI=>DS (w5 W f b I)) c (IT.lg d c gr) (λa m C F Y h c k=>TS.nil) (λI m _ C F Y h c J k=>?_) (by decide);have g:DS (w5 W f b I)=.dS (((ee W f I).filter λa=>gi b a !=I).map bB) (((ee W f I).filter λa=>gi b a !=I).map jg):=by unfold DS w5;refine O bO (O bO ?_);rfl
 refine O g ?_;refine aV (aE.mp m) λD h1=>?_;have j:∀a∈ee W f I,0<=a/\a<5:=λa s=>let⟨x,y,_⟩:=t.el I D h1 a (nO s);⟨x,y⟩;refine EF.ev (CU.ef (@CU.Iz A _ Y h _ Int _ _ _ _ _ _ _ _ T.int (ee W f I) (λa=>gi b a !=I) bB jg c (z.imp λ_ e=>k _ _ e) ?_ (λa s C F Y h c k=>TS.one ?_) (λa s _ C F Y h c k=>?_) (λa s _ C F Y h c J k=>?_) ?_ ?_ (by kernel_rfl) (by kernel_rfl) (by intro _;rfl)) c.live);.refine O (show(ee W f I).map T.int=((bz W I).map T.int).take (gi f I).toNat from D3 ..) ?_;exact IT.list d (.inl rfl) c.live (EV.F3 c.live (EV.bz t (EV.name c (by exact u)) (EV.name c) D h1) (EV.gi (EV.name c (by exact w)) (EV.name c) D (by exact O K h1) (by refine O K ?_;decide)) (n I m) (by refine O (aH ..) (O (t.row I D h1) ?_);decide))
 .refine aV (j a s) λH q=>?_;exact TV.cmp (X:=Y) (EV.gi (EV.name c (by exact p)) (EV.name c) H (by exact O N q) (by refine O N ?_;decide)) (EV.name c) aX.ne
 .refine aV (j a s) λH q=>?_;exact EV.sub (EV.name c (by exact r)) (EV.name c) (cS.list H (eF q) (BG H q))
 .exact EV.tup c.live (EL.cons (EV.bin EV.int (EV.name c) bD.add) (EL.cons EV.bytes (EL.cons EV.bool EL.nil)))
 .refine Eh (λx S y Z e=>?_) ((xht Xb (Dm _ _)).nodup (l I m));exact uD x (aE.mpr (j x (d7.mp S).1)) y (aE.mpr (j y (d7.mp Z).1)) e
 .unfold ee;exact O jC (O (t.row I D h1) (aZ (tS _ _) (by decide)))
theorem Yz{j o r:List ai}(J:A.handled=ak)(W:j.length=5)(d:o.length=5)(U:r.length=5)(z:∀i,(bK j i).length<=10)(w:∀i,(bK o i).length<=10)(t:∀i,(bK r i).length<=10)(c:CX X h (aU L) P)(f:P "shields"=aa (bZ j))(u:P "words"=aa (bZ o))(M:P "dots"=aa (bZ r))(gr:P "range"=aa (.aI (.type "range"))):CU A (aU L) X h (sR (sR (valOf (fP 21)) 2) 1) (bZ (sf j o r)):=by
 have e:bZ (sf j o r)=.list ((r5.filter λ_=>af).map λI=>.str (y9 j o r I)):=by unfold sf bZ;refine O (fE ..) (O bO ?_);rfl
 refine O e ?_;refine CU.l1 (kf:=.int) (as:=r5) (p:=λ_=>af) (f:=λI=>.str (y9 j o r I)) c (IT.lg J c gr) (λa m C F Y h c k=>TS.nil) (λI m _ C F Y h c N k=>?_) dk;refine aV (aE.mp m) λD h1=>?_;have n:∀{G:aN}{P:Gm}{x y:ai}{l:List ai}{p1 p2 p3:aR},CX Y h G P->P x=aa (bZ l)->P y=aa (.int I)->isVar G x=af->isVar G y=af->l.length=5->(bK l I).length<=10->ES A G Y h (.Subscript (.Name x p1) (.Name y p2) p3) (bK l I) 10:=λ{G P x y l p1 p2 p3}c g s v q V b=>⟨EV.sub (EV.name c g v) (EV.name c s q) (cS.list D (eF h1) (map_getD (l:=l) (f:=T.str) (d:="") (by exact O V (toNat_lt D h1)))),b⟩;have K:=λ{p1 p2 p3:aR}=>n (x:="shields") (y:="who") (p1:=p1) (p2:=p2) (p3:=p3) c (by exact f) (by rfl) (by kernel_rfl) (by kernel_rfl) W (z I);have H:=λ{p1 p2 p3:aR}=>n (x:="words") (y:="who") (p1:=p1) (p2:=p2) (p3:=p3) c (by exact u) (by rfl) (by kernel_rfl) (by kernel_rfl) d (w I);have aD:=λ{p1 p2 p3:aR}=>n (x:="dots") (y:="who") (p1:=p1) (p2:=p2) (p3:=p3) c (by exact M) (by rfl) (by kernel_rfl) (by kernel_rfl) U (t I);have R:∀{G:aN}{k:Nat}{p:aR},ES A G Y h (.Constant (.str "\r\n") k p) "\r\n" 10:=⟨EV.str,dk⟩;have B:∀{G:aN}{k:Nat}{p:aR},ES A G Y h (.Constant (.str "\r\n\r\n") k p) "\r\n\r\n" 10:=⟨EV.str,dk⟩;exact(((((K.cat B dk).cat aD dk).cat H dk).cat R dk).cat aD dk).1
end
structure GW(W:List (List Int))(j o:List ai)(M:bG):Prop where ck:fS (rounds W)held:M.held=keepsP W (rounds W)ref:TE 3 (.list (M.refused.map DS)) (.list ((sH W (bH (rounds W)) (keepsP W (rounds W))).map DS))bW:M.bW=sf j o (o7 (bH (rounds W)))
theorem xcf(x:ai):TE 1 (.str x) (.str x):=.flat rfl
section
variable{A:aF}{X:List ah}{h:aA}{P:Gm}{L:ah}{E:aj->aq->Prop}
theorem WK{W:List (List Int)}{j o r:List ai}{M:bG}{b:List Int}{a:List (List (ai×T))}(k:A.handled=ak)(Z:A.units+6<fy)(h1:M.held=b)(J:TE 3 (.list (M.refused.map DS)) (.list (a.map DS)))(R:M.bW=sf j o r)(g:j.length=5)(C:o.length=5)(d:r.length=5)(z:∀i,(bK j i).length<=10)(w:∀i,(bK o i).length<=10)(t:∀i,(bK r i).length<=10)(c:CX X h (aU L) P)(B:P "held"=aa (LI M.held))(e:P "keeps"=aa (LI b))(U:P "refused"=aa (.list (M.refused.map DS)))(s:P "due"=aa (.list (a.map DS)))(y:P "mails"=aa (bZ M.bW))(f:P "shields"=aa (bZ j))(u:P "words"=aa (bZ o))(l:P "dots"=aa (bZ r))(gr:P "range"=aa (.aI (.type "range"))):TV A (aU L) h (valOf (fP 21)) av:=by
 refine TV.rD (b:=av||(av||(av||av))) (AT.or (TV.cmp (X:=X) (t:=LI M.held) (u:=LI b) (b:=av) (EV.name c (by exact B)) (EV.name c (by exact e)) ?_) λ_=>AT.or (TV.cmp (X:=X) (b:=av) (EV.name c (by exact U)) (EV.name c (by exact s)) (aX.q6 J (lU Z) (.inl ⟨_,rfl⟩))) λ_=>AT.or (TV.cmp (X:=X) (t:=bZ M.bW) (u:=bZ (sf j o r)) (b:=av) (EV.name c (by exact y)) (EF.ev (CU.ef (Yz k g C d z w t c f u l gr) c.live)) ?_) λ_=>AT.Bt);.exact O h1 (aX.q6 (uB Oz b) (lU Z) (.inl ⟨_,rfl⟩))
 .exact O R (aX.q6 (uB xcf _) (lU Z) (.inl ⟨_,rfl⟩))
end
section
variable{A:aF}{N B s:aq}{Z:List ah}{P:Gm}{L:ah}{E:aj->aq->Prop}
abbrev zM(p F:List Int)(W:List (List Int))(G:List ai)(M:bG):Gm:=gE (gD p F W G M) W (dG (cI W))
def gF(g:Gm)(W:List (List Int)):Gm:=upd (upd (upd (upd (upd g "came" (LI (rounds W))) "asks" (LI (bH (rounds W)))) "keeps" (LI (keepsP W (rounds W)))) "dots" (bZ (o7 (bH (rounds W))))) "due" (.list ((sH W (bH (rounds W)) (keepsP W (rounds W))).map DS))
theorem xcg{W:List (List Int)}{n:Nat}{p F:List Int}{G:List ai}{M:bG}{Q:ek->aq->Prop}(u:cF A (n+1))(H:zh W M)(f:FS [PL] N B s Z (aU L) (zM p F W G M) [])(X:∀a,FS [PL] N B a Z (aU L) (zM p F W G M) []->au (az PW w) A (b8 ((bodyOf (aO PW 27)).drop 16) (aU L)) Q E a):au (az PW w) A (b8 ((bodyOf (aO PW 27)).drop 14) (aU L)) Q E s:=by
 have d:=u.hd;have b:A.units+3<fy:=by have:=u.jJ;show _<9900;exact ry _ this
 have I:(dG (cI W)).length<=1000:=aZ (LQ (wm W)) (cC (mY 5 (Eg W)));refine@bY _ _ _ _ _ _ _ (@FS.cond _ _ _ _ _ _ _ _ _ _ _ _ _ _ av _ f (xcd d b H I f.cx (by rfl) (by rfl) (by rfl) (by rfl)) (λe=>by cases e) λ_ U f=>iA ⟨rfl,?_⟩);exact@bY _ _ _ _ _ _ _ (@FS.cond _ _ _ _ _ _ _ _ _ _ _ _ _ _ av _ f (Yx d b H I f.cx (by rfl) (by rfl) (by rfl) (by rfl)) (λe=>by cases e) λ_ J f=>iA ⟨rfl,X J f⟩)
theorem xal{W:List (List Int)}(D:fS (rounds W))(i:Int):(bK (o7 (bH (rounds W))) i).length<=10:=by unfold bK;refine O cz ?_;cases e:(o7 (bH (rounds W)))[i.toNat]? with|none=>exact(by decide:(0:Nat)<=10)|some x=>refine aG (bE.mp (eO e)) λq j z=>?_;subst z;show(eH _ 46).toArray.size<=10;exact O iZ (O Jt (El.mpr (eF (Xj (wB D q j).2 1))))
theorem OB{l:List ai}{n:Nat}(h:∀x∈l,x.length<=n)(i:Int):(bK l i).length<=n:=by unfold bK;refine O cz ?_;cases e:l[i.toNat]? with|none=>exact jo _|some x=>exact h x (eO e)
theorem VT{F:List Int}:∀x∈(ju F).map kR,x.length<=10:=λx m=>by refine aG (bE.mp m) λp _ z=>?_;subst z;exact(by decide:1<=10)
theorem YA{F:List Int}:∀x∈lq F,x.length<=10:=λx m=>by refine aG (bE.mp m) λq _ z=>?_;subst z;exact aZ LN dk
theorem xdU{W:List (List Int)}{n:Nat}{p F:List Int}{c:List ai}{M:bG}{Q:ek->aq->Prop}(Y:Kp hH N.heap)(u:cF A (n+1))(C:tF L)(y:F.length=5)(t:fR W)(l:∀i∈r5,(bz W i).Nodup)(H:GW W ((ju F).map kR) (lq F) M)(f:FS [PL] N B s Z (aU L) (zM p F W c M) [])(X:∀h,FS [PL] N B h Z (aU L) (gF (zM p F W c M) W) []->au (az PW w) A (b8 ((bodyOf (aO PW 27)).drop 22) (aU L)) Q E h):au (az PW w) A (b8 ((bodyOf (aO PW 27)).drop 16) (aU L)) Q E s:=by
 have d:=u.hd;have V:=C "came" (.inr (by kernel_rfl));have b:=C "asks" (.inr (by kernel_rfl));have r:=C "keeps" (.inr (by kernel_rfl));have v:=C "dots" (.inr (by kernel_rfl));have a:=C "due" (.inl (by kernel_rfl));have D:=H.ck;refine@bY _ _ _ _ _ _ _ (@FS.set _ _ _ _ _ _ _ _ _ _ _ _ _ _ (LI (rounds W)) _ f V.1 V.2 (EV.xr (ts:=[b7 W]) f.cx (by rfl) (Od.kp (Y.trans f.ks.kp)) (EL.cons (EV.name f.cx) EL.nil) (T5 u ⟨Y.trans f.ks.kp,f.cx.live,f.cx.ok.eN,f.cx.ok.blt⟩ t) (by kernel_rfl) (by rfl)) (λU _ f=>⟨rfl,?_⟩) rfl);refine@bY _ _ _ _ _ _ _ (@FS.set _ _ _ _ _ _ _ _ _ _ _ _ _ _ (LI (bH (rounds W))) _ f b.1 b.2 (EF.ev (CU.ef (xaj d D.len f.cx (by rfl) (by rfl)) f.cx.live)) (λJ _ f=>⟨rfl,?_⟩) rfl);refine@bY _ _ _ _ _ _ _ (@FS.set _ _ _ _ _ _ _ _ _ _ _ _ _ _ (LI (keepsP W (rounds W))) _ f r.1 r.2 (EF.ev (CU.ef (Yy d t D f.cx (by rfl) (by rfl) (by rfl)) f.cx.live)) (λj _ f=>⟨rfl,?_⟩) rfl);refine@bY _ _ _ _ _ _ _ (@FS.set _ _ _ _ _ _ _ _ _ _ _ _ _ _ (bZ (o7 (bH (rounds W)))) _ f v.1 v.2 (EF.ev (CU.ef (xak d D f.cx (by rfl)) f.cx.live)) (λg _ f=>⟨rfl,?_⟩) rfl);have T:(bH (rounds W)).length=5:=by unfold bH;exact O (aH ..) (O D.len rfl)
 refine@bY _ _ _ _ _ _ _ (@FS.qO _ _ _ _ _ _ _ _ _ _ _ _ _ _ (.list ((sH W (bH (rounds W)) (keepsP W (rounds W))).map DS)) _ f a.1 a.2 (xce d ((xj Y).imp λo e=>f.ks.kp _ _ e) t l T (λi m=>by have:=yL D (aE.mp m).1 (aE.mp m).2;exact fW this.1) rfl f.cx (by rfl) (by rfl) (by rfl) (by rfl) (by rfl)) (λk f=>⟨rfl,?_⟩) rfl);exact@bY _ _ _ _ _ _ _ (@FS.cond _ _ _ _ _ _ _ _ _ _ _ _ _ _ av _ f (WK (W:=W) d (by have:=u.jJ;show _<9900;exact ry _ this) H.held H.ref H.bW (by exact O (aH ..) (O (Ax y) rfl)) (K4 y) (by unfold o7;exact O (aH ..) (O T rfl)) (OB VT) (OB YA) (xal D) f.cx (by rfl) (by rfl) (by rfl) (by rfl) (by rfl) (by rfl) (by rfl) (by rfl) (by rfl)) (λe=>by cases e) λ_ G f=>iA ⟨rfl,X G f⟩)
end
noncomputable abbrev cl(x:ai):List Nat:=x.cps.toList
noncomputable def ly(b:Bool)(l:List Nat):List Nat:=l.rec (motive:=λ_=>Bool->List Nat) (λ_=>[]) (λc _ i b=>if(b&&c==10)=af then i av else if c=13 then 13::10::i af else if c=10 then 13::10::i av else c::i av) b
noncomputable def pq(b:Bool)(l:List Nat):List Nat:=l.rec (motive:=λ_=>Bool->List Nat) (λ_=>[]) (λc _ i b=>if b&&c==46 then 46::46::i av else c::i (c==10)) b
theorem we:ly b (c::r)=if(b&&c==10)=af then ly av r else if c=13 then 13::10::ly af r else if c=10 then 13::10::ly av r else c::ly av r:=rfl
theorem Ay:pq b (c::r)=if b&&c==46 then 46::46::pq av r else c::pq (c==10) r:=rfl
def gK(l:List ai):List Nat:=(l.map cl).flatten
theorem JR{t:Array Nat}(h:s<b)(R:b<=t.size):(t.extract s b).toList=t.getD s 0::(t.extract (s+1) b).toList:=by have W:s<t.size:=iz h R;refine O V0 (O V0 (O TR (O (kH W) ?_)));refine O Uz (O Uz (O (CT (by simpa using W)) (O (Cm h) (O W5 ?_))));rfl
theorem LR{t:Array Nat}(h:s<b)(R:b<=t.size)(l:List ai):gK (cut t s b++l)=t.getD s 0::gK (cut t (s+1) b++l):=by
 unfold cut;refine O (if_pos h) ?_;by_cases h1:s+1<b;.refine O (if_pos h1) ?_;show(t.extract s b).toList++_=_::((t.extract (s+1) b).toList++_);refine O (JR h R) ?_;rfl
 .refine O (if_neg h1) ?_;show(t.extract s b).toList++_=_;refine O (JR h R) (O (CQ (l:=(t.extract (s+1) b).toList) (O dm (O W8 (zT (aZ (vY ..) (qB h1)))))) ?_);rfl
theorem LS{fd:Nat->Option (Nat×Nat)}{t:Array Nat}{r:ai}{n s:Nat}(W:s<t.size)(H:∀b e,fd (s+1)=some (b,e)->s+1<=b/\b<=t.size)(e:fd s=fd (s+1)):gK (fH fd t r (n+1) s)=t.getD s 0::gK (fH fd t r (n+1) (s+1)):=by show gK ((fd s).elim (cut t s t.size) λq=>cut t s q.1++r::fH fd t r n q.2)=_::gK ((fd (s+1)).elim (cut t (s+1) t.size) λq=>cut t (s+1) q.1++r::fH fd t r n q.2);refine O e ?_;cases h:fd (s+1)with|none=>have:=LR W (cQ _) [];rw[g8,g8]at this;exact this|some p=>exact LR (H p.1 p.2 h).1 (H p.1 p.2 h).2 _
theorem MY{fd:Nat->Option (Nat×Nat)}{t:Array Nat}{r:ai}{n s e:Nat}(h:fd s=aa (s,e)):gK (fH fd t r (n+1) s)=cl r++gK (fH fd t r n e):=by show gK ((fd s).elim _ λq=>cut t s q.1++r::fH fd t r n q.2)=_;refine O h ?_;show gK (cut t s s++r::_)=_;unfold cut;refine O (if_neg (v8 _)) ?_;rfl
theorem LU{fd:Nat->Option (Nat×Nat)}{t:Array Nat}{r:ai}{n s:Nat}(h:fd s=ak)(W:¬s<t.size):gK (fH fd t r (n+1) s)=[]:=by show gK ((fd s).elim (if s<t.size then _ else[]) _)=_;refine O h (O (if_neg W) ?_);rfl
theorem xam(h:c≠10):ly af (c::r)=ly av (c::r):=by refine O we (O we (O (beq_false_of_ne h) ?_));rfl
theorem A4{t:Array Nat}(W:s<t.size):t.toList.drop s=t.getD s 0::t.toList.drop (s+1):=by refine O TR (O (kH W) (O (CT (by simpa using W)) ?_));rfl
theorem LV{t:Array Nat}(W:s<t.size):kC t s=if qt (t.getD s 0)then aa (s,endAt t s)else kC t (s+1):=by unfold kC;exact O (Cm W) rfl
theorem LX{t:Array Nat}(W:s<t.size):kB t s=if sW t s then aa (s,s+1)else kB t (s+1):=by unfold kB;exact O (Cm W) rfl
theorem LY{t:Array Nat}{r:ai}(D:cl r=[13,10]):∀(k n s:Nat),t.size-s=k->k<=n->gK (fH (kC t) t r (n+1) s)=ly av (t.toList.drop s):=by intro k;induction k using Nat.strongRecOn with|_ k G=>
intro n s N K;by_cases a:s<t.size
.rw[A4 a,we,if_neg (show¬(av&&_)=af from qw)];by_cases J:qt (t.getD s 0)=af
 .have H:kC t s=aa (s,endAt t s):=by exact O (LV a) (O (if_pos J) rfl)
  refine O (MY H) (O D ?_);obtain⟨i,rfl⟩:=V8.mpr (iz (Y3 a) (jz N K));by_cases f:t.getD s 0=13
  .refine O (if_pos f) ?_;by_cases c:s+1<t.size
   .by_cases g:t.getD (s+1) 0=10
    .have d:endAt t s=s+2:=by unfold endAt;refine O f (O g (O (decide_eq_true c) ?_));rfl
     rw[d,G (t.size-(s+2)) (js5 N a) i (s+2) rfl (js4 N K),A4 c,g,we,if_pos (by rfl)];rfl
    .have d:endAt t s=s+1:=by unfold endAt;refine O (beq_false_of_ne g) (O (K7 ..) ?_);rfl
     refine O d (O (G (t.size-(s+1)) (zA N (rL c)) i (s+1) rfl (Cn N K)) (O (A4 c) (O (xam g) ?_)));rfl
   .have d:endAt t s=s+1:=by unfold endAt;refine O (decide_eq_false c) (O (K7 ..) ?_);rfl
    have B:t.toList.drop (s+1)=[]:=CZ (by exact O dm (qB c));refine O d (O (G (t.size-(s+1)) (zA N a) i (s+1) rfl (Cn N K)) (O B ?_));rfl
  .refine O (if_neg f) ?_;have g:t.getD s 0=10:=by
    unfold qt at J;rw[yi]at J;refine bw J (λh=>?_) λh=>?_;.exact eq_of_beq h
    .exact absurd (eq_of_beq h) f
   have d:endAt t s=s+1:=by unfold endAt;refine O (beq_false_of_ne f) ?_;rfl
   refine O (if_pos g) (O d (O (G (t.size-(s+1)) (zA N a) i (s+1) rfl (Cn N K)) ?_));rfl
 .have H:kC t s=kC t (s+1):=by exact O (LV a) (O (if_neg J) rfl)
  have S:t.getD s 0≠13/\t.getD s 0≠10:=by constructor<;>(intro q;rw[q]at J;exact J rfl)
  rw[LS a (λb e h=>Rg (Ol t (s+1) b e a h)) H,if_neg S.1,if_neg S.2];exact O (G (t.size-(s+1)) (zA N a) n (s+1) rfl (aZ (Nm _) (jz N K))) rfl
.have B:t.toList.drop s=[]:=CZ (O dm (qB a));have H:kC t s=ak:=by unfold kC;refine O (zT (qB a)) ?_;rfl
 refine O B (O (LU H a) ?_);rfl
theorem MZ{t:Array Nat}{r:ai}(D:cl r=[46,46]):∀(k n s:Nat),t.size-s=k->k<=n->gK (fH (kB t) t r (n+1) s)=pq (s==0||t.getD (s-1) 0==10) (t.toList.drop s):=by
 intro k;induction k with|zero=>
intro n s N K;have W:¬s<t.size:=λq=>Jw q N;have B:t.toList.drop s=[]:=CZ (O dm (qB W));have H:kB t s=ak:=by unfold kB;refine O (zT (qB W)) ?_;rfl
refine O B (O (LU H W) ?_);cases s==0||t.getD (s-1) 0==10<;>rfl|succ k G=>
intro n s N K;have W:s<t.size:=sO N;have f:(s+1==0||t.getD (s+1-1) 0==10)=(t.getD s 0==10):=by simp
refine O (A4 W) ?_;cases d:sW t s with|true=>
 have H:kB t s=aa (s,s+1):=by refine O (LX W) (O d ?_);rfl
 obtain⟨c,rfl⟩:=V8.mpr (iz (qE k) K);refine O (MY H) (O D (O (G c (s+1) (congrArg PI N) (Nat.le_of_succ_le_succ K)) (O f ?_)));unfold sW at d;have a:t.getD s 0=46:=by rw[dZ]at d;exact eq_of_beq d.2
 refine O Ay (O (if_pos d) (O a ?_));rfl|false=>
 have H:kB t s=kB t (s+1):=by refine O (LX W) (O d ?_);rfl
 rw[LS W (λb e h=>Rg (Oj t (s+1) b e W h)) H,G n (s+1) (congrArg PI N) (nR K),f];unfold sW at d;exact O Ay (O (if_neg (by rw[d];exact qw)) rfl)
theorem oS(x y:ai):cl (x++y)=cl x++cl y:=by show(x.cps++y.cps).toList=_;exact O tO rfl
theorem M0(h:cl x=cl y):x=y:=by obtain⟨a⟩:=x;obtain⟨b⟩:=y;exact congrArg Str.mk (Ny h)
theorem K5:∀(l:List ai)(i:Array Nat),(l.foldl (λi p=>i++(n7 "").cps++p.cps) i).toList=i.toList++gK l|[],i=>by show i.toList=i.toList++[];exact O (g8 ..) rfl|p::l,i=>by rw[pJ,K5 l,tO,tO,show(n7 "").cps.toList=[]by decide,g8,fT];rfl
theorem E8(f:List ai):cl (yP "" f)=gK f:=by cases f with|nil=>rfl|cons y f=>show(f.foldl (λi p=>i++(n7 "").cps++p.cps) y.cps).toList=_;refine O (K5 ..) ?_;rfl
theorem M1(x:ai):cl (rj x)=ly av (cl x):=by unfold rj xG;refine O (E8 ..) (O (LY (by decide) (x.cps.size-0) x.cps.size 0 rfl (yE _ _)) ?_);rfl
theorem xch(x:ai):cl (HH x)=pq af (cl x):=by unfold HH xG;refine O (E8 ..) (O (MZ (by decide) (x.cps.size-0) x.cps.size 0 rfl (yE _ _)) ?_);rfl
theorem LZ(x:ai):cl (gf x)=pq af (ly av (cl x)):=by unfold gf;exact O (xch ..) (O (M1 ..) rfl)
theorem M3:(cut t b e).length<=1:=by
 unfold cut;by_cases c:b<e;.exact O (if_pos c) (cQ _)
 .exact O (if_neg c) (jo _)
theorem L0{fd:Nat->Option (Nat×Nat)}{t:Array Nat}{r:ai}(n:Nat):∀s,(fH fd t r n s).length<=2*n:=by induction n with|zero=>exact λ_=>cQ _|succ n G=>intro s;show((fd s).elim (cut t s t.size) λq=>cut t s q.1++r::fH fd t r n q.2).length<=_;cases fd s with|none=>exact aZ M3 (gQ 1 (2*n+1))|some q=>show(cut t s q.1++r::fH fd t r n q.2).length<=_;refine O cK (O fC ?_);exact aZ (mE M3 (qA (G q.2))) (dh (jm 1 _))
theorem E9(l:List ai):(l.map (·.length)).sum=(gK l).length:=by induction l with|nil=>rfl|cons x l G=>exact O f6 (O rP (O G (cK (as:=cl x)).symm))
theorem A5{p:Prop}[Decidable p]{a b:List Nat}(h:a.length<=n)(k:b.length<=n):(if p then a else b).length<=n:=by
 by_cases c:p;.exact O (if_pos c) h
 .exact O (if_neg c) k
theorem L1(l:List Nat):∀b:Bool,(ly b l).length<=2*l.length:=by induction l with|nil=>exact λ_=>cQ _|cons c r G=>intro b;refine O we ?_;have h1:=z9 (tR (G af));have J:=z9 (tR (G av));exact A5 (eB (rL J)) (A5 h1 (A5 J (eB J)))
theorem xan(l:List Nat):∀b:Bool,(pq b l).length<=2*l.length:=by induction l with|nil=>exact λ_=>cQ _|cons c r G=>intro b;exact O Ay (A5 (z9 (tR (G av))) (eB (z9 (tR (G _)))))
theorem xci{x:ai}(h:(cl x).length<=1000):sD (kC x.cps) x "\r\n":=by have W:x.cps.size=(cl x).length:=dm.symm;have e:=LY (t:=x.cps) (r:="\r\n") (by decide) (x.cps.size-0) x.cps.size 0 rfl (yE _ _);have h1:=L1 (cl x) av;have J:=L0 (fd:=kC x.cps) (t:=x.cps) (r:="\r\n") (x.cps.size+1) 0;refine⟨cC h,?_⟩;refine O (E9 ..) (O e ?_);exact tw (aZ h1 (mY 2 h)) (aZ J (mY 2 (qA (jz W h))))
theorem xcj{x:ai}(h:(cl x).length<=1000):sD (kB x.cps) x "..":=by have W:x.cps.size=(cl x).length:=dm.symm;have e:=MZ (t:=x.cps) (r:="..") (by decide) (x.cps.size-0) x.cps.size 0 rfl (yE _ _);have h1:=xan (cl x) af;have J:=L0 (fd:=kB x.cps) (t:=x.cps) (r:="..") (x.cps.size+1) 0;refine⟨cC (jz W h),O (E9 ..) (O e ?_)⟩;exact tw (aZ h1 (mY 2 h)) (aZ J (mY 2 (qA (jz W h))))
def tn(w:List Nat)(n:Nat):List Nat:=[13,10,13,10]++eH (1+n) 46++w++[13,10]++eH (1+n) 46
def Cf(w e:List Nat):List Nat:=e++e++[46]++w++e++[46]
theorem WL:∀r∈gV,∀x∈r,∀e∈([[10],[13],[13,10]]:List (List Nat)),pq av (ly av (Cf (cl x) e))=tn (cl x) 1:=by decide
theorem WM:∀r∈gV,∀x∈r,∀n∈([1,2,3]:List Nat),pq av (ly av (tn (cl x) n))=tn (cl x) (n+1):=by decide
theorem Km(h:c≠10/\c≠13/\c≠46):pq af (ly av (c::r))=c::pq av (ly av r):=by rw[we,if_neg (show¬(av&&_)=af from qw),if_neg h.2.1,if_neg h.1,Ay,beq_false_of_ne h.2.2,beq_false_of_ne h.1];rfl
def CD(p:Int):Nat:=(if p<11 then uA.getD p.toNat 0 else 65013+p).toNat
def zv:List Nat:=(gc 27).map λp:Nat=>CD p
structure TabOk(S:Int->Bool)(b:Int->Option ai):Prop where
sh:∀c∈zv,S (c:Nat)=af
wd:∀q∈en 0 gV,∀x∈q.2,gK ((cl x).map (sgn S b))=cl (bB q.1)
structure MF(G j o:List ai)(i:Int)(c:Nat)(w:ai)(e:List Nat):Prop where
t:cl (bK G i)=c::Cf (cl w) e
s:bK j i=⟨#[c]⟩d:bK o i=w
w:(i,gV.getD i.toNat [])∈en 0 gV/\w∈gV.getD i.toNat []e:e∈([[10],[13],[13,10]]:List (List Nat))c:c∈zv
theorem sj:∀i∈r5,(i,gV.getD i.toNat [])∈en 0 gV/\gV.getD i.toNat []∈gV/\(gV.getD i.toNat []).length=4:=by decide+kernel
theorem xao{i v:Int}(m:i∈r5):wordAt i v∈gV.getD i.toNat []:=by have J:=rK (v.fdiv 1024) (show(0:Int)<4 by decide);unfold wordAt;rw[cz (l:=gV.getD i.toNat []),cy (jk J (sj i m).2.2)];exact nT _
theorem xck(v:Int):cl (mT v)∈([[10],[13],[13,10]]:List (List Nat)):=by have J:=rK (v.fdiv 4096) (show(0:Int)<3 by decide);exact(by decide:∀n,n<3->cl ((["\n","\r","\r\n"]:List ai).getD n "")∈([[10],[13],[13,10]]:List (List Nat))) _ (o9 J)
theorem xdV(a:Int):CD (a.fmod 27)∈zv:=by have h1:=vP a (show(0:Int)<27 by decide);have J:=rK a (show(0:Int)<27 by decide);refine bE.mpr ⟨(a.fmod 27).toNat,rN.mpr (o9 J),?_⟩;rw[mu h1]
theorem zj{i v p:Int}(m:i∈r5)(h1:bK G i=uy (kR (p.fmod 27)) (wordAt i v) (mT v))(J:bK j i=kR (p.fmod 27))(R:bK o i=wordAt i v):∃c w e,MF G j o i c w e:=⟨CD (p.fmod 27),wordAt i v,cl (mT v),by rw[h1];unfold uy;rw[oS,oS,oS,oS,oS,oS,show cl "."=[46]by decide];show[CD _]++_++_++_++_++_++_=_;simp only[Cf,fT];rfl,J,R,⟨(sj i m).1,xao m⟩,xck v,xdV p⟩
theorem xcl{F:List Int}(h:F.length=5):∀i∈r5,∃c w e,MF (jv F) ((ju F).map kR) (lq F) i c w e:=by
 refine oh (oV h) λk I J M j z=>?_;subst z;intro i m;have:=aE.mp m;have:i=0\/i=1\/i=2\/i=3\/i=4:=lz this.1 this.2;rcases this with rfl|rfl|rfl|rfl|rfl;.exact zj m (v:=k) rfl rfl rfl
 .exact zj m (v:=I) rfl rfl rfl
 .exact zj m (v:=J) rfl rfl rfl
 .exact zj m (v:=M) rfl rfl rfl
 .exact zj m (v:=j) rfl rfl rfl
theorem F4:∀c∈zv,c≠10/\c≠13/\c≠46/\yW c=af:=by decide+kernel
theorem Az:∀r∈gV,∀x∈r,(cl x).length<=4/\∀n∈([1,2,3,4]:List Nat),(tn (cl x) n).filter yW=cl x:=by decide+kernel
section
variable{G j o:List ai}{i:Int}{c:Nat}{w:ai}{e:List Nat}{S:Int->Bool}{g:Int->Option ai}
theorem MF.it(f:MF G j o i c w e)(m:i∈r5):∀n,n<4->cl (g6 (n+1) (bK G i))=c::tn (cl w) (n+1)|0,_=>by refine kZ (F4 c f.c) λa b d _=>?_;show cl (gf (bK G i))=_;rw[LZ,f.t,Km ⟨a,b,d⟩,WL _ (sj i m).2.1 _ f.w.2 _ f.e]|n+1,h=>by refine kZ (F4 c f.c) λa b d _=>?_;show cl (gf (g6 (n+1) (bK G i)))=_;rw[LZ,f.it m n (rL h),Km ⟨a,b,d⟩,WM _ (sj i m).2.1 _ f.w.2 _ ((by decide:∀n,n<3->n+1∈([1,2,3]:List Nat)) n (V1 h))]
theorem MF.parts(f:MF G j o i c w e)(m:i∈r5)(h:n<4):m8 S g (g6 (n+1) (bK G i))=sgn S g c::(cl w).map (sgn S g):=by unfold m8;rw[show(g6 (n+1) (bK G i)).cps.toList=_ from f.it m n h,Jl (F4 c f.c).2.2.2,(Az _ (sj i m).2.1 _ f.w.2).2 _ ((by decide:∀n,n<4->n+1∈([1,2,3,4]:List Nat)) n h)];rfl
theorem MF.gK(f:MF G j o i c w e)(m:i∈r5)(t:TabOk S g):Mine.gK (sgn S g c::(cl w).map (sgn S g))=cl (bB i):=by show cl (sgn S g c)++Mine.gK _=_;rw[t.wd _ f.w.1 _ f.w.2,show sgn S g c=""from if_pos (t.sh c f.c)];rfl
theorem MF.name(f:MF G j o i c w e)(m:i∈r5)(t:TabOk S g)(h:n<4):nameOf S g (g6 (n+1) (bK G i))=bB i:=by refine M0 ?_;unfold nameOf;rw[E8,f.parts m h,f.gK m t]
theorem YB{w:List Nat}(n:Nat):(tn w n).length=4+(1+n)+w.length+2+(1+n):=by unfold tn;rw[cK,cK,cK,cK,Jt];rfl
theorem MF.len(f:MF G j o i c w e)(m:i∈r5):∀n,n<=4->(cl (g6 n (bK G i))).length<=100|0,_=>by show(cl (bK G i)).length<=100;have:=(Az _ (sj i m).2.1 _ f.w.2).1;have L:∀e∈([[10],[13],[13,10]]:List (List Nat)),e.length<=2:=dk;have L:=L e f.e;rw[f.t];unfold Cf;rw[fC,cK,cK,cK,cK,cK];exact cC (qA (qv (mE (mE (qv (mE L L) _) this) L) _))|n+1,h=>by have:=(Az _ (sj i m).2.1 _ f.w.2).1;have h1:=iy h 1;rw[f.it m n h,fC,YB];exact cC (qA (mE (qv (mE (iy h1 4) this) 2) h1))
theorem xcm:∀i∈r5,(cl (bB i)).length<=3:=dk
theorem xap(t:TabOk S g)(h:∀i∈r5,∃c w e,MF G j o i c w e):se S g G where
s2 i c D h1 a:=by refine iU (h i (aE.mpr ⟨D,h1⟩)) λ_ _ _ f=>?_;exact xci (aZ (f.len (aE.mpr ⟨D,h1⟩) c (eB a)) dk)
s1 i c D h1 a:=by refine iU (h i (aE.mpr ⟨D,h1⟩)) λ_ _ _ f=>?_;refine xcj ?_;have:=f.len (aE.mpr ⟨D,h1⟩) c (eB a);have J:=L1 (cl (g6 c (bK G i))) av;rw[M1];exact aZ J (cC (mY _ this))
nz i c D h1 a:=by refine iU (h i (aE.mpr ⟨D,h1⟩)) λ_ _ _ f=>?_;exact aZ (f.len (aE.mpr ⟨D,h1⟩) (c+1) a) dk
nw i c D h1 a:=by have m:=aE.mpr ⟨D,h1⟩;refine iU (h i m) λ_ _ _ f=>?_;rw[f.parts m a,E9,f.gK m t];rw[fC,aH];exact cC (mE (xcm i m) (qA (Az _ (sj i m).2.1 _ f.w.2).1))
theorem MF.xgD(f:MF G j o i c w e)(m:i∈r5)(h:n<4)(U:bK r i=uC ((n+1:Nat):Int)):g6 (n+1) (bK G i)=y9 j o r i:=by refine M0 ?_;unfold y9;rw[f.it m n h,oS,oS,oS,oS,oS,f.s,f.d,U,show cl "\r\n\r\n"=[13,10,13,10]by decide,show cl "\r\n"=[13,10]by decide,show cl (uC ((n+1:Nat):Int))=eH (1+(n+1)) 46 from by unfold uC zu;rfl];unfold tn;simp only[fT];rfl
end
theorem xgE:zv.all (λc:Nat=>setB (c:Int))=af:=by kernel_rfl
theorem xgF:(en 0 gV).all (λq=>q.2.all λx=>gK ((cl x).map (sgn setB cB))==cl (bB q.1))=af:=by kernel_rfl
theorem xcn:TabOk setB cB:=⟨λc m=>cg.mp xgE c m,λq m x S=>eq_of_beq (cg.mp (cg.mp xgF q m) x S)⟩
theorem ptH(k:Kp h1 h)(V:List ah)(R:aR)(q:ai):dD V R q h PL:=⟨#[],k _ _ (by kernel_rfl),trivial,.inl rfl⟩
def jh(W:List (List Int))(f:List Int)(g:Int):List Int:=r5.filter λI=>(ee W f I).contains g
def fF(W:List (List Int))(f:List Int)(g:Int):Tab:=(jh W f g).map λI=>(bB I,((bz W I).idxOf g:Int)+1)
def sr(W:List (List Int))(f:List Int)(g:Int):List Int:=(jh W f g).map λI=>((bz W g).idxOf I:Int)
theorem GY:∀i∈r5,(gJ.idxOf (bB i):Int)=i/\bB i∈gJ:=dk
theorem OC(m:I∈jh W f g):I∈r5/\g∈bz W I:=by refine aV (d7.mp m) λa b=>?_;exact⟨a,nO (jB.mp b)⟩
section
variable{A:aF}{X:List ah}{h:aA}{P:Gm}{L:ah}{E:aj->aq->Prop}
def GZ(k:Nat):cZ:=sS (bodyOf (fP 22)) k
theorem YC{f:List Int}(d:A.handled=ak)(z:∃o,h.get? eo=aa o)(t:fR W)(K:f.length=5)(n:∀i∈r5,0<=gi f i)(c:CX X h (aU L) P)(u:P "wishes"=aa (b7 W))(w:P "asks"=aa (LI f))(a:P "asked"=aa (.int g))(r:P "names"=aa NM)(gr:P "range"=aa (.aI (.type "range"))):CU A (aU L) X h (valOf (GZ 0)) (dc (fF W f g)):=by
 have e:dc (fF W f g)=.dS ((r5.filter λI=>(ee W f I).contains g).map bB) ((r5.filter λI=>(ee W f I).contains g).map λI=>.int (((bz W I).idxOf g:Int)+1)):=by unfold dc DS eL fF jh;refine O bO (O bO (O bO (O bO ?_)));rfl
 refine O e ?_;refine@CU.Iz A _ X h _ Int _ _ _ _ _ _ _ _ T.int r5 _ _ _ c z ?_ (λI m C F Y h c k=>?_) (λI m _ C F Y h c k=>?_) (λI m p C F Y h c J k=>?_) ?_ dk (by kernel_rfl) (by kernel_rfl) ?_;.exact IT.lg d c gr
 .refine aV (aE.mp m) λD h1=>?_;refine TS.one (TV.cmp (X:=Y) (t:=.int g) (u:=LI (ee W f I)) (EV.name c (by exact a)) ?_ aX.xbR);rw[show LI (ee W f I)=.list (((bz W I).map T.int).take (gi f I).toNat)from congrArg T.list (D3 ..)];exact EV.F3 c.live (EV.bz t (EV.name c (by exact u)) (EV.name c) D h1) (EV.gi (EV.name c (by exact w)) (EV.name c) D (by exact O K h1) (by refine O K ?_;decide)) (n I m) (by refine O (aH ..) (O (t.row I D h1) ?_);decide)
 .refine aV (aE.mp m) λD h1=>?_;exact EV.sub (EV.name c (by exact r)) (EV.name c) (cS.list D (eF h1) (BG D h1))
 .refine aV (aE.mp m) λD h1=>?_;exact EV.bin (EV.pS (EV.bz t (EV.name c (by exact u)) (EV.name c) D h1) (EV.name c (by exact a)) (nO (jB.mp p)) (by refine O (t.row I D h1) ?_;decide)) EV.int bD.add
 .exact Eh (λx S y Z e=>uD x (d7.mp S).1 y (d7.mp Z).1 e) (Xb.nodup dk)
 .intro _;rfl
theorem YD(l:A.handled=ak)(t:fR W)(N:g∈r5)(c:CX X h (aU L) P)(u:P "wishes"=aa (b7 W))(i:P "table"=aa (dc (fF W f g)))(j:P "asked"=aa (.int g))(r:P "names"=aa NM):CU A (aU L) X h (valOf (GZ 1)) (LI (sr W f g)):=by
 have e:LI (sr W f g)=.list (((jh W f g).filter λ_=>af).map λI=>.int ((bz W g).idxOf I)):=by unfold sr LI;refine O (fE ..) (O bO ?_);rfl
 refine O e ?_;have d:((eL (fF W f g)).map (·.1)).map T.str=(jh W f g).map λI=>T.str (bB I):=by unfold eL fF;refine O bO (O bO (O bO ?_));rfl
 have b:(jh W f g).length<=5:=nM _ _;refine aV (aE.mp N) λH V=>?_;refine@CU.l1 A _ X h P Int _ _ _ _ _ _ _ (λI=>T.str (bB I)) _ _ _ c ?_ (λa m C F Y h c k=>TS.nil) (λI m _ C F Y h c J k=>?_) ?_ ?_ ?_ ?_;.exact aQ d (IT.Pc l rfl c.live (EV.name c (by exact i)))
 .refine aV (OC m) λU s=>?_;refine aV (aE.mp U) λD h1=>?_;refine aV (GY I U) λQ R=>?_;have S:g≠I:=(t.el I D h1 g s).2.2;exact EV.pS (EV.bz t (EV.name c (by exact u)) (EV.name c (by exact j)) H V) (EV.QG (EV.name c (by exact r)) (EV.name c) R Q) (t.all g H V I D h1 (gu S)) (by refine O (t.row g H V) ?_;decide)
 .exact cC b
 .kernel_rfl
 .kernel_rfl
 .intro _;rfl
end
theorem Fb:∀l:List Int,jf l=l.sum|[]=>rfl|a::l=>by rw[jf,rP,Fb l]
noncomputable def tabS(t:Tab):Int:=(t.map (·.2)).sum
def Pw(W:List (List Int))(f:List Int)(g:Int):Stat:=⟨if((fF W f g).length:Int)<1 then(fF W f g).length else 1,(fF W f g).length,tabS (fF W f g),(sr W f g).sum,fF W f g⟩
structure Bl(W:List (List Int))(f:List Int)(M:bG):Prop where
n:M.book.length=5
b:∀a∈r5,TE 3 (cA (cO M.book a)) (cA (Pw W f a))c:∀a∈r5,tabS (cO M.book a).t=tabS (fF W f a)z:∀a∈r5,(cO M.book a).t.length<=100
theorem F5(t:fR W)(h:i∈r5):0<=((bz W i).idxOf x:Int)/\((bz W i).idxOf x:Int)<=4:=by have:=List.idxOf_le_length (a:=x) (l:=bz W i);rw[t.row i (aE.mp h).1 (aE.mp h).2]at this;exact iT (iP _) (Q9 this)
section
variable{A:aF}{X:List ah}{h:aA}{P:Gm}{L:ah}{E:aj->aq->Prop}
theorem yM(t:Tab):dc t=.dS (t.map (·.1)) ((t.map (·.2)).map .int):=by show T.dS _ _=_;exact O (xu ..) (O (GV ..) rfl)
theorem M4{np p1 p2 p3 p4:aR}{t:Tab}(d:A.handled=ak)(c:CX X h G P)(g:P x=aa (dc t))(K:isVar G x=af)(f:P "sum"=aa (.aI (.builtin "sum")))(H:mS G "sum"=af)(I:t.length<=1000)(R:∀v∈t.map (·.2),0<=v/\v<1099511627776)(V:(p2.endLine==p3.line)=af)(W:bh [.Call (.Attribute (.Name x p1) "values" p2) [] [] p3] G=(av,aT (.Call (.Attribute (.Name x p1) "values" p2) [] [] p3) G)::bh [] G)(y:kJ (.Name x p1) "values" G (aT (.Name x p1) G)=aT (.Name x p1) G):EV A G X h (.Call (.Name "sum" np) [.Call (.Attribute (.Name x p1) "values" p2) [] [] p3] [] p4) (.int (tabS t)):=by rw[yM]at g;exact EV.F2 (P:=VV X (t.map (·.1)) ((t.map (·.2)).map .int)) (EV.glob c f H) rfl (xX.values (EV.name c g K) y V) (λs E v k p=>VV.sum d (by exact O (aH ..) (O (aH ..) rfl)) (by exact O (aH ..) I) R p) W
theorem WN{M:bG}(Y:Kp hH H)(o:Kp H h)(u:cF A (n+1))(t:fR W)(a:Bl W f M)(N:g∈r5)(c:CX X h (aU L) P)(s:P "book"=aa (.list (M.book.map cA)))(D:P "asked"=aa (.int g))(j:P "table"=aa (dc (fF W f g)))(F:P "likes"=aa (LI (sr W f g)))(B:P "min"=aa (.aI (.builtin "min")))(C:P "len"=aa (.aI (.builtin "len")))(U:P "sum"=aa (.aI (.builtin "sum")))(w:P "count_calls"=aa (.aI (.ref 80))):TV A (aU L) h (valOf (GZ 2)) av:=by
 have i:=u.hd;have Z:A.units+6<fy:=by have:=u.jJ;show _<9900;exact ry _ this
 refine aV (aE.mp N) λr V=>?_;have e:(fF W f g).length<=5:=by unfold fF jh;exact O (aH ..) (nM _ _)
 have R:∀v∈(fF W f g).map (·.2),0<=v/\v<1099511627776:=λv m=>by refine aG (bE.mp m) λp Q y=>?_;subst y;refine aG (bE.mp Q) λI S y=>?_;subst y;have:=F5 t (x:=g) (OC S).1;exact⟨DZ this.1,jM (yc this.2 1) dk⟩
 have z:∀v∈sr W f g,0<=v/\v<1099511627776:=λv m=>by refine aG (bE.mp m) λI S y=>?_;subst y;have:=F5 t (x:=I) N;exact⟨this.1,jM this.2 dk⟩
 have l:∀{b p1 p2:aR},EV A (aU L) X h (.Call (.Name "len" b) [.Name "table" p1] [] p2) (.int (fF W f g).length):=λ{b p1 p2}=>by have:=CA.HL (A:=A) (X:=X) (h₀:=h) (ks:=(fF W f g).map (·.1)) (vs:=((fF W f g).map (·.2)).map .int) (by exact O (aH ..) (cC e));rw[aH]at this;rw[yM]at j;exact EV.cP (EV.glob c C) rfl (EL.cons (EV.name c j (by kernel_rfl)) EL.nil) this
 have k:∀{b p1 p2 p3 d:aR},(p2.endLine==p3.line)=af->EV A (aU L) X h (.Call (.Name "sum" b) [.Call (.Attribute (.Name "table" p1) "values" p2) [] [] p3] [] d) (.int (tabS (fF W f g))):=λ{b p1 p2 p3 d}q=>M4 (np:=b) (p1:=p1) (p2:=p2) (p3:=p3) (p4:=d) i c j (by kernel_rfl) U (by kernel_rfl) (cC e) R q (by rfl) (by rfl);have x:∀{p1 p2 p3:aR},EV A (aU L) X h (.Subscript (.Name "book" p1) (.Name "asked" p2) p3) (cA (cO M.book g)):=λ{p1 p2 p3}=>EV.sub (EV.name c s (by kernel_rfl)) (EV.name c D (by kernel_rfl)) (cS.list r (eF V) (map_getD (l:=M.book) (f:=cA) (d:=⟨0,0,0,0,[]⟩) (by exact O a.n (toNat_lt r V))));refine TV.rD (b:=av||(av||av)) (AT.or (TV.cmp (X:=X) (t:=cA (cO M.book g)) (u:=cA (Pw W f g)) (b:=av) x ?_ (aX.q6 (a.b g N) (lU Z) (.inr ⟨_,rfl⟩))) λ_=>AT.or (TV.cmp (X:=X) (t:=.int (tabS (cO M.book g).t)) (u:=.int (tabS (fF W f g))) (b:=av) ?_ (k dk) ?_) λ_=>AT.Bt);.exact EV.tup c.live (EL.cons (EV.cP (EV.glob c B (by kernel_rfl)) rfl (EL.cons EV.int (EL.cons l EL.nil)) (CA.min2 i)) (EL.cons l (EL.cons (k dk) (EL.cons (EV.cP (EV.glob c U (by kernel_rfl)) rfl (EL.cons (EV.name c F (by kernel_rfl)) EL.nil) (CA.jf i (by unfold sr jh;exact O (aH ..) (aZ (nM _ _) dk)) z)) (EL.cons (EV.name c j (by kernel_rfl)) EL.nil))))) (by simp)
 .rw[show tabS (cO M.book g).t=jf ((cO M.book g).t.map (·.2))from(Fb _).symm];refine EV.xr c w (GN.kp (Y.trans o)) (EL.cons (EV.sub x EV.int (cS.tup dk dk (t:=dc (cO M.book g).t) rfl)) EL.nil) ?_ (by kernel_rfl) (by rfl);exact O (yM ..) (Jr u ⟨Y.trans o,c.live,c.ok.eN,c.ok.blt⟩ (by rw[aH,aH]))
 .refine O (a.c g N) ?_;have:=aX.ne (A:=A) (X:=X) (h₀:=h) (i:=tabS (fF W f g)) (j:=tabS (fF W f g));rw[bne_self_eq_false]at this;exact this
end
def ji(M:bG)(l:List Int):Stat:=l.foldl (λt a=>j7 t (cO M.book a)) ⟨0,0,0,0,[]⟩
theorem YE(M:bG)(l:List Int)(a:Int):ji M (l++[a])=j7 (ji M l) (cO M.book a):=by unfold ji;refine O vV ?_;rfl
theorem YF{st:bG}:∀{l:List Int},(∀a∈l,(cO st.book a).t.length<=100)->(ji st l).t.length<=100*l.length:=by
 intro l h;have:∀(l:List Int)(t:Stat),(∀a∈l,(cO st.book a).t.length<=100)->(l.foldl (λt a=>j7 t (cO st.book a)) t).t.length<=t.t.length+100*l.length:=by intro l;induction l with|nil=>intro t _;exact cQ _|cons a l G=>intro t h;have h1:=EC t (cO st.book a);have J:=h a (aP ..);have R:=G (j7 t (cO st.book a)) λx m=>h x (aY _ m);exact O pJ (O fC (aZ R (aZ (qv (aZ h1 (iy J _)) _) (dh ((jL _ 100 _).trans (rQ ..))))))
 have:=this l ⟨0,0,0,0,[]⟩ h;rw[qC,jn]at this;exact this
section
variable{A:aF}{N B s:aq}{Z:List ah}{P:Gm}{L:ah}{E:aj->aq->Prop}
noncomputable def gN(g:Gm):Gm:=λy=>if y="total"then ak else g y
theorem xdW(g:Gm):bq (gN g) g:=λy t e=>by
 unfold gN at e;split at e;.cases e
 .exact e
abbrev zN(p F:List Int)(W:List (List Int))(G:List ai)(M:bG):Gm:=gF (zM p F W G M) W
theorem xdX{W:List (List Int)}{n:Nat}{p F:List Int}{G:List ai}{M:bG}{Q:ek->aq->Prop}(Y:Kp hH N.heap)(u:cF A (n+2))(C:tF L)(t:fR W)(D:fS (rounds W))(H:Bl W (bH (rounds W)) M)(f:FS [PL] N B s Z (aU L) (zN p F W G M) [])(hQ:∀I,FS [PL] N B I Z (aU L) (upd (gN (zN p F W G M)) "total" (cA (ji M r5))) []->au (az PW w) A (b8 ((bodyOf (aO PW 27)).drop 23) (aU L)) Q E I):au (az PW w) A (b8 ((bodyOf (aO PW 27)).drop 22) (aU L)) Q E s:=by
 have h:=u.hd;have c:cF A (n+1+1):=u;have S:=C "asked" (.inr (by kernel_rfl));have y:=C "table" (.inl (by kernel_rfl));have v:=C "likes" (.inl (by kernel_rfl));have T:=C "total" (.inl (by kernel_rfl));have la:(bH (rounds W)).length=5:=by unfold bH;exact O (aH ..) (O D.len rfl)
 refine@bY _ _ _ _ _ _ _ (FS.for (as:=r5) (kf:=.int) (cU:=λl=>upd (gN (zN p F W G M)) "total" (cA (ji M l))) (iw:=λl a=>upd (upd (gN (zN p F W G M)) "total" (cA (ji M l))) "asked" (.int a)) (Mf:=λ_=>[]) (λl=>∀a∈l,a∈r5) (λa m=>by cases m) (f.less (bq.iM (xdW _) (by rfl))) (IT.lg h f.cx (by rfl)) (λ_=>rfl) (λl a _=>AS.name S.1 S.2) (λl a V X wr U E f R=>?_) λU _ f=>⟨rfl,hQ U f⟩);have K:a∈r5:=qN V;have b:l.length<=5:=by obtain⟨r,e⟩:=V;have:=congrArg ug e;rw[cK]at this;exact aZ (e7 _ _) (dh this.symm)
 obtain⟨z,q⟩:=aE.mp K;refine@bY _ _ _ _ _ _ _ (@FS.qO _ _ _ _ _ _ _ _ _ _ _ _ _ _ (dc (fF W (bH (rounds W)) a)) _ f y.1 y.2 (YC h ((xj Y).imp λo e=>f.ks.kp _ _ e) t la (λi m=>by have:=yL D (aE.mp m).1 (aE.mp m).2;exact fW this.1) f.cx (by rfl) (by rfl) (by rfl) (by rfl) (by rfl)) (λJ f=>⟨rfl,?_⟩) rfl);refine@bY _ _ _ _ _ _ _ (@FS.qO _ _ _ _ _ _ _ _ _ _ _ _ _ _ (LI (sr W (bH (rounds W)) a)) _ f v.1 v.2 (YD h t K f.cx (by rfl) (by rfl) (by rfl) (by rfl)) (λk f=>⟨rfl,?_⟩) rfl);refine@bY _ _ _ _ _ _ _ (@FS.cond _ _ _ _ _ _ _ _ _ _ _ _ _ _ av _ f (WN Y f.ks.kp c t H K f.cx (by rfl) (by rfl) (by rfl) (by rfl) (by rfl) (by rfl) (by rfl) (by rfl)) (λe=>by cases e) λ_ j f=>iA ⟨rfl,?_⟩);have g:=YF (st:=M) (l:=l) λx m=>H.z x (X x m);have d:=H.z a K;refine@di _ _ _ _ _ _ (@FS.set _ _ _ _ _ _ _ _ _ _ _ _ _ _ (cA (ji M (l++[a]))) _ f T.1 T.2 (EV.xr (ts:=[cA (ji M l),cA (cO M.book a)]) f.cx (by rfl) (GK.kp (Y.trans f.ks.kp)) (EL.cons (EV.name f.cx) (EL.cons (EV.sub (EV.name (t:=.list (M.book.map cA)) f.cx (by rfl)) (EV.name (t:=.int a) f.cx (by rfl)) (cS.list z (eF q) (map_getD (l:=M.book) (f:=cA) (d:=⟨0,0,0,0,[]⟩) (by exact O H.n (toNat_lt z q))))) EL.nil)) ?_ (by kernel_rfl) (by rfl)) (λs₅ _ f=>⟨λx m=>(bC.mp m).elim (X x) λm=>by exact O (aW.mp m) K,f.less ?_⟩) rfl);.exact O (YE ..) (Jc u ⟨Y.trans f.ks.kp,f.cx.live,f.cx.ok.eN,f.cx.ok.blt⟩ (aZ g (cC (mY _ b))) (cC d))
 .show bq _ _;exact bq.iM (bq.out (bq.out (bq.out (bq.out (bq.out (bq.refl _) (by kernel_rfl)) (by kernel_rfl)) (by kernel_rfl)) (by kernel_rfl)) (by kernel_rfl)) (by rfl)
end
def ia(f:List Int):Tab:=(en 0 f).map λq=>(bB q.1,(q.2*(q.2+1)).fdiv 2)
def m9(W:List (List Int))(f:List Int):List Int:=r5.flatMap λI=>(ee W f I).map λg=>((bz W g).idxOf I:Int)
section
variable{A:aF}{X:List ah}{h:aA}{P:Gm}{L:ah}{E:aj->aq->Prop}
theorem IT.tup(z:A.handled=ak)(f:isNm c)(l:bJ X h)(F:EV A G X h iter (.tup a)):IT A G X h iter c a:=λs E k=>aB (F s E k) (λv U x=>by
refine cH x.2.jS λy xs u n p R=>?_;subst u;have d:=(l.kp k).kp x.1.kp;refine aG (id p) λg B D=>?_;have W:=dQ B;have K:U.heap.get? U.heap.objs.size=ak:=get?_none_of_le (cQ _);have j:Kp U.heap (U.heap.push {cls:=.type "tuple_iterator",data:=.fields #[.ref y,.int 0 0]}):=λb o e=>bX _ e;have N:∀b∈[U.heap.objs.size],U.heap.get? b=ak:=λb m=>by exact O (aW.mp m) K
refine xcJ p ⟨x.1.trans (.push ..),U.heap.objs.size,[U.heap.objs.size,y],[U.heap.objs.size],rfl,jG.mono (h₁:=U.heap) ?_ x.1.kp⟩;refine⟨λb m=>?_,λb m=>?_,N,λb m=>?_,λY J C=>⟨_,gz.ofWalks (λh=>ay Y h a xs.toList) f (Walks.tuple z U.heap.objs.size y (bS W) xs) (by exact aQ R.length (O dm rfl)) (λh h' r k=>Mine.ay.kp k _ _ r) (λi v t h Q w r=>r.get w (by exact O gM Q)) (λi h M b m=>?_) C,⟨⟨_,cE _ rfl,rfl,rfl⟩,⟨g,j _ _ B,D⟩⟩,om j J N R⟩⟩
.refine bw (bA.mp m) (λI=>?_) λm=>?_;.subst I;exact⟨_,cE _ rfl⟩
 .replace m:=aW.mp m;exact O m ⟨_,j _ _ B⟩
.refine bw (bA.mp m) (λI=>?_) λm=>?_;.subst I;exact d.new
 .replace m:=aW.mp m;exact O m n
.replace m:=aW.mp m;exact O m (aP ..)
.replace m:=aW.mp m;refine O m ?_;refine aG M.1 λo q _=>?_;exact⟨o,q⟩) λ_ _ e=>e
theorem WO{f:List Int}(g:A.handled=ak)(z:∃o,h.get? eo=aa o)(K:f.length=5)(n:∀x∈f,0<=x/\x<=4)(c:CX X h (aU L) P)(w:P "asks"=aa (LI f))(r:P "names"=aa NM)(B:P "enumerate"=aa (.aI (.type "enumerate"))):CU A (aU L) X h (sR (valOf (fP 23)) 0) (dc (ia f)):=by
 have e:dc (ia f)=.dS (((en 0 f).filter λ_=>af).map λq=>bB q.1) (((en 0 f).filter λ_=>af).map λq=>.int ((q.2*(q.2+1)).fdiv 2)):=by unfold dc DS eL ia;refine O (fE ..) (O bO (O bO (O bO (O bO ?_))));rfl
 refine O e ?_;have Q:∀q∈en 0 f,(0<=q.1/\q.1<5)/\0<=q.2/\q.2<=4:=λq m=>⟨E7 K m,n _ (by refine aG (r8 m) λk _ e=>?_;exact eO e)⟩;refine@CU.dS2 A _ X h _ (Int×Int) _ _ _ _ _ _ _ _ _ _ _ _ (λq=>T.int q.1) (λq=>T.int q.2) (en 0 f) (λ_=>af) _ _ g c z ?_ (λa m C F Y h c k=>TS.nil) (λq m _ C F Y h c k=>?_) (λq m _ C F Y h c J k=>?_) ?_ ?_ ?_ ?_ ?_ ?_;.exact IT.BE g c B (EV.name c (by exact w)) (by kernel_rfl)
 .exact EV.sub (EV.name c (by exact r)) (EV.name c) (cS.list (Q q m).1.1 (by have:=(Q q m).1.2;exact eF this) (BG (Q q m).1.1 (Q q m).1.2))
 .exact EV.bin (EV.bin (EV.name c) (EV.bin (EV.name c) EV.int bD.add) (bD.zq (by have:=(Q q m).2;exact OO this.1 this.2))) EV.int (bD.uL dk dk)
 .refine O (fE ..) ?_;have:(en 0 f).map (λq=>bB q.1)=gJ:=by refine oh (oV K) λa b c d e u=>?_;subst u;rfl
  refine O this ?_;decide
 .refine O (nj ..) (O K ?_);decide
 .kernel_rfl
 .kernel_rfl
 .kernel_rfl
 .intro _;rfl
theorem WQ{f:List Int}(d:A.handled=ak)(t:fR W)(K:f.length=5)(n:∀i∈r5,0<=gi f i)(c:CX X h (aU L) P)(u:P "wishes"=aa (b7 W))(w:P "asks"=aa (LI f))(gr:P "range"=aa (.aI (.type "range"))):CU A (aU L) X h (sR (valOf (fP 23)) 1) (LI (m9 W f)):=by
 have e:LI (m9 W f)=.list (r5.flatMap λI=>if af=af then((ee W f I).filter λ_=>af).map λg=>.int ((bz W g).idxOf I)else[]):=by
  have:∀l:List Int,(l.flatMap λI=>(ee W f I).map λg=>((bz W g).idxOf I:Int)).map T.int=l.flatMap λI=>if af=af then((ee W f I).filter λ_=>af).map λg=>T.int ((bz W g).idxOf I)else[]:=by intro l;induction l with|nil=>rfl|cons a l G=>refine O zZ (O fY (O G (O zZ (O (if_pos rfl) (O (fE ..) (O bO ?_))))));rfl
  exact congrArg T.list (this r5)
 refine O e ?_;have j:∀I∈r5,∀a∈ee W f I,a∈r5/\a≠I:=λI m a s=>let⟨x,y,z⟩:=t.el I (aE.mp m).1 (aE.mp m).2 a (nO s);⟨aE.mpr ⟨x,y⟩,z⟩;refine@CU.ll A _ X h _ Int Int _ _ _ _ _ _ _ _ _ _ _ r5 T.int (λ_=>af) (λI=>ee W f I) (λ_=>T.int) (λ_ _=>af) (λI g=>.int ((bz W g).idxOf I)) c ?_ (λa m C F Y h c k=>TS.nil) (λI m _ C F Y h c k=>?_) (λI m a s C F Y h c k=>TS.nil) (λI m a s _ C F Y h c J k=>?_) dk (λI m=>?_) ?_ ?_ ?_ ?_ ?_ ?_;.exact IT.lg d c gr
 .refine aV (aE.mp m) λD h1=>?_;refine O (show(ee W f I).map T.int=((bz W I).map T.int).take (gi f I).toNat from D3 ..) ?_;exact IT.list d (.inl rfl) c.live (EV.F3 c.live (EV.bz t (EV.name c (by exact u)) (EV.name c) D h1) (EV.gi (EV.name c (by exact w)) (EV.name c) D (by exact O K h1) (by refine O K ?_;decide)) (n I m) (by refine O (aH ..) (O (t.row I D h1) ?_);decide))
 .refine aV (j I m a s) λo b=>?_;refine aV (aE.mp o) λH q=>?_;refine aV (aE.mp m) λD h1=>?_;exact EV.pS (EV.bz t (EV.name c (by exact u)) (EV.name c) H q) (EV.name c) (t.all a H q I D h1 (gu b)) (by refine O (t.row a H q) ?_;decide)
 .unfold ee;exact O jC (O (t.row I (aE.mp m).1 (aE.mp m).2) (aZ (tS _ _) dk))
 .kernel_rfl
 .kernel_rfl
 .kernel_rfl
 .decide
 .intro _;rfl
 .intro _ _ _;rfl
end
def QK(W:List (List Int))(f:List Int):Stat:=⟨5-((keepsP W f).count (-1):Nat),(bH f).sum,tabS (ia (bH f)),(m9 W (bH f)).sum,ia (bH f)⟩
structure BH(W:List (List Int))(l:Stat):Prop where
z:l.t.length<=1000
e:TE 3 (cA l) (cA (QK W (rounds W)))c:tabS l.t=tabS (ia (bH (rounds W)))
section
variable{A:aF}{X:List ah}{h:aA}{P:Gm}{L:ah}{E:aj->aq->Prop}
theorem xaq{l:Stat}(d:A.handled=ak)(Z:A.units+6<fy)(I:l.t.length<=1000)(c:CX X h (aU L) P)(b:P "total"=aa (cA l))(B:P "tuple"=aa (.aI (.type "tuple")))(r:P "isinstance"=aa (.aI (.builtin "isinstance")))(U:P "int"=aa (.aI (.type "int"))):TV A (aU L) h (valOf (fP 24)) av:=by
 have g:∀{p:aR},EV A (aU L) X h (.Name "total" p) (cA l):=λ{p}=>EV.name c b (by kernel_rfl);refine O (show valOf (fP 24)=C6 _ _ _ _ from rfl) ?_;refine TV.cmp (X:=X) (t:=.list []) (u:=.list []) (EF.ev (CU.ef ?_ c.live)) (EV.list c.live EL.nil) (aX.q6 (n:=1) (.list rfl λi t u a _=>by cases a) (lU Z) (.inl ⟨_,rfl⟩));have e:(.list []:T)=.list ((([l.a,l.b,l.c,l.d]++l.t.map (·.2)).filter λ_=>av).map .int):=by refine O (vO.mpr λ_ _=>qw) ?_;rfl
 refine O e ?_;refine@CU.l1 A _ X h P Int _ _ _ _ _ _ _ T.int _ _ _ c ?_ (λa m C F Y h c k=>TS.one ?_) (λa m p=>by cases p) ?_ ?_ ?_ ?_
 .refine O fY ?_;have z:((l.t.map (·.2)).map T.int).length<=1000:=by exact O (aH ..) (O (aH ..) I)
  refine IT.tup d rfl c.live (EV.bin (t:=.tup ([l.a,l.b,l.c,l.d].map .int)) (u:=.tup ((l.t.map (·.2)).map .int)) (EV.Z7 c.live g EV.int) (EV.F2 (P:=VV X (l.t.map (·.1)) ((l.t.map (·.2)).map .int)) (EV.glob c (by exact B)) rfl (xX.values (EV.sub g EV.int (cS.tup (by decide) (by decide) ?_))) λs E v k p=>VV.tup d (c.live.kp k) (by exact O (aH ..) (cC I)) (by exact O (aH ..) (O (aH ..) (O (aH ..) rfl))) p) (bD.xgC c.live (by show 4+_<=_;exact tw (cQ _) z)));refine aQ (yM ..) ?_;rfl
 .exact TV.not (b:=af) (TV.of (X:=Y) (EV.cP (EV.glob c (by exact r)) rfl (EL.cons (EV.name c) (EL.cons (EV.glob c (by exact U)) EL.nil)) CA.xbU))
 .refine O cK (O (aH ..) ?_);show 4+_<=_;exact tw (cQ _) I
 .kernel_rfl
 .kernel_rfl
 .intro _;rfl
def QL:aS:=valOf (fP 25)
theorem xco{H:aA}{W:List (List Int)}{l:Stat}{n:Nat}(Y:Kp hH H)(r:Kp H h)(u:cF A (n+1))(t:fR W)(D:fS (rounds W))(C:BH W l)(c:CX X h (aU L) P)(J:P "total"=aa (cA l))(gk:P "keeps"=aa (LI (keepsP W (rounds W))))(ga:P "asks"=aa (LI (bH (rounds W))))(M:P "places"=aa (dc (ia (bH (rounds W)))))(gl:P "likes"=aa (LI (m9 W (bH (rounds W)))))(U:P "sum"=aa (.aI (.builtin "sum")))(V:P "count_calls"=aa (.aI (.ref 80))):EV A (aU L) X h QL (.bool af):=by
 obtain⟨oz,s,oc⟩:=C;unfold QK at s;generalize rounds W=f at*;have j:=u.hd;have Z:A.units+6<fy:=by have:=u.jJ;show _<9900;exact ry _ this
 have w:∀{p:aR},EV A (aU L) X h (.Name "total" p) (cA l):=λ{p}=>EV.name c J (by kernel_rfl);have K:∀x∈bH f,0<=x/\x<=4:=λx m=>⟨fW (wB D x m).1,(wB D x m).2⟩;have T:(bH f).length=5:=by unfold bH;exact O (aH ..) (O D.len rfl)
 have lp:(ia (bH f)).length=5:=by unfold ia;exact O (aH ..) (O (nj ..) (O T rfl))
 have R:∀v∈(ia (bH f)).map (·.2),0<=v/\v<1099511627776:=λv m=>by
  refine aG (bE.mp m) λp Q b=>?_;subst b;refine aG (bE.mp Q) λq mq b=>?_;subst b;have B:=K q.2 (by refine aG (r8 mq) λk _ e=>?_;exact eO e);have:∀x:Int,x∈([0,1,2,3,4]:List Int)->0<=(x*(x+1)).fdiv 2/\(x*(x+1)).fdiv 2<1099511627776:=by decide
  exact this q.2 (by simp only[bA,b9,or_false];exact xeA B.1 B.2)
 have z:∀v∈m9 W (bH f),0<=v/\v<1099511627776:=λv m=>by refine aG (yh.mp m) λI S m=>?_;refine aG (bE.mp m) λa N b=>?_;subst b;refine gW (t.el I (aE.mp S).1 (aE.mp S).2 a (nO N)) λx y _=>?_;have:=F5 t (x:=I) (aE.mpr ⟨x,y⟩);exact⟨this.1,jM this.2 dk⟩
 have G:(m9 W (bH f)).length<=1000:=by
  have:=yp (f:=λI=>(ee W (bH f) I).map λg=>((bz W g).idxOf I:Int)) (n:=4) (l:=r5) λI m=>by unfold ee;exact O (aH ..) (O jC (O (t.row I (aE.mp m).1 (aE.mp m).2) (tS _ _)))
  exact aZ this (by decide)
 have o:∀{d p1 p2 p3 i:aR},(p2.endLine==p3.line)=af->EV A (aU L) X h (.Call (.Name "sum" d) [.Call (.Attribute (.Name "places" p1) "values" p2) [] [] p3] [] i) (.int (tabS (ia (bH f)))):=λ{d p1 p2 p3 i}q=>M4 (np:=d) (p1:=p1) (p2:=p2) (p3:=p3) (p4:=i) j c M (by kernel_rfl) U (by kernel_rfl) (jz lp (gQ _ _)) R q (by rfl) (by rfl);refine O (show QL=xhD _ [C6 _ _ _ _,C6 _ _ _ _] _ from rfl) ?_;refine@EV.uZ A _ X h _ _ _ af af (@EV.cmp A _ X h _ _ _ _ (cA l) (.tup [.int (5-((keepsP W f).count (-1):Nat)),.int (bH f).sum,.int (tabS (ia (bH f))),.int (m9 W (bH f)).sum,dc (ia (bH f))]) af w ?_ (aX.same s (lU Z) (.inr ⟨_,rfl⟩)) (by with_unfolding_all rfl)) λ_=>@EV.cmp A _ X h _ _ _ _ (.int (tabS l.t)) (.int (tabS (ia (bH f)))) af ?_ (o (by decide)) ?_ (by with_unfolding_all rfl);.exact@EV.tup _ _ _ _ _ _ _ _ c.live (@EL.cons _ _ _ _ _ _ _ _ _ (@EV.bin _ _ _ _ _ _ _ _ _ _ _ EV.int (@EV.Bv A _ X h _ _ _ _ _ _ (LI (keepsP W f)) (.int (-1)) _ (EV.name c (by exact gk)) (EV.neg EV.int) (MT.list xaY F.type_list_count) (CA.xbT (l:=keepsP W f)) rfl rfl rfl) bD.sub) (@EL.cons _ _ _ _ _ _ _ _ _ (EV.cP (EV.glob c (by exact U)) rfl (EL.cons (EV.name c (by exact ga)) EL.nil) (CA.jf (l:=bH f) j (by refine O T ?_;decide) λx m=>⟨(K x m).1,jM (K x m).2 dk⟩)) (@EL.cons _ _ _ _ _ _ _ _ _ (o (by decide)) (@EL.cons _ _ _ _ _ _ _ _ _ (EV.cP (EV.glob c (by exact U)) rfl (EL.cons (EV.name c (by exact gl)) EL.nil) (CA.jf (l:=m9 W (bH f)) j G z)) (@EL.cons _ _ _ _ _ _ _ _ _ (EV.name c (by exact M)) (@EL.nil _ _ _ _ _) rfl) rfl) rfl) rfl) rfl) (by simp)
 .rw[show tabS l.t=jf (l.t.map (·.2))from(Fb _).symm];refine EV.xr c V (GN.kp (Y.trans r)) (EL.cons (EV.sub w EV.int (cS.tup (by decide) (by decide) (t:=dc l.t) rfl)) EL.nil) ?_ (by kernel_rfl) (by rfl);exact O (yM ..) (Jr u ⟨Y.trans r,c.live,c.ok.eN,c.ok.blt⟩ (by rw[aH,aH]))
 .refine O oc ?_;have:=aX.eq (A:=A) (X:=X) (h₀:=h) (i:=tabS (ia (bH f))) (j:=tabS (ia (bH f)));rw[beq_self_eq_true]at this;exact this
end
section
variable{A:aF}{N B s:aq}{Z:List ah}{P:Gm}{L:ah}{E:aj->aq->Prop}
theorem xdY{W:List (List Int)}{n:Nat}{p F:List Int}{G:List ai}{M:bG}{l:Stat}{Q:ek->aq->Prop}(Y:Kp hH N.heap)(u:cF A (n+1))(C:tF L)(a:fR W)(D:fS (rounds W))(H:BH W l)(f:FS [PL] N B s Z (aU L) (upd (gN (zN p F W G M)) "total" (cA l)) [])(X:∀b,FS [PL] N B b Z (aU L) (λ_=>ak) []->Q (.ret (.bool af)) b):au (az PW w) A (b8 ((bodyOf (aO PW 27)).drop 23) (aU L)) Q E s:=by
 have d:=u.hd;have c:A.units+6<fy:=by have:=u.jJ;show _<9900;exact ry _ this
 have V:=C "places" (.inl (by kernel_rfl));have h:=C "likes" (.inl (by kernel_rfl));have T:(bH (rounds W)).length=5:=by unfold bH;exact O (aH ..) (O D.len rfl)
 have K:∀x∈bH (rounds W),0<=x/\x<=4:=λx m=>⟨fW (wB D x m).1,(wB D x m).2⟩;refine@bY _ _ _ _ _ _ _ (@FS.Yl _ _ _ _ _ _ _ _ _ _ ["places","likes"] _ _ _ _ _ _ _ [dc (ia (bH (rounds W))),LI (m9 W (bH (rounds W)))] _ d f (@EL.cons _ _ _ _ _ _ _ _ _ (EF.ev (CU.ef (WO d ((xj Y).imp λo e=>f.ks.kp _ _ e) T K f.cx (by rfl) (by rfl) (by rfl)) f.cx.live)) (@EL.cons _ _ _ _ _ _ _ _ _ (EF.ev (CU.ef (WQ d a T (λi m=>by have:=yL D (aE.mp m).1 (aE.mp m).2;exact fW this.1) f.cx (by rfl) (by rfl) (by rfl)) f.cx.live)) (@EL.nil _ _ _ _ _) rfl) rfl) rfl (show 2<=100000 by decide) (λJ f=>⟨rfl,?_⟩) ?_ rfl rfl);.refine@bY _ _ _ _ _ _ _ (@FS.cond _ _ _ _ _ _ _ _ _ _ _ _ _ _ av _ f (xaq d c H.z f.cx (by rfl) (by rfl) (by rfl) (by rfl)) (λe=>by cases e) λ_ j f=>iA ⟨rfl,?_⟩);refine@di _ _ _ _ _ _ (DG (aB (@xco A _ j.heap _ L _ W l n Y f.ks.kp u a D H f.cx (by rfl) (by rfl) (by rfl) (by rfl) (by rfl) (by rfl) (by rfl) j E λ_ _ e=>e) (λv g y=>?_) λ_ _ e=>e));obtain⟨k,r⟩:=y;obtain rfl:=r.Eu;exact X g ((f.step k).less λx t e=>by cases e)
 .exact dP V (dP h nD)
end
structure Px(S:Int->Bool)(b:Int->Option ai)(F:List Int):Prop where
wo:fR (fK F)nd:∀i∈r5,(bz (fK F) i).Nodup
ht:(jv F).length=5
mo:se S b (jv F)te:TE 5 (nJ (BF S b (fK F) (jv F) F)) (nJ (pn S b (fK F) (jv F) 0))odd:zh (fK F) (pn S b (fK F) (jv F) 0)ends:GW (fK F) ((ju F).map kR) (lq F) (pn S b (fK F) (jv F) 0)book:Bl (fK F) (bH (rounds (fK F))) (pn S b (fK F) (jv F) 0)tot:BH (fK F) (ji (pn S b (fK F) (jv F) 0) r5)
theorem YG:∀v∈pV sc,0<=v/\v<2^35:=λv m=>by
 refine aG (bE.mp m) λq j y=>?_;subst y;have a:=Ef j;have h1:=F1 (B:=1000000000) dk (l:=nB sc q.1) λx m=>E4 m;have J:(nB sc q.1).length<=12:=by
  unfold nB pU;refine O (aH ..) (O (aH ..) (O yf ?_));unfold pF;have f:=xY (n:=sc.length).1;generalize(if(sc.length:Int)<60 then(sc.length:Int)else 60)=B at f⊢;refine O (if_pos (show(5:Int)>0 by decide)) ?_;by_cases g:q.1<B;.exact O (if_pos g) (El.mpr (yc (Int.ediv_le_ediv dk (Int.sub_le_sub_right (gG (xaZ B a.1) f) 1)) 1))
  .refine O (if_neg g) ?_;decide
 have R:=I8 (nY.mpr J) (show(0:Int)<=1000000000 by decide);exact⟨ym a.2.2.1 h1.1,qx (Int.add_lt_add_of_lt_of_le a.2.2.2 (gG h1.2 R)) dk⟩
section
variable{A:aF}{s:aq}{E:aj->aq->Prop}
theorem xcp{p:List Int}(F:A.frames=aa [])(M:cF A 8)(Y:Kp hH (kW s.heap [PL]))(x:dD [PL] jI j9 s.heap PL)(K:Rep [PL] s.heap (LI p) v)(c:p.length<=63)(H:Px setB cB (pV p)):au (az PW w) A (dO (.ref 266) [v] []) (λz S=>z=.bool af/\br [PL] s S/\dD [PL] jI j9 S.heap PL) E s:=by
 have h:Kp (kW s.heap [PL]) s.heap:=λb o e=>wF _ e;have D:∀b:ah,(∃o,(kW s.heap [PL]).get? b=aa o)->b∉[PL]:=λb⟨o,e⟩m=>by exact gone e (wg _ m)
 have P:bJ [PL] s.heap:=λb m=>by refine O (aW.mp m) ?_;refine aG x λps e _=>?_;exact⟨_,e⟩
 refine wk (X:=[PL]) (n:=7) (ts:=[LI p]) (xbv.kp (Y.trans h)) (rE.kp (Y.trans h)) M P (D 3 (rE.kp Y).gU) (D 0 (rE.kp Y).bU) rfl ⟨K,trivial⟩ λU E Z L f i C=>?_;have l:(kW s.heap [PL]).get? PL=ak:=wg _ (aW.mpr rfl);have V:PL∉Z:=λm=>by refine aC (P PL (aW.mpr rfl)) λo e=>?_;exact gone e (f.new PL m)
 have t:dD (Z++[PL]) jI j9 U.heap PL:=(x.Ph f.new).kp f.ks.kp;have f:=f.Pr [PL];have y:=DX p;have R:=YG (sc:=p);have q:=Vg (env:=cu Cc L 266) F;have W:∀k,k<=7->cF (A.deeper (cu Cc L 266)) k:=λk n=>⟨i.hd,by have:=i.dep;exact gO (iy n _) this,gO (iy (mY 8 n) _) i.jJ⟩;refine xbX i.hd C c (xj Y) f λJ f=>?_;refine xbY i.hd C y f λj f=>?_;have d:dD (Z++[PL]) jI j9 j.heap PL:=t.at (f.kx.kp.mono λa m=>bI _ (f.own a (by simpa using m))) λo e=>f.kx.kp PL o (λm=>V (f.own PL (by simpa using m))) e;refine xbZ (n:=1) Y l V i C y (λv m=>⟨(R v m).1,m6 (R v m).2 dk⟩) f d λg I f r=>?_;refine xdS (n:=6) q Y l dk i C y R H.wo H.ht H.mo H.te f λG f=>?_;refine xcb (n:=6) Y i C H.wo f λu f=>?_;refine xcg (n:=6) i H.odd f λB f=>?_;refine xdU (n:=6) Y i C y H.wo H.nd H.ends f λT f=>?_;refine xdX (n:=5) Y i C H.wo H.ends.ck H.book f λN f=>?_;refine xdY (n:=6) Y i C H.wo H.ends.ck H.tot f λS f=>?_;have Q:dD (Z++[PL]) jI j9 S.heap PL:=r.at (f.kx.kp.mono λa m=>bI _ (f.own a (by simpa using m))) λo e=>f.kx.kp PL o (λm=>V (f.own PL (by simpa using m))) e;refine⟨rfl,⟨λb o m e=>f.ks.kp b o (rW _ e m),?_⟩,Q.less λa m=>cJ _ m⟩;have:=f.ks.eq;exact O this rfl
end
section
variable{W:List (List Int)}
noncomputable def SJ(W:List (List Int))(q:Int->Int):Prop:=∀i∈r5,∀k,0<=k->k<q i->∃o∈r5,q o<4/\bu W o (q o)=bu W i k/\eG W (bu W i k) o<eG W (bu W i k) i
structure sI(W:List (List Int))(q:Int->Int):Prop where
bd:∀i∈r5,0<=q i/\q i<=4
nb:∀i∈r5,∀o∈r5,q i<4->q o<4->bu W o (q o)=bu W i (q i)->¬eG W (bu W i (q i)) o<eG W (bu W i (q i)) i
su:SJ W q
theorem L2{p q:Int->Int}(s:sI W q)(b:∀i∈r5,p i<=q i){i o:Int}(E:i∈r5)(T:o∈r5)(F:p i<4)(a:0<=p o/\p o<4)(e:bu W o (p o)=bu W i (p i))(A:eG W (bu W i (p i)) o<eG W (bu W i (p i)) i):p i+1<=q i:=by
 have R:=b i E;have G:=b o T;by_cases h:p i=q i
 .by_cases g:p o=q o;.rw[h,g]at e;rw[h]at A;exact absurd A (s.nb i E o T (h▸F) (g▸a.2) e)
  .refine fU (s.su o T (p o) a.1 (je G g)) λc H Y U B=>?_;rw[e]at U B;rw[h]at U B A;exact absurd (m6 B A) (s.nb i E c H (h▸F) Y U)
 .exact je R h
noncomputable def zO(W:List (List Int))(c:List Int)(I:Int):Prop:=∃o∈r5,gi c o<4/\bu W o (gi c o)=bu W I (gi c I)/\eG W (bu W I (gi c I)) o<eG W (bu W I (gi c I)) I
theorem L3(W:List (List Int))(c:List Int)(I:Int):zO W c I/\gX W c I=c.set I.toNat (gi c I+1)\/¬zO W c I/\gX W c I=c:=by
 unfold gX;generalize C:(oM W c (bu W I (gi c I))).filter (λo=>decide (eG W (bu W I (gi c I)) o<eG W (bu W I (gi c I)) I))=L;have d:zO W c I↔L≠[]:=by
  refine aQ C ?_;refine⟨λ⟨o,m,Y,e,lt⟩q=>?_,λq=>?_⟩;.have:=vO.mp q o (d7.mpr ⟨m,by refine O (decide_eq_true Y) (O e ?_);simp⟩);exact this (decide_eq_true lt)
  .refine aC (UA _ q) λo T=>?_;refine aV (d7.mp T) λU s=>?_;refine aV (d7.mp U) λf g=>?_;simp only[dZ,decide_eq_true_eq,t9,beq_iff_eq]at g;exact⟨o,f,g.1,g.2,of_decide_eq_true s⟩
 cases L with|nil=>exact .inr ⟨λb=>d.mp b rfl,rfl⟩|cons a L=>exact .inl ⟨d.mpr (by simp),rfl⟩
structure RI(W:List (List Int))(c:List Int):Prop where
ck:fS c
su:SJ W (gi c)le:∀q,sI W q->∀i∈r5,gi c i<=q i
theorem xdZ{c:List Int}(D:fS c){I j:Int}(h:I∈r5)(Y:j∈r5):gi (c.set I.toNat (gi c I+1)) j=if j=I then gi c I+1 else gi c j:=r9 (aE.mp h).1 (aE.mp Y).1 (by exact O D.len (aE.mp h).2)
theorem sum_set{c:List Int}:∀n,n<c.length->(c.set n (c.getD n 0+1)).sum=c.sum+1:=by induction c with|nil=>exact λn h=>nomatch h|cons a c G=>intro n h;cases n with|zero=>exact JX a 1 c.sum|succ n=>exact(congrArg (a+·) (G n (V1 h))).trans (nX ..).symm
theorem F6{c:List Int}(h:c.length=5){I:Int}(m:I∈r5):(c.set I.toNat (gi c I+1)).sum=c.sum+1:=have q:=aE.mp m
sum_set _ (iu q.1 (h▸q.2))
theorem M5{l:List Int}(h:∀x∈l,x<=4):l.sum<=4*l.length:=by induction l with|nil=>exact uh _|cons a l G=>exact gG (La (h a (aP ..)) (G λx m=>h x (aY _ m))) (mH ((jO ..).trans (xey 4 l.length 1).symm))
theorem xcq{c:List Int}(D:fS c):c.sum<=20:=(D.len▸M5 λx m=>(D.mem x m).2:c.sum<=4*(5:Nat))
theorem RI.step(h:RI W c)(m:I∈r5)(Y:gi c I<4):RI W (gX W c I):=by
 have n:=h.ck.step (W:=W) (aE.mp m).1 (aE.mp m).2 Y;refine bw (L3 W c I) (λv=>?_) λd=>?_
 .obtain⟨⟨o,T,l,e,A⟩,r⟩:=v;rw[r]at n⊢;have g:o≠I:=λq=>by replace A:=q▸A;exact yo _ A
  have b:=λ{j:Int}(w:j∈r5)=>xdZ h.ck m w;refine⟨n,λi E k H V=>?_,λq s i E=>?_⟩
  .replace V:=b E▸V;by_cases C:i=I/\k=gi c I;.obtain⟨rfl,rfl⟩:=C;refine⟨o,T,?_⟩;exact O (b T) (O (if_neg g) ⟨l,e,A⟩)
   .obtain⟨a,X,f,U,B⟩:=h.su i E k H (by
by_cases q:i=I;.rw[if_pos q]at V;exact O q (je (yb V) λz=>C ⟨q,z⟩)
.rw[if_neg q]at V;exact V);by_cases p:a=I;.subst p;refine⟨o,T,?_⟩;refine O (b T) (O (if_neg g) ?_);rw[U]at e A;exact⟨l,e,m6 A B⟩
    .refine⟨a,X,?_⟩;exact O (b X) (O (if_neg p) ⟨f,U,B⟩)
  .refine O (b E) ?_;split;.have bl:=L2 s (h.le q s) m T Y ⟨(h.ck.el o (aE.mp T).1 (aE.mp T).2).1,l⟩ e A;exact O ‹i=I› bl
   .exact h.le q s i E
 .obtain⟨_,r⟩:=d;exact O r h
theorem Py:∀{l c:List Int},RI W c->(∀x∈l,x∈r5/\gi c x<4)->l.Nodup->RI W (l.foldl (gX W) c)/\c.sum<=(l.foldl (gX W) c).sum/\((l.foldl (gX W) c=c/\∀I∈l,¬zO W c I)\/c.sum+1<=(l.foldl (gX W) c).sum)
|[],c,h,_,_=>⟨h,uh _,.inl ⟨rfl,λ_ m=>by cases m⟩⟩|a::l,c,h,V,e=>by
 refine aV (V a (aP ..)) λs g=>?_;refine aV (mC.mp e) λj d=>?_;obtain⟨Q,R,M⟩:=Py (h.step s g) (l:=l) (λx m=>⟨(V x (aY _ m)).1,by have Y:=V x (aY _ m);rw[DM h.ck.len (aE.mp s).1 (aE.mp s).2 (aE.mp Y.1).1 λq=>j (q▸m)];exact Y.2⟩) d;refine O pJ ?_;refine bw (L3 W c a) (λv=>?_) λf=>?_;.obtain⟨b,r⟩:=v;have:=F6 h.ck.len s;rw[<-r]at this;exact⟨Q,kN (C8 (this▸R)),.inr (this▸R)⟩
 .obtain⟨b,r⟩:=f;rw[r]at Q R M⊢;refine⟨Q,R,M.imp (λ⟨x,y⟩=>⟨x,λI m=>?_⟩) id⟩;refine bw (bA.mp m) (λv=>?_) λm=>?_;.subst v;exact b
  .exact y I m
noncomputable def NB(W:List (List Int))(c:List Int):Prop:=∀I∈r5,gi c I<4->¬zO W c I
theorem Pz{c:List Int}(h:RI W c):RI W (oW W c)/\(oW W c=c/\NB W c\/c.sum+1<=(oW W c).sum):=by refine gW (Py h (l:=r5.filter λI=>decide (gi c I<4)) (λx m=>⟨(d7.mp m).1,of_decide_eq_true (d7.mp m).2⟩) (qK.filter _)) λa _ b=>?_;exact⟨a,b.imp (λ⟨x,y⟩=>⟨x,λI m Y=>y I (d7.mpr ⟨m,decide_eq_true Y⟩)⟩) id⟩
theorem YH{c:List Int}(D:fS c)(h:20<=c.sum):∀i∈r5,gi c i=4:=by intro i m;have q:=aE.mp m;refine yk (D.el i q.1 q.2).2 (fD.mp λz=>?_);have t:=M5 (l:=c.set i.toNat (gi c i+1)) λx S=>(Jg S).elim (λm=>(D.mem x m).2) λe=>e▸Xa z;rw[F6 D.len m,jN,D.len]at t;exact fD.mpr h (C8 t)
theorem HN:∀(n:Nat){b c:List Int},RI W c->(c=b->NB W c)->oW W c=c\/20<=c.sum+n->RI W (rB W n b c)/\NB W (rB W n b c)
|0,b,c,h,_,a=>⟨h,by
 show NB W c;rcases a with a|a
 .rcases(Pz h).2 with⟨_,x⟩|x;.exact x
  .rw[a]at x;exact sQ x
 .intro I m Y;have:=YH h.ck (by simpa using a) I m;exact rC Y this⟩|n+1,b,c,h,R,a=>by
 rw[rB];split;.exact⟨h,R ‹_›⟩
 .refine aV (Pz h) λx y=>?_;rcases y with⟨y,z⟩|y;.exact O y (HN n h (λ_=>z) (.inl y))
  .refine HN n x (λq=>absurd y (by exact O q (sQ (q▸y)))) (.inr ?_);rcases a with a|a;.rw[a]at y;exact sQ y
   .exact gG a (gG (mH (by rw[Int.natCast_succ,jO (n:Int) 1,<-nX])) (yc y n))
theorem CG:∀i∈r5,gi [0,0,0,0,0] i=0:=by decide
theorem ri0:RI W [0,0,0,0,0]where
ck:=Lp;su i a k H V:=by have:=CG i a;exact BY (this▸V) H
le q s i a:=by exact O (CG i a) (s.bd i a).1
theorem qH(W:List (List Int)):RI W (rounds W)/\NB W (rounds W):=HN 20 ri0 (λq=>by cases q) (.inr (by decide))
theorem U9(W:List (List Int)):sI W (gi (rounds W)):=have h:=qH W
⟨λi m=>h.1.ck.el i (aE.mp m).1 (aE.mp m).2,λi E o T Z l e A=>h.2 i E Z ⟨o,T,l,e,A⟩,h.1.su⟩
theorem WR(s:sI W p)(a:∀q,sI W q->∀i∈r5,p i<=q i):∀i∈r5,p i=gi (rounds W) i:=λi m=>yk (a _ (U9 W) i m) ((qH W).1.le p s i m)
end
def cj(f:Int->Int)(K:List Int):Tab:=K.map λi=>(bB i,f i)
noncomputable def gj(K:List Int):Prop:=K.Nodup/\∀i∈K,i∈r5
theorem mK{f g:Int->Int}{K:List Int}(h:∀i∈K,f i=g i):cj f K=cj g K:=jK λi m=>by exact O (h i m) rfl
theorem xar{f:Int->Int}{i:Int}(F:i∈r5){K:List Int}:(∀i∈K,i∈r5)->sX (cj f K) (bB i)=if i∈K then aa (f i)else ak:=by induction K with|nil=>exact λ_=>rfl|cons a K G=>
intro h;by_cases e:a=i;.subst e;exact(congrArg (ur qL) (C0 (decide_eq_true rfl))).trans (if_pos (aP ..)).symm
.refine(congrArg (ur qL) (C1 λq=>e (uD a (h a (aP ..)) i F (of_decide_eq_true q)))).trans ((G λi m=>h i (aY _ m)).trans ?_);by_cases m:i∈K;.exact O (if_pos m) (O (if_pos (aY _ m)) rfl)
 .rw[if_neg m,if_neg λq=>m ((bA.mp q).resolve_left (gu e))]
theorem any_mk{f:Int->Int}{i:Int}(F:i∈r5){K:List Int}(h:∀i∈K,i∈r5):(cj f K).any (λp=>decide (p.1=bB i))=decide (i∈K):=by rw[tY,vX,decide_eq_true_iff];refine⟨λ⟨p,m,e⟩=>?_,λm=>⟨_,bE.mpr ⟨i,m,rfl⟩,decide_eq_true rfl⟩⟩;refine aG (bE.mp m) λa s u=>?_;subst u;exact uD a (h a s) i F (of_decide_eq_true e)▸s
theorem M6{f:Int->Int}{i v:Int}(F:i∈r5){K:List Int}(h:∀i∈K,i∈r5):ir (cj f K) (bB i) v=cj (λx=>if x=i then v else f x) (if i∈K then K else K++[i]):=by
 unfold ir;refine O (any_mk F h) ?_;by_cases m:i∈K
 .refine O (if_pos (decide_eq_true m)) (O (if_pos m) ?_);unfold cj;refine O bO ?_;refine jK λa s=>?_;by_cases e:a=i;.subst e;simp
  .have:¬bB a=bB i:=λq=>e (uD a (h a s) i F q);simp[this,e]
 .refine O (if_neg (by rw[decide_eq_false m];exact qw)) (O (if_neg m) ?_);unfold cj;refine O fY ?_;refine congr (congrArg _ (jK λa s=>?_)) (by simp);show(bB a,f a)=(bB a,if a=i then v else f a);rw[if_neg λq:a=i=>m (q▸s)]
theorem xea{a:Int}{b K:List Int}(l:(b++a::K).Nodup):a∉b:=by intro m;have:=(nQ.mp l).2.2;exact absurd rfl (this a m a (aP ..))
theorem M7{f:Int->Int}{K:List Int}:∀{b:List Int},(b++K).Nodup->(∀i∈b++K,i∈r5)->(cj f K).foldl (λd p=>ir d p.1 p.2) (cj f b)=cj f (b++K):=by induction K with|nil=>intro b _ _;refine O (g8 ..) ?_;rfl|cons a K G=>
intro b l h;have e:b++a::K=b++[a]++K:=(fT b [a] K).symm;have H:ir (cj f b) (bB a) (f a)=cj f (b++[a]):=by
 refine O (M6 (h a (cJ _ (aP ..))) λi m=>h i (bI _ m)) (O (if_neg (xea l)) ?_);refine mK λi m=>?_;by_cases q:i=a;.exact O (if_pos q) (O q rfl)
 .exact O (if_neg q) rfl
refine O e (aQ (G (e▸l) (e▸h)) (aQ H ?_));rfl
theorem Kn{f:Int->Int}{i v:Int}(F:i∈r5){K:List Int}(h:∀i∈K,i∈r5):jU (cj f K) (bB i,v)=cj (λx=>(if x∈K then f x else 0)+if x=i then v else 0) (if i∈K then K else K++[i]):=by
 unfold jU;refine O (xar F h) (O (M6 F h) ?_);refine mK λx S=>?_;by_cases m:i∈K
 .refine O (if_pos m) ?_;rw[if_pos m]at S;refine O (if_pos S) ?_;by_cases e:x=i;.refine O (if_pos e) (O (if_pos e) (O e ?_));rfl
  .exact O (if_neg e) (O (if_neg e) (O (qF ..) rfl))
 .refine O (if_neg m) ?_;rw[if_neg m]at S;by_cases e:x=i;.refine O (if_pos e) (O (if_pos e) (O e (O (if_neg m) (O (mG ..) ?_))));rfl
  .rw[if_neg e,if_neg e,qF,if_pos ((bC.mp S).resolve_right λq=>e (aW.mp q))]
theorem M8{p q:Prop}[Decidable p][Decidable q](h:p↔q):(if p then a else b)=if q then a else b:=by
 by_cases c:q;.exact O (if_pos c) (O (if_pos (h.mpr c)) rfl)
 .rw[if_neg c,if_neg λk=>c (h.mp k)]
theorem xas{g:Int->Int}{k:List Int}:∀{K:List Int}{f:Int->Int},gj K->gj k->∃b,gj b/\(∀i,i∈b↔i∈K\/i∈k)/\(cj g k).foldl jU (cj f K)=cj (λx=>(if x∈K then f x else 0)+if x∈k then g x else 0) b:=by induction k with|nil=>exact λ{K}{f}h _=>⟨K,h,λi=>⟨.inl,λq=>q.elim id λm=>absurd m b9⟩,mK λi m=>by exact O (if_pos m) (O (if_neg b9) (O (qF ..) rfl))⟩|cons a k G=>
intro K f h h';have s:=h'.2 a (aP ..);refine aV (mC.mp h'.1) λj l=>?_;have c:∀i,i∈(if a∈K then K else K++[a])↔i∈K\/i=a:=λi=>by
 by_cases m:a∈K;.exact O (if_pos m) ⟨.inl,λq=>q.elim id λe=>e▸m⟩
 .rw[if_neg m,bC,aW]
have V:gj (if a∈K then K else K++[a]):=by
 refine⟨?_,λi E=>((c i).mp E).elim (h.2 i) λe=>e▸s⟩;by_cases m:a∈K;.exact O (if_pos m) h.1
 .exact O (if_neg m) (nQ.mpr ⟨h.1,by simp,λx S y Z q=>m (aW.mp Z▸q▸S)⟩)
refine dj (G (f:=λx=>(if x∈K then f x else 0)+if x=a then g a else 0) V ⟨l,λi m=>h'.2 i (aY _ m)⟩) λb x y z=>?_;refine⟨b,x,λi=>by rw[y,c,bA,or_assoc],?_⟩;show(cj g k).foldl jU (jU (cj f K) (bB a,g a))=_;rw[Kn s h.2,z];refine mK λi E=>?_;by_cases e:i=a;.subst e;exact O (if_pos ((c i).mpr (.inr rfl))) (O (if_neg j) (O (if_pos rfl) (O (if_pos (aP ..)) (O (qF ..) rfl))))
.have H:i∈a::k↔i∈k:=bA.trans ⟨λq=>q.resolve_left e,.inr⟩;have L:i∈(if a∈K then K else K++[a])↔i∈K:=(c i).trans ⟨λq=>q.resolve_right e,.inl⟩;refine O (if_neg e) (O (qF ..) (O (M8 H) (O (M8 L) ?_)));by_cases m:i∈K;.exact O (if_pos m) (O (if_pos m) rfl)
 .exact O (if_neg m) (O (if_neg m) rfl)
theorem Fc{f g:Int->Int}{K k:List Int}(h:gj K)(h':gj k):∃b,gj b/\(∀i,i∈b↔i∈K\/i∈k)/\jH (cj f K) (cj g k)=cj (λx=>(if x∈K then f x else 0)+if x∈k then g x else 0) b:=by have e:(cj f K).foldl (λd p=>ir d p.1 p.2) (cj f [])=cj f ([]++K):=M7 (by simpa using h.1) (by simpa using h.2);have:=xas (g:=g) (f:=f) h h';unfold jH;exact O (show([]:Tab)=cj f []from rfl) (O e this)
theorem YI{f:Int->Int}{K:List Int}{i:Int}(h:gj K)(F:i∈r5)(m:i∉K):jH (cj f K) [(bB i,f i)]=cj f (K++[i]):=by
 have e:(cj f K).foldl (λd p=>ir d p.1 p.2) (cj f [])=cj f ([]++K):=M7 (by simpa using h.1) (by simpa using h.2);unfold jH;refine O (show([]:Tab)=cj f []from rfl) (O e ?_);show jU (cj f K) (bB i,f i)=_;rw[Kn F h.2,if_neg m];refine mK λx S=>?_;rcases bC.mp S with S|S;.rw[if_pos S,if_neg λq:x=i=>m (q▸S),qF]
 .exact O (aW.mp S) (O (if_neg m) (O (if_pos rfl) (O (mG ..) rfl)))
theorem wO(f:Int->Int)(K:List Int):tabS (cj f K)=(K.map f).sum:=by unfold tabS cj;refine O bO ?_;rfl
theorem uE(f:Int->Int)(K:List Int):(cj f K).length=K.length:=aH ..
theorem PA{F:Int->T}{i:Int}{K:List Int}(b:i∈r5)(h:∀i∈K,i∈r5)(m:i∈K):getD (K.map λx=>(bB x,F x)) (bB i)=aa (F i):=by induction K with|nil=>cases m|cons a K G=>
by_cases e:a=i;.subst e;exact congrArg (ur qL) (C0 (decide_eq_true rfl))
.exact(congrArg (ur qL) (C1 λq=>e (uD a (h a (aP ..)) i b (of_decide_eq_true q)))).trans (G (λi m=>h i (aY _ m)) ((bA.mp m).resolve_left (gu e)))
theorem OD(f:Int->Int)(K:List Int):dc (cj f K)=DS (K.map λx=>(bB x,.int (f x))):=congrArg DS (bO ..)
theorem G1{K k:List Int}(p:K.Perm k)(h:gj K)(e:∀i∈K,f i=g i):TE (n+1) (dc (cj f K)) (dc (cj g k)):=by refine O (OD ..) (O (OD ..) ?_);refine .dict (by exact O (aH ..) (O (aH ..) (O p.length_eq rfl))) λq j=>?_;refine aG (bE.mp j) λx m C=>?_;subst C;exact⟨by rw[PA (F:=λx=>.int (g x)) (h.2 x m) (λi E=>h.2 i (p.mem_iff.mpr E)) (p.mem_iff.mp m),<-e x m],.inl rfl⟩
noncomputable def xZ(n:Nat)(l m:List T):Prop:=l.length=m.length/\∀(i:Nat)a b,l[i]?=aa a->m[i]?=aa b->TE n a b
theorem xZ.nil:xZ n [] []:=⟨rfl,λ_ _ _ p=>nomatch p⟩
theorem xZ.cons(h:TE n a b)(t:xZ n l m):xZ n (a::l) (b::m):=⟨congrArg Nat.succ t.1,λi=>by cases i with|zero=>intro _ _ p q;cases p;cases q;exact h|succ i=>exact t.2 i⟩
theorem QM(K:TE n a y)(R:TE n b g)(Z:TE n c f)(U:TE n d j)(L:TE n e h):TE (n+1) (.tup [a,b,c,d,e]) (.tup [y,g,f,j,h]):=have k:=xZ.cons K (.cons R (.cons Z (.cons U (.cons L .nil))))
.tup k.1 k.2
theorem Fd{x y:Stat}(K:x.a=y.a)(R:x.b=y.b)(Z:x.c=y.c)(U:x.d=y.d)(h:TE (n+1) (dc x.t) (dc y.t)):TE (n+2) (cA x) (cA y):=by obtain⟨_,_,_,_,_⟩:=x;obtain⟨_,_,_,_,_⟩:=y;cases K;cases R;cases Z;cases U;exact QM (.flat rfl) (.flat rfl) (.flat rfl) (.flat rfl) h
section
variable{W:List (List Int)}{G:List ai}{c:ai->ai}{B:Int}{M:bG}{k:Nat}
noncomputable def Pl(W:List (List Int)):Prop:=fR W/\∀i∈r5,(bz W i).Nodup
theorem w6(P:Pl W){i k:Int}(m:i∈r5)(D:0<=k)(h1:k<4):bu W i k∈r5/\bu W i k≠i:=have h:=P.1.at (aE.mp m).1 (aE.mp m).2 D h1
⟨aE.mpr ⟨h.1,h.2.1⟩,h.2.2⟩
theorem A6(P:Pl W){i k:Int}(m:i∈r5)(D:0<=k)(h1:k<4):((bz W i).idxOf (bu W i k):Int)=k:=by have V:=P.1.row i (aE.mp m).1 (aE.mp m).2;unfold bu gi;rw[cz,cy (jk h1 V)];show((bz W i).idxOf ((bz W i)[k.toNat]'(jk h1 V)):Int)=k;rw[(P.2 i m).idxOf_getElem];exact mu D
theorem M9(P:Pl W){i k l:Int}(m:i∈r5)(D:0<=k)(h1:k<4)(b:0<=l)(a:l<4)(e:bu W i k=bu W i l):k=l:=by exact aQ (A6 P m D h1) (O e (O (A6 P m b a) rfl))
theorem EE(P:Pl W)(m:j∈r5)(S:x∈r5)(Z:y∈r5)(Y:x≠j)(w:y≠j)(e:eG W j x=eG W j y):x=y:=by have h1:=P.1.all j (aE.mp m).1 (aE.mp m).2 x (aE.mp S).1 (aE.mp S).2 Y;have J:=P.1.all j (aE.mp m).1 (aE.mp m).2 y (aE.mp Z).1 (aE.mp Z).2 w;unfold eG at e;have U:(bz W j).idxOf x=(bz W j).idxOf y:=jR (i8 (rM _)) (jR (congrArg _ e) (rM _));have a:=Df (x6 h1);have b:=Df (x6 J);refine aQ a (aQ b ?_);simp only[U]
def tu(W:List (List Int))(i:Int)(n:Nat):List (ai×T):=((bz W i).take n).map λa=>(bB a,jg a)
def jF(M:bG)(i:Int):List (ai×T):=M.refused.getD i.toNat []
def pN(M:bG)(i:Int):Int:=(jF M i).length
def gw(W:List (List Int))(j i:Int):Int:=((bz W i).idxOf j:Int)+1
def sJ(W:List (List Int))(j i:Int):Int:=(bz W j).idxOf i
noncomputable abbrev nn(l:List Int):List Int:=l.filter λx=>decide (0<=x)
structure ko(W:List (List Int))(M:bG):Prop where
perm:(M.free++M.alone++nn M.held).Perm r5
own:∀j∈r5,0<=gi M.held j->1<=gi M.aJ (gi M.held j)/\bu W (gi M.held j) (gi M.aJ (gi M.held j)-1)=j
best:∀i∈r5,∀k,0<=k->k<gi M.aJ i->0<=gi M.held (bu W i k)/\eG W (bu W i k) (gi M.held (bu W i k))<=eG W (bu W i k) i
al:∀i∈M.alone,gi M.aJ i=4
ref:∀i∈r5,jF M i=tu W i (jF M i).length
tG:∀i∈r5,(∀j∈r5,gi M.held j≠i)->pN M i=gi M.aJ i
vJ:∀j∈r5,0<=gi M.held j->pN M (gi M.held j)+1=gi M.aJ (gi M.held j)le:∀q,sI W q->∀i∈r5,pN M i<=q i
bk:∀j∈r5,∃L,gj L/\(∀i∈r5,i∈L↔∃k,0<=k/\k<gi M.aJ i/\bu W i k=j)/\cO M.book j=⟨if gi M.held j<0 then 0 else 1,L.length,(L.map (gw W j)).sum,(L.map (sJ W j)).sum,cj (gw W j) L⟩
theorem BI{l:List Int}{i:Int}(h:l.length=5)(m:i∈r5):i.toNat<l.length:=by exact O h (toNat_lt (aE.mp m).1 (aE.mp m).2)
theorem BJ{l:List Int}{i:Int}(h:i.toNat<l.length):l[i.toNat]=gi l i:=by unfold gi;refine O cz (O (cy h) ?_);rfl
theorem G2:∀(l:List Int)(n:Nat)(x:Int),n<l.length->(l.set n x).Perm (x::l.eraseIdx n)|a::l,0,x,_=>List.Perm.refl _|a::l,n+1,x,h=>((G2 l n x (by simpa using h)).cons a).trans (List.Perm.swap x a _)
theorem pull{l:List Int}{i:Int}(h:i.toNat<l.length):l.Perm (gi l i::l.eraseIdx i.toNat):=by have:=G2 l i.toNat (gi l i) h;rwa[<-BJ h,VY,BJ h]at this
theorem SK:∀j∈r5,gi [-1,-1,-1,-1,-1] j=-1:=dk
theorem wQ(r:fh M k)(m:j∈r5)(h:0<=gi M.held j):gi M.held j∈r5/\gi M.held j≠j:=have q:=r.qa j (aE.mp m).1 (aE.mp m).2
⟨aE.mpr ⟨h,q.2.1⟩,q.2.2⟩
theorem AK(r:fh M k)(m:j∈r5):gi M.held j∈M.held:=by have h:=BI r.held m;exact aQ (BJ h) (nT _)
theorem xgG(u:List ai):ko W (iG u)where
perm:=by show([0,1,2,3,4]++[]++nn [-1,-1,-1,-1,-1]:List Int).Perm r5;exact List.Perm.of_eq dk
own j m h:=by have:=SK j m;exact absurd h (by show¬0<=gi [-1,-1,-1,-1,-1] j;exact yF.mpr (jM (mH this) jj))
best i m k D h1:=by have:gi [0,0,0,0,0] i=0:=CG i m;exact absurd h1 (by show¬k<gi [0,0,0,0,0] i;exact fD.mpr (PZ this D))
al i m:=by cases m
ref i m:=by
 have:jF (iG u) i=[]:=by
  have:∀i∈r5,([[],[],[],[],[]]:List (List (ai×T))).getD i.toNat []=[]:=by intro i m;have:=aE.mp m;have:i=0\/i=1\/i=2\/i=3\/i=4:=lz this.1 this.2;rcases this with rfl|rfl|rfl|rfl|rfl<;>rfl
  exact this i m
 refine O this ?_;rfl
tG i m _:=by have:=aE.mp m;have:i=0\/i=1\/i=2\/i=3\/i=4:=lz this.1 this.2;rcases this with rfl|rfl|rfl|rfl|rfl<;>rfl
vJ j m h:=by have:=SK j m;exact absurd h (by show¬0<=gi [-1,-1,-1,-1,-1] j;exact yF.mpr (jM (mH this) jj))
le q s i m:=by have h:=(s.bd i m).1;have:=aE.mp m;have:i=0\/i=1\/i=2\/i=3\/i=4:=lz this.1 this.2;rcases this with rfl|rfl|rfl|rfl|rfl<;>exact h
bk j m:=by
 refine⟨[],⟨t7,λi m=>by cases m⟩,λi E=>⟨λh=>(by cases h),λ⟨k,D,h1,_⟩=>?_⟩,?_⟩;.have:gi [0,0,0,0,0] i=0:=CG i E;exact absurd h1 (by show¬k<gi [0,0,0,0,0] i;exact fD.mpr (PZ this D))
 .have:=aE.mp m;have:j=0\/j=1\/j=2\/j=3\/j=4:=lz this.1 this.2;rcases this with rfl|rfl|rfl|rfl|rfl<;>rfl
theorem WS(v:ko W M)(r:fh M k)(m:I∈M.free):I∈r5/\∀j∈r5,gi M.held j≠I:=by have l:=v.perm.nodup_iff.mpr qK;have S:I∈r5:=v.perm.mem_iff.mp (by simp[m]);refine⟨S,λj w e=>?_⟩;have R:=(nQ.mp l).2.2;have h1:I∈M.free++M.alone:=bI _ m;have J:I∈nn M.held:=d7.mpr ⟨e▸AK r w,decide_eq_true (aE.mp S).1⟩;exact absurd rfl (R I h1 I J)
theorem WU(v:ko W M)(Y:gi M.aJ I=4)(p:M.free.Perm (I::b)):ko W {M with free:=b,alone:=M.alone++[I]}where
perm:=by show(b++(M.alone++[I])++nn M.held).Perm r5;refine Ds (Ug _ ?_) v.perm;refine aQ (fT ..) ?_;refine(VZ).trans ?_;exact(Ug M.alone p).symm
own:=v.own;best:=v.best;al i m:=by
 refine bw (bC.mp m) (λm=>?_) λm=>?_;.exact v.al i m
 .exact O (aW.mp m) Y
ref:=v.ref;tG:=v.tG;vJ:=v.vJ;le:=v.le;bk:=v.bk
end
section
variable{W:List (List Int)}{M:bG}{k:Nat}
theorem AL{L:Type}{l:List L}{i j:Int}{x d:L}(V:l.length=5)(E:i∈r5)(w:j∈r5):(l.set i.toNat x).getD j.toNat d=if j=i then x else l.getD j.toNat d:=by
 have h1:=aE.mp E;have J:=aE.mp w;refine O cz (O cz ?_);by_cases e:j=i;.refine O e (O (zR (BU h1.1 h1.2 V)) (O (if_pos rfl) ?_));rfl
 .exact O (C5 (Gj h1.1 J.1 e)) (O (if_neg e) rfl)
theorem A7{l:List Int}{i j x:Int}(V:l.length=5)(E:i∈r5)(w:j∈r5):gi (l.set i.toNat x) j=if j=i then x else gi l j:=AL V E w
structure Ask(W:List (List Int))(M:bG)(I j:Int):Prop where
mw:I∈r5
nh:∀j∈r5,gi M.held j≠I
c0:0<=gi M.aJ I
c4:gi M.aJ I<4
j:bu W I (gi M.aJ I)=j
theorem WV(P:Pl W){i p j:Int}(m:i∈r5)(D:0<=p)(h1:p<4)(e:bu W i p=j):fJ (tu W i p.toNat) (bB j) (jg j)=tu W i (p.toNat+1):=by
 have V:=P.1.row i (aE.mp m).1 (aE.mp m).2;have A:(bz W i)[p.toNat]'(jk h1 V)=j:=by refine aQ e ?_;unfold bu gi;rw[cz,cy (jk h1 V)];rfl
 have w:=(w6 P m D h1).1;rw[e]at w;have b:j∉(bz W i).take p.toNat:=λq=>by obtain⟨n,K,U⟩:=yd q;rw[Y0]at U;rw[jC]at K;have I:=(P.2 i m).idxOf_getElem n (HT K);have N:=(P.2 i m).idxOf_getElem p.toNat (jk h1 V);rw[U]at I;rw[A]at N;exact Ra K I N
 unfold fJ tu;rw[if_neg,I2 (jk h1 V),fY,A];rfl;intro q;refine aG (vX.mp q) λx S y=>?_;refine aG (bE.mp S) λa s u=>?_;subst u;have r:=P.1.el i (aE.mp m).1 (aE.mp m).2 a (nO s);exact b (uD a (aE.mpr ⟨r.1,r.2.1⟩) j w (of_decide_eq_true y)▸s)
theorem mL(r:fh M k){I i:Int}(a:I∈r5)(m:i∈r5):gi (M.aJ.set I.toNat (gi M.aJ I+1)) i=if i=I then gi M.aJ I+1 else gi M.aJ i:=A7 r.aJ.len a m
theorem Na(P:Pl W)(v:ko W M)(r:fh M k){I j:Int}(a:Ask W M I j)(w:j∈r5){J:List Int}{n:ai}(K:n=bB I)(B:∀i∈r5,i≠j->gi J i=gi M.held i)(c:0<=gi J j):∀i∈r5,∃L,gj L/\(∀x∈r5,x∈L↔∃k,0<=k/\k<gi (M.aJ.set I.toNat (gi M.aJ I+1)) x/\bu W x k=i)/\cO (M.book.set j.toNat (j7 (cO M.book j) ⟨if gi M.held j<0 then 1 else 0,1,gi M.aJ I+1,(bz W j).idxOf I,[(n,gi M.aJ I+1)]⟩)) i=⟨if gi J i<0 then 0 else 1,L.length,(L.map (gw W i)).sum,(L.map (sJ W i)).sum,cj (gw W i) L⟩:=by
 intro i E;have d:∀x,cO (M.book.set j.toNat x) i=if i=j then x else cO M.book i:=λx=>AL r.book w E;refine dj (v.bk i E) λL o C e=>?_;refine O (d ..) ?_;by_cases q:i=j
 .subst q;have N:I∉L:=λm=>by refine dj ((C I a.mw).mp m) λk H V e=>?_;rw[<-a.j]at e;have:=M9 P a.mw H (by have:=a.c4;exact m6 V this) a.c0 a.c4 e;exact rC V this
  have b:gw W i I=gi M.aJ I+1:=by unfold gw;exact aQ a.j (O (A6 P a.mw a.c0 a.c4) rfl)
  refine⟨L++[I],⟨nQ.mpr ⟨o.1,by simp,λx S y Z=>?_⟩,λx S=>?_⟩,λx S=>?_,?_⟩;.exact O (aW.mp Z) λq=>N (q▸S)
  .refine bw (bC.mp S) (λS=>?_) λS=>?_;.exact o.2 x S
   .exact O (aW.mp S) a.mw
  .rw[bC,C x S,aW,mL r a.mw S];by_cases z:x=I;.subst z;exact O (if_pos rfl) ⟨λ_=>⟨_,a.c0,Int.lt_succ _,a.j⟩,λ_=>.inr rfl⟩
   .exact O (if_neg z) ⟨λy=>y.elim id λy=>absurd y z,.inl⟩
  .refine O (if_pos rfl) (O e (O K (aQ b ?_)));unfold j7;simp only;refine O (YI o a.mw N) (O fY (O fY (O DO (O DO (O cK (O (if_neg (fD.mpr c)) ?_))))));congr 1;.split<;>rfl
   .exact jO 1 (L.length:Int)
   .show gw W i I+_=_+(gw W i I+0);exact O (qF _) (jO ..)
   .show sJ W i I+_=_+(sJ W i I+0);exact O (qF _) (jO ..)
 .refine⟨L,o,λx S=>?_,?_⟩
  .rw[C x S,mL r a.mw S];by_cases z:x=I
   .subst z;refine O (if_pos rfl) ?_;refine⟨λ⟨k,H,V,e⟩=>⟨k,H,DZ V,e⟩,λ⟨k,H,V,e⟩=>⟨k,H,?_,e⟩⟩;by_cases z:k=gi M.aJ x;.rw[z,a.j]at e;exact absurd e.symm q
    .exact je (yb V) z
   .rw[if_neg z]
  .exact O (if_neg q) (O e (O (B i E q) rfl))
theorem Nb(v:ko W M)(r:fh M k){I j:Int}(a:Ask W M I j)(B:∀i∈r5,i≠j->gi J i=gi M.held i)(e:0<=gi J j)(U:eG W j (gi J j)<=eG W j I)(s:0<=gi M.held j->eG W j (gi J j)<=eG W j (gi M.held j))(P:Pl W):∀i∈r5,∀k,0<=k->k<gi (M.aJ.set I.toNat (gi M.aJ I+1)) i->0<=gi J (bu W i k)/\eG W (bu W i k) (gi J (bu W i k))<=eG W (bu W i k) i:=by
 intro i E k H V;rw[mL r a.mw E]at V;by_cases z:i=I/\k=gi M.aJ I
 .refine aV z λu p=>?_;try clear z;subst u;subst p
  exact O a.j ⟨e,U⟩
 .have d:k<gi M.aJ i:=by
   by_cases c:i=I;.rw[if_pos c]at V;subst c;exact je (yb V) λq=>z ⟨rfl,q⟩
   .rw[if_neg c]at V;exact V
  have Z:=r.aJ.el i (aE.mp E).1 (aE.mp E).2;have b:=v.best i E k H d;by_cases q:bu W i k=j;.rw[q]at b⊢;exact⟨e,gG (s b.1) b.2⟩
  .exact O (B _ (w6 P E H (qx d Z.2)).1 q) b
theorem OE(v:ko W M)(r:fh M k){I j:Int}(a:Ask W M I j)(B:∀i∈r5,i≠j->gi J i=gi M.held i)(b:gi J j=I\/gi J j=gi M.held j/\0<=gi M.held j)(w:j∈r5):∀i∈r5,0<=gi J i->1<=gi (M.aJ.set I.toNat (gi M.aJ I+1)) (gi J i)/\bu W (gi J i) (gi (M.aJ.set I.toNat (gi M.aJ I+1)) (gi J i)-1)=i:=by
 have e:∀i∈r5,0<=gi M.held i->1<=gi (M.aJ.set I.toNat (gi M.aJ I+1)) (gi M.held i)/\bu W (gi M.held i) (gi (M.aJ.set I.toNat (gi M.aJ I+1)) (gi M.held i)-1)=i:=λi E h=>by exact O (mL r a.mw (wQ r E h).1) (O (if_neg (a.nh i E)) (v.own i E h))
 intro i E h;by_cases q:i=j
 .subst q;rcases b with g|⟨g,s⟩;.refine O g (O (mL r a.mw a.mw) (O (if_pos rfl) ?_));have:=a.c0;refine⟨fW (C7 this),?_⟩;exact O (ye _ 1) a.j
  .exact O g (e i E s)
 .rw[B i E q]at h⊢;exact e i E h
end
section
variable{W:List (List Int)}{M:bG}{k:Nat}
theorem YJ(r:fh M k){l:Int}(t:l∈r5)(S:x∈r5):jF ⟨h,c,m,f,a,M.refused.set l.toNat d,b⟩ x=if x=l then d else jF M x:=AL r.ref t S
theorem L4(P:Pl W)(m:i∈r5)(h:n<=4):(tu W i n).length=n:=by unfold tu;rw[aH,jC,P.1.row i (aE.mp m).1 (aE.mp m).2];exact Kw h
theorem L5{h:List Int}(V:h.length=5){j I:Int}(w:j∈r5)(S:I∈r5)(x:Int):AN x (nn (h.set j.toNat I))+(if 0<=gi h j then(if gi h j=x then 1 else 0)else 0)=AN x (nn h)+if I=x then 1 else 0:=by
 have h1:=((G2 h j.toNat I (BI V w)).filter λx=>decide (0<=x)).count_eq x;have J:=((pull (BI V w)).filter λx=>decide (0<=x)).count_eq x;rw[Jl (p:=λx:Int=>decide (0<=x)) (decide_eq_true (aE.mp S).1),yj]at h1;refine O h1 (O J ?_);by_cases q:0<=gi h j;.refine O (if_pos q) (O (Jl (p:=λx:Int=>decide (0<=x)) (decide_eq_true q)) (O yj ?_));simp only[beq_iff_eq];exact jL _ _ _
 .refine O (if_neg q) (O (Vc (p:=λx:Int=>decide (0<=x)) (by simpa using q)) ?_);simp only[beq_iff_eq];exact jL _ _ _
theorem WW(P:Pl W)(v:ko W M)(r:fh M k){I j:Int}(a:Ask W M I j)(w:j∈r5)(K:n=bB I)(p:M.free.Perm (I::b))(h:gi M.held j<0):ko W {M with free:=b,bW:=m,aJ:=M.aJ.set I.toNat (gi M.aJ I+1),held:=M.held.set j.toNat I,book:=M.book.set j.toNat (j7 (cO M.book j) ⟨if gi M.held j<0 then 1 else 0,1,gi M.aJ I+1,(bz W j).idxOf I,[(n,gi M.aJ I+1)]⟩)}:=by
 have f:∀i∈r5,gi (M.held.set j.toNat I) i=if i=j then I else gi M.held i:=λi E=>A7 r.held w E;have B:∀i∈r5,i≠j->gi (M.held.set j.toNat I) i=gi M.held i:=λi E q=>by exact O (f i E) (O (if_neg q) rfl)
 have c:gi (M.held.set j.toNat I) j=I:=by exact O (f j w) (O (if_pos rfl) rfl)
 have d:0<=gi (M.held.set j.toNat I) j:=by exact O c (aE.mp a.mw).1
 have D:=v.tG I a.mw a.nh;refine⟨?_,OE v r a B (.inl c) w,Nb v r a B d (by exact O c (uh _)) (λz=>absurd h (BY h z)) P,λi E=>?_,v.ref,λi E F=>?_,λi E F=>?_,v.le,Na P v r a w K B d⟩;.refine Ds (Xc.mpr λx=>?_) v.perm;have h1:=p.count_eq x;have J:=L5 r.held w a.mw x;rw[if_neg (yF.mpr h)]at J;rw[yj]at h1;simp only[beq_iff_eq]at h1;rw[z3,z3,z3,z3,h1];exact Q7 (l:=0) J
 .show gi (M.aJ.set I.toNat _) i=4;have F:=v.perm.mem_iff.mp (bI _ (bC.mpr (.inr E)));have:=v.al i E;refine O (mL r a.mw F) ?_;by_cases z:i=I;.exact rC a.c4 (z▸this)
  .exact O (if_neg z) this
 .show pN M i=gi (M.aJ.set I.toNat _) i;have F:∀x∈r5,gi (M.held.set j.toNat I) x≠i:=F;have N:i≠I:=λq=>F j w (c.trans q.symm);refine O (mL r a.mw E) (O (if_neg N) ?_);refine v.tG i E λx S q=>?_;by_cases z:x=j;.have:=(aE.mp E).1;subst z;exact BY (q▸h) this
  .exact F x S ((B x S z).trans q)
 .show pN M (gi (M.held.set j.toNat I) i)+1=gi (M.aJ.set I.toNat _) (gi (M.held.set j.toNat I) i);have F:0<=gi (M.held.set j.toNat I) i:=F;by_cases z:i=j;.exact O z (O c (O (mL r a.mw a.mw) (O (if_pos rfl) (O D rfl))))
  .rw[B i E z]at F⊢;exact O (mL r a.mw (wQ r E F).1) (O (if_neg (a.nh i E)) (v.vJ i E F))
theorem Nc(P:Pl W)(v:ko W M)(r:fh M k){I j:Int}(a:Ask W M I j)(w:j∈r5)(hn:u=bB I)(p:M.free.Perm (I::b))(h:0<=gi M.held j){x l:Int}(B:∀i∈r5,i≠j->gi J i=gi M.held i)(c:gi J j=x)(d:x=I/\l=gi M.held j\/x=gi M.held j/\l=I)(A:eG W j x<eG W j l)(hp:∀y,AN y (nn J)+(if l=y then 1 else 0)=AN y (nn M.held)+if I=y then 1 else 0):ko W {M with free:=b++[l],bW:=m,aJ:=M.aJ.set I.toNat (gi M.aJ I+1),held:=J,book:=M.book.set j.toNat (j7 (cO M.book j) ⟨if gi M.held j<0 then 1 else 0,1,gi M.aJ I+1,(bz W j).idxOf I,[(u,gi M.aJ I+1)]⟩),refused:=M.refused.set l.toNat (fJ (jF M l) (bB j) (jg j))}:=by
 have D:=v.tG I a.mw a.nh;have H:=v.vJ j w h;have n:=wQ r w h;have L:=v.own j w h;have K:=r.aJ.el _ (aE.mp n.1).1 (aE.mp n.1).2;have both:∀y,y=I\/y=gi M.held j->y∈r5/\pN M y<4/\bu W y (pN M y)=j:=λy e=>by
  rcases e with rfl|rfl;.exact O D ⟨a.mw,a.c4,a.j⟩
  .exact⟨n.1,C8 (gG (mH H) K.2),congrArg (bu W _) (aQ H (ye _ 1):gi M.aJ (gi M.held j)-1=pN M (gi M.held j))▸L.2⟩
 have C:∀y,0<=pN M y:=λy=>iP _;refine gW (both x (d.imp PM PM)) λS G Y=>?_;refine gW (both l (d.symm.imp ON ON)) λt N X=>?_;have ne:l≠x:=λq=>yo _ (q▸A);have o:0<=gi J j:=by exact O c (aE.mp S).1
 have R:fJ (jF M l) (bB j) (jg j)=tu W l ((pN M l).toNat+1):=by refine aQ (WV P t (C l) N X) ?_;congr 1;exact v.ref l t
 have V:∀y∈r5,(((M.refused.set l.toNat (fJ (jF M l) (bB j) (jg j))).getD y.toNat []).length:Int)=if y=l then pN M l+1 else pN M y:=λy Z=>by
  refine O (AL r.ref t Z) ?_;by_cases z:y=l;.rw[if_pos z,if_pos z,R,L4 P t (o9 N)];exact congrArg (·+1) (mu (C l))
  .rw[if_neg z,if_neg z];rfl
 refine⟨?_,OE v r a B (c▸d.imp PM λz=>⟨z.1,h⟩) w,Nb v r a B o ?_ ?_ P,λi E=>?_,λi E=>?_,λi E F=>?_,λi E F=>?_,λq s i E=>?_,Na P v r a w hn B o⟩;.refine Ds (Xc.mpr λy=>?_) v.perm;have h1:=p.count_eq y;have J:=hp y;rw[yj]at h1;simp only[beq_iff_eq]at h1;simp only[z3,yj,List.count_nil,beq_iff_eq];exact O h1 (O (jn _) (Q7 J))
 .exact O c (d.elim (λz=>mH (congrArg _ z.1)) λz=>z.2▸kN A)
 .exact λ_=>O c (d.elim (λz=>z.2▸kN A) λz=>mH (congrArg _ z.1))
 .show gi (M.aJ.set I.toNat _) i=4;have F:=v.perm.mem_iff.mp (bI _ (bC.mpr (.inr E)));have:=v.al i E;refine O (mL r a.mw F) ?_;by_cases z:i=I;.exact rC a.c4 (z▸this)
  .exact O (if_neg z) this
 .refine O (YJ r t E) ?_;split;.subst i;have:=C l;exact O R (O (L4 P t (o9 N)) rfl)
  .exact v.ref i E
 .refine(V i E).trans ?_;show _=gi (M.aJ.set I.toNat _) i;have F:∀x∈r5,gi J x≠i:=F;have g:i≠x:=λq=>F j w (c.trans q.symm);refine O (mL r a.mw E) ?_;by_cases z:i=l
  .refine O (if_pos z) ?_;rcases d with⟨rfl,rfl⟩|⟨rfl,rfl⟩;.exact O (if_neg g) (O z H)
   .exact O (if_pos z) (O D rfl)
  .refine O (if_neg z) ?_;have U:i≠I:=λq=>d.elim (λy=>g (q.trans y.1.symm)) λy=>z (q.trans y.2.symm);have f:i≠gi M.held j:=λq=>d.elim (λy=>z (q.trans y.2.symm)) λy=>g (q.trans y.1.symm);refine O (if_neg U) ?_;refine v.tG i E λy Z q=>?_;by_cases z:y=j;.exact f (z▸q.symm)
   .exact F y Z ((B y Z z).trans q)
 .have F:0<=gi J i:=F;show pN _ (gi J i)+1=gi (M.aJ.set I.toNat _) (gi J i);by_cases z:i=j
  .refine O z (O c ((congrArg (·+1) ((V x S).trans (if_neg (gu ne)))).trans (O (mL r a.mw S) ?_)));rcases d with⟨rfl,rfl⟩|⟨rfl,rfl⟩;.exact O (if_pos rfl) (O D rfl)
   .exact O (if_neg (a.nh j w)) H
  .rw[B i E z]at F⊢;have Q:=wQ r E F;have f:gi M.held i≠l:=λq=>by
    rcases d with⟨_,e⟩|⟨_,e⟩;.have T:=(v.own i E F).2;replace T:=L.2▸e▸q▸T;exact z T.symm
    .exact a.nh i E (q.trans e)
   exact(congrArg (·+1) ((V _ Q.1).trans (if_neg f))).trans (O (mL r a.mw Q.1) (O (if_neg (a.nh i E)) (v.vJ i E F)))
 .refine gG (mH (V i E)) ?_;split;.subst i;exact L2 s (v.le q s) t S N ⟨C x,G⟩ (Y.trans X.symm) (by exact O X A)
  .exact v.le q s i E
end
section
variable{W:List (List Int)}{G:List ai}{s:ai->ai}{turn:Int}{st:bG}{k:Nat}
theorem YK(P:Pl W)(K:∀i∈r5,∀n,n<4->s (g6 (n+1) (bK G i))=bB i)(v:ko W st)(r:fh st k)(T:nK G st)(c:Int)(l:st.free≠[]):ko W (gp W s turn st c)/\(gp W s turn st c).aJ.sum+(gp W s turn st c).alone.length=st.aJ.sum+st.alone.length+1:=by
 have Q:=yJ (turn:=turn) (step:=c) l;have D:st.free.Perm (iF turn st c::st.free.eraseIdx (iE turn st c).toNat):=pull (iu Q.1 Q.2);have C:iF turn st c∈st.free:=FU Q.1 Q.2;unfold gp;refine O (if_neg l) ?_;simp only;generalize st.free.eraseIdx (iE turn st c).toNat=d at D⊢;generalize iF turn st c=I at C D⊢;refine aV (WS v r C) λS x=>?_;by_cases Y:gi st.aJ I=4;.refine O (if_pos Y) ?_;refine⟨WU v Y D,?_⟩;show st.aJ.sum+((st.alone++[I]).length:Nat)=_;rw[cK];show st.aJ.sum+((st.alone.length:Int)+1)=_;exact(nX ..).symm
 refine O (if_neg Y) ?_;have Z:=r.aJ.el I (aE.mp S).1 (aE.mp S).2;generalize b:bu W I (gi st.aJ I)=j;have a:Ask W st I j:=⟨S,x,Z.1,je Z.2 Y,b⟩;have w:j∈r5:=b▸(w6 P S Z.1 a.c4).1;have f:I≠j:=λq=>(w6 P S Z.1 a.c4).2 (b.trans q.symm);have o:s (gf (bK st.bW I))=bB I:=by rw[T I (aE.mp S).1 (aE.mp S).2];exact K I S (gi st.aJ I).toNat (o9 (je Z.2 Y))
 have h:=F6 r.aJ.len S;have m:=Lx (W:=W) r (who:=I) (aE.mp w).1 (aE.mp w).2;by_cases V:gi st.held j<0;.refine O (if_pos V) ?_;refine⟨?_,by show(st.aJ.set I.toNat (gi st.aJ I+1)).sum+_=_;exact O h (JX ..)⟩;have e:j5 W st I j=st.held.set j.toNat I:=if_pos (.inl V);exact O e (WW P v r a w o D V)
 .refine O (if_neg V) ?_;refine⟨?_,by show(st.aJ.set I.toNat (gi st.aJ I+1)).sum+_=_;exact O h (JX ..)⟩;have g:=wQ r w (fD.mp V);by_cases q:((bz W j).idxOf I:Int)<(bz W j).idxOf (gi st.held j)
  .have e:j5 W st I j=st.held.set j.toNat I:=if_pos (.inr q);have A:q7 W st I j=gi st.held j:=by exact O (EB r (aE.mp w).1 (aE.mp w).2 V) (O (if_pos q) rfl)
   refine O e (O A ?_);refine Nc P v r a w o D (fD.mp V) (x:=I) (l:=gi st.held j) (λi E n=>?_) ?_ (.inl ⟨rfl,rfl⟩) q λy=>?_;.exact O (A7 r.held w E) (O (if_neg n) rfl)
   .exact O (A7 r.held w w) (O (if_pos rfl) rfl)
   .have:=L5 r.held w S y;rwa[if_pos (fD.mp V)]at this
  .have e:j5 W st I j=st.held:=if_neg λz=>z.elim V q;have A:q7 W st I j=I:=by exact O (EB r (aE.mp w).1 (aE.mp w).2 V) (O (if_neg q) rfl)
   refine O e (O A ?_);refine Nc P v r a w o D (fD.mp V) (x:=gi st.held j) (l:=I) (λi E n=>rfl) rfl (.inr ⟨rfl,rfl⟩) ?_ λy=>rfl;have:eG W j (gi st.held j)≠eG W j I:=λz=>x j w (EE P w g.1 S g.2 f z);unfold eG at this⊢;exact je (fD.mp q) this
structure Fin(W:List (List Int))(G:List ai)(st:bG):Prop where
v:ko W st
r:∃k,fh st k
m:nK G st
f:st.free=[]
theorem Nd(P:Pl W)(K:∀i∈r5,∀n,n<4->s (g6 (n+1) (bK G i))=bB i):∀(l:List Int){st:bG}{k:Nat},ko W st->fh st k->nK G st->st.free=[]\/(k:Int)<=st.aJ.sum+st.alone.length->ko W (gx W s turn st l)/\fh (gx W s turn st l) (k+l.length)/\nK G (gx W s turn st l)/\((gx W s turn st l).free=[]\/((k+l.length:Nat):Int)<=(gx W s turn st l).aJ.sum+(gx W s turn st l).alone.length)
|[],st,k,v,r,m,h=>⟨v,r,m,h⟩|a::l,st,k,v,r,m,h=>by
 have d:=Nd P K l (st:=gp W s turn st a) (k:=k+1);refine O (show k+(a::l).length=k+1+l.length by rw[fC];exact i8 (jL _ _ _)) ?_;by_cases b:st.free=[]
 .have e:gp W s turn st a=st:=by unfold gp;exact O (if_pos b) rfl
  have f:=AJ (nf:=s) (turn:=turn) P.1 r a;show _/\_;rw[e]at d f;have:=d v f m (.inl b);replace this:=e.symm▸this;exact this
 .refine aV (YK (turn:=turn) P K v r m a b) λq c=>?_;refine d q (AJ P.1 r a) (Lz r m a) (.inr ?_);have:=h.resolve_left b;exact O c (yc this 1)
theorem xat(P:Pl W)(K:∀i∈r5,∀n,n<4->s (g6 (n+1) (bK G i))=bB i)(V:G.length=5)(turn:Int):Fin W G (gx W s turn (iG G) ((gc 25).map lI)):=by refine kZ (Nd (turn:=turn) P K ((gc 25).map lI) (xgG G) (QB V) (QC G) (.inr (show((0:Nat):Int)<=([0,0,0,0,0]:List Int).sum+(([]:List Int).length:Int)by decide))) λv r m h=>?_;refine⟨v,⟨_,r⟩,m,h.elim id λh=>?_⟩;have h1:=xcq r.aJ;have J:=v.perm.length_eq;rw[cK,cK]at J;have R:r5.length=5:=rfl;rw[aH,yf]at h;have o:=nY.mp (Int.le_of_add_le_add_left (a:=20) (b:=(5:Nat)) (gG h (yc h1 _)));exact CQ (Nat.le_zero.mp (Jd (aZ (aZ (e7 _ _) (dh (J.trans R))) (aZ o (dh (jn _).symm)))))
end
theorem Bm{P:Int->Prop}(D:P 0)(h1:P 1)(J:P 2)(R:P 3)(Y:P 4):∀i∈r5,P i:=λi m=>by have:=aE.mp m;have:i=0\/i=1\/i=2\/i=3\/i=4:=lz this.1 this.2;rcases this with rfl|rfl|rfl|rfl|rfl<;>assumption
theorem getD_at{L:Type}{l:List L}{d:L}{n:Nat}(h:n<l.length):l.getD n d=l[n]:=by refine O cz (O (cy h) ?_);rfl
theorem Cg{L:Type}{l m:List L}{d:L}(V:l.length=5)(Q:m.length=5)(h:∀i∈r5,l.getD i.toNat d=m.getD i.toNat d):l=m:=Zg (V.trans Q.symm) λn a b=>(getD_at a).symm.trans ((h n (aE.mpr ⟨iP n,gR.mpr (tP a V)⟩)).trans (getD_at b))
theorem u9{L:Type}{f:Int->L}{d:L}:∀i∈r5,(r5.map f).getD i.toNat d=f i:=Bm rfl rfl rfl rfl rfl
section
variable{W:List (List Int)}{G:List ai}{st:bG}
theorem Fin.two(z:Fin W G st)(m:i∈r5):i∈st.alone/\(∀j∈r5,gi st.held j≠i)\/∃j∈r5,gi st.held j=i:=by
 obtain⟨v,⟨k,r⟩,T,f⟩:=z;have p:=v.perm;replace p:=tX ..▸f▸p;have l:=p.nodup_iff.mpr qK;rcases bC.mp (p.mem_iff.mpr m)with h|h;.refine .inl ⟨h,λj w e=>?_⟩;exact absurd rfl ((nQ.mp l).2.2 i h i (d7.mpr ⟨e▸AK r w,decide_eq_true (aE.mp m).1⟩))
 .obtain⟨n,K,e⟩:=yd (d7.mp h).1;have w:(n:Int)∈r5:=aE.mpr ⟨iP n,gR.mpr (tP K r.held)⟩;refine .inr ⟨n,w,?_⟩;refine aQ e (aQ (BJ (BI r.held w)) ?_);rfl
theorem Fin.kept(z:Fin W G st)(w:j∈r5)(h:0<=gi st.held j):gi st.held j∈r5/\gi st.held j≠j/\pN st (gi st.held j)<4/\bu W (gi st.held j) (pN st (gi st.held j))=j/\gi st.aJ (gi st.held j)=pN st (gi st.held j)+1:=by obtain⟨v,⟨k,r⟩,T,f⟩:=z;have D:=wQ r w h;have o:=v.own j w h;have p:=v.vJ j w h;have c:=r.aJ.el _ (aE.mp D.1).1 (aE.mp D.1).2;exact⟨D.1,D.2,C8 (gG (mH p) c.2),congrArg (bu W _) (aQ p (ye _ 1):gi st.aJ (gi st.held j)-1=pN st (gi st.held j))▸o.2,p.symm⟩
theorem Fin.out(z:Fin W G st)(m:i∈r5)(a:i∈st.alone)(x:∀j∈r5,gi st.held j≠i):pN st i=4/\gi st.aJ i=4:=by have:=z.v.al i a;exact⟨by exact O (z.v.tG i m x) (O this rfl),this⟩
theorem Fin.low(z:Fin W G st)(m:i∈r5)(h:pN st i<4):gi st.held (bu W i (pN st i))=i/\bu W i (pN st i)∈r5:=by
 refine bw (z.two m) (λy=>?_) λu=>?_;.obtain⟨a,x⟩:=y;have:=(z.out m a x).1;exact rC h this
 .obtain⟨j,w,e⟩:=u;have:=z.kept w (by exact O e (aE.mp m).1);rw[e]at this;exact O this.2.2.2.1 ⟨e,w⟩
theorem CH(i:Int):0<=pN st i:=by unfold pN;exact iP _
theorem Fin.xgH(P:Pl W)(z:Fin W G st):sI W (pN st)where
bd i m:=by
 refine⟨CH i,?_⟩;refine bw (z.two m) (λy=>?_) λu=>?_;.obtain⟨a,x⟩:=y;have:=(z.out m a x).1;exact mH this
 .obtain⟨j,w,e⟩:=u;have:=(z.kept w (by exact O e (aE.mp m).1)).2.2.1;replace this:=e▸this;exact kN this
nb i b o T c g e A:=by have h1:=(z.low b c).1;have J:=(z.low T g).1;replace J:=h1▸e▸J;replace A:=J▸A;exact sQ A
su i b k H V:=by
 obtain⟨v,⟨n,r⟩,T,f⟩:=id z;have D:=r.aJ.el i (aE.mp b).1 (aE.mp b).2;have q:k<gi st.aJ i/\k<4:=by
  refine bw (z.two b) (λy=>?_) λu=>?_;.obtain⟨a,x⟩:=y;have:=z.out b a x;exact iT (Rf this.2 (this.1▸V)) (this.1▸V)
  .obtain⟨j,w,e⟩:=u;have:=z.kept w (by exact O e (aE.mp b).1);replace this:=e▸this;exact⟨O this.2.2.2.2 (C7 (kN V)),m6 V this.2.2.1⟩
 have w:=w6 P b H q.2;refine aV (v.best i b k H q.1) λb1 b2=>?_;generalize Y:bu W i k=j at w b1 b2⊢;refine qM (z.kept w.1 b1) λI N p d t=>?_;refine⟨gi st.held j,I,p,d,?_⟩;have:eG W j (gi st.held j)≠eG W j i:=λe=>by have e:=EE P w.1 I b N (gu w.2) e;rw[e]at p d;have:=M9 P b H q.2 (CH i) p (Y.trans d.symm);exact rC V this
 exact je b2 this
theorem Fin.le(z:Fin W G st)(P:Pl W):∀i∈r5,pN st i=gi (rounds W) i:=WR (z.xgH P) z.v.le
theorem Fin.asks(z:Fin W G st)(P:Pl W):∀i∈r5,gi st.aJ i=gi (bH (rounds W)) i:=λi m=>by
 rw[MX (qH W).1.ck (aE.mp m).1 (aE.mp m).2,<-z.le P i m];refine bw (z.two m) (λy=>?_) λu=>?_;.obtain⟨a,x⟩:=y;have:=z.out m a x;exact O this.1 (O (if_neg (by decide)) this.2)
 .obtain⟨j,w,e⟩:=u;have:=z.kept w (by exact O e (aE.mp m).1);replace this:=e▸this;by_cases h:pN st i+1<4;.exact O (if_pos h) this.2.2.2.2
  .exact O (if_neg h) (O this.2.2.2.2 (yk this.2.2.1 (fD.mp h)))
theorem VU(m:i∈r5)(h:∀o∈r5,p o=af↔o=i):r5.filter p=[i]:=by
 have:r5.filter p=r5.filter λo=>decide (o=i):=YX λo T=>by rw[tY,h o T,decide_eq_true_iff]
 refine O this ?_;revert m;revert i;have:∀i∈r5,r5.filter (λo=>decide (o=i))=[i]:=dk;exact λ{i}_ _ m=>this i m
theorem Fin.held(z:Fin W G st)(P:Pl W):st.held=keepsP W (rounds W):=by
 obtain⟨v,⟨n,r⟩,T,f⟩:=id z;refine Cg (d:=0) r.held (by rfl) λj w=>?_;unfold keepsP;rw[u9 j w];show gi st.held j=_;unfold Bk oM;by_cases h:0<=gi st.held j
 .refine qM (z.kept w h) λI N p d t=>?_;rw[VU I λo T=>?_];.rfl
  .rw[<-z.le P o T];simp only[dZ,decide_eq_true_eq,t9,beq_iff_eq];refine⟨λ⟨a,b⟩=>?_,λe=>by rw[e];exact⟨p,d⟩⟩;have:=(z.low T a).1;rw[b]at this;exact this.symm
 .have e:r5.filter (λo=>decide (gi (rounds W) o<4)&&(bu W o (gi (rounds W) o)==j&&af))=[]:=vO.mpr λo T=>by rw[<-z.le P o T];simp only[dZ,decide_eq_true_eq,t9,beq_iff_eq];intro⟨a,b⟩;have:=(z.low T a).1;rw[b]at this;exact h (this▸(aE.mp T).1)
  rw[e];have:=r.qa j (aE.mp w).1 (aE.mp w).2;show _=(-1:Int);exact PT this.1 (yF.mp h)
theorem Fin.ref(z:Fin W G st)(P:Pl W):st.refused=sH W (bH (rounds W)) (keepsP W (rounds W)):=by
 obtain⟨v,⟨n,r⟩,T,f⟩:=id z;refine Cg (d:=[]) r.ref (by rfl) λi E=>?_;unfold sH;refine O (u9 i E) ?_;show jF st i=_;unfold w5 ee;rw[<-z.asks P i E,<-z.held P,v.ref i E,show(jF st i).length=(pN st i).toNat from rfl];unfold tu;congr 1;have D:=P.1.row i (aE.mp E).1 (aE.mp E).2;have b:∀a∈bz W i,a∈r5:=λa m=>by have:=P.1.el i (aE.mp E).1 (aE.mp E).2 a m;exact aE.mpr ⟨this.1,this.2.1⟩
 refine bw (z.two E) (λy=>?_) λu=>?_;.obtain⟨a,x⟩:=y;have:=z.out E a x;refine O this.1 (O this.2 ?_);symm;refine zW.mpr λa s=>?_;have:=x a (b a (nO s));simpa using this
 .obtain⟨j,w,e⟩:=u;have q:=z.kept w (by exact O e (aE.mp E).1);rw[e]at q;obtain⟨I,N,p,d,t⟩:=q;have C:=CH (st:=st) i;have A:(bz W i)[(pN st i).toNat]'(jk p D)=j:=by refine aQ d ?_;unfold bu gi;refine O cz (O (cy (jk p D)) ?_);rfl
  rw[t,show(pN st i+1).toNat=(pN st i).toNat+1 from rfl,I2 (jk p D),List.filter_append,A,Vc (by simp[e]),List.filter_nil,g8];symm;refine zW.mpr λa s=>?_;simp only[bne_iff_ne,ne_eq];intro h;have c:=b a (nO s);have R:=z.kept c (by exact O h (aE.mp E).1);rw[h,d]at R;have B:j=a:=R.2.2.2.1;obtain⟨m,Q,U⟩:=yd s;rw[Y0]at U;rw[jC]at Q;have g:=(P.2 i E).idxOf_getElem m (HT Q);have o:=(P.2 i E).idxOf_getElem (pN st i).toNat (jk p D);rw[U]at g;rw[A,B]at o;exact Ra Q g o
end
theorem xeb{L N:Type}{f:L->N}{l:List L}{d:L}{e:N}(h:l.length=5):∀i∈r5,(l.map f).getD i.toNat e=f (l.getD i.toNat d):=λi m=>by have:=aE.mp m;refine O cz (O cz (O eS (O (cy (BU this.1 this.2 h)) ?_)));rfl
theorem xcr{K:List Int}(h:gj K):TE (n+1) (DS (K.map λa=>(bB a,jg a))) (DS (K.map λa=>(bB a,jg a))):=by refine .dict rfl λq j=>?_;refine aG (bE.mp j) λx m C=>?_;subst C;exact⟨PA (h.2 x m) h.2 m,.inr ⟨_,rfl,λ_ m=>by simp only[bA,b9,or_false]at m;rcases m with rfl|rfl|rfl<;>rfl⟩⟩
theorem L6{L:Type}{n:Nat}{f:L->T}{l m:List L}{d:L}(V:l.length=5)(Q:m.length=5)(h:∀i∈r5,TE n (f (l.getD i.toNat d)) (f (m.getD i.toNat d))):TE (n+1) (.list (l.map f)) (.list (m.map f)):=by
 refine .list (by exact O (aH ..) (O (aH ..) (O V (O Q rfl)))) λi t u a b=>?_;rw[eS]at a b;by_cases c:i<5;.have h':=h i (aE.mpr (iT (iP _) (gR.mpr c)));rw[cy (tP c V.symm)]at a;rw[cy (tP c Q.symm)]at b;cases a;cases b;replace h':=cy (jq Q c)▸cy (jq V c)▸rM ..▸cz▸cz▸h';exact h'
 .replace a:=pH (jz V (qB c))▸a;cases a
theorem xcs{h:List Int}(V:h.length=5):∀i∈r5,(∀j∈r5,j≠i->0<=gi h j)->4<=(nn h).length:=λi E Y=>by have e:h=r5.map (gi h):=Cg (d:=0) V rfl λj w=>(u9 (f:=gi h) (d:=0) j w).symm;show 4<=(h.filter _).length;exact O e (aQ List.countP_eq_length_filter (O xaN (aZ ((by decide:∀i∈r5,4<=r5.countP λj=>decide (j≠i)) i E) (List.countP_mono_left λj w q=>decide_eq_true (Y j w (of_decide_eq_true q))))))
theorem VW{l m:List Int}(p:l.Perm m)(h:l.length<=1):l=m:=by cases l with|nil=>exact p.nil_eq|cons a l=>cases l with|nil=>exact(JJ.mp p.symm).symm|cons b l=>exact absurd h (z8 (z9 (qE _)))
section
variable{W:List (List Int)}{G:List ai}{M:bG}
def xct(W:List (List Int)):List Int:=r5.filter λi=>decide (gi (rounds W) i=4)
theorem Fin.al(z:Fin W G M)(P:Pl W):M.alone=xct W/\M.alone.length<=1:=by
 obtain⟨v,⟨n,r⟩,T,f⟩:=id z;have p:=v.perm;rw[f,tX]at p;have h:=p.nodup_iff.mpr qK;refine gW (nQ.mp h) λg _ d=>?_;have V:M.alone.length<=1:=by cases K:M.alone with|nil=>exact jo _|cons i l=>
  have E:i∈M.alone:=by exact O K (aP ..)
  have c:=p.mem_iff.mp (bI _ E);have Y:=v.al i E;have:=xcs r.held i c λj w q=>by
   have b:=P.1.all i (aE.mp c).1 (aE.mp c).2 j (aE.mp w).1 (aE.mp w).2 q;have A:=x6 b;rw[P.1.row i (aE.mp c).1 (aE.mp c).2]at A;have e:bu W i ((bz W i).idxOf j:Nat)=j:=by unfold bu gi;exact O (rM ..) (O cz (O (cy (x6 b)) (Df (x6 b))))
   have:=(v.best i c ((bz W i).idxOf j:Nat) (iP _) (Rf Y (gR.mpr A))).1;rwa[e]at this
  have le:=p.length_eq;rw[cK,K,show r5.length=5 from rfl]at le;exact Jd (aZ (dh le) (iy this 1))
 refine⟨VW ((zQ g (qK.filter _)).mpr λi=>?_) V,V⟩;rw[d7,decide_eq_true_iff];refine⟨λE=>?_,λ⟨c,Y⟩=>?_⟩;.have c:=p.mem_iff.mp (bI _ E);refine⟨c,?_⟩;refine aQ (z.le P i c) ?_;refine(z.out c E λj w e=>?_).1;exact d i E i (d7.mpr ⟨e▸AK r w,decide_eq_true (aE.mp c).1⟩) rfl
 .rw[<-z.le P i c]at Y;refine bw (z.two c) (λy=>?_) λI=>?_;.obtain⟨a,_⟩:=y;exact a
  .obtain⟨j,w,e⟩:=I;have:=(z.kept w (by exact O e (aE.mp c).1)).2.2.1;rw[e]at this;exact rC this Y
theorem Fin.bW(z:Fin W G M)(P:Pl W){j o:List ai}(h:∀i∈r5,∃c w e,MF G j o i c w e):M.bW=sf j o (o7 (bH (rounds W))):=by
 obtain⟨v,⟨n,r⟩,a,f⟩:=id z;refine Cg (d:="") r.bW (by rfl) λi E=>?_;unfold sf;refine O (u9 i E) ?_;show bK M.bW i=_;refine iU (h i E) λc w e d=>?_;have t:=yL (qH W).1.ck (aE.mp E).1 (aE.mp E).2;have T:(bH (rounds W)).length=5:=by unfold bH;exact O (aH ..) (qH W).1.ck.len
 rw[a i (aE.mp E).1 (aE.mp E).2,z.asks P i E];obtain⟨m,Q⟩:∃m:Nat,gi (bH (rounds W)) i=((m+1:Nat):Int):=⟨(gi (bH (rounds W)) i).toNat-1,jo1 t.1⟩;refine O Q (O (rM ..) ?_);refine d.xgD E (nY.mp (Q▸t.2)) ?_;unfold bK o7;refine O (xeb (d:=0) T i E) ?_;show uC (gi (bH (rounds W)) i)=_;exact O Q rfl
theorem Fin.PB(z:Fin W G M)(P:Pl W){n:Nat}:TE (n+2) (.list (M.refused.map DS)) (.list (M.refused.map DS)):=by obtain⟨v,⟨m,r⟩,T,f⟩:=id z;refine L6 (d:=[]) r.ref r.ref λi E=>?_;show TE _ (DS (jF M i)) (DS (jF M i));refine O (v.ref i E) ?_;exact xcr ⟨(P.2 i E).sublist (Dm ..),λa s=>by have:=P.1.el i (aE.mp E).1 (aE.mp E).2 a (nO s);exact aE.mpr ⟨this.1,this.2.1⟩⟩
theorem Fin.ends(z:Fin W G M)(P:Pl W){j o:List ai}(h:∀i∈r5,∃c w e,MF G j o i c w e):GW W j o M where
ck:=(qH W).1.ck;held:=z.held P;ref:=by exact aQ (z.ref P) (z.PB P)
bW:=z.bW P h
theorem Fin.tab(z:Fin W G M)(P:Pl W)(w:j∈r5):∃L,gj L/\L.Perm (jh W (bH (rounds W)) j)/\cO M.book j=⟨if gi M.held j<0 then 0 else 1,L.length,(L.map (gw W j)).sum,(L.map (sJ W j)).sum,cj (gw W j) L⟩/\(gi M.held j<0↔L=[]):=by
 obtain⟨v,⟨n,r⟩,T,f⟩:=id z;refine dj (v.bk j w) λL o C e=>?_;refine⟨L,o,(zQ o.1 (qK.filter _)).mpr λi=>?_,e,λh=>?_,λh=>?_⟩
 .rw[d7,jB];have d:i∈r5->(i∈L↔j∈ee W (bH (rounds W)) i):=λE=>by
   have D:=P.1.row i (aE.mp E).1 (aE.mp E).2;have u:=r.aJ.el i (aE.mp E).1 (aE.mp E).2;rw[C i E];unfold ee;rw[<-z.asks P i E];refine⟨λ⟨k,H,V,e⟩=>?_,λm=>?_⟩
   .rw[UB];have b:=HU V u.2 D;have A:(bz W i)[k.toNat]'b=bu W i k:=by unfold bu gi;rw[cz,cy (HU V u.2 D)];rfl
    exact⟨k.toNat,jm1 D H V u.2,A.trans e⟩
   .obtain⟨k,N,e⟩:=UB.mp m;refine⟨k,iP _,jm2 N,?_⟩;rw[<-e];unfold bu gi;rw[rM,cz,cy (HT N)];rfl
  exact⟨λm=>⟨o.2 i m,(d (o.2 i m)).mp m⟩,λ⟨c,m⟩=>(d c).mpr m⟩
 .refine I4.mpr λi m=>?_;refine dj ((C i (o.2 i m)).mp m) λk H V e=>?_;have:=(v.best i (o.2 i m) k H V).1;replace this:=e▸this;exact BY h this
 .by_cases q:0<=gi M.held j;.have N:=z.kept w q;have:=(C _ N.1).mpr ⟨pN M (gi M.held j),CH _,mH (i8 N.2.2.2.2),N.2.2.2.1⟩;replace this:=h▸this;cases this
  .exact yF.mp q
end
theorem pA{l m:List Int}(p:l.Perm m)(f:Int->Int):(l.map f).sum=(m.map f).sum:=by induction p with|nil=>rfl|cons a _ G=>exact O f6 (O f6 (O rP (O rP (O G rfl))))|swap a b l=>exact Zh ..|trans _ _ h1 J=>exact O h1 (O J rfl)
theorem sum_filter(p:Int->Bool)(f:Int->Int):∀l:List Int,((l.filter p).map f).sum=(l.map λi=>if p i then f i else 0).sum
|[]=>rfl|a::l=>by
 refine O Dy (O f6 (O rP (aQ (sum_filter p f l) ?_)));split;.exact O f6 (O rP rfl)
 .exact(mG _).symm
theorem Nf(l:List Int):(l.map λ_=>(1:Int)).sum=l.length:=by induction l with|nil=>rfl|cons a l G=>exact O f6 (O rP (O G (O fC (jO 1 (l.length:Int)))))
theorem PD{K:List Int}(h:gj K):K.Perm (r5.filter λi=>K.contains i):=(zQ h.1 (qK.filter _)).mpr λi=>by rw[d7,jB];exact⟨λm=>⟨h.2 i m,m⟩,ON⟩
theorem sum_add(f g:Int->Int)(l:List Int):(l.map λi=>f i+g i).sum=(l.map f).sum+(l.map g).sum:=by induction l with|nil=>rfl|cons a l G=>show f a+g a+(l.map λi=>f i+g i).sum=f a+(l.map f).sum+(g a+(l.map g).sum);rw[G,nX,nX,Zh (g a)]
theorem YL(h:Int->Int->Int)(l m:List Int):(l.map λj=>(m.map λi=>h j i).sum).sum=(m.map λi=>(l.map λj=>h j i).sum).sum:=by induction l with
|nil=>induction m with|nil=>rfl|cons a m G=>exact G.trans (mG _).symm
|cons a l G=>exact(congrArg _ G).trans (sum_add (h a) _ m).symm
section
variable{W:List (List Int)}{G:List ai}{M:bG}{d:List Int}
theorem L7(P:Pl W)(m:i∈r5):gj (ee W d i):=⟨(P.2 i m).sublist (Dm ..),λa s=>by have:=P.1.el i (aE.mp m).1 (aE.mp m).2 a (nO s);exact aE.mpr ⟨this.1,this.2.1⟩⟩
theorem F7(P:Pl W)(g:Int->Int->Int):(r5.map λj=>((jh W d j).map (g j)).sum).sum=(r5.map λi=>((ee W d i).map λj=>g j i).sum).sum:=by
 have H:(r5.map λj=>((jh W d j).map (g j)).sum)=r5.map λj=>(r5.map λi=>if(ee W d i).contains j then g j i else 0).sum:=jK λj _=>sum_filter _ _ _;have L:(r5.map λi=>((ee W d i).map λj=>g j i).sum)=r5.map λi=>(r5.map λj=>if(ee W d i).contains j then g j i else 0).sum:=jK λi m=>by rw[pA (PD (L7 P m)),sum_filter]
 exact O H (O L (YL (λj i=>if(ee W d i).contains j then g j i else 0) _ _))
theorem Fin.book(z:Fin W G M)(P:Pl W):Bl W (bH (rounds W)) M where
n:=by obtain⟨v,⟨n,r⟩,T,f⟩:=id z;exact r.book
b j a:=by
 refine fU (z.tab P a) λL o p e B=>?_;rw[e];generalize bH (rounds W)=A at p⊢;have g:fF W A j=cj (gw W j) (jh W A j):=rfl;have V:=p.length_eq;refine Fd ?_ ?_ ?_ ?_ ?_
 .show(if gi M.held j<0 then 0 else 1)=if((fF W A j).length:Int)<1 then((fF W A j).length:Int)else 1;rw[g,uE,<-V];by_cases h:gi M.held j<0;.rw[if_pos h,B.mp h];rfl
  .rw[if_neg h,if_neg];intro q;exact h (B.mpr (CQ (xba (Y6 (gR.mp q)) (jo _))))
 .show(L.length:Int)=((fF W A j).length:Int);rw[g,uE,V]
 .show _=tabS (fF W A j);rw[g,wO];exact pA p _
 .exact pA p _
 .exact G1 (n:=1) p o λ_ _=>rfl
c j a:=by refine fU (z.tab P a) λL o p e B=>?_;rw[e];show tabS (cj (gw W j) L)=tabS (cj (gw W j) (jh W (bH (rounds W)) j));rw[wO,wO];exact pA p _
z j a:=by refine fU (z.tab P a) λL o p e B=>?_;rw[e];show(cj (gw W j) L).length<=100;rw[uE,p.length_eq];exact aZ (nM _ _) dk
theorem xcu{st':bG}(z:Fin W G M)(A:Fin W G st')(P:Pl W)(Q:M.bW=st'.bW):TE 5 (nJ M) (nJ st'):=by
 have h1:=z.held P;have J:=A.held P;have R:=(z.al P).1;have Y:=(A.al P).1;have y:=z.ref P;have l:=A.ref P;refine QM ?_ ?_ ?_ ?_ ?_;.exact O h1 (O J (uB (n:=3) (f:=T.int) (λa=>.flat rfl) _))
 .exact O Q (uB (n:=3) (f:=T.str) (λa=>.flat rfl) _)
 .refine O R (O Y ?_);exact uB (n:=3) (λi=>OA λt m=>by simp only[bA,b9,or_false]at m;rcases m with rfl|rfl<;>exact .flat rfl) _
 .exact O y (aQ l (A.PB P))
 .obtain⟨v,⟨n,r⟩,u,f⟩:=id z;obtain⟨h,⟨k,g⟩,X,s⟩:=id A;refine L6 (d:=⟨0,0,0,0,[]⟩) r.book g.book λj w=>?_;refine fU (z.tab P w) λL o p e B=>?_;refine fU (A.tab P w) λE c F U b=>?_;show TE 3 (cA (cO M.book j)) (cA (cO st'.book j));have q:=p.trans F.symm;refine O e (O U ?_);exact Fd (by exact O h1 (O J rfl)) (by show(L.length:Int)=E.length;exact O q.length_eq rfl) (pA q _) (pA q _) (G1 (n:=1) q o λ_ _=>rfl)
end
noncomputable def Tb(t:Tab)(g:Int->Int):Prop:=∃K,gj K/\t=cj g K/\∀x,g x≠0->x∈K
theorem Tb.nil:Tb [] λ_=>0:=⟨[],⟨t7,λ_ m=>by cases m⟩,rfl,λx h=>absurd rfl h⟩
theorem Tb.of{L:List Int}(h:gj L):Tb (cj f L) λx=>if L.contains x then f x else 0:=⟨L,h,mK λi m=>by exact O (if_pos (jB.mpr m)) rfl,λx q=>by
by_cases m:L.contains x=af;.exact jB.mp m
.exact absurd (if_neg m) q⟩
theorem Tb.add(a:Tb t g)(b:Tb u h):Tb (jH t u) λx=>g x+h x:=by
 refine dj a λK C I d=>?_;try clear a;subst I
 refine dj b λk f I c=>?_;try clear b;subst I
 refine dj (Fc (f:=g) (g:=h) C f) λM j D e=>?_;refine⟨M,j,e.trans (mK λx _=>?_),λx q=>(D x).mpr ?_⟩
 .congr 1
  .split;.rfl
   .by_cases z:g x=0;.exact z.symm
    .exact absurd (d x z) ‹_›
  .split;.rfl
   .by_cases z:h x=0;.exact z.symm
    .exact absurd (c x z) ‹_›
 .by_cases z:g x=0;.exact .inr (c x λy=>q (show g x+h x=0 from O z (O y rfl)))
  .exact .inl (d x z)
theorem xec{l:List Int}(h:l.length=5):l=r5.map (gi l):=by refine oh (oV h) λa b c d e I=>?_;subst I;rfl
theorem Fe{l:List Int}(h:l.length=5):ia l=cj (λi=>(gi l i*(gi l i+1)).fdiv 2) r5:=by refine oh (oV h) λa b c d e I=>?_;subst I;rfl
theorem L8(f:Int->List Int):∀l:List Int,(l.flatMap f).sum=(l.map λi=>(f i).sum).sum|[]=>rfl|a::l=>by exact O zZ (O DO (O (L8 f l) (O f6 (O rP rfl))))
theorem xgI{l:List Int}:(∀x∈l,-1<=x)->(l.map λx=>if x<0 then(0:Int)else 1).sum=(l.length:Int)-(l.count (-1):Nat):=by induction l with|nil=>exact λ_=>rfl|cons a l G=>
intro h;have Z:=G λx m=>h x (aY _ m);have K:=h a (aP ..);show(if a<0 then(0:Int)else 1)+(l.map λx=>if x<0 then(0:Int)else 1).sum=(l.length:Int)+1-_;rw[Z,yj];by_cases z:a<0;.rw[if_pos z,PT K z,mG];exact(Int.add_sub_add_right ..).symm
.rw[if_neg z,if_neg λq=>Em (fW (fD.mp z)) (eq_of_beq q),jO (l.length:Int) 1];exact(Int.add_sub_assoc ..).symm
theorem xgJ{h:List Int}(V:h.length=5)(R:∀i∈r5,-1<=gi h i):(r5.map λi=>if gi h i<0 then(0:Int)else 1).sum=5-(h.count (-1):Nat):=by refine oh (oV V) λa b c d e I=>?_;subst I;exact xgI (dP (P:=λx=>-1<=x) (R 0 dk) (dP (R 1 dk) (dP (R 2 dk) (dP (R 3 dk) (dP (R 4 dk) nD)))))
section
variable{W:List (List Int)}{G:List ai}{M:bG}
theorem xcv(P:Pl W)(m:i∈r5):(bz W i).map (λj=>gw W j i)=[1,2,3,4]:=by have D:=P.1.row i (aE.mp m).1 (aE.mp m).2;refine Zg (by refine O (aH ..) (O D ?_);rfl) λn h1 J=>?_;refine O (List.getElem_map ..) ?_;unfold gw;rw[(P.2 i m).idxOf_getElem n (by replace h1:=aH ..▸h1;exact h1)];have:n<4:=J;have:n=0\/n=1\/n=2\/n=3:=PO this;rcases this with rfl|rfl|rfl|rfl<;>rfl
theorem SM(P:Pl W)(m:i∈r5)(h:1<=gi f i/\gi f i<=4):((ee W f i).map λj=>gw W j i).sum=(gi f i*(gi f i+1)).fdiv 2:=by unfold ee;refine O D3 (O (xcv P m) ?_);generalize gi f i=n at h⊢;have:n=1\/n=2\/n=3\/n=4:=PV h.1 h.2;rcases this with rfl|rfl|rfl|rfl<;>decide
theorem xgK(a b c d e:Int):0+a+b+c+d+e=a+(b+(c+(d+(e+0)))):=by rw[mG,qF,nX,nX,nX]
theorem WX(M:bG):(ji M r5).a=(r5.map λj=>(cO M.book j).a).sum/\(ji M r5).b=(r5.map λj=>(cO M.book j).b).sum/\(ji M r5).c=(r5.map λj=>(cO M.book j).c).sum/\(ji M r5).d=(r5.map λj=>(cO M.book j).d).sum:=by have d:=λf:Int->Int=>pA (YY r5) f;exact⟨d λj=>(cO M.book j).a,d λj=>(cO M.book j).b,d λj=>(cO M.book j).c,d λj=>(cO M.book j).d⟩
def bx(W:List (List Int))(A:List Int)(j x:Int):Int:=if(ee W A x).contains j&&r5.contains x then gw W j x else 0
theorem xau(P:Pl W)(r:fh M k){A:List Int}(T:A.length=5)(t:∀i∈r5,1<=gi A i/\gi A i<=4)(a:∀j∈r5,∃L,gj L/\L.Perm (jh W A j)/\cO M.book j=⟨if gi M.held j<0 then 0 else 1,L.length,(L.map (gw W j)).sum,(L.map (sJ W j)).sum,cj (gw W j) L⟩):(ji M r5).t.length<=1000/\TE 3 (cA (ji M r5)) (cA ⟨5-(M.held.count (-1):Nat),A.sum,tabS (ia A),(m9 W A).sum,ia A⟩)/\tabS (ji M r5).t=tabS (ia A):=by
 refine kZ (WX M) λl R Z U=>?_;have d:∃K,K.Perm r5/\gj K/\(ji M r5).t=cj (λi=>(gi A i*(gi A i+1)).fdiv 2) K:=by
  have one:∀j∈r5,Tb (cO M.book j).t (bx W A j):=λj w=>by refine dj (a j w) λL o p e=>?_;refine O e ?_;have:=Tb.of (f:=gw W j) o;rwa[show(λx=>if L.contains x then gw W j x else 0)=bx W A j from funext λx=>by unfold bx;exact O (show L.contains x=((ee W A x).contains j&&r5.contains x)from by rw[tY,jB,p.mem_iff,dZ,jB (as:=r5),jh,d7];exact And.comm) rfl]at this
  refine dj (((((Tb.nil.add (one 0 (by decide))).add (one 1 (by decide))).add (one 2 (by decide))).add (one 3 (by decide))).add (one 4 (by decide))) λK C e s=>?_;have f:∀x∈r5,0+bx W A 0 x+bx W A 1 x+bx W A 2 x+bx W A 3 x+bx W A 4 x=(gi A x*(gi A x+1)).fdiv 2:=λx S=>by
   have b:∀j,bx W A j x=if(ee W A x).contains j then gw W j x else 0:=λj=>by unfold bx;exact O (jB.mpr S) (O (t9 ..) rfl)
   rw[<-SM P S (t x S),pA (PD (L7 P S)),sum_filter,b,b,b,b,b];exact xgK ..
  refine⟨K,(zQ C.1 qK).mpr λx=>⟨C.2 x,λS=>s x λq=>?_⟩,C,e.trans (mK λx m=>f x (C.2 x m))⟩;have q:=(f x S).symm.trans q;have:=t x S;revert q this;generalize gi A x=n;intro q this;have:n=1\/n=2\/n=3\/n=4:=PV this.1 this.2;rcases this with rfl|rfl|rfl|rfl<;>revert q<;>decide
 refine dj d λK g C c=>?_;refine⟨?_,Fd ?_ ?_ ?_ ?_ ?_,?_⟩;.refine O c (O (uE ..) (O g.length_eq ?_));decide
 .refine O l ?_;show _=5-(M.held.count (-1):Int);refine aQ (xgJ r.held λi m=>(r.qa i (aE.mp m).1 (aE.mp m).2).1) ?_;refine congrArg _ (jK λj w=>?_);refine dj (a j w) λL o p e=>?_;exact O e rfl
 .refine O R ?_;show _=A.sum;have H:(r5.map λj=>(cO M.book j).b)=r5.map λj=>((jh W A j).map λ_=>(1:Int)).sum:=jK λj w=>by refine dj (a j w) λL o p e=>?_;exact O e (O (Nf ..) (aQ p.length_eq rfl))
  refine O H (O (F7 P λ_ _=>1) ?_);have h:=xec T;refine O (congrArg List.sum h) ?_;refine congrArg _ (jK λi E=>?_);refine O (Nf ..) ?_;unfold ee;have:=t i E;rw[jC,P.1.row i (aE.mp E).1 (aE.mp E).2];exact jo2 (fW this.1) this.2
 .refine O Z ?_;show _=tabS (ia A);have H:(r5.map λj=>(cO M.book j).c)=r5.map λj=>((jh W A j).map (gw W j)).sum:=jK λj w=>by refine dj (a j w) λL o p e=>?_;exact O e (pA p _)
  exact O H (O (F7 P (gw W)) (O (Fe T) (O (wO ..) (congrArg _ (jK λi E=>SM P E (t i E))))))
 .refine O U ?_;show _=(m9 W A).sum;have H:(r5.map λj=>(cO M.book j).d)=r5.map λj=>((jh W A j).map (sJ W j)).sum:=jK λj w=>by refine dj (a j w) λL o p e=>?_;exact O e (pA p _)
  refine O H (O (F7 P (sJ W)) ?_);unfold m9;refine O (L8 ..) ?_;rfl
 .exact O c (O (Fe T) (G1 (n:=1) g C λ_ _=>rfl))
 .exact O c (O (Fe T) (O (wO ..) (O (wO ..) (pA g _))))
theorem Fin.tot(z:Fin W G M)(P:Pl W):BH W (ji M r5):=by
 obtain⟨v,⟨n,r⟩,T,f⟩:=id z;have D:=(qH W).1.ck;have:=xau P r (A:=bH (rounds W)) (by unfold bH;exact O (aH ..) D.len) (λi m=>yL D (aE.mp m).1 (aE.mp m).2) λj w=>by refine fU (z.tab P w) λL o p e _=>?_;exact⟨L,o,p,e⟩
 rw[z.held P]at this;exact⟨this.1,this.2.1,this.2.2⟩
end
def lM(c:List (List Int)):List (Int×Int×Int):=c.flatMap λr=>(en 0 r).map λq=>(q.2,jc r q.1,wX r q.1)
def fj(c:List (List Int)):List Int:=(lM c).foldl (λf s=>f.set s.1.toNat s.2.1) r5
def prs:List (Int×Int):=r5.flatMap λone=>(upTo one).map λi=>(one,i)
def FN{N:Type}(b:N->N->N)(a:N->N)(g:N)(L:Int->Int->Int->N)(c:List (List Int)):N:=(lM c).foldr (λs r=>b (a (L s.1 s.2.1 s.2.2)) r) (prs.foldr (λq r=>b (a (b (L q.1 q.2 (gi (fj c) q.1)) (L q.2 q.1 (gi (fj c) q.2)))) r) g)
theorem yv{L:Type}(f:L->Bool)(b:Bool):∀l:List L,l.foldr (λs r=>f s&&r) b=(l.all f&&b)|[]=>by simp|a::l=>by exact O DP (O (yv f b l) (O Lc (O (Bool.and_assoc ..) rfl)))
def uS(e:List (List Int))(p:List Int):List Int:=r5.map λi=>gr e i (gi p i)
theorem xav(e:List (List Int)){p:List Int}(Q:p.length=5)(a:Int):∀q∈r5,(uS e p).set q.toNat (gr e q a)=uS e (p.set q.toNat a):=by refine oh (oV Q) λ_ _ _ _ _ z=>?_;subst z;exact Bm rfl rfl rfl rfl rfl
def stp(e:List (List Int))(o:List Int)(s:Int×Int×Int):Option (List Int):=if gr e s.1 s.2.1<gr e s.1 s.2.2 then ak else aa (o.set s.1.toNat (gr e s.1 s.2.1))
theorem Ng(e:List (List Int)):∀(l:List (Int×Int×Int))(p:List Int),p.length=5->(∀s∈l,s.1∈r5)->l.foldlM (stp e) (uS e p)=if l.all λs=>!decide (gr e s.1 s.2.1<gr e s.1 s.2.2)then aa (uS e (l.foldl (λf s=>f.set s.1.toNat s.2.1) p))else ak
|[],p,_,_=>rfl|s::l,p,Q,h=>by
 refine O DB (O Lc (O pJ ?_));unfold stp;by_cases q:gr e s.1 s.2.1<gr e s.1 s.2.2;.refine O (if_pos q) (O (decide_eq_true q) ?_);rfl
 .refine O (if_neg q) (O (decide_eq_false q) (O (xav e Q _ _ (h s (aP ..))) ?_));exact Ng e l _ (by exact O jN Q) λx m=>h x (aY _ m)
theorem JB(e:List (List Int)):∀(c:List (List Int))(o:List Int),c.foldlM (pQ e) o=(lM c).foldlM (stp e) o|[],_=>rfl|r::c,o=>by rw[DB,lM,zZ,JU,List.foldlM_map];show _=(pQ e o r).bind λo=>(lM c).foldlM (stp e) o;refine aQ (funext (JB e c)) ?_;rfl
theorem Nh:∀c∈e8 r5,(∀s∈lM c,s.1∈r5/\s.2.1∈r5/\s.2.2∈r5)/\∀i∈r5,gi (fj c) i∈r5:=by
 have h:((e8 r5).all λc=>((lM c).all λs=>r5.contains s.1&&(r5.contains s.2.1&&r5.contains s.2.2))&&r5.all λi=>r5.contains (gi (fj c) i))=af:=by decide+kernel
 intro c m;have h:=cg.mp h c m;rw[dZ,cg,cg]at h;refine⟨λs e=>?_,λi E=>jB.mp (h.2 i E)⟩;have:=h.1 s e;rw[dZ,dZ,jB,jB,jB]at this;exact this
theorem OF:∀q∈prs,q.1∈r5/\q.2∈r5:=by decide+kernel
def ltB(W:List (List Int))(i a b:Int):Bool:=decide (dz W i a<dz W i b)
theorem wR(W:List (List Int))(E:i∈r5)(s:a∈r5):gr (ig W) i a=dz W i a:=by unfold gr ig;exact O (u9 i E) (u9 (d:=0) a s)
theorem xgL(W:List (List Int)):([4,4,4,4,4]:List Int)=uS (ig W) r5:=by
 have:∀i∈r5,gr (ig W) i (gi r5 i)=4:=λi E=>by have e:∀i∈r5,gi r5 i=i:=dk;exact O (e i E) (O (wR W E E) (if_pos rfl))
 exact jK (l:=r5) (f:=λ_=>(4:Int)) λi E=>(this i E).symm
theorem WY(e:List (List Int))(o:List Int):(uq e o).isEmpty=prs.all λq=>!(decide (gr e q.1 q.2<gi o q.1)&&decide (gr e q.2 q.1<gi o q.2)):=by
 rw[tY,List.isEmpty_iff,cg];unfold uq prs;rw[List.flatMap_eq_nil_iff];constructor;.intro h q m;refine aG (yh.mp m) λone U s=>?_;refine aG (bE.mp s) λi f z=>?_;subst z;have:=h one U;rw[if_pos rfl,Xd,vO]at this;have:=this i f;rwa[Zi,<-tQ]at this
 .intro h one U;refine O (if_pos rfl) (Xd.mpr (vO.mpr ?_));intro i s;have:=h (one,i) (yh.mpr ⟨one,U,bE.mpr ⟨i,s,rfl⟩⟩);rwa[Zi,<-tQ]
theorem all_congr{L:Type}{f g:L->Bool}{l:List L}(h:∀a∈l,f a=g a):l.all f=l.all g:=by rw[tY,cg,cg];exact⟨λq a m=>(h a m).symm.trans (q a m),λq a m=>(h a m).trans (q a m)⟩
theorem EG(W:List (List Int)){c:List (List Int)}(m:c∈e8 r5):ny (ig W) c=FN (·&&·) (!·) true (ltB W) c:=by
 refine aV (Nh c m) λg Q=>?_;unfold ny yI FN;rw[xgL W,JB,Ng (ig W) (lM c) r5 rfl λs e=>(g s e).1,yv λs:Int×Int×Int=>!ltB W s.1 s.2.1 s.2.2,yv λq:Int×Int=>!(ltB W q.1 q.2 (gi (fj c) q.1)&&ltB W q.2 q.1 (gi (fj c) q.2)),t9];have H:((lM c).all λs=>!decide (gr (ig W) s.1 s.2.1<gr (ig W) s.1 s.2.2))=(lM c).all λs=>!ltB W s.1 s.2.1 s.2.2:=all_congr λs e=>by refine gW (g s e) λa b d=>?_;refine O (wR W a b) (O (wR W a d) ?_);rfl
 refine O H ?_;cases(lM c).all λs=>!ltB W s.1 s.2.1 s.2.2 with|false=>rfl|true=>
show(uq (ig W) (uS (ig W) (fj c))).isEmpty=(true&&_);refine O (Bool.true_and ..) (O (WY ..) ?_);refine all_congr λq j=>?_;refine aV (OF q j) λa b=>?_;have f:∀i∈r5,gi (uS (ig W) (fj c)) i=dz W i (gi (fj c) i):=λi E=>by exact aQ (wR W E (Q i E)) (u9 (d:=0) i E)
refine O (f _ a) (O (f _ b) (O (wR W a b) (O (wR W b a) ?_)));rfl
def cat(n:Nat):List Nat->Nat|[]=>0|w::a=>2^n*cat n a+w
noncomputable def mask(n:Nat)(b:Bool):Nat:=if b then 2^n-1 else 0
def nL(n:Nat)(z:List Bool):Nat:=cat n (z.map (mask n))
def up(n w:Nat):Nat:=cat n (eH 24 w)
theorem Ff(D:r<n):∀{a:List Nat}{q:Nat},(∀w∈a,w<2^n)->(cat n a).testBit (n*q+r)=(a.getD q 0).testBit r
|[],q,_=>by show(0:Nat).testBit _=(0:Nat).testBit _;exact O (DE ..) (O (DE ..) rfl)|w::a,0,h=>by show(2^n*cat n a+w).testBit _=w.testBit r;rw[Uk _ (h w (aP ..)),if_pos (show n*0+r<n from gO (dh (jn r)) D)];congr 1;exact jm _ _|w::a,q+1,h=>by
 show(2^n*cat n a+w).testBit _=(a.getD q 0).testBit r;have e:n*(q+1)+r=n+(n*q+r):=by exact O (NC ..) (jR (jR (jL _ _ _) (jm _ _)) (jR (rQ _ _ _) (jm _ _)))
 rw[Uk _ (h w (aP ..)),e,if_neg (tT (e7 _ _)),pG];exact Ff D λx m=>h x (aY _ m)
theorem F8:∀{a:List Nat},(∀w∈a,w<2^n)->cat n a<2^(n*a.length)|[],_=>by show 0<2^(n*0);refine O (Nat.mul_zero ..) ?_;decide|w::a,h=>by have h1:=F8 λx m=>h x (aY w m);have J:=h w (aP ..);show 2^n*cat n a+w<2^(n*(a.length+1));rw[NC,xez,Nat.pow_add,Nat.mul_comm (2^(n*a.length))];calc 2^n*cat n a+w<2^n*cat n a+2^n:=Xe J _
_=2^n*(cat n a+1):=by exact O (NC ..) (O (xez ..) rfl)
_<=2^n*2^(n*a.length):=mY _ h1
theorem xaw(n:Nat)(b:Bool):mask n b<2^n:=by
 have:=Nat.two_pow_pos n;unfold mask;split;.exact xgP this xer
 .exact this
theorem Ma(h:r<n)(b:Bool):(mask n b).testBit r=b:=by unfold mask;cases b with|false=>exact DE r|true=>show(2^n-1).testBit r=true;exact O (Jb ..) (decide_eq_true h)
theorem Bo{z:List Bool}(h:z.length=24):nL n z<2^(n*24)/\∀q r,r<n->q<24->(nL n z).testBit (n*q+r)=z.getD q av:=by
 have Q:∀w∈z.map (mask n),w<2^n:=λw m=>by refine aG (bE.mp m) λb _ v=>?_;subst v;exact xaw n b
 refine⟨?_,λq r D B=>?_⟩;.have:=F8 Q;rwa[aH,h]at this
 .unfold nL;exact O (Ff D Q) (O cz (O cz (O eS (O (cy (jq h B)) (Ma D _)))))
theorem xw{n w:Nat}(h:w<2^n):up n w<2^(n*24)/\∀q r,r<n->q<24->(up n w).testBit (n*q+r)=w.testBit r:=by
 have Q:∀x∈eH 24 w,x<2^n:=λx m=>by exact O (vL m) h
 refine⟨F8 Q,λq r D B=>?_⟩;unfold up;refine O (Ff D Q) (O cz (O List.getElem?_replicate (O (if_pos B) ?_)));rfl
def perms(i:Int):List (List Int):=(cW i).flatMap λx=>((cW i).filter λy=>y !=x).flatMap λy=>((cW i).filter λz=>z !=x&&z !=y).flatMap λz=>((cW i).filter λu=>u !=x&&(u !=y&&u !=z)).map λu=>[x,y,z,u]
theorem Ei:∀i∈r5,(perms i).length=24:=by decide+kernel
theorem xcw(P:Pl W)(m:i∈r5):bz W i∈perms i:=by
 have D:=P.1.row i (aE.mp m).1 (aE.mp m).2;have K:=P.2 i m;have L:=P.1.el i (aE.mp m).1 (aE.mp m).2;have g:∀x∈bz W i,x∈cW i:=λx S=>by refine gW (L x S) λa b c=>?_;exact d7.mpr ⟨aE.mpr ⟨a,b⟩,by simpa using c⟩
 match C:bz W i,D with|[x,y,z,u],_=>rw[C]at K g;simp only[mC,bA,b9,or_false,not_or]at K;refine kZ K λv I o _=>?_;refine gW v λU d h=>?_;refine aV I λw t=>?_;refine yh.mpr ⟨x,g x (by simp),yh.mpr ⟨y,d7.mpr ⟨g y (by simp),by simpa using gu U⟩,yh.mpr ⟨z,d7.mpr ⟨g z (by simp),by simp[gu d,gu w]⟩,bE.mpr ⟨u,d7.mpr ⟨g u (by simp),by simp[gu h,gu t,gu o]⟩,rfl⟩⟩⟩⟩
noncomputable def xgM(i:Int)(a b:Int)(d:List Int):Bool:=decide ((if i=a then(4:Int)else(d.idxOf a:Int))<if i=b then(4:Int)else(d.idxOf b:Int))
def bits(i a b:Int):List Bool:=(perms i).map (xgM i a b)
def xed(d:Nat)(i a b:Int):Nat:=if i=0 then mask 331776 ((bits 0 a b).getD d av)else if i=1 then up 13824 (up 576 (up 24 (nL 1 (bits 1 a b))))else if i=2 then up 13824 (up 576 (nL 24 (bits 2 a b)))else if i=3 then up 13824 (nL 576 (bits 3 a b))else nL 13824 (bits 4 a b)
noncomputable def Ci{N:Type}(x:Int)(k:Int->N):N:=if x=0 then k 0 else if x=1 then k 1 else if x=2 then k 2 else if x=3 then k 3 else k 4
theorem Fg{N:Type}(k:Int->N):∀x∈r5,Ci x k=k x:=Bm rfl rfl rfl rfl rfl
def LW(d:Nat)(i a b:Int):Nat:=Ci i λi=>Ci a λa=>Ci b λb=>xed d i a b
noncomputable def ids:List (List Int):=[[0],[1],[2],[3],[4],[0,1,2],[0,1,3],[0,1,4],[0,2,3],[0,2,4],[0,3,4],[1,2,3],[1,2,4],[1,3,4],[2,3,4],[0,1,2,3,4]]
def lH{N:Type}(b:N->N->N)(a:N->N)(g:N)(o:N->N->N)(z:N)(L:Int->Int->Int->N)(id:List Int):N:=((e8 r5).filter λc=>(ring c).isPerm id).foldr (λc r=>o (FN b a g L c) r) z
noncomputable def sd{N:Type}(b o:N->N->N)(z:N)(l:List N):N×N:=l.foldr (λx p=>(o x p.1,o p.2 (b x p.1))) (z,z)
noncomputable def full:Nat:=2^331776-1
def rG(d:Nat):Bool:=match sd Nat.land Nat.lor 0 (ids.map (lH Nat.land (λx=>Nat.xor x full) full Nat.lor 0 (LW d)))with|(s,e)=>Nat.beq s full&&Nat.beq e 0
theorem foldr_hom{L:Type}{h:Nat->Bool}{n:Nat->Nat->Nat}{c:Bool->Bool->Bool}{f:L->Nat}{e:L->Bool}{z:Nat}{A:Bool}(g:∀a b,h (n a b)=c (h a) (h b))(I:h z=A):∀{l:List L},(∀s∈l,h (f s)=e s)->h (l.foldr (λs r=>n (f s) r) z)=l.foldr (λs r=>c (e s) r) A|[],_=>I|a::l,d=>by exact O DP (O DP (O (g ..) (O (d a (aP ..)) (O (foldr_hom g I λs m=>d s (aY _ m)) rfl))))
structure CI(h:Nat->Bool):Prop where
an:∀a b,h (qR a b)=(h a&&h b)o:∀a b,h (qW a b)=(h a||h b)nt:∀a,h (QX a full)=!h a
one:h full=af
zero:h 0=av
theorem xcx{h:Nat->Bool}(H:CI h){L:Int->Int->Int->Nat}{E:Int->Int->Int->Bool}(C:∀i∈r5,∀a∈r5,∀b∈r5,h (L i a b)=E i a b){c:List (List Int)}(m:c∈e8 r5):h (FN qR (λx=>QX x full) full L c)=FN (·&&·) (!·) af E c:=by
 refine aV (Nh c m) λW Q=>?_;unfold FN;refine foldr_hom H.an (foldr_hom H.an H.one λq j=>?_) λs e=>?_;.refine aV (OF q j) λa b=>?_;exact O (H.nt ..) (O (H.an ..) (O (C _ a _ b _ (Q _ a)) (O (C _ b _ a _ (Q _ b)) rfl)))
 .refine gW (W s e) λa b d=>?_;exact O (H.nt ..) (O (C _ a _ b _ d) rfl)
theorem xax{h:Nat->Bool}(H:CI h){L:Int->Int->Int->Nat}{E:Int->Int->Int->Bool}(C:∀i∈r5,∀a∈r5,∀b∈r5,h (L i a b)=E i a b)(id:List Int):h (lH qR (λx=>QX x full) full qW 0 L id)=lH (·&&·) (!·) af (·||·) av E id:=by unfold lH;exact foldr_hom H.o H.zero λc m=>xcx H C (d7.mp m).1
theorem OG(H:CI h):∀l:List Nat,h (sd qR qW 0 l).1=(sd (·&&·) (·||·) av (l.map h)).1/\h (sd qR qW 0 l).2=(sd (·&&·) (·||·) av (l.map h)).2|[]=>⟨H.zero,H.zero⟩|a::l=>by refine aV (OG H l) λb L=>?_;have z:sd qR qW 0 (a::l)=(qW a (sd qR qW 0 l).1,qW (sd qR qW 0 l).2 (qR a (sd qR qW 0 l).1)):=rfl;have o:sd (·&&·) (·||·) av ((a::l).map h)=(h a||(sd (·&&·) (·||·) av (l.map h)).1,(sd (·&&·) (·||·) av (l.map h)).2||h a&&(sd (·&&·) (·||·) av (l.map h)).1):=rfl;exact O z (O o ⟨by rw[H.o,b],by rw[H.o,H.an,b,L]⟩)
theorem xay(N:k<331776):CI λw=>w.testBit k where
an a b:=Nat.testBit_and a b k;o a b:=Nat.testBit_or a b k;nt a:=by show(a^^^full).testBit k=_;unfold full;rw[Nat.testBit_xor,Jb,decide_eq_true N,Bool.xor_true]
one:=by show full.testBit k=af;unfold full;exact O (Jb ..) (O (decide_eq_true N) rfl)
zero:=DE k
theorem Ni:∀l:List Bool,(sd (·&&·) (·||·) av l).1=l.any id/\((sd (·&&·) (·||·) av l).2=av->l.Pairwise λa b=>¬(a=af/\b=af))
|[]=>⟨rfl,λ_=>C4⟩|a::l=>by
 obtain⟨H,L⟩:=Ni l;have o:sd (·&&·) (·||·) av (a::l)=(a||(sd (·&&·) (·||·) av l).1,(sd (·&&·) (·||·) av l).2||a&&(sd (·&&·) (·||·) av l).1):=rfl;refine O o ?_;refine⟨by refine O Ld (O H ?_);rfl,λq=>?_⟩;simp only[Bool.or_eq_false_iff,Bool.and_eq_false_iff]at q;refine xhf (λb j⟨d,c⟩=>?_) (L q.1);replace q:=H▸q;refine bw q.2 (λq=>?_) λq=>?_;.replace q:=d▸q;cases q
 .have:=List.any_eq_false.mp q b j;exact this c
theorem xaz(Z:rG d=af)(N:k<331776)(C:∀i∈r5,∀a∈r5,∀b∈r5,(LW d i a b).testBit k=c i a b):ids.any (lH (·&&·) (!·) af (·||·) av c)=af/\ids.Pairwise λx y=>¬(lH (·&&·) (!·) af (·||·) av c x=af/\lH (·&&·) (!·) af (·||·) av c y=af):=by
 have H:=xay N;unfold rG at Z;have e:=OG H (ids.map (lH Nat.land (λx=>Nat.xor x full) full Nat.lor 0 (LW d)));revert Z e;generalize sd Nat.land Nat.lor 0 (ids.map (lH Nat.land (λx=>Nat.xor x full) full Nat.lor 0 (LW d)))=p;obtain⟨s,t⟩:=p;intro Z e;simp only[dZ]at Z;have h1:=Nat.eq_of_beq_eq_true Z.1;have J:=Nat.eq_of_beq_eq_true Z.2;have f:(ids.map (lH Nat.land (λx=>Nat.xor x full) full Nat.lor 0 (LW d))).map (λw=>w.testBit k)=ids.map (lH (·&&·) (!·) af (·||·) av c):=by exact O bO (jK λid _=>xax H C id)
 rw[f]at e;simp only at e;rw[h1,J]at e;refine aV (Ni (ids.map (lH (·&&·) (!·) af (·||·) av c))) λb1 b2=>?_;refine⟨?_,?_⟩;.rw[<-e.1,Mq]at b1;rw[show ids.any (lH (·&&·) (!·) af (·||·) av c)=_ from b1.symm];exact H.one
 .have:=b2 (e.2.symm.trans H.zero);rwa[Dn]at this
theorem AM(a b:Int)(m:i∈r5):(bits i a b).length=24:=by unfold bits;exact O (aH ..) (O (Ei i m) rfl)
theorem yN(P:Pl W)(m:i∈r5):∃d,d<24/\∀a b,(bits i a b).getD d av=ltB W i a b:=by obtain⟨d,U,e⟩:=yd (xcw P m);rw[Ei i m]at U;refine⟨d,U,λa b=>?_⟩;unfold bits;refine O cz (O eS (O (cy (by rw[Ei i m];exact U)) (O e ?_)));rfl
theorem YM(P:Pl W):∃d k,d<24/\k<331776/\∀i∈r5,∀a∈r5,∀b∈r5,(LW d i a b).testBit k=ltB W i a b:=by
 refine aG (yN P (i:=0) dk) λf D B=>?_;refine aG (yN P (i:=1) dk) λy h1 H=>?_;refine aG (yN P (i:=2) dk) λG J L=>?_;refine aG (yN P (i:=3) dk) λF R g=>?_;refine aG (yN P (i:=4) dk) λK Y l=>?_;have V:1*y+0<24:=gO (dh (yw y)) h1;have M:24*G+(1*y+0)<576:=jx2 h1 J;have r:576*F+(24*G+(1*y+0))<13824:=jx3 h1 J R;refine⟨f,13824*K+(576*F+(24*G+(1*y+0))),D,Rb h1 J R Y,λi E a s b j=>?_⟩;have e:(24:Nat)*24=576:=rfl;have c:(576:Nat)*24=13824:=rfl;unfold LW;refine O (Fg _ i E) (O (Fg _ a s) (O (Fg _ b j) ?_));have:=aE.mp E;have:i=0\/i=1\/i=2\/i=3\/i=4:=lz this.1 this.2;rcases this with rfl|rfl|rfl|rfl|rfl;.show(mask 331776 ((bits 0 a b).getD f av)).testBit _=_;rw[Ma (Rb h1 J R Y),B]
 .show(up 13824 (up 576 (up 24 (nL 1 (bits 1 a b))))).testBit _=_;have S:=Bo (n:=1) (AM a b (i:=1) dk);have I:=xw (n:=24) (w:=nL 1 (bits 1 a b)) S.1;rw[e]at I;have N:=xw (n:=576) I.1;rw[c]at N;exact O ((xw N.1).2 _ _ r Y) (O (N.2 _ _ M R) (O (I.2 _ _ V J) (O (S.2 _ _ dk h1) (O (H ..) rfl))))
 .show(up 13824 (up 576 (nL 24 (bits 2 a b)))).testBit _=_;have I:=Bo (n:=24) (AM a b (i:=2) dk);rw[e]at I;have N:=xw (n:=576) I.1;rw[c]at N;exact O ((xw N.1).2 _ _ r Y) (O (N.2 _ _ M R) (O (I.2 _ _ V J) (O (L ..) rfl)))
 .show(up 13824 (nL 576 (bits 3 a b))).testBit _=_;have N:=Bo (n:=576) (AM a b (i:=3) dk);rw[c]at N;exact O ((xw N.1).2 _ _ r Y) (O (N.2 _ _ M R) (O (g ..) rfl))
 .show(nL 13824 (bits 4 a b)).testBit _=_;exact O ((Bo (n:=13824) (AM a b (i:=4) dk)).2 _ _ r Y) (O (l ..) rfl)
theorem BK:[0,1,2,3].all rG=af:=by decide+kernel
theorem BL:[4,5,6,7].all rG=af:=by decide+kernel
theorem BN:[8,9,10,11].all rG=af:=by decide+kernel
theorem BO:[12,13,14,15].all rG=af:=by decide+kernel
theorem BP:[16,17,18,19].all rG=af:=by decide+kernel
theorem BQ:[20,21,22,23].all rG=af:=by decide+kernel
theorem xaA:∀d,d<24->rG d=af|0,_=>cg.mp BK 0 dk|1,_=>cg.mp BK 1 dk|2,_=>cg.mp BK 2 dk|3,_=>cg.mp BK 3 dk|4,_=>cg.mp BL 4 dk|5,_=>cg.mp BL 5 dk|6,_=>cg.mp BL 6 dk|7,_=>cg.mp BL 7 dk|8,_=>cg.mp BN 8 dk|9,_=>cg.mp BN 9 dk|10,_=>cg.mp BN 10 dk|11,_=>cg.mp BN 11 dk|12,_=>cg.mp BO 12 dk|13,_=>cg.mp BO 13 dk|14,_=>cg.mp BO 14 dk|15,_=>cg.mp BO 15 dk|16,_=>cg.mp BP 16 dk|17,_=>cg.mp BP 17 dk|18,_=>cg.mp BP 18 dk|19,_=>cg.mp BP 19 dk|20,_=>cg.mp BQ 20 dk|21,_=>cg.mp BQ 21 dk|22,_=>cg.mp BQ 22 dk|23,_=>cg.mp BQ 23 dk|d+24,h=>absurd h (rX.mpr (gQ 24 d))
def fB(c:List (List Int)):List Int:=(lM c).foldl (λf s=>f.set s.1.toNat s.2.2) r5
structure xee(c:List (List Int)):Prop where
st:∀i∈r5,(i,gi (fj c) i,gi (fB c) i)∈lM c
ps:∀i∈r5,gi (fj c) (gi (fB c) i)=i/\gi (fB c) i∈r5
sp:∀i∈r5,gi (fB c) (gi (fj c) i)=i/\gi (fj c) i∈r5
fx:∀i∈r5,gi (fB c) i=i↔ring c=[i]
theorem EH:∀c∈e8 r5,xee c:=by
 have h:((e8 r5).all λc=>r5.all λi=>(lM c).contains (i,gi (fj c) i,gi (fB c) i)&&(gi (fj c) (gi (fB c) i)==i&&r5.contains (gi (fB c) i)&&(gi (fB c) (gi (fj c) i)==i&&r5.contains (gi (fj c) i)&&(gi (fB c) i==i)==(ring c==[i]))))=af:=by decide+kernel
 intro c m;have h:=λi(E:i∈r5)=>cg.mp (cg.mp h c m) i E;simp only[dZ,jB,beq_iff_eq]at h;exact⟨λi E=>(h i E).1,λi E=>(h i E).2.1,λi E=>(h i E).2.2.1,λi E=>by rw[<-beq_iff_eq,(h i E).2.2.2,beq_iff_eq]⟩
theorem xaB:∀c∈e8 r5,∃id∈ids,(ring c).isPerm id=af:=by
 have h:((e8 r5).all λc=>ids.any λid=>(ring c).isPerm id)=af:=by decide+kernel
 intro c m;exact vX.mp (cg.mp h c m)
theorem OH:∀id∈ids,gj id/\(id.length=1\/id.length=3\/id.length=5):=by
 have h:(ids.all λid=>decide id.Nodup&&id.all r5.contains&&(id.length==1||(id.length==3||id.length==5)))=af:=by decide+kernel
 intro id m;have h:=cg.mp h id m;simp only[dZ,decide_eq_true_eq,cg,jB,yi,beq_iff_eq]at h;exact h
section
variable{W:List (List Int)}{G:List ai}{b:bG}
theorem Nj(W:List (List Int))(id:List Int):lH (·&&·) (!·) af (·||·) av (ltB W) id=af↔∃c∈cI W,(ring c).isPerm id=af:=by
 have e:∀l:List (List (List Int)),l.foldr (λc r=>FN (·&&·) (!·) af (ltB W) c||r) av=l.any λc=>FN (·&&·) (!·) af (ltB W) c:=λl=>by induction l with|nil=>rfl|cons a l d=>exact O DP (O d (O Ld rfl))
 unfold lH;rw[e,vX];refine⟨λ⟨c,m,h⟩=>?_,λ⟨c,m,h⟩=>?_⟩;.refine aV (d7.mp m) λU s=>?_;exact⟨c,d7.mpr ⟨U,by exact O (EG W U) h⟩,s⟩
 .refine aV (d7.mp m) λU s=>?_;exact⟨c,d7.mpr ⟨U,h⟩,by exact aQ (EG W U) s⟩
theorem YN(P:Pl W):∃id∈ids,cI W≠[]/\∀c∈cI W,(ring c).Perm id:=by
 refine wG (YM P) λd k U N C=>?_;refine aV (xaz (xaA d U) N C) λh1 J=>?_;refine aG (vX.mp h1) λid A g=>?_;refine aG ((Nj W id).mp g) λc m Z=>?_;refine⟨id,A,λq=>(by replace m:=q▸m;cases m),λM f=>?_⟩;refine aG (xaB M (wm W M f)) λl e Q=>?_;have a:=(Nj W l).mpr ⟨M,f,Q⟩;obtain⟨i,F,h⟩:=yd A;obtain⟨j,Y,n⟩:=yd e;have D:=Uv.mp J;have:i=j:=by
  refine bw (Zd i j) (λq=>?_) λH=>bw H (λq=>?_) λq=>?_;.exact absurd ⟨by exact O h g,by exact O n a⟩ (D i j F Y q)
  .exact q
  .exact absurd ⟨by exact O n a,by exact O h g⟩ (D j i Y F q)
 subst this;exact aQ h (O n (List.isPerm_iff.mp Q))
theorem Mb{id:List Int}(g:gj id):∀(l:List (List (List Int)))(m:Int)(K:List Int),gj K->(∀i,i∈K↔i∈id)->(∀c∈l,(ring c).Perm id)->∃k,gj k/\(∀i,i∈k↔i∈id)/\l.foldl (λd c=>jH d (jX c)) (cj (λ_=>m) K)=cj (λ_=>m+l.length) k
|[],m,K,C,h,_=>⟨K,C,h,mK λi _=>(qF m).symm⟩|c::l,m,K,C,h,V=>by
 have Z:=V c (aP ..);have q:gj (ring c):=⟨Z.nodup_iff.mpr g.1,λi E=>g.2 i (Z.mem_iff.mp E)⟩;refine dj (Fc (f:=λ_=>m) (g:=λ_=>1) C q) λM n I e=>?_;have a:∀i,i∈M↔i∈id:=λi=>by rw[I,h,Z.mem_iff];exact or_self_iff
 refine dj (Mb g l (m+1) M n a λx S=>V x (aY _ S)) λk f j U=>?_;refine⟨k,f,j,?_⟩;refine O pJ ?_;have L:jH (cj (λ_=>m) K) (jX c)=cj (λ_=>m+1) M:=e.trans (mK λi E=>by exact O (if_pos ((h i).mpr ((a i).mp E))) (O (if_pos (Z.mem_iff.mpr ((a i).mp E))) rfl));exact O L (O U (mK λi _=>by rw[fC];exact(nX m 1 _).trans (congrArg (m+·) (jO 1 (l.length:Int)))))
theorem xaC(P:Pl W):∃id∈ids,(∃c,c∈cI W)/\(∀c∈cI W,(ring c).Perm id)/\∃K,gj K/\K.Perm id/\dG (cI W)=cj (λ_=>((cI W).length:Int)) K:=by refine dj (YN P) λid A u h=>?_;have g:=(OH id A).1;refine⟨id,A,UA _ u,h,?_⟩;revert u h;generalize cI W=l;intro u h;match l,u with
|c::l,_=>
 have Z:=h c (aP ..);have q:gj (ring c):=⟨Z.nodup_iff.mpr g.1,λi E=>g.2 i (Z.mem_iff.mp E)⟩;refine dj (Fc (f:=λ_=>0) (g:=λ_=>1) (K:=[]) ⟨t7,λ_ m=>by cases m⟩ q) λM j I e=>?_;have a:∀i,i∈M↔i∈id:=λi=>by rw[I,<-Z.mem_iff];simp
 have L:jH [] (jX c)=cj (λ_=>1) M:=e.trans (mK λi E=>by refine O (if_neg (by simp)) (O (if_pos (Z.mem_iff.mpr ((a i).mp E))) ?_);rfl);refine dj (Mb g l 1 M j a λx S=>h x (aY _ S)) λk f d U=>?_;refine⟨k,f,(zQ f.1 g.1).mpr d,?_⟩;unfold dG;exact O pJ (O L (O U (mK λi _=>by rw[fC];push_cast;exact jO _ _)))
end
section
variable{W:List (List Int)}{G:List ai}{M:bG}
theorem xaD:∀i∈r5,∀o∈r5,i≠o->(i,o)∈prs\/(o,i)∈prs:=by decide+kernel
theorem VX(m:c∈cI W):(∀i∈r5,¬dz W i (gi (fj c) i)<dz W i (gi (fB c) i))/\∀i∈r5,∀o∈r5,i≠o->¬(dz W i o<dz W i (gi (fj c) i)/\dz W o i<dz W o (gi (fj c) o)):=by
 refine aV (d7.mp m) λS h=>?_;rewrite[EG W S]at h;unfold FN at h;rewrite[yv λs:Int×Int×Int=>!ltB W s.1 s.2.1 s.2.2,yv λq:Int×Int=>!(ltB W q.1 q.2 (gi (fj c) q.1)&&ltB W q.2 q.1 (gi (fj c) q.2)),t9,dZ,cg,cg]at h;have t:=EH c S;have d:∀i o,(i,o)∈prs->¬(dz W i o<dz W i (gi (fj c) i)/\dz W o i<dz W o (gi (fj c) o)):=λi o j⟨a,b⟩=>by have:=h.2 _ j;unfold ltB at this;rewrite[decide_eq_true a,decide_eq_true b]at this;cases this
 refine⟨λi E q=>?_,λi E o T u=>?_⟩;.have:=h.1 _ (t.st i E);unfold ltB at this;rewrite[decide_eq_true q]at this;cases this
 .refine bw (xaD i E o T u) (λq=>?_) λq=>?_;.exact d i o q
  .exact λx=>d o i q x.symm
theorem pO(P:Pl W)(E:i∈r5)(s:a∈r5)(h:a≠i):0<=dz W i a/\dz W i a<4/\bu W i (dz W i a)=a/\dz W i a=eG W i a:=by have b:=P.1.all i (aE.mp E).1 (aE.mp E).2 a (aE.mp s).1 (aE.mp s).2 h;have A:=x6 b;have e:dz W i a=((bz W i).idxOf a:Int):=if_neg (gu h);have B:=A;rw[P.1.row i (aE.mp E).1 (aE.mp E).2]at B;refine O e ?_;refine⟨iP _,gR.mpr B,?_,rfl⟩;unfold bu gi;exact O (rM ..) (O cz (O (cy A) (Df A)))
theorem wu(W:List (List Int))(i:Int):dz W i i=4:=if_pos rfl
theorem YO(P:Pl W)(m:c∈cI W):sI W λi=>dz W i (gi (fB c) i):=by
 refine aV (VX m) λg x=>?_;have t:=EH c (wm W c m);have d:∀i∈r5,dz W i (gi (fB c) i)<4->gi (fB c) i≠i:=λi E h q=>by rewrite[q,wu]at h;exact sQ h
 refine⟨λi E=>?_,λi E o T F n e A=>?_,λi E k H V=>?_⟩
 .by_cases q:gi (fB c) i=i;.simp only[q,wu];exact iT (iP _) (uh _)
  .have:=pO P E (t.ps i E).2 q;exact⟨this.1,kN this.2.1⟩
 .have I:=(pO P E (t.ps i E).2 (d i E F)).2.2.1;have N:=(pO P T (t.ps o T).2 (d o T n)).2.2.1;have e:bu W o (dz W o (gi (fB c) o))=bu W i (dz W i (gi (fB c) i)):=e;rewrite[I,N]at e;have:o=i:=by exact aQ (t.ps o T).1 (O e (O (t.ps i E).1 rfl))
  rewrite[this]at A;exact sQ A
 .have V:k<dz W i (gi (fB c) i):=V;have v:k<4:=by
   by_cases q:gi (fB c) i=i;.rewrite[q,wu]at V;exact V
   .exact m6 V (pO P E (t.ps i E).2 q).2.1
  refine aV (w6 P E H v) λw b=>?_;have r:=A6 P E H v;generalize Y:bu W i k=j at w b r⊢;have f:dz W i j=k:=(if_neg (gu b)).trans r;have S:=g i E;have Z:=x i E j w (gu b);have a:¬dz W j i<dz W j (gi (fj c) j):=λq=>Z ⟨O f (qx V (fD.mp S)),q⟩;refine aV (t.sp j w) λs1 T=>?_;have l:=pO P w E (gu b);have X:gi (fj c) j≠j:=λq=>by rewrite[q,wu]at a;exact absurd l.2.1 a
  have s:=pO P w T X;have p:=pO P T (a:=j) w (gu X);refine⟨gi (fj c) j,T,?_,?_,?_⟩;.show dz W _ (gi (fB c) (gi (fj c) j))<4;exact O s1 p.2.1
  .show bu W _ (dz W _ (gi (fB c) (gi (fj c) j)))=j;exact O s1 p.2.2.1
  .have u:gi (fj c) j≠i:=λq=>by rewrite[q]at s1;rewrite[s1,f]at V;exact sQ V
   have:eG W j (gi (fj c) j)≠eG W j i:=λq=>u (EE P w T E X (gu b) q);exact je (s.2.2.2▸l.2.2.2▸fD.mp a) this
theorem Fin.odd(z:Fin W G M)(P:Pl W):zh W M:=by
 obtain⟨id,R,⟨c,J⟩,hr,K,kK,U,e⟩:=xaC P;refine aV (OH id R) λD hl=>?_;have lk:=U.length_eq;have N:=YO P J;have t:=EH c (wm W c J);have Z:=hr c J;have B:=(z.al P).1;have m:=(qH W).1.le _ N;have L:∀i∈r5,gi (rounds W) i=4->ring c=[i]:=λi E h=>by
  have h1:=m i E;have h2:=(N.bd i E).2;have h3:dz W i (gi (fB c) i)=4:=yk h2 (h▸h1);refine(t.fx i E).mp ?_;by_cases q:gi (fB c) i=i;.exact q
  .exact rC (pO P E (t.ps i E).2 q).2.1 h3
 have T:∀i∈M.alone,ring c=[i]:=λi E=>by rewrite[B]at E;refine aV (d7.mp E) λa b=>?_;exact L i a (of_decide_eq_true b)
 refine⟨?_,?_,λp V=>?_,?_⟩;.refine O e (O (uE ..) (O lk ?_));rcases hl with h|h|h<;>rw[h]<;>decide
 .refine O e (O (uE ..) ?_);unfold cj;exact O bO (List.map_const ..)
 .rewrite[e]at V;refine aG (bE.mp V) λi E u=>?_;subst u;exact(GY i (kK.2 i E)).2
 .unfold IY;refine O e (O (uE ..) (O lk ?_));by_cases h1:id.length=1
  .refine O (if_pos h1) ?_;refine aC (Jo.mp h1) λx u=>?_;subst u;have Y:=JJ.mp Z;have kx:=JJ.mp U;have S:x∈r5:=D.2 x (aW.mpr rfl);refine O kx ?_;show M.alone=[(gJ.idxOf (bB x):Int)];refine O (GY x S).1 ?_;have F:=(t.fx x S).mpr Y;have C:∀i∈M.alone,i=x:=λi E=>by have:=T i E;rewrite[Y]at this;exact(Af this).1.symm
   have j:x∈M.alone:=by
    by_cases q:x∈M.alone;.exact q
    .exfalso;have a0:M.alone=[]:=I4.mpr λi E=>q (C i E▸E);obtain⟨v,⟨n,r⟩,mo,f⟩:=id z;have p:=v.perm;rewrite[f,a0,tX,tX]at p;have k:=List.length_filter_eq_length_iff.mp (p.length_eq.trans r.held.symm);have h0:=of_decide_eq_true (k _ (AK r S));refine qM (z.kept S h0) λI q2 q3 Q q5=>?_;have H:=m _ I;rewrite[z.le P _ I]at q3 Q;have H:gi (rounds W) (gi M.held x)<=dz W (gi M.held x) (gi (fB c) (gi M.held x)):=H;have no:gi (fB c) (gi M.held x)≠x:=λy=>by have l:=(t.ps _ I).1;have g:=(t.ps x S).1;rewrite[y]at l;rewrite[F,l]at g;exact q2 g
     by_cases y:gi (rounds W) (gi M.held x)=dz W (gi M.held x) (gi (fB c) (gi M.held x))
     .have s:gi (fB c) (gi M.held x)≠gi M.held x:=λw=>by rewrite[w,wu]at y;exact rC q3 y
      have:=(pO P I (t.ps _ I).2 s).2.2.1;rewrite[<-y,Q]at this;exact no this.symm
     .refine fU (N.su _ I _ ((qH W).1.ck.el _ (aE.mp I).1 (aE.mp I).2).1 (je H y)) λo X A d _=>?_;rewrite[Q]at d;have A:dz W o (gi (fB c) o)<4:=A;have d:bu W o (dz W o (gi (fB c) o))=x:=d;have s:gi (fB c) o≠o:=λw=>by rewrite[w,wu]at A;exact sQ A
      rewrite[(pO P X (t.ps _ X).2 s).2.2.1]at d;have l:=(t.ps _ X).1;have g:=(t.ps x S).1;rewrite[d]at l;rewrite[F,l]at g;rewrite[g]at s;exact s F
   have l1:=(z.al P).2;refine aC (Jo.mp (xba l1 (List.length_pos_of_mem j))) λa B=>?_;rw[B]at j⊢;exact O (aW.mp j) rfl
  .refine O (if_neg h1) ?_;refine I4.mpr λi E=>h1 ?_;refine aQ Z.length_eq (O (T i E) ?_);rfl
end
theorem YQ(v:Int)(E:i∈r5):(cX v i).length=4/\(cX v i).Nodup/\∀x,x∈cX v i↔x∈r5/\x≠i:=by have p:=(yD (v:=v) E).1;refine⟨p.length_eq.trans (wL i E).1,p.nodup_iff.mpr (wL i E).2,λa=>?_⟩;rw[p.mem_iff];unfold cW;rw[d7];simp
theorem WZ{F:List Int}(h:F.length=5):Pl (fK F):=by
 have f:∀i∈r5,∃v,bz (fK F) i=cX v i:=by refine oh (oV h) λk I J M j q=>?_;subst q;exact Bm ⟨k,rfl⟩ ⟨I,rfl⟩ ⟨J,rfl⟩ ⟨M,rfl⟩ ⟨j,rfl⟩
 have V:(fK F).length=5:=by refine oh (oV h) λk I J M j q=>?_;subst q;rfl
 have d:=λi(E:i∈r5)=>show(bz (fK F) i).length=4/\(bz (fK F) i).Nodup/\∀x,x∈bz (fK F) i↔x∈r5/\x≠i from by refine aC (f i E) λv e=>?_;exact O e (YQ v E)
 refine⟨⟨V,λi a b=>(d i (aE.mpr ⟨a,b⟩)).1,λi a b x S=>?_,λi a b x g z u=>((d i (aE.mpr ⟨a,b⟩)).2.2 x).mpr ⟨aE.mpr ⟨g,z⟩,u⟩⟩,λi E=>(d i E).2.1⟩;refine aV (((d i (aE.mpr ⟨a,b⟩)).2.2 x).mp S) λc u=>?_;exact⟨(aE.mp c).1,(aE.mp c).2,u⟩
theorem xcy(t:TabOk S b){F:List Int}(h:F.length=5):Px S b F:=by
 have P:=WZ h;have a:(jv F).length=5:=by refine oh (oV h) λk I J M l q=>?_;subst q;rfl
 have d:=xcl h;have K:∀i∈r5,∀n,n<4->nameOf S b (g6 (n+1) (bK (jv F) i))=bB i:=λi E n K=>by refine iU (d i E) λc w e f=>?_;exact f.name E t K
 have z:=λB=>xat (turn:=B) P K a;have g:Fin (fK F) (jv F) (pn S b (fK F) (jv F) 0):=z 0;have j:Fin (fK F) (jv F) (BF S b (fK F) (jv F) F):=z (F.sum^2);exact⟨P.1,P.2,a,xap t d,xcu j g P ((j.bW P d).trans (g.bW P d).symm),g.odd P,g.ends P d,g.book P,g.tot P⟩
theorem ff{P:Prop}(h:av=af):P:=Y7 h
theorem Mc{X:List ah}{h:aA}:∀{K:List aj}{xs:List CM},WellAll w.params h K xs->Kd [] xs .int=af->∃s:List Int,xs=s.map .int/\ay X h (s.map T.int) K|_,_,.nil,_=>⟨[],rfl,trivial⟩|_,_,.cons (d:=d) a b,c=>by have c:(WShape.has [] d .int&&Kd [] _ .int)=af:=c;rw[dZ]at c;obtain⟨s,rfl,r⟩:=Mc (X:=X) b c.2;cases a with|int i t=>exact⟨i::s,rfl,by exact⟨⟨t,rfl⟩,r⟩⟩|none|bool|str|float|bytes|bytearray|list|tuple|dict|set|frozenset|obj=>exact ff c.1
theorem YR(i:List CM):RL.claim.post i (.bool af) i=af:=by kernel_rfl
theorem xaE{xs:List CM}(h:RL.pre.holds RL.records {args:=[.list xs]}=true):xs.length<=63:=by have h:(match(match(some (yx !decide ((63:Int)<xs.length)):Option CM)with|some (yx false)=>some (yx false)|some (yx true)=>some (yx true)|_=>ak)with|some (yx true)=>true|_=>false)=true:=h;cases q:decide ((63:Int)<xs.length)with|true=>rw[q]at h;cases h|false=>exact nY.mp (fD.mp (of_decide_eq_false q))
theorem xaF{h:aA}{X:List ah}{K:List aj}{i:List CM}(R:WellAll w.params h K i)(f:RL.claim.pre i=af)(u:∀a∈X,∀o,h.get? a=aa o->o.cls≠.type "list"):∃p v,K=[v]/\Rep X h (LI p) v/\p.length<=63:=by obtain⟨W,Q⟩:=pre_splitW (r:=RL) f;obtain⟨d,r,rfl,h1,J⟩:=hasAllW_cons W;obtain rfl:=hasAllW_nil J;cases R with|cons a b=>cases b;cases a with|list g b=>rename_i a K xs;have h1:(Kd [] xs .int||av)=af:=h1;rw[xcC]at h1;have c:=xaE Q;obtain⟨s,rfl,r⟩:=Mc (X:=X) b h1;refine⟨s,_,rfl,?_,by simpa using c⟩;unfold LI;exact⟨a,K.toArray,rfl,λm=>u a m _ g rfl,⟨0,g⟩,by simpa using r⟩|none|bool|str|int|float|bytes|bytearray|tuple|dict|set|frozenset|obj=>exact ff h1
theorem xef:cF callerA 8:=⟨rfl,by decide,by decide⟩
theorem xcz{s S:aq}{q:ai}(k:Kp h1 s.heap)(x:br [PL] s S)(t:dD [PL] jI q S.heap PL):OldK s.heap S.heap:=by
 obtain⟨ps,e,_⟩:=t;have E:s.heap.get? PL=aa (tabObj #[]):=k _ _ (by kernel_rfl);have X:s.heap.get? 240=aa MineH.wW:=k _ _ (by kernel_rfl);refine⟨λb o g=>?_,λb o g=>?_⟩
 .by_cases n:b=PL;.subst n;rw[E]at g;cases g;exact .inr (.inl ⟨⟨240,_,qh MineH.wW,X,rfl,rfl,rfl⟩,rfl,#[],ps,rfl,by rw[e,Array.empty_append]⟩)
  .exact .inl (x.kp b o (λm=>n (aW.mp m)) g)
 .by_cases n:b=PL;.subst n;exact⟨_,e⟩
  .exact⟨o,x.kp b o (λm=>n (aW.mp m)) g⟩
theorem xcA:WalkAt w:=by
 intro D N U u A G Y a o pm cd Q X kV ho T n S h H i J as f F I R C;obtain⟨rfl,Y⟩:=Y;have Y:Kp h1 U.heap:=Y;have K:a=266:=by
  obtain⟨Z,P,V,B,d,_,k⟩:=(J6 (show h1.isNs 3=af by kernel_rfl)).keeps Y;obtain⟨M,W,L,r,c,_,s⟩:=G.T.g;have e:u "law"=h1.nsMap 3 "law":=by have r:U.heap.get? 3=aa M:=r;rw[B]at r;cases r;rw[d]at c;cases c;rw[<-k,<-s]
  have h:u "law"=aa (.ref a):=h;rw[e,show h1.nsMap 3 "law"=aa (.ref 266)by kernel_rfl]at h;cases h;rfl
 subst K;have E:U.heap.get? PL=aa (tabObj #[]):=Y _ _ (by kernel_rfl);obtain⟨p,v,rfl,g,l⟩:=xaF (X:=[PL]) R f λa m o e=>by rw[aW]at m;rw[m,E]at e;cases e;exact λq=>by cases q
 have j:Kp hH (kW U.heap [PL]):=λb o e=>rW _ (Y b o (wF _ e)) λm=>by rw[hH,wg _ m]at e;cases e
 refine aB (xcp rfl xef j (ptH Y _ _ _) g l (xcy xcn (DX p))) (λz s' x=>?_) λ_ _ e=>e;obtain⟨rfl,y,t⟩:=x;exact⟨.inl ⟨_,.bool af,[],rfl,λ_=>rfl,.bool af,YR _,λ_=>⟨t7,λa m=>absurd m b9⟩⟩,xcz Y y t,by rw[y.eq],by rw[y.eq];exact .of_eq H⟩
theorem walk:WalkO MineH.qV MineH.qX (λ_ _=>True) (λw h=>Kp (MineH.H1 w.params) h) RL dL.1 dL.2 λf K=>dO f K:=by intro w N U u j G Y;have h:=Xs xcA w;unfold WalkAt at h;exact h w N U u j G (iT rfl Y)
end Mine
theorem PySem.Challenge.cw_wz0025_01_holds : PySem.Challenge.rw_wz0025_01.Holds :=
PySem.W.holds_law Mine.said fun k=>PySem.W.holds_open (q:=MineH.qV) (loose:=MineH.qX) (Xt:=fun _=>af) (XP:=fun _ _=>True) (YP:=fun w h=>Mine.Kp (MineH.H1 w.params) h) (d:=Mine.dL.1) (kwd:=Mine.dL.2) MineH.left
  (fun w s e b o g=>by rw[e];exact g) (fun w h h' y k=>fun b o e=>k _ _ (y b o e)) (fun _ _=>trivial) (fun _ _ _ _ _=>trivial)
  (by kernel_rfl) (by kernel_rfl) (by kernel_rfl) (fun s _=>PySem.W.recFacts_nil rfl) rfl k (by decide+kernel) ⟨rfl,rfl,rfl,rfl,rfl,by decide+kernel⟩ ⟨[.list []],by decide+kernel,by decide+kernel⟩ Mine.walk
