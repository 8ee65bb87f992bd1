import PyProof.Rows.All
import PyProof.TupleIter
import PyProof.CallFns
import PyProof.MeetsSeq
import PyProof.DictTable
import PyProof.Draws
import PyProof.EnumMake
import PyProof.EqAt
import PyProof.EqKinds
import PyProof.IsiBase
import PyProof.ExcArgsOwn
import PyProof.ExcInit
import PyProof.RaisesMany
import PyProof.StrOps2
import PyProof.WalksMore
import PyProof.InstLoad
import PyProof.IsiPairs
import PyProof.LetGo
import PyProof.WalkInts
import PyProof.NsDelKeeps
import PyProof.TupleCall
import PyProof.Rows.RuleN_abs
import PyProof.Rows.TupMore
import PyProof.SliceMore
import PyProof.Rows.StrRules
import PyProof.Rows.SeqMore
import PyProof.TupleOfGen
import ObjForm.Fk.InstStore
import ObjForm.Fk.ObjNew
import OpenK.KCall
import KE.KDictList
import Wide.FinOn
import OpenK.AllK
import Wide.All
import Lean
import PySem.Challenge.RW_wz0025_01
set_option maxRecDepth 100000
set_option Elab.async false
set_option linter.all false
set_option maxHeartbeats 0
set_option exponentiation.threshold 400000
noncomputable section
open And renaming intro->iR,right->OC,left->Py
open Array renaming length_toList->dw,getElem?_toList->gM,getElem?_eq_getElem->kB,toList_append->tF,mem_toList_iff->zO,ext'->Nm,getD_eq_getD_getElem?->Tw,toList_setIfInBounds->TU,getElem?_eq_some_iff->TY,getElem?_eq_none_iff->TZ,getElem?_eq_none->UZ,mem_iff_getElem->U4,toList_extract->VO,forIn_toList->WU,size_extract->WW,toList_push->W5,size_push->YY
open Bool renaming true->af,false->ay,and_eq_true->dZ,false_ne_true->qq,false_eq_true->rE,not_eq_true'->tH,eq_iff_iff->tR,and_true->tW,and_eq_true_iff->vJ,or_eq_true->yb,and_false->KY,noConfusion->YU,not_eq_true->Y7,or_false->xcj
open Eq renaming symm->i6,trans->jP
open ForInStep renaming yield->VQ
open Int renaming not_lt->fD,le_trans->gG,ofNat_lt->gR,natCast_nonneg->iO,lt_of_le_of_lt->jK,add_comm->jM,le_of_lt->kI,ofNat->lF,toNat_of_nonneg->l9,zero_add->mD,le_of_eq->mE,lt_trans->mY,add_assoc->nU,ofNat_le->nV,lt_of_lt_of_le->qs,add_zero->qA,fmod_lt_of_pos->rF,toNat_natCast->rH,le_refl->t9,fmod_nonneg_of_pos->vH,le_of_lt_add_one->xY,add_le_add_right->xZ,add_sub_cancel->x7,le_antisymm->yd,add_nonneg->yf,lt_irrefl->yg,not_le->yw,lt_add_one_of_le->CZ,lt_of_add_one_le->C0,le_add_one->DQ,toNat_le->Ec,ne_of_gt->Ed,lt_asymm->Ef,mul_le_mul_of_nonneg_left->IX,le_sub_one_of_lt->Jt,toNat_le_toNat->JL,natAbs_eq_zero->JM,add_right_comm->JN,add_le_add->K1,toNat_lt->Mk,lt_toNat->Ml,mul_one->Nl,le_add_of_nonneg_left->Uu,natAbs_of_nonneg->WO,lt_iff_le_and_ne->WQ,sub_one_lt_of_le->WX,add_one_le_of_lt->WY,add_lt_add_left->W6,add_le_add_left->W8,toNat_lt_toNat->YG,self_le_toNat->YR,add_left_comm->Y6,sub_le_self->xaG,neg_le_neg->xci,mul_add->xee
open List renaming length_map->aI,mem_cons_self->aQ,mem_singleton->aX,mem_cons_of_mem->aZ,mem_cons->bB,mem_append->bD,mem_map->bF,mem_append_left->bI,map_map->bO,not_mem_nil->cg,all_eq_true->cj,getElem?_eq_getElem->cz,getD_eq_getElem?_getD->cA,mem_append_right->cK,length_append->cL,mem_filter->d7,replicate->eH,mem_of_getElem?->eO,getElem?_map->eS,length_cons->fC,append_assoc->fT,map_append->fY,map_cons->f6,range->gj,length_zip->gP,append_nil->g8,size_toArray->iX,contains_iff_mem->jz,length_take->jA,map_congr_left->jI,length_set->jL,toArray->kH,nodup_cons->mj,length_filter_le->nJ,mem_of_mem_take->nL,nodup_append->nM,getElem_mem->nQ,getElem?_eq_none->pF,foldl_cons->pH,length_nil->qx,getElem?_eq_some_iff->rC,mem_range->rI,sum_cons->rK,forIn_cons->tP,nil_append->tQ,nodup_nil->tU,length->t8,eq_of_mem_replicate->vD,filter_eq_nil_iff->vG,foldl_append->vL,any_eq_true->vN,map_set->vX,idxOf_lt_length_of_mem->xT,getElem_of_mem->x6,length_range->x8,mem_flatMap->ya,count_cons->yc,perm_ext_iff_of_nodup->zJ,getElem?_set_self->zK,filter_eq_self->zP,flatMap_cons->zS,count_append->zT,cons_append->zW,of_mem_zip->z3,drop_zero->Ad,count->AE,eq_nil_of_length_eq_zero->CI,drop_eq_getElem_cons->CL,drop_eq_nil_of_le->CP,find?_cons_of_pos->CQ,find?_cons_of_neg->CR,lookup_cons_self->CS,getElem?_set_ne->CW,replicate_succ->C1,pairwise_cons->C3,getElem_idxOf->C4,take_sublist->De,pairwise_map->Df,take_length->Dl,length_drop->Dm,filter_cons->Dn,lookup_cons->Dp,foldlM_cons->Ds,sum_append->DF,foldr_cons->DG,map_take->DT,take_succ_eq_append_getElem->IQ,eq_nil_iff_forall_not_mem->IU,getElem?_zip_eq_some->I4,mem_or_eq_of_mem_set->I6,filter_cons_of_pos->Jb,length_eq_one_iff->Jd,length_singleton->Jh,length_replicate->Ji,mem_iff_getElem->Js,flatMap_append->Jx,length_pos_iff->Jy,perm_singleton->Jz,zip_cons_cons->JI,foldlM_append->JK,reverse_cons->JU,ext_getElem?->JV,map_fst_zip->JZ,mem_reverse->J0,zip_append->Kg,forIn_nil->KX,all_cons->K3,any_cons->K4,any_map->Mg,lookup->Na,foldl->Nq,zip->Pp,getElem?_append_right->T7,findIdx?_eq_none_iff->Uj,pairwise_iff_getElem->Uk,extract_eq_take_drop->Uo,exists_mem_of_ne_nil->Up,mem_take_iff_getElem->Uq,mem_of_mem_eraseIdx->Us,filter_cons_of_neg->U0,set_getElem_self->VM,perm_append_comm->VN,pairwise_append->VR,getElem_eq_getD->VU,length_eraseIdx->VW,take_succ_cons->WS,toList_toArray->WV,filter_sublist->WZ,perm_iff_count->W0,map_eq_nil_iff->W2,mem_filterMap->W7,map_replicate->W9,flatten_cons->YH,filter_congr->YL,reverse_perm->YM,getElem_take->YO,flatten_nil->YS,zipIdx_cons->Y4,ext_getElem->Y5,range_succ->xao,zipIdx_nil->xat,countP_map->xau,drop_drop->xav,take_nil->xcr,map_nil->xcs,zip_map->xcD,map_id->xdP
open List.Pairwise renaming nil->CV,cons->xgL
open List.Perm renaming trans->Di,append_right->T4
open List.Sublist renaming trans->xgY
open List.cons renaming inj->Ka
open Nat renaming le_trans->bf,ne_of_lt->bS,le_refl->cR,le_of_eq->di,le_succ->dN,le_of_lt->eB,le_add_right->e7,ne_of_gt->gb,lt_succ_self->gA,lt_of_le_of_lt->gO,le_add_left->gQ,add_le_add_left->iy,lt_of_lt_of_le->iz,add_comm->jk,zero_add->jl,zero_le->jm,add_right_comm->jJ,lt_add_right->kC,ble->kP,add_le_add->mz,mul_le_mul_left->mV,blt->m7,le_of_ble_eq_true->nK,le_of_succ_le->nN,le_succ_of_le->nO,min_self->nW,add_sub_cancel_left->pD,add_le_add_right->qp,sub_add_cancel->qt,succ_le_succ->qv,le_of_not_lt->qw,succ_pos->qz,land->qM,lor->qO,succ_add_eq_add_succ->rD,lt_of_succ_lt->rG,add_assoc->rL,not_lt->rS,mul_le_mul_right->tE,lt_of_lt_of_eq->tG,lt_succ_of_le->tK,min_le_right->tL,not_lt_of_le->tM,lt_add_of_pos_right->vE,lt_succ_of_lt->vM,min_le_left->vO,lt_irrefl->vV,lt_or_ge->yk,one_mul->yo,sub_le->yv,sub_eq_zero_of_le->zM,not_le_of_lt->zY,succ_lt_succ->zZ,succ_ne_self->Dt,zero_testBit->Du,testBit_two_pow_sub_one->I0,le_of_add_le_add_right->I2,exists_eq_add_of_le->Jc,ble_eq_true_of_le->Jj,sub_ne_zero_of_lt->Jl,min_eq_left->Kh,not_lt_zero->Km,mul_succ->Mn,succ_add->Mp,pred_le->Nc,log2_lt->Nk,mul_add->Np,pred->Pu,beq->QK,xor->QL,testBit_two_pow_mul_add->T8,succ_pred_eq_of_pos->U1,lt_of_succ_lt_succ->VP,exists_eq_add_one->VX,add_lt_add_right->WN,not_succ_le_self->WR,add_lt_add_left->W3,sub_pos_of_lt->YQ,le_of_lt_succ->YT,lt_trichotomy->Y0,lt_of_not_le->xar,le_antisymm->xaH,one_pos->xdX,mul_one->xef,lt_min->xgt,sub_lt->xgv
open Nat.succ renaming inj->Af
open Ne renaming symm->gu
open Option renaming some->aa,none->ak,map->ue,map_eq_some_iff->vF,map_some->z0,isSome_iff_exists->CN,isNone_iff_eq_none->TX
open Option.some renaming inj->nR,injEq->zQ
open Or renaming elim->bz
open PUnit renaming unit->qD
open Prod renaming snd->qG,fst->F5
open Prod.mk renaming inj->L4,injEq->YZ
open PyProof.Rows renaming seqObj->cH,seen->tB,get?_update_seq->ye,listUpdate_at->yj,evalArgs_none->zI,Assign_Tuple->Ar,seqEpoch_at->Fc,tail_any->GU,slot_tuple_getitem->Kf,listItems_at->Oz,size_push'->Pw,lt_int->TR,entry_list_sort->xeb,slot_list_sort->xgx,Attribute_any_->xgy,slicePart_none->xgA,gt_int->xgO,ge_int->xgP,eq_int->xgQ,ne_int->xgR,neg_int->xgS,add_str->xgX
open PySem renaming Addr->ah,Str->ai,Value->aj,wpAny_bind->aq,Shared->au,wpAny->av,model->aA,Heap->aB,wpAny_mono->aC,Around->aG,wpAny_pure->aN,Env->aO,Pos->aS,Expr->aT,eval->aU,Sem->bh,starEach->bq,World->bL,Obj->bR,OsState->b8,execs->b9,callEnvC->cy,backTo->cN,wpAny_standAt->cW,Stmt->c6,Program->dz,wpAny_holding->dJ,sizeLine_eq->dK,compEnvC->dO,call->dP,Scope->dW,exec->dY,Flow->ek,sysModules->eo,FuncData->eU,rawInt->e9,cLine->fy,standAt->fL,spliced->fN,assign->fV,DictEntry->gm,treeTable->gn,foldedSetIterable->g7,holding->ic,wpAny_execs_nil->iA,builtinLookup_eq_fast->iN,wpAny_loadPart_at->iP,typeLookup_type->iQ,wpAny_field->jn,strValues->jB,typeLookup->jO,attributeBase->kG,evalEach->kM,bindName->kN,swapsWith->lG,Params->lM,start->lO,Tok->l8,mainGlobals->mF,GenState->mJ,callWith->mK,Drawn->ny,wpAny_execs_cons->nS,keywordEach->nZ,backToKw->oj,compTurn->om,intKind->ow,mainNs->oX,wpAny_isSubtype_exc->pG,assignEach->pI,cellsFrom->pM,NameKind->pP,codeAny->pU,wpAny_newObj_type->qu,wpAny_listItems->qy,wpAny_rule->qE,sizeLine->qN,strKind->rJ,swapsWithSole->rO,swappedStores->rP,pyIter->sE,argsOk->sG,Slot->tw,wpAny_call_entry->tN,checkBuiltinCall->tO,letOwnedTupleGo->tS,codeAny_builtin->tT,wpAny_seqItems->tV,wpAny_newList->tY,call_meetsIn->t7,newList->uz,Thread->uL,typeOf->uM,Model->uY,field->uZ,IsZip->u0,plainId_quiet->vW,dictDisplay->we,wpAny_of_eq->wg,call_meets->wj,isInstance->wk,pushCells->wJ,handedOut->wK,newTuple->wW,subDict->wX,isTrue->xh,wpAny_callSpecial?_slot->xV,wpAny_truthy_bool->x9,assignInOrder->yi,builtinsNs->yx,noteFrame->yH,keeperOf->yU,valueAt->zc,pyNext->zl,codeAny_call_builtin->zR,wpAny_setField_rec->zU,wpAny_pyIter_list->zX,exec_Assign_Name->z4,wpAny_isInstance->z5,entryFor_of_tree->z6,setItem->Ae,wpAny_newTuple->Ag,wpAny_setField->Ah,wpAny_onRaise->Ai,mergeMapping->Aq,unsupported->AF,wpAny_letGo->AG,wpAny_call->AZ,wpAny_load->A1,entryFor->Be,newDict->BH,ItemsOf->BI,denote->B9,stored->Ca,table->CB,wpAny_richCompare_same_room->CK,wpAny_tupleItemsOf->Dk,wpAny_Return_some->Dw,importedModules->DR,isSubtype_type->Ea,comprehension->Eg,Call_method0->Ez,Call_method1->EA,wpAny_typeOf->EB,concat_meets->EC,evalEachOpt->E9,richCompare->Fb,excClassObj->Fd,importEnds->F1,PlainAttrs->F2,strKind_is->F3,refuseLoop->F4,seqItems?->F6,updateSeq->F7,setFlight->F8,compPost->GV,bindArgs->GW,handleBy->GY,dictPut->HE,getAttr->HG,setAttr->HH,eqBool->IL,IsEnum->IM,plainObj_wpAny_Assign_Attribute->IW,wpAny_list_append_plain->Jk,wpAny_Assign_Subscript->Ju,wpAny_nextOf_list_item->Jv,wpAny_getItem_list->Kd,slot_list_getitem->Kl,wpAny_pyIter_zip->KZ,wpAny_madeBy_exc->K0,noFill_tuple_add->K2,pushCells_keeps->L6,codeAny_of_tree->L7,wpAny_specialOf->Mb,wpAny_mroOf_exc->Mc,placesWithHash->Mm,wpAny_iadd_int->Mq,letTemporaryGo->Mr,refuseLoop_ref->Mt,arm_eval_Dict->Nd,behindInMarks->Nf,Comprehension->Ng,wpAny_attempt->Nj,seq_tuple_add->Nn,firstIterPos->Ox,lookupAlong->OB,moduleCode->Pq,firstAsync->Pr,intKind_is->Px,isSubtype->QF,seqIndex?->QG,clausesOf->QH,compStart->QI,firstIter->QJ,binaryOp->QV,wpAny_If->QW,allTrue->Sy,dunderI->Sz,release->SA,Keyword->SD,evalPart_none_step->Um,evalPart_some_step->Un,wpAny_AugAssign_SubscriptAny->UY,markedBehindIn_of_false->W4,wpAny_pyNext_list_item->YI,exec_Assign_Name_used->YV,codeAny_handlers_test->Y3,unbindBehindTheSuite->xas,wpAny_pyIter_values->xax,wpAny_handleBy_cons->xaB,wpAny_assign_Tuple->xck,arm_exec_AugAssign->xcn,wpAny_pyIter_tuple->xcp,wpAny_pyIter_enum->xct,meets_dict_values->xcu,wpAny_sequenceKey->xcv,slot_list_setitem->xcw,fillsInplaceSlot->xdM,wpAny_eqBool_int->xdQ,wpAny_getItem_of->xdR,wpAny_lookBehind->xdU,pastItsLine_dict->xdV,wpAny_Try_except->xdW,isTrue_Compare1->xdY,noFill_list_add->xdZ,wpAny_ite_split->xea,wpAny_updateSeq->xec,wpAny_loadPart'->xed,newFunctionEnv->xgw,firstArgMember->xgz
open PySem.Around renaming under_plainId->xX,frames_deeper->U5
open PySem.AutoSeq1 renaming sub_tuple_tuple->Tu,sub_list_list->T6
open PySem.Bind renaming printed->Mi,check->Nr,checkArgs->xaA
open PySem.Builtin renaming divisionGoesByPylong->CH
open PySem.Builtin.Int renaming intBits->zL
open PySem.Builtin.List renaming listFitsIndex->SO,listSubscript?->xgT,listTooLong->xgV,listExtendWith->xgW
open PySem.Builtin.Range renaming rangeSize->pC,small->I9,rangeFitsLong->SK
open PySem.Builtin.SmallTypes renaming nextOf->tD,ownedTupleIsFree->CD,ownedTupleHandOut->SE
open PySem.Builtin.Str renaming tooLong->CO
open PySem.Builtin.Tuple renaming tupleExact->xU,tupleItemsOf->xgK
open PySem.Calls renaming evalArgs_plain->mW,spliced_cons->nY,spliced_nil->rQ,callWith_function->Dv
open PySem.Code renaming builtin->t6,compStart->DH,quiet_builtin->JJ,compLoop->xcl,weight->xdT
open PySem.EntryCells renaming newEntry->xhg
open PySem.Expr renaming Compare->CY,Tuple->xhh,BoolOp->xhj
open PySem.F renaming slot_tuple_iterator_next->CM,slot_dict_values->Dg,slot_list_index->Dq,slot_zip_next->DJ,slot_gs_set->Eb,args_tuple_add_2->I3,entry_tuple_add->I8,slot_tuple_add->Ja,typeOf_bexc_args->JX,plainAttrs_list->Ke,slot_list_ne->Ma,called_tuple->Me,slot_dict_itemiterator_iter->T5,args_tuple_iterator_next_1->Ul,slot_list_pop->Ur,entry_tuple_iterator_next->Ut,entry_list_iadd->VT,args_dict_values_1->YJ,args_object_init_2->YN,entry_dict_values->YW,args_list_index_2->YX,type_dict_values->xap,entry_list_index->xaq,plainAttrs_dict->xaw,slot_dict_items->xay,type_list_index->xaz,args_zip_next_1->xaC,plain_list_iadd->xaD,plain_tuple_new->xaE,slot_list_count->xaF,plainAttrs_str->xcm,args_list_ne_2->xco,entry_zip_next->xcq,entry_list_ne->xcx,slot_tuple_eq->xcy,slot_tuple_ne->xcz,slot_int_rmul->xcA,slot_dict_get->xcB,slot_list_eq->xdN
open PySem.Heap renaming get?_push_of_some->bX,get?_push_size->cF,lt_size->dR,size_push->mu,get?_update_self->qo,SameBut->tZ,get?_update_other->xW,get?_update_ne->C2,get?_push_ne->Dh,size_update->J1,IsList->Nb,ExtBut->xdO
open PySem.Heap.DictOf renaming new->Dd
open PySem.Heap.IsCell renaming keeps->xgZ
open PySem.Heap.IsList renaming push->Jw
open PySem.Heap.IsSliceOf renaming new->Tv
open PySem.Heap.Ns renaming of_isNs->JW
open PySem.Heap.SameBut renaming update->mU,refl->xgU
open PySem.IsRange renaming new->L8
open PySem.IsiPair renaming int_tuple->xgI,int_int->xgJ
open PySem.MeetsSeq renaming list_pop_at->xgH
open PySem.NameKind renaming free->mC,cell->mX
open PySem.Obj renaming mapSeq->dc,mapFields->iY,data_mapFields->vK,isFreed_of_fields->zN,cls_mapFields->JY
open PySem.Sem renaming bind->qL,wp_operate->DP,wrap_wrap->L3,bind_eq_wrap->xan
open PySem.Shared renaming heap->Mj
open PySem.Sre renaming Seen->kJ,forSearch->rM,Frame->OA
open PySem.Str renaming ofString->nX
open PySem.Txt renaming join->yI,lower->A0,contains->xdS
open PySem.Value renaming ref->bV,none->fk,builtin->vP,str->Fe,isInt->Ms,bool->Ni,isStrOf_shape->VS
open PySem.Value.ref renaming inj->Kc
open PySem.W renaming SharedT->iB,opening->jo,hideAll->kQ,kas_sort->lH,deadEnd->ng,topRun->qa,hideAll_get->rR,segRunT->ux,absHeap->uy,hideAll_none->vZ,of_hideAll->wm,kla_fn->zm,doneF->Cy,stepT->Cz,WData->CC,boot_o_4->GS,topStub->HF,boot_o_10->QE,boot_o_0->QM,boot_o_5->QN,boot_o_6->QO,boot_o_7->QS,boot_o_8->QT,boot_o_9->QU
open PySem.W.BT renaming set_node->ua,get_set->E8,get_node->xgu
open PySem.W.Fast renaming te14364793385576792824->tC,te10110043849684766642->vB,tw14364793385576792824->CG,tw10110043849684766642->IS,tw18129864485346669323->IY,te11913375310210876947->IZ,tw12563942051412417395->SN
open PySem.W.SharedT renaming abs->L5
open PySem.W.WData renaming bool->yp
open PySem.W.WShape renaming hasItems->J2
open PySem.Walks renaming list->Nh,dictValues->YK
open PySem.Within renaming cons->Mh,nil->xcC
open PySem.World renaming withFollow_self->U3
namespace Mine
open PySem PySem.W PySem.Calls PyProof.Rows
theorem said:(PySem.Challenge.rw_wz0025_01).wellSaid=true:=by decide+kernel
open Lean in
def yAR:Syntax:=Unhygienic.run `(Parser.Tactic.tacticSeq|rfl)
open Lean in
def yAK:Syntax:=Unhygienic.run `(Parser.Tactic.tacticSeq|kernel_rfl)
open Lean in
def yAD:Syntax:=Unhygienic.run `(Parser.Tactic.tacticSeq|decide)
open Lean in
def yAW:Syntax:=Unhygienic.run `(Parser.Tactic.tacticSeq|(intro _ _;with_unfolding_all rfl))
open Lean in
def yAI:Syntax:=Unhygienic.run `(Parser.Tactic.tacticSeq|(intro _;rfl))
@[elab_as_elim]theorem O{L:Sort _}{a b:L}{m:L->Prop}(h:b=a)(x:m a):m b:=h▸x
@[elab_as_elim]theorem aR{L:Sort _}{a b:L}{m:L->Prop}(h:a=b)(x:m a):m b:=h▸x
theorem aE{b:Prop}{p:L->Prop}(h:∃x,p x)(k:∀x,p x->b):b:=h.elim λx h=>k x h
theorem aW{p q b:Prop}(h:p/\q)(k:p->q->b):b:=k h.1 h.2
theorem kZ{b:Prop}{p:L->N->Prop}(h:∃x y,p x y)(k:∀x y,p x y->b):b:=h.elim λx h=>h.elim λy h=>k x y h
theorem aH{b:Prop}{p q:L->Prop}(h:∃x,p x/\q x)(k:∀x,p x->q x->b):b:=h.elim λx h=>k x h.1 h.2
theorem gW{p q r b:Prop}(h:p/\q/\r)(k:p->q->r->b):b:=k h.1 h.2.1 h.2.2
theorem iT{b:Prop}{p:L->N->a->Prop}(h:∃x y z,p x y z)(k:∀x y z,p x y z->b):b:=h.elim λx h=>h.elim λy h=>h.elim λz h=>k x y z h
theorem eK{b:Prop}{p q:L->N->Prop}(h:∃x y,p x y/\q x y)(k:∀x y,p x y->q x y->b):b:=h.elim λx h=>h.elim λy h=>k x y h.1 h.2
theorem dm{b:Prop}{p q r:L->Prop}(h:∃x,p x/\q x/\r x)(k:∀x,p x->q x->r x->b):b:=h.elim λx h=>k x h.1 h.2.1 h.2.2
theorem kR{p q r f b:Prop}(h:p/\q/\r/\f)(k:p->q->r->f->b):b:=k h.1 h.2.1 h.2.2.1 h.2.2.2
theorem AH{b:Prop}{p:L->N->a->i->Prop}(h:∃x y z u,p x y z u)(k:∀x y z u,p x y z u->b):b:=h.elim λx h=>h.elim λy h=>h.elim λz h=>h.elim λu h=>k x y z u h
theorem oi{b:Prop}{p q:L->N->a->Prop}(h:∃x y z,p x y z/\q x y z)(k:∀x y z,p x y z->q x y z->b):b:=h.elim λx h=>h.elim λy h=>h.elim λz h=>k x y z h.1 h.2
theorem wu{b:Prop}{p q r:L->N->Prop}(h:∃x y,p x y/\q x y/\r x y)(k:∀x y,p x y->q x y->r x y->b):b:=h.elim λx h=>h.elim λy h=>k x y h.1 h.2.1 h.2.2
theorem fU{b:Prop}{p q r f:L->Prop}(h:∃x,p x/\q x/\r x/\f x)(k:∀x,p x->q x->r x->f x->b):b:=h.elim λx h=>k x h.1 h.2.1 h.2.2.1 h.2.2.2
theorem qH{p q r f g b:Prop}(h:p/\q/\r/\f/\g)(k:p->q->r->f->g->b):b:=k h.1 h.2.1 h.2.2.1 h.2.2.2.1 h.2.2.2.2
theorem n7{b:Prop}{p:L->N->c->i->a->Prop}(h:∃x y z u v,p x y z u v)(k:∀x y z u v,p x y z u v->b):b:=h.elim λx h=>h.elim λy h=>h.elim λz h=>h.elim λu h=>h.elim λv h=>k x y z u v h
theorem Xa{b:Prop}{p q:L->N->a->i->Prop}(h:∃x y z u,p x y z u/\q x y z u)(k:∀x y z u,p x y z u->q x y z u->b):b:=h.elim λx h=>h.elim λy h=>h.elim λz h=>h.elim λu h=>k x y z u h.1 h.2
theorem As{b:Prop}{p q r:L->N->a->Prop}(h:∃x y z,p x y z/\q x y z/\r x y z)(k:∀x y z,p x y z->q x y z->r x y z->b):b:=h.elim λx h=>h.elim λy h=>h.elim λz h=>k x y z h.1 h.2.1 h.2.2
theorem cI{b:Prop}{p q r f:L->N->Prop}(h:∃x y,p x y/\q x y/\r x y/\f x y)(k:∀x y,p x y->q x y->r x y->f x y->b):b:=h.elim λx h=>h.elim λy h=>k x y h.1 h.2.1 h.2.2.1 h.2.2.2
theorem n8{b:Prop}{p q r f g:L->Prop}(h:∃x,p x/\q x/\r x/\f x/\g x)(k:∀x,p x->q x->r x->f x->g x->b):b:=h.elim λx h=>k x h.1 h.2.1 h.2.2.1 h.2.2.2.1 h.2.2.2.2
theorem Xb{p q r f g i b:Prop}(h:p/\q/\r/\f/\g/\i)(k:p->q->r->f->g->i->b):b:=k h.1 h.2.1 h.2.2.1 h.2.2.2.1 h.2.2.2.2.1 h.2.2.2.2.2
theorem Kn{b:Prop}{p q:L->N->c->i->a->Prop}(h:∃x y z u v,p x y z u v/\q x y z u v)(k:∀x y z u v,p x y z u v->q x y z u v->b):b:=h.elim λx h=>h.elim λy h=>h.elim λz h=>h.elim λu h=>h.elim λv h=>k x y z u v h.1 h.2
theorem Ko{b:Prop}{p q r:L->N->a->i->Prop}(h:∃x y z u,p x y z u/\q x y z u/\r x y z u)(k:∀x y z u,p x y z u->q x y z u->r x y z u->b):b:=h.elim λx h=>h.elim λy h=>h.elim λz h=>h.elim λu h=>k x y z u h.1 h.2.1 h.2.2
theorem uc{b:Prop}{p q r f:L->N->a->Prop}(h:∃x y z,p x y z/\q x y z/\r x y z/\f x y z)(k:∀x y z,p x y z->q x y z->r x y z->f x y z->b):b:=h.elim λx h=>h.elim λy h=>h.elim λz h=>k x y z h.1 h.2.1 h.2.2.1 h.2.2.2
theorem VY{b:Prop}{p q r f g i:L->Prop}(h:∃x,p x/\q x/\r x/\f x/\g x/\i x)(k:∀x,p x->q x->r x->f x->g x->i x->b):b:=h.elim λx h=>k x h.1 h.2.1 h.2.2.1 h.2.2.2.1 h.2.2.2.2.1 h.2.2.2.2.2
theorem U6{b:Prop}{p q r:L->N->c->i->a->Prop}(h:∃x y z u v,p x y z u v/\q x y z u v/\r x y z u v)(k:∀x y z u v,p x y z u v->q x y z u v->r x y z u v->b):b:=h.elim λx h=>h.elim λy h=>h.elim λz h=>h.elim λu h=>h.elim λv h=>k x y z u v h.1 h.2.1 h.2.2
theorem DK{b:Prop}{p q r f:L->N->a->i->Prop}(h:∃x y z u,p x y z u/\q x y z u/\r x y z u/\f x y z u)(k:∀x y z u,p x y z u->q x y z u->r x y z u->f x y z u->b):b:=h.elim λx h=>h.elim λy h=>h.elim λz h=>h.elim λu h=>k x y z u h.1 h.2.1 h.2.2.1 h.2.2.2
theorem DL{b:Prop}{p q r f g:L->N->a->Prop}(h:∃x y z,p x y z/\q x y z/\r x y z/\f x y z/\g x y z)(k:∀x y z,p x y z->q x y z->r x y z->f x y z->g x y z->b):b:=h.elim λx h=>h.elim λy h=>h.elim λz h=>k x y z h.1 h.2.1 h.2.2.1 h.2.2.2.1 h.2.2.2.2
theorem jN{b:Prop}{p q r f g i:L->N->Prop}(h:∃x y,p x y/\q x y/\r x y/\f x y/\g x y/\i x y)(k:∀x y,p x y->q x y->r x y->f x y->g x y->i x y->b):b:=h.elim λx h=>h.elim λy h=>k x y h.1 h.2.1 h.2.2.1 h.2.2.2.1 h.2.2.2.2.1 h.2.2.2.2.2
theorem U7{p q r f g i j m b:Prop}(h:p/\q/\r/\f/\g/\i/\j/\m)(k:p->q->r->f->g->i->j->m->b):b:=k h.1 h.2.1 h.2.2.1 h.2.2.2.1 h.2.2.2.2.1 h.2.2.2.2.2.1 h.2.2.2.2.2.2.1 h.2.2.2.2.2.2.2
theorem vQ{b:Prop}{p q r f g:L->N->a->i->Prop}(h:∃x y z u,p x y z u/\q x y z u/\r x y z u/\f x y z u/\g x y z u)(k:∀x y z u,p x y z u->q x y z u->r x y z u->f x y z u->g x y z u->b):b:=h.elim λx h=>h.elim λy h=>h.elim λz h=>h.elim λu h=>k x y z u h.1 h.2.1 h.2.2.1 h.2.2.2.1 h.2.2.2.2
theorem vU{b:Prop}{p q r f g i:L->N->a->Prop}(h:∃x y z,p x y z/\q x y z/\r x y z/\f x y z/\g x y z/\i x y z)(k:∀x y z,p x y z->q x y z->r x y z->f x y z->g x y z->i x y z->b):b:=h.elim λx h=>h.elim λy h=>h.elim λz h=>k x y z h.1 h.2.1 h.2.2.1 h.2.2.2.1 h.2.2.2.2.1 h.2.2.2.2.2
theorem one{L:Type _}{p:L->Prop}{c:L}(h:p c):∀a∈[c],p a:=λa m=>(aX.mp m).symm▸h
theorem gone{L:Type _}{x:Option L}{o:L}{b:Prop}(h:x=aa o)(k:x=ak):b:=nomatch h.symm.trans k
theorem both{L:Type _}{p:L->Prop}{c:L}{l:List L}(h:p c)(k:∀a∈l,p a):∀a∈c::l,p a:=λa m=>(bB.mp m).elim (λe=>e.symm▸h) (k a)
theorem each{L:Type _}{p:L->Prop}{l m:List L}(h:∀a∈l,p a)(k:∀a∈m,p a):∀a∈l++m,p a:=λa q=>(bD.mp q).elim (h a) (k a)
theorem mono{L:Type}{M:uY}{A:aG}{c:bh L}{P Q:L->au->Prop}{E:aj->au->Prop}{s:au}(h:av M A c P E s)(k:∀v a,P v a->Q v a):av M A c Q E s:=aC h k λ_ _ e=>e
theorem F9{L:Type}{M:uY}{A:aG}{c:bh L}{P R Q:L->au->Prop}{E:aj->au->Prop}{s:au}(h:av M A c (λv S=>P v S/\R v S) E s)(k:∀v S,P v S->R v S->Q v S):av M A c Q E s:=aC h (λv S y=>k v S y.1 y.2) λ_ _ e=>e
theorem dk{p:Prop}[d:Decidable p](h:autoParam (decide p=af) yAR):p:=of_decide_eq_true h
theorem Cb{b s:Nat}(h:s<b):b-s=b-(s+1)+1:=(U1 (YQ h)).symm
theorem QX{f l a n w m:Nat}(h:n+l=m+w):f+l+a+n=f+w+a+m:=by rw[jJ f l a,jJ f w a,rL (f+a),rL (f+a),jk l,jk w,h]
theorem cD{a b c:Nat}(h:a<=b)(k:autoParam (kP b c=af) yAR):a<=c:=bf h (nK k)
theorem eF{a b c:Int}(h:a<=b)(k:autoParam (decide (b<=c)=af) yAR):a<=c:=gG h (of_decide_eq_true k)
theorem jh{a b:Int}(k:autoParam (decide (a<=b)=af) yAR):a<=b:=of_decide_eq_true k
theorem q8{c:Nat}(b:Nat){a n:Nat}(h:a+8*(n+1)<2000)(k:autoParam (kP (1992+b) c=af) yAR):a+b<c:=iz (WN (Nat.lt_of_add_lt_add_right (n:=8) (gO (iy (Nat.le_mul_of_pos_right 8 (qz n)) a) h):a<1992) b) (nK k)
theorem Pz{c:Nat}(b:Nat){a n:Nat}(h:a+8*n<2000)(k:autoParam (kP (2000+b) c=af) yAR):a+b<c:=iz (WN (gO (e7 ..) h) b) (nK k)
theorem GZ{a n c:Nat}(h:a+8*(n+1)<2000)(k:autoParam (kP c 8=af) yAR):a+c+8*n<2000:=gO ((rL a c (8*n)).symm▸iy ((jk c (8*n)).symm▸iy (nK k) (8*n)) a) h
theorem QY{a b d:Nat}(h:a+b<=d):a<=d:=bf (e7 ..) h
theorem HJ{a b d:Nat}(h:a+b<=d):b<=d:=bf (gQ ..) h
theorem PA{i:Nat}(k:i<4):i=0\/i=1\/i=2\/i=3:=(by decide:∀j,j<4->j=0\/j=1\/j=2\/j=3) i k
theorem iu{i:Int}{n:Nat}(h:0<=i)(k:i<n):i.toNat<n:=(Mk h).mpr k
theorem BJ{i:Int}{n m:Nat}(h:0<=i)(k:i<n)(e:m=n):i.toNat<m:=e▸iu h k
theorem ji{i k:Int}{n m:Nat}(h:i<k)(e:n=m)(g:autoParam ((decide (0<k)&&k.toNat.ble m)=af) yAR):i.toNat<n:=e▸iz ((YG (of_decide_eq_true (vJ.mp g).1)).mpr h) (nK (vJ.mp g).2)
theorem o6{i:Int}{k:Int}{n:Nat}(h:i<k)(g:autoParam ((decide (0<k)&&k.toNat.ble n)=af) yAR):i.toNat<n:=ji h rfl g
theorem PB{i:Int}{k:Int}{n:Nat}(h:i<=k)(e:autoParam (kP k.toNat n=af) yAR):i.toNat<=n:=bf (JL h) (nK e)
theorem lq{i:Int}(h:0<=i)(k:i<5):i=0\/i=1\/i=2\/i=3\/i=4:=l9 h▸(by decide:∀n:Nat,n<5->(n:Int)=0\/(n:Int)=1\/(n:Int)=2\/(n:Int)=3\/(n:Int)=4) _ (o6 k)
theorem G1{i:Int}(h:i=0\/i=1\/i=2\/i=3\/i=4):0<=i/\i<5:=by rcases h with rfl|rfl|rfl|rfl|rfl<;>decide
theorem xeg{i:Int}(h:0<=i)(k:i<=4):i=0\/i=1\/i=2\/i=3\/i=4:=lq h (CZ k)
theorem PD{i:Int}(h:0<=i)(k:i<4):i=0\/i=1\/i=2\/i=3:=l9 h▸(by decide:∀n:Nat,n<4->(n:Int)=0\/(n:Int)=1\/(n:Int)=2\/(n:Int)=3) _ (o6 k)
theorem BK{i k:Int}{n:Nat}(h:0<=i)(e:i<k)(g:autoParam (kP k.toNat n=af) yAR):i.natAbs<n:=gR.mp ((WO h).symm▸qs e (gG (YR k) (nV.mpr (nK g))))
theorem OD{i k:Int}{n:Nat}(h:0<=i)(e:i<=k)(g:autoParam (kP (k.toNat+1) n=af) yAR):i.natAbs<n:=gR.mp ((WO h).symm▸jK (gG e (YR k)) (gR.mpr (nK g)))
theorem jc{i k:Int}(h:i<=k)(n:¬i=k):i<k:=WQ.mpr ⟨h,n⟩
theorem PE{i:Int}(h:-1<=i)(n:i<0):i=-1:=yd (xY n) h
theorem xeh{i j k:Int}(h:i+k=j):j-k=i:=h▸x7 i k
theorem sH{i j k:Nat}(h:i-j=k+1):j<i:=Nat.lt_of_sub_ne_zero (h▸Nat.succ_ne_zero k)
theorem BL{a b c:Nat}(h:a<=c):min a b<=c:=bf (vO ..) h
theorem BN{a b c:Nat}(h:b<=c):min a b<=c:=bf (tL ..) h
theorem HK{a b c:Nat}(h:a<min b c):a<c:=iz h (tL ..)
theorem QZ{a b:Nat}(h:a<=b):(a:Int)<=b:=nV.mpr h
theorem PF{a b:Nat}{c:Int}(h:a<=b)(k:autoParam (decide ((b:Int)<=c)=af) yAR):(a:Int)<=c:=gG (nV.mpr h) (of_decide_eq_true k)
theorem sI{i c:Int}{n m:Nat}(h:i<n)(g:n<=m)(k:autoParam (decide ((m:Int)<=c)=af) yAR):i<c:=qs h (gG (nV.mpr g) (of_decide_eq_true k))
theorem Bf{i:Int}{n m:Nat}(h:i<n)(g:m=n):i<m:=g▸h
theorem fW{a b:Int}(h:a<=b)(k:autoParam (decide (c<=a)=af) yAR):c<=b:=gG (of_decide_eq_true k) h
theorem PG{i:Int}(h:1<=i)(k:i<=4):i=1\/i=2\/i=3\/i=4:=(lq (fW h) (CZ k)).resolve_left λe=>absurd (e▸h) (by decide)
theorem sW{i j n m:Nat}(h:i<=n)(g:j<=m)(k:autoParam (kP (n+m) c=af) yAR):i+j<=c:=bf (mz h g) (nK k)
theorem zd{i j n:Nat}(h:i<=n)(k:autoParam (kP (n+j) c=af) yAR):i+j<=c:=bf (qp h j) (nK k)
theorem G2{i j n m c d:Nat}(h:n+m<=d)(e:i=n)(f:j=m)(k:autoParam (kP d c=af) yAR):i+j<=c:=e▸f▸bf h (nK k)
theorem iV{i n c d:Nat}(h:n<=d)(e:i=n)(k:autoParam (kP d c=af) yAR):i<=c:=e▸bf h (nK k)
theorem HL{i j k:Int}{n m:Nat}(h:i<j)(l:j<=k)(e:n=m)(g:autoParam ((decide (0<k)&&k.toNat.ble m)=af) yAR):i.toNat<n:=ji (qs h l) e g
theorem zo{a b c:Nat}(h:a-b=c)(k:b<a):a-(b+1)<c:=h▸Nat.sub_lt_sub_left k (gA b)
theorem Cc{a b c d:Nat}(h:a-b=c)(k:c<=d+1):a-(b+1)<=d:=Nat.pred_le_pred (h▸k:a-b<=d+1)
theorem js4{a b c d:Nat}(h:a-b=c)(k:c<=d+1):a-(b+2)<=d:=bf (Nc _) (Cc h k)
theorem js5{a b c:Nat}(h:a-b=c)(k:b<a):a-(b+2)<c:=gO (Nc _) (zo h k)
theorem HM{a b c:Nat}(h:a+(b+1)<c):a+1+b<c:=(jJ a 1 b).symm▸h
theorem jm1{i j:Int}{n:Nat}(e:n=4)(D:0<=i)(h:i<j)(l:j<=4):i.toNat<min j.toNat n:=xgt.mpr ⟨(YG (jK D h)).mpr h,HL h l e⟩
theorem jm2{a n:Nat}{i:Int}(h:a<min i.toNat n):(a:Int)<i:=Ml.mp (iz h (vO ..))
theorem Q0{a b c n:Nat}(h:a<min b n)(e:c=a)(f:c=b):False:=bS (iz h (vO ..)) (e.symm.trans f)
theorem jx{M N x y:Nat}(h:y<N)(k:x<M):N*x+y<N*M:=iz (W3 h (N*x)) (mV N k)
theorem Q2{a b c d:Nat}(h:d<24)(i:c<24)(j:b<24)(k:a<24):13824*a+(576*b+(24*c+(1*d+0)))<331776:=jx (M:=24) (jx (M:=24) (jx (M:=24) ((yo d).symm▸h:1*d<24) i) j) k
theorem Ga{i j:Int}(h:0<=i)(g:0<=j)(n:¬j=i):i.toNat≠j.toNat:=λe=>n ((l9 g).symm.trans ((congrArg (λx:Nat=>(x:Int)) e.symm).trans (l9 h)))
theorem PI{a b c:Nat}(h:a+8*(c+2)<2000)(e:b=1):a+b+8*(c+1)<2000:=by subst e;exact GZ h
theorem PJ{a b c:Nat}(h:a+(c+2)<660)(e:b=1):a+b+(c+1)<660:=by subst e;exact(rD a (c+1)).symm▸h
theorem lP{a b c d:Nat}(h:a+(b+c)<d):a+c<d:=gO (iy (gQ c b) a) h
theorem u5{k s n:Nat}(h:k+1+s=n):s<n:=h▸Nat.lt_add_of_pos_left (qz k)
theorem jo1{i:Int}(h:1<=i):i=((i.toNat-1+1:Nat):Int):=(qt (JL h)).symm▸(l9 (gG (by decide) h)).symm
theorem jo2{i:Int}(h:0<=i)(l:i<=4):((min i.toNat 4:Nat):Int)=i:=(Kh (JL l)).symm▸l9 h
theorem Q3{i:Int}{a b:Nat}(h:a<b)(e:i=0+(a:Int)):i-1<b:=mY (Int.sub_lt_self i (by decide)) (e▸(mD _).symm▸gR.mpr h)
theorem Q4{i:Int}{a:Nat}(e:i=0+(a:Int))(n:¬i=0):0<=i-1:=Jt (WQ.mpr ⟨e▸(mD _).symm▸iO a,gu n⟩)
theorem jo7{i:Int}{a b:Nat}(h:a<b)(g:b=5)(e:i=0+(a:Int)):0<=i/\i<5:=⟨e▸(mD _).symm▸iO a,e▸(mD _).symm▸gR.mpr (iz h (di g))⟩
theorem sJ{a:Int}{p:Prop}(h:a<a):p:=absurd h (yg _)
theorem rt{a b:Int}{p:Prop}(h:a<b)(e:a=b):p:=absurd e (Int.ne_of_lt h)
theorem BO{a b:Int}{p:Prop}(h:a<b)(e:b<=a):p:=absurd h (fD.mpr e)
theorem xcE{a b:Nat}{p:Prop}(h:a<b)(e:b<=a):p:=absurd h (rS.mpr e)
theorem jq{a b c:Nat}(e:b=c)(h:a<=c):a<=b:=e▸h
theorem jv{a b c:Nat}(e:a=c)(h:c<=b):a<=b:=e▸h
theorem Q5{a b c:Int}(e:b=c)(h:a<=c):a<=b:=e▸h
theorem PK{a b c:Int}(e:a=c)(h:c<=b):a<=b:=e▸h
theorem jx3{b c d:Nat}(h:d<24)(i:c<24)(j:b<24):576*b+(24*c+(1*d+0))<13824:=jx (M:=24) (jx (M:=24) ((yo d).symm▸h:1*d<24) i) j
theorem jx2{c d:Nat}(h:d<24)(i:c<24):24*c+(1*d+0)<576:=jx (M:=24) ((yo d).symm▸h:1*d<24) i
theorem Q6{a b c d:Nat}(h:a<=b/\b<c/\c<=d):a<=b/\b<=d:=⟨h.1,eB (iz h.2.1 h.2.2)⟩
theorem jj2{i:Int}{n:Nat}(h:n<i.toNat)(k:i<5):(n:Int)<5:=mY (Ml.mp h) k
theorem Q7{i:Int}{n:Nat}(h:0<=i)(k:i.toNat<n):0<=i/\i<(n:Int):=⟨h,(Mk h).mp k⟩
theorem jj4{i:Int}(h:i=0\/i=1\/i=2\/i=3\/i=4):i.toNat<=4:=Ec.mpr (xY (G1 h).2)
noncomputable def kS:c6->List c6×List aT×List ExceptHandler×dW×Arguments|.FunctionDef _ a b _ _ _ c _ _ _=>(b,[],[],c,a)|.ClassDef _ _ _ b _ _ _ _ _ _ _=>(b,[],[],default,default)|.For _ _ b _ _=>(b,[],[],default,default)|.Try b h _ _ _=>(b,[],h,default,default)|.If e b _ _=>(b,[e],[],default,default)|.Assign _ e _=>([],[e],[],default,default)|.Return (aa e) _=>([],[e],[],default,default)|_=>default
noncomputable def kE:aT->List aT×List (Option aT)|.Tuple l _ _=>(l,[])|.Call f l _ _=>(f::l,[])|.BoolOp _ l _=>(l,[])|.Compare l _ r _=>(l::r,[])|.Dict k v _=>(v,k)|_=>default
def sM(e:aT)(i:Nat):aT:=(kE e).1.getD i default
noncomputable def sN(l:List c6)(i:Nat):c6:=l.getD i (.Pass default)
def aP(p:dz)(i:Nat):c6:=sN p.main.body i
def bodyOf(s:c6):List c6:=(kS s).1
def d9(s:c6):dW:=(kS s).2.2.2.1
def valOf(s:c6):aT:=(kS s).2.1.headD default
def fd(M:c6)(n q:ai)(g:ah)(D i:aj):eU:={name:=n,qualname:=q,params:=(kS M).2.2.2.2,body:=.stmts (bodyOf M),scope:=d9 M,globals:=g,closure:=[],defaults:=.none,kwdefaults:=.none,doc:=.none,pyModule:=D,annotations:=ak,code:=i,closureTuple:=.none,builtins:=0}
theorem nA{L:Type _}{P:L->Prop}:∀x∈([]:List L),P x:=λ_ m=>absurd m cg
theorem dQ{L:Type _}{P:L->Prop}{a:L}{l:List L}(h:P a)(t:∀x∈l,P x):∀x∈a::l,P x:=List.forall_mem_cons.mpr ⟨h,t⟩
theorem qI{L:Type _}{t l:List L}{a:L}(h:∃r,t=l++a::r):a∈t:=h.elim λr e=>e▸cK _ (aQ ..)
theorem Mu{L:Type _}{t l:List L}{a:L}(h:∃r,t=l++a::r){x:L}(m:x∈l):x∈t:=h.elim λr e=>e▸bI _ m
theorem Mv{L:Type _}{t l:List L}{a:L}(h:∃r,t=l++a::r):l.length<=t.length:=h.elim λr e=>by rw[e,cL];exact e7 ..
end Mine
namespace MineH
open PySem PySem.W Mine
noncomputable def PM:Nat->Nat->List Nat|0,_=>[]|k+1,n=>n%2097152::PM k (n/2097152)
def S(k l:Nat):ai:=⟨⟨PM k l⟩⟩
noncomputable def PN:Nat->Nat->List Nat|0,_=>[]|k+1,n=>n%128::PN k (n/128)
def A(k l:Nat):ai:=⟨⟨PN k l⟩⟩
noncomputable def vS(s:ai)(t:Nat):aj:=.str s t
noncomputable def vI(n t:Nat):aj:=.int (.ofNat n) t
noncomputable def vR(a:Nat):aj:=.ref a
noncomputable def vT(a:String):aj:=.type a
noncomputable def E(P:lM)(s:ai)(t:Nat)(v:aj):gm:=⟨PyData.keyHash P s,.str s t,v⟩
def pV(p:dz)(i j:Nat):c6:=sN (bodyOf (aP p i)) j
noncomputable def gH:List bR->Nat->BT->BT|[],_,t=>t|o::r,i,t=>gH r (i+1) (t.ins i o)
def cu(l:List bR):BT:=gH l 0 .nil
noncomputable def PO:List (Option aT)->List aT->Nat->List gm|aa (.Constant (.int k) _ _)::y,.Constant (.str x) _ _::a,t=>⟨k,.int k t,.str x (t+1)⟩::PO y a (bif m7 t 2544 then t+3 else t+2)|_,_,_=>[]
def wY(p:dz):List gm:=PO (kE (valOf (aP p 18))).2 (kE (valOf (aP p 18))).1 606
def cZ(p:dz)(i n:Nat):List gm:=((wY p).drop i).take n
noncomputable def pk(o:bR):aj:=match o.data with|.dict D _=>IY (Fast.tw16974681997125317408 D)|_=>.none
def s0:=A 1 12
def s1:=A 8 0xbf7f769c3b6fdf
def s2:=A 4 213694943
def s3:=S 0 0x0
def s4:=A 53 0x208505073c586620e997963cb4d079c48193060c96b772e58a0538d420e9a33e9e5e786f868192e64b99208b4a9a0
def s5:=A 17 0x62d3b3a72dfc36e9bfbb2fadfcb35f
def s6:=A 8 0xdda56f4d9a7ae2
def s7:=A 8 0xbf7fa63d392fdf
def s8:=A 11 0x17efe6cbcb5e1cbdefdf
def s9:=A 7 443303111193055
def Q8:=A 13 0x72e9d30e5d9a735fe9979df
def Q9:=A 25 0x73cbb3ae4dfb7175e77f265f5a7661d3d34eed3bbadf
def s12:=A 6 3944333473772
def Ra:=A 12 0xcbd30f4e77f965c9877ec
def Rb:=A 4 213610734
def Rc:=A 6 3807974685039
def Rd:=A 26 0x39eedfa7a61c7bf65fd18f961cbcefe5d9d726fdb8baf3
def Rf:=A 8 0x7d97675c9bf6bc
def HN:=A 13 0x79e0bba75c6bf6e9c3b31af
def mR:=A 13 0x73e987a73e0b99b167e7863
def u6:=A 9 0x70dbbe1e5d9c3ad4
def zp:=A 4 215692019
def Rg:=A 16 0xe9cf4ecbfd31e5d9979dfe1b77e3
def iI:=A 8 0xbf7fa69dda6fdf
def HO:=A 18 0x2fdfe9a7769bf7d770dbbe1e5d9c3ad4
def s25:=A 4 244953836
def s26:=A 5 31358317810
def s27:=A 5 32425719657
def s28:=A 9 0x6edfa7a63cbcb4e4
def s29:=A 1 108
def Rh:=A 1 114
def zq:=A 7 448145982715875
def HP:=A 17 0x65e58786ddf8d770dbbe1e5d9c3ad4
def Ri:=A 6 4013059518708
def Rj:=A 6 3497149691891
def s35:=A 2 12771
def Rk:=A 2 12782
def s37:=A 2 14964
def s38:=A 2 14947
def Rl:=A 7 509719699206371
def s40:=A 4 209252340
def s41:=A 4 209432564
def s42:=A 4 245182452
def s43:=A 4 244903924
def s44:=A 9 0x73e59766cc38eff4
def u7:=A 14 0x39f4c3d39dfc7bbae6bf93261
def s46:=A 11 0x1cf965d9b30e3bfdf2ee
def s47:=A 4 209435366
def s48:=A 6 3944350429411
def u9:=A 11 0x1cf965d9b30e3bf93261
def s50:=A 5 31098351843
def vc:=A 11 0x1cf66cc38eff4ddd77e3
def gy:=A 14 0x3169d9c3a6de6b99b167e7863
def s53:=A 7 0xbae5e53b5fa8
def s54:=A 20 0x52a775c42fd472b9f375cf9bae72b8e9fa8
def qh:=A 13 0x6edfa7a70cb8fc45a1526d3
def sX:=A 21 0x6edfa7a70cb8fc45cbcf76fe1cf2d2a1526d3
def Cd:=A 4 213465059
def Rm:=A 3 1702381
def HQ:=A 30 0x2fdfe9a7769bf7d76edfa7a70cb8fc45cbcf76fe1cf2d2a1526d3
def HR:=A 4 242874721
def Rn:=A 9 0x65c9bf1dfe1d36f3
def Ro:=A 10 0x396fe5cb2dfe1d36f3
def xy:=A 17 0x64cbcfae6cb4b965c9bb2d3a1526d3
def Rp:=A 6 3944333685491
def HS:=A 26 0x2fdfe9a7769bf7d764cbcfae6cb4b965c9bb2d3a1526d3
def xC:=A 21 0x64cbcfae6cb4b9f4dd974f0d38f2d2a1526d3
def Rq:=A 10 0x39f4dd974f0d38f2f2
def HT:=A 30 0x2fdfe9a7769bf7d764cbcfae6cb4b9f4dd974f0d38f2d2a1526d3
def s69:=A 4 205336804
def vd:=A 9 0x61e987265e9bfaf1
def ve:=A 17 0x70cbcb867dda7974e6b99b167e7863
def vf:=A 11 0xc715fcbb3161e97f769
def vg:=A 12 0x678afe5d98b0f4bfc30ed
def lz:=A 13 0x31617dab260c3d77bfdf0ec
def vh:=A 9 0x65db8775fef8765f
def vj:=A 11 0x1cf2e8e7a7bdfef8765f
def vm:=A 8 0xddd795fef8765f
def vo:=A 11 0x1cf26eebbf95fef8765f
def vp:=A 11 0x1cf2ecc7e71dfef8765f
def vq:=A 9 0x6de5a735fef8765f
def vt:=A 3 1962220
def s82:=A 2 1293
def s83:=A 8 0xe7bb4f4d9a7ae2
def Rr:=A 18 0x32f2e77d764cb930efd8bba72dfc36e9
def Rt:=A 39 0x1cb2f4e5bf86d93bb4f4d9a7ac25d8b4ece9cb7f0dba6feecbeb7f2cd7d773e787663
def Ru:=A 14 0x3a72dfc36e95d932e8c7d30f7
def Rv:=A 34 0x31e5e14f2eceb937cd5d8b4ece9cb7f0dba6feecbeb7f2cd7d773e787663
def Rw:=A 24 0xd18f7f0cab7265d7bf7e25dcf2eceb937ed5dcfcf3
def Rx:=A 22 0x32f2e77d764d38762de597a61d8bba72dfc36e9
def Ry:=A 15 0x1e7961e58b4ec5d932e8c7d30f7
def Rz:=A 23 0x1cfa63cbab16f5be7961e58b4ec5d932e8c7d30f7
def RA:=A 25 0x65e5cefaee1972e45be7961e58b4ec5d932e8c7d30f7
def HU:=A 8 0xbf7f2edc3bafdf
def qi:=A 7 421105403244511
def HV:=A 11 0x17efe5cf875e3c3c2fdf
def HW:=A 10 0x2fdfe597261dfb2fdf
def HX:=A 8 0xbf7f1e5e1cefdf
def RB:=A 7 447941971769315
def RC:=A 8 0xcbd30ece1b72f4
def PR:=A 11 0x197d69e79726fc7d32e7
def PS:=A 13 0x64cbcf0e3e7a6fe9d38f9e1
def PT:=A 15 0x1932f3c38f9e9bf9726fc7a7775
def PU:=A 13 0x72cbdf7ecdfd2fe9d38f9e1
def PV:=A 15 0x1cb2f7dfb37f4bf9726fc7a7775
def PX:=A 5 18139439309
def PY:=A 8 0x8b6a4d38b127c3
def PZ:=A 9 0x548316845a5620cd
def P0:=A 9 0x53a1567d28f620cd
def P1:=A 9 0x74d19f4f2f3c37e3
def nB:=A 10 0x2fdfcbb3ae4dfb6fdf
def nC:=A 15 0x17efefdd97769d9d39f2d39afdf
def xei:=A 7 345575102130143
def xej:=A 9 0x63cbc39dfc9bb4e6
def xek:=A 13 0x65d9d726fdb7f2f4c397963
def xel:=A 11 0x197675c9bf6dfc797c65
def xem:=A 8 0xcb937e3bfd32e7
def xen:=A 10 0x32e3e5d77f3bfd32e7
def xeo:=A 10 0x32e7c3af1e1e17f9e9
def xep:=A 11 0x197675c9bf6dfc9877ec
def nD:=A 21 0x5fbfcf2f4eb8b4f2e9d30dfc7a7a61e9cefdf
def xeq:=A 13 0x67dda7d69d9874f4d3bb4df
def xer:=A 8 0xbf7f970cbcafdf
def xes:=A 6 3289915158495
def xet:=A 6 3463305556195
def xeu:=A 6 4015471243504
def xev:=A 12 0xddbf4f4c38f7ecbfcf0e8
def xew:=A 8 0xbf7f473c3a2fdf
def ze:=A 12 0xbf7f2edc3bb661ebc6fdf
def xex:=A 29 0x305dcb7f2e5169cf5d7eff3cbcf9e1d98f175e77efaecbc3cf4
def xey:=A 29 0x6e5dcb7f2e5169cf5d7eff3cbcf9e1d98f175e77efaecbc3cf4
def xez:=A 15 0x17eff3ddbf4f4c3d37eedd86fdf
def xeA:=A 12 0xbf7f9eed3d3669eb8afdf
def xeB:=A 8 0xbf7f2ecd39afdf
def xeC:=A 10 0x2fdfc997463c38efdf
def xeD:=A 10 0x18dfcbcafeed3dfa5f
def xeE:=A 10 0x195fcbcafeed3dfa5f
def xeF:=A 4 148056387
def xeG:=A 6 4013084367074
def xeH:=A 13 0x73ddbf4f4e1971f8cb7d9e2
def xeI:=A 15 0x1cb2f4e5bf86d93bb4f4d9a7ac2
def xeJ:=A 10 0x31e5e14f2eceb937cd
def cE(l:List gm)(n:Nat):bR:=⟨vT "dict",ak,.dict ⟨l⟩ n,⟨[]⟩⟩
noncomputable def oF(c:aj)(l:List aj):bR:=⟨c,ak,.fields ⟨l⟩,⟨[]⟩⟩
def oQ(c:String)(l:List aj)(n:Nat):bR:=⟨vT c,ak,.seq ⟨l⟩ n,⟨[]⟩⟩
def oK(M:c6)(s S:ai):bR:=⟨.none,ak,.func (fd M s S 0 .none .none),⟨[]⟩⟩
def oN(M:c6)(s S u:ai)(t c:Nat):bR:=⟨vT "function",ak,.func (fd M s S 3 (vS u t) (vR c)),⟨[]⟩⟩
def oC(s S:ai)(t u b n a:Nat)(k:Nat):bR:=oF (vT "code") [vS s t,vS S (t+1),vS HN (t+2),vI b 0,vI n 0,vI 0 0,vI 0 0,vI (bif k==0 then 0 else 3) 0,vR a,.bool (k !=0),vI 276 0,vR (a+1),.none,bif k==2 then vR (a+2)else .none,bif k==2 then vR (a+3)else .none,bif k==2 then vR (a+4)else bif k==1 then vR (a+2)else .none,vI u 0,vI b 0,vS HN (u+1)]
def oT(s:ai)(b m:List aj)(n:Nat)(u:List aj)(a:List (Option aj)):bR:=⟨vT "type",ak,.cls {name:=s,bases:=b,mro:=m,ns:=n,qualname:=s,hasDict:=af,slotNames:=[],subclasses:=u,abstract:=ay,collection:=ak,hasDel:=ay},⟨a⟩⟩
def xA:List aj:=[vT "OSError",vT "Exception",vT "BaseException",vT "object"]
def eA(r:Nat)(s:ai)(t u:Nat):List (Option aj):=[aa (vR r),ak,aa (vS s t),aa (vS s u),aa (.builtin "OSError.__new__"),aa (.bool af)]
def oR(a b:Nat)(s:ai)(t:Nat):bR:=⟨vT "frame",ak,.plain,⟨[aa (vR a),aa (vR 3),aa (vR b),ak,aa (vS s t),ak,aa (vR 0)]⟩⟩
def oY(t a:Nat):bR:=oF (vT "getset_descriptor") [vS s7 t,vR a,.builtin "function.__dict__",.builtin "function.__dict__#set"]
def oZ(t a:Nat):bR:=oF (vT "getset_descriptor") [vS s8 t,vR a,.builtin "ExceptionGroup.__weakref__",.none]
def oU(a:Nat):bR:=oF (vT "super") [vR a,vR a,vR a]
def oI(a:Nat):bR:=oF (vT "builtin_function_or_method") [.builtin "object.__init_subclass__",vR a]
section
variable(p:dz)(P:lM)
def BP:=cE [E P s83 162 (vR 4),E P s1 163 (vR 5),E P s2 244 (vR 12)] 3
def G3:bR:=⟨.none,ak,.dict ⟨[E P Rr 183 (.bool af),E P Rt 185 (vR 14),E P Ru 206 (vR 18),E P Rv 216 (vR 22),E P Rw 245 (vI 3 0),E P Rx 270 (.bool af),E P Ry 272 (vR 27),E P Rz 0 (vS s0 0),E P RA 273 (IY ⟨[vI 11 0,vI 11 0,vI 3 0,vI 11 0,vT "dict",.notImplemented]⟩)]⟩ 9,⟨[]⟩⟩
def l3:List gm:=[E P qi 166 .none,E P HV 167 .none,E P HW 168 (.builtin "__main__.__loader__#opaque"),E P HX 169 .none,E P xez 170 (vR 6),E P xeA 171 (vR 4),E P xeB 173 (vS HN 172),E P xeC 174 .none,E P s2 275 (vR 12),E P u6 325 (vR 55),E P u7 343 (vR 66),E P u9 354 (vR 73),E P vc 363 (vR 80),E P xeD 381 (vR 85),E P xeE 423 (vR 90),E P xeF 425 (vS s82 424),E P qh 445 (vR 100),E P sX 473 (vR 120),E P xy 503 (vR 139),E P xC 529 (vR 158),E P vd 536 (vR 167),E P xeG 598 (vR 175),E P vf 605 (vR 185),E P xeH 2556 (vR 186),E P vg 2564 (vR 231),E P vh 2572 (vR 236),E P vj 2578 (vR 241),E P vm 2584 (vR 246),E P vo 2590 (vR 251),E P vp 2596 (vR 256),E P vq 2602 (vR 261),E P vt 2608 (vR 266)]
def oG(s:ai)(t n:Nat):bR:=cE (E P HU 165 (vS s t)::(l3 P).take n) (n+1)
def G4:=oG P s1 164 9
def OE:=cE [E P HU 247 (vS s2 246),E P qi 248 .none,E P HV 250 (vS s3 249),E P HW 251 (vR 14),E P HX 252 (vR 26),E P RB 253 (.builtin "_sre.compile"),E P RC 254 (.builtin "_sre.template"),E P PR 255 (.builtin "_sre.getcodesize"),E P PS 256 (.builtin "_sre.ascii_iscased"),E P PT 257 (.builtin "_sre.unicode_iscased"),E P PU 258 (.builtin "_sre.ascii_tolower"),E P PV 259 (.builtin "_sre.unicode_tolower"),E P PX 261 (vI 20230612 260),E P PY 263 (vI 4 262),E P PZ 265 (vI 4294967295 264),E P P0 267 (vI 1073741823 266),E P P1 269 (vS s4 268)] 17
def OF:=cE [E P HU 247 (vS s2 246),E P qi 248 .none,E P HV 250 (vS s3 249),E P HW 251 (.builtin "off-the-table:_sre.__loader__:shared#opaque"),E P HX 252 (.builtin "off-the-table:_sre.__spec__:shared#opaque"),E P RB 253 (.builtin "_sre.compile"),E P RC 254 (.builtin "off-the-table:_sre.template:shared#opaque"),E P PR 255 (.builtin "off-the-table:_sre.getcodesize:shared#opaque"),E P PS 256 (.builtin "off-the-table:_sre.ascii_iscased:shared#opaque"),E P PT 257 (.builtin "off-the-table:_sre.unicode_iscased:shared#opaque"),E P PU 258 (.builtin "off-the-table:_sre.ascii_tolower:shared#opaque"),E P PV 259 (.builtin "off-the-table:_sre.unicode_tolower:shared#opaque"),E P PX 261 (vI 20230612 260),E P PY 263 (vI 4 262),E P PZ 265 (vI 4294967295 264),E P P0 267 (vI 1073741823 266),E P P1 269 (vS s4 268)] 17
def Gb:bR:=⟨vT "module",aa 11,.plain,⟨[]⟩⟩
def Bg:=cE [E P nB 189 (vS s5 186),E P nC 190 (vI 971 187),E P qi 191 (.builtin "_frozen_importlib.BuiltinImporter.__doc__:str#opaque"),E P xei 192 (vS s6 188),E P xej 193 (.builtin "_frozen_importlib.BuiltinImporter.find_spec#opaque"),E P xek 194 (.builtin "_frozen_importlib.BuiltinImporter.create_module#opaque"),E P xel 195 (.builtin "_frozen_importlib.BuiltinImporter.exec_module#opaque"),E P xem 196 (.builtin "_frozen_importlib.BuiltinImporter.get_code#opaque"),E P xen 197 (.builtin "_frozen_importlib.BuiltinImporter.get_source#opaque"),E P xeo 198 (.builtin "_frozen_importlib.BuiltinImporter.is_package#opaque"),E P xep 199 (.builtin "_frozen_importlib.BuiltinImporter.load_module#opaque"),E P nD 200 (vR 15),E P s7 202 (vR 16),E P s8 204 (vR 17)] 14
def Gd:=oT xeI [vT "object"] [vR 14,vT "object"] 13 [] []
def dD:=oQ "tuple" [] 0
def Ge:=oY 201 14
def Gf:=oZ 203 14
def Gg:=oQ "list" [] 0
def Gh:=cE [E P Rb 208 (vS s2 207),E P s12 209 (vR 14),E P Rc 210 (vS s6 184),E P Ra 211 .none,E P Rd 212 .none,E P Q9 213 (vR 19),E P Q8 214 (.bool ay),E P s9 215 .none,E P xeq 243 (.bool ay)] 9
def Bh:=cE [E P nB 227 (vS s5 217),E P nC 228 (vI 562 218),E P qi 229 (.builtin "_frozen_importlib.ModuleSpec.__doc__:str#opaque"),E P iI 230 (.builtin "_frozen_importlib.ModuleSpec.__init__#opaque"),E P xer 231 (.builtin "_frozen_importlib.ModuleSpec.__repr__#opaque"),E P xes 232 (.builtin "_frozen_importlib.ModuleSpec.__eq__#opaque"),E P xet 233 (.builtin "_frozen_importlib.ModuleSpec.cached#opaque"),E P xeu 234 (.builtin "_frozen_importlib.ModuleSpec.parent#opaque"),E P xev 235 (.builtin "_frozen_importlib.ModuleSpec.has_location#opaque"),E P nD 236 (vR 23),E P s7 238 (vR 24),E P s8 240 (vR 25),E P xew 241 .none] 13
def Gi:=oT xeJ [vT "object"] [vR 22,vT "object"] 21 [] []
def Gj:=oQ "tuple" [vS s9 219,vS Q8 220,vS Q9 221,vS s12 222,vS Ra 223,vS Rb 224,vS Rc 225,vS Rd 226] 0
def Gk:=oY 237 22
def Gl:=oZ 239 22
def Gn:bR:=⟨vR 22,aa 20,.plain,⟨[]⟩⟩
def Gp:bR:=⟨.none,ak,.seq ⟨[vI 13 0,pk (Bg P),.bool af,.bool af,vS s3 205,vI 21 0,pk (Bh P),.bool af,.bool af,vS s3 242]⟩ 1,⟨[]⟩⟩
def Gq:bR:=⟨.none,ak,.seq ⟨[vI 11 0,pk (OE P),.bool af,.bool ay,vS s2 271]⟩ 0,⟨[]⟩⟩
def iJ:List aj:=[vI 3 0,vI 0 0,vR 37,vI 17 0,vI 0 0,vR 65,vI 21 0,vI 0 0,vR 72,vI 34 0,vI 0 0,vR 79,vI 43 0,vI 0 0,vR 96,vI 45 0,vI 0 0,vR 109,vI 51 0,vI 0 0,vR 128,vI 58 0,vI 0 0,vR 147,vI 63 0,vI 0 0,vR 166,vI 67 0,vI 0 0,vR 184,vI 70 0,vI 0 0,vR 230,vI 76 0,vI 0 0,vR 235,vI 79 0,vI 0 0,vR 240,vI 90 0,vI 0 0,vR 245,vI 113 0,vI 0 0,vR 250,vI 125 0,vI 0 0,vR 255,vI 134 0,vI 0 0,vR 260,vI 142 0,vI 0 0,vR 265]
def Ta(_:dz)(P:lM):=cu [QM P,BP P,G3 P,G4 P,GS P,QN P,QO P,QS P,QT P,QU P,QE P,OF P,Gb,Bg P,Gd,dD,Ge,Gf,Gp P,Gg,Gh P,Bh P,Gi,Gj,Gk,Gl,Gn,Gq P]
def xD(_:dz)(P:lM):=cu [QM P,BP P,G3 P,G4 P,GS P,QN P,QO P,QS P,QT P,QU P,QE P,OF P,Gb,Bg P,Gd,dD,Ge,Gf,Gp P,Gg,Gh P,Bh P,Gi,Gj,Gk,Gl,Gn,Gq P,dD,oF .none ((iJ).take 0),oC Rf Rf 277 280 1 0 28 0,oR 30 3 s1 164]
def HY:=(xD p P).set 3 λ_=>oG P mR 282 9
def yV:=oF (vT "builtin_function_or_method") [.builtin "type.__prepare__",vT "type"]
def jb:=oF .none []
def OG:=oC iI HO 296 301 5 2 39 2
def yW:=oN (pV p 2 0) iI HO mR 282 44
def OH:=oC zq HP 304 314 8 3 46 2
def uA:=oN (pV p 2 1) zq HP mR 282 51
def ni:=oT u6 [vT "object"] [vR 55,vT "object"] 54 [] [ak,ak,aa (vS u6 284),aa (vS u6 292),aa (.builtin "object.__new__"),aa (.bool af)]
def HZ:=gH [dD,yV,cE [E P nB 291 (vS mR 282),E P ze 293 (vS u6 292),E P nC 295 (vI 3 294),E P iI 303 (vR 45),E P zq 316 (vR 52),E P nD 318 (vR 53)] 6,dD,oF .none [vI 5 0,vI 4 0,vR 44,vI 8 0,vI 4 0,vR 51],oC u6 u6 286 289 3 0 35 0,oR 37 34 mR 282,dD,jb,oQ "tuple" [vS zp 299,vS Rg 300] 0,dD,oK (pV p 2 0) iI HO,OG,yW p,dD,jb,oQ "tuple" [vS zp 307,vS s25 308,vS s26 309,vS s27 310,vS s28 311,vS s29 312,vS Rh 313] 0,dD,oK (pV p 2 1) zq HP,OH,uA p,oQ "tuple" [vS Rg 317] 0,cE [E P nB 291 (vS mR 282),E P nC 295 (vI 3 294),E P iI 303 (vR 45),E P zq 316 (vR 52),E P nD 318 (vR 53),E P s7 320 (vR 56),E P s8 322 (vR 57),E P qi 323 .none] 4,ni,oY 319 55,oZ 321 55,oU 55,oI 55] 32 (((HY p P).set 3 λ_=>oG P mR 282 10).set 29 λ_=>oF .none ((iJ).take 3))
def OI:=oC u7 u7 326 341 17 2 60 2
def Gr:=oN (aP p 3) u7 u7 mR 282 65
def H6:=gH [dD,jb,oQ "tuple" [vS Ri 329,vS Rj 330,vS s35 331,vS Rk 332,vS s37 333,vS s38 334,vS Rl 335,vS s40 336,vS s41 337,vS s42 338,vS s43 339,vS s44 340] 0,dD,oK (aP p 3) u7 u7,OI,Gr p] 60 (((HZ p P).set 3 λ_=>oG P mR 282 11).set 29 λ_=>oF .none ((iJ).take 6))
def OJ:=oC u9 u9 344 352 21 2 67 2
def Gs:=oN (aP p 4) u9 u9 mR 282 72
def H7:=gH [dD,jb,oQ "tuple" [vS Ri 347,vS Rj 348,vS s46 349,vS s47 350,vS s48 351] 0,dD,oK (aP p 4) u9 u9,OJ,Gs p] 67 (((H6 p P).set 3 λ_=>oG P mR 282 12).set 29 λ_=>oF .none ((iJ).take 9))
def OL:=oC vc vc 355 361 34 1 74 2
def Gu:=oN (aP p 5) vc vc mR 282 79
def H8:=gH [dD,jb,oQ "tuple" [vS Rl 358,vS Rk 359,vS s50 360] 0,dD,oK (aP p 5) vc vc,OL,Gu p] 74 (((H7 p P).set 3 λ_=>oG P mR 282 13).set 29 λ_=>oF .none ((iJ).take 12))
def H9:=(H8 p P).set 3 λ_=>oG P gy 364 13
def OM:=cE [] 0
def ON:=oQ "tuple" [.none] 0
def OO:=oQ "tuple" [vI 14 0,vI 4 0,vI 0 0,vI 1 0,vI 1 0,vI 6 0,vI 1 0,vI 16 0,vI 46 0,vI 1 0] 0
def OP:=oF (vT "re.Pattern") [vS s53 367,vI 40 380,vI 0 0,.none,.none,vR 84,vI 0 0]
def Ia:=gH [oQ "list" [vI 14 369,vI 4 370,vI 0 371,vI 1 372,vI 1 373,vI 6 374,vI 1 375,vI 16 376,vI 46 377,vI 1 378] 0,OM,ON,OO,OP] 81 ((H9 p P).set 3 λ_=>oG P gy 364 14)
def OQ:=oQ "tuple" [vI 14 0,vI 9 0,vI 4 0,vI 1 0,vI 2 0,vI 16 0,vI 10 0,vI 16 0,vI 13 0,vI 0 0,vI 7 0,vI 7 0,vI 16 0,vI 13 0,vI 16 0,vI 10 0,vI 15 0,vI 18 0,vI 5 0,vI 16 0,vI 10 0,vI 15 0,vI 13 0,vI 11 0,vI 16 0,vI 13 0,vI 5 0,vI 5 0,vI 0 0,vI 16 0,vI 10 0,vI 1 0,vI 15 0,vI 2 0,vI 0 0,vI 1 0] 0
def OR:=oF (vT "re.Pattern") [vS s54 383,vI 32 422,vI 0 0,.none,.none,vR 89,vI 0 0]
def Ib:=gH [oQ "list" [vI 14 385,vI 9 386,vI 4 387,vI 1 388,vI 2 389,vI 16 390,vI 10 391,vI 16 392,vI 13 393,vI 0 394,vI 7 395,vI 7 396,vI 16 397,vI 13 398,vI 16 399,vI 10 400,vI 15 401,vI 18 402,vI 5 403,vI 16 404,vI 10 405,vI 15 406,vI 13 407,vI 11 408,vI 16 409,vI 13 410,vI 5 411,vI 5 412,vI 0 413,vI 16 414,vI 10 415,vI 1 416,vI 15 417,vI 2 418,vI 0 419,vI 1 420] 0,OM,ON,OQ,OR] 86 ((Ia p P).set 3 λ_=>oG P gy 364 15)
def Ic:=(Ib p P).set 3 λ_=>oG P gy 364 16
def xeK:bR:=⟨.none,ak,.dict ⟨[E P Rr 183 (.bool af),E P Rt 185 (vR 14),E P Ru 206 (vR 18),E P Rv 216 (vR 22),E P Rw 245 (vI 3 0),E P Rx 270 (.bool af),E P Ry 272 (vR 27),E P Rz 0 (vS s0 0),E P RA 273 (IY ⟨[vI 11 0,vI 11 0,vI 3 0,vI 11 0,vT "dict",.notImplemented]⟩),E P xex 442 (vI 100 0),E P xey 443 (vI 1 0)]⟩ 11,⟨[]⟩⟩
def G5:=gH [oQ "tuple" [vT "OSError"] 0,yV,cE [E P nB 433 (vS gy 364),E P ze 435 (vS qh 434),E P nC 437 (vI 43 436),E P nD 438 (vR 98)] 4,dD,jb,oC qh qh 428 431 43 0 94 0,oR 96 93 gy 364,dD,cE [E P nB 433 (vS gy 364),E P nC 437 (vI 43 436),E P nD 438 (vR 98),E P s8 440 (vR 101),E P qi 441 .none] 3,oT qh [vT "OSError"] (vR 100::xA) 99 [] (eA 91 qh 426 434),oZ 439 100,oU 100,oI 100] 91 ((((Ic p P).set 2 λ_=>xeK P).set 3 λ_=>oG P gy 364 17).set 29 λ_=>oF .none ((iJ).take 15))
def Nt:=oQ "tuple" [vR 100] 0
def G6:=gH [Nt,yV,cE [E P nB 453 (vS gy 364),E P ze 455 (vS sX 454),E P nC 457 (vI 45 456),E P iI 466 (vR 117),E P nD 470 (vR 118)] 5,dD,oF .none [vI 47 0,vI 4 0,vR 116],oC sX sX 448 451 45 0 107 0,oR 109 106 gy 364,dD,jb,oQ "tuple" [vS zp 461,vS Cd 462,vS Rm 463] 0,dD,oK (pV p 11 0) iI HQ,oC iI HQ 458 464 47 3 111 2,oN (pV p 11 0) iI HQ gy 364 116,oQ "tuple" [vS HR 467,vS Rn 468,vS Ro 469] 0,cE [E P nB 453 (vS gy 364),E P nC 457 (vI 45 456),E P iI 466 (vR 117),E P nD 470 (vR 118),E P qi 471 .none] 2,oT sX [vR 100] (vR 120::vR 100::xA) 119 [] (eA 104 sX 446 454),oU 120,oI 120] 104 ((((G5 p P).set 3 λ_=>oG P gy 364 18).set 29 λ_=>oF .none ((iJ).take 18)).set 100 λ_=>oT qh [vT "OSError"] (vR 100::xA) 99 [vR 120] (eA 91 qh 426 434))
def Ff:=oT sX [vR 100] (vR 120::vR 100::xA) 119 [vR 139] (eA 104 sX 446 454)
def Nu:=oC iI HS 486 493 53 4 130 2
def A2:=oN (pV p 12 0) iI HS gy 364 135
def Fg:=oT xy [vR 120] (vR 139::vR 120::vR 100::xA) 138 [] (eA 123 xy 474 482)
def G7:=gH [oQ "tuple" [vR 120] 0,yV,cE [E P nB 481 (vS gy 364),E P ze 483 (vS xy 482),E P nC 485 (vI 51 484),E P iI 495 (vR 136),E P nD 500 (vR 137)] 5,dD,oF .none [vI 53 0,vI 4 0,vR 135],oC xy xy 476 479 51 0 126 0,oR 128 125 gy 364,dD,jb,oQ "tuple" [vS zp 489,vS Cd 490,vS Rm 491,vS Rp 492] 0,dD,oK (pV p 12 0) iI HS,Nu,A2 p,oQ "tuple" [vS HR 496,vS Rp 497,vS Rn 498,vS Ro 499] 0,cE [E P nB 481 (vS gy 364),E P nC 485 (vI 51 484),E P iI 495 (vR 136),E P nD 500 (vR 137),E P qi 501 .none] 2,Fg,oU 139,oI 139] 123 ((((G6 p P).set 3 λ_=>oG P gy 364 19).set 29 λ_=>oF .none ((iJ).take 21)).set 120 λ_=>Ff)
def Fi:=oT qh [vT "OSError"] (vR 100::xA) 99 [vR 120,vR 158] (eA 91 qh 426 434)
def Nv:=oC iI HT 516 521 60 2 149 2
def A3:=oN (pV p 13 0) iI HT gy 364 154
def Fj:=oT xC [vR 100] (vR 158::vR 100::xA) 157 [] (eA 142 xC 504 512)
def G8:=gH [Nt,yV,cE [E P nB 511 (vS gy 364),E P ze 513 (vS xC 512),E P nC 515 (vI 58 514),E P iI 523 (vR 155),E P nD 526 (vR 156)] 5,dD,oF .none [vI 60 0,vI 4 0,vR 154],oC xC xC 506 509 58 0 145 0,oR 147 144 gy 364,dD,jb,oQ "tuple" [vS zp 519,vS Rq 520] 0,dD,oK (pV p 13 0) iI HT,Nv,A3 p,oQ "tuple" [vS HR 524,vS Rq 525] 0,cE [E P nB 511 (vS gy 364),E P nC 515 (vI 58 514),E P iI 523 (vR 155),E P nD 526 (vR 156),E P qi 527 .none] 2,Fj,oU 158,oI 158] 142 ((((G7 p P).set 3 λ_=>oG P gy 364 20).set 29 λ_=>oF .none ((iJ).take 24)).set 100 λ_=>Fi)
def Nx:=oC vd vd 530 534 63 1 161 2
def Fl:=oN (aP p 14) vd vd gy 364 166
def G9:=gH [dD,jb,oQ "tuple" [vS s69 533] 0,dD,oK (aP p 14) vd vd,Nx,Fl p] 161 (((G8 p P).set 3 λ_=>oG P gy 364 21).set 29 λ_=>oF .none ((iJ).take 27))
def uN:=(G9 p P).set 3 λ_=>oG P ve 537 21
def yJ:bR:=⟨vT "set",ak,.set ⟨[(65024,vI 65024 555),(65025,vI 65025 556),(65026,vI 65026 557),(65027,vI 65027 558),(65028,vI 65028 559),(65029,vI 65029 560),(6150,vI 6150 541),(65030,vI 65030 561),(65031,vI 65031 562),(65032,vI 65032 563),(65033,vI 65033 564),(6155,vI 6155 542),(6156,vI 6156 543),(6157,vI 6157 544),(8203,vI 8203 545),(8204,vI 8204 546),(8205,vI 8205 547),(65034,vI 65034 565),(65035,vI 65035 566),(65036,vI 65036 567),(65037,vI 65037 568),(65038,vI 65038 569),(65039,vI 65039 570),(173,vI 173 539),(847,vI 847 540),(8288,vI 8288 548),(65279,vI 65279 549)]⟩ 29 ⟨127,⟨[0,1,2,3,4,5,6,7,8,9,10,11,12,13,14,15,16,17,18,19,20,21,22,45,79,96,127]⟩,⟨[]⟩,0,!P.followText "set-order",2,af⟩,⟨[]⟩⟩
def uO:=gH [oQ "list" [vI 173 539,vI 847 540,vI 6150 541,vI 6155 542,vI 6156 543,vI 6157 544,vI 8203 545,vI 8204 546,vI 8205 547,vI 8288 548,vI 65279 549] 0,oF (vT "range") [vI 65024 550,vI 65040 551,vI 1 552],oQ "list" [vI 65024 555,vI 65025 556,vI 65026 557,vI 65027 558,vI 65028 559,vI 65029 560,vI 65030 561,vI 65031 562,vI 65032 563,vI 65033 564,vI 65034 565,vI 65035 566,vI 65036 567,vI 65037 568,vI 65038 569,vI 65039 570] 18,oF (vT "range_iterator") [vI 65040 0,vI 0 0,vI 1 0],dD,oF (vT "StopIteration") [vR 172,.none,.none,.none,.bool ay,.none],oQ "list" [vI 173 539,vI 847 540,vI 6150 541,vI 6155 542,vI 6156 543,vI 6157 544,vI 8203 545,vI 8204 546,vI 8205 547,vI 8288 548,vI 65279 549,vI 65024 555,vI 65025 556,vI 65026 557,vI 65027 558,vI 65028 559,vI 65029 560,vI 65030 561,vI 65031 562,vI 65032 563,vI 65033 564,vI 65034 565,vI 65035 566,vI 65036 567,vI 65037 568,vI 65038 569,vI 65039 570] 0,yJ P,oF (vT "list_iterator") [.none,vI 27 0],dD,oF (vT "StopIteration") [vR 177,.none,.none,.none,.bool ay,.none]] 168 ((uN p P).set 3 λ_=>oG P ve 537 22)
def Ny:=oC vf vf 599 603 67 1 179 2
def Fo:=oN (aP p 17) vf vf ve 537 184
def qb:=gH [dD,jb,oQ "tuple" [vS Cd 602] 0,dD,oK (aP p 17) vf vf,Ny,Fo p] 179 (((uO p P).set 3 λ_=>oG P ve 537 23).set 29 λ_=>oF .none ((iJ).take 30))
def A4:=cE (cZ p 0 650) 650
def xj:=gH [A4 p,cE (cZ p 17 17) 17,cE (cZ p 34 17) 17,cE (cZ p 51 17) 17,cE (cZ p 68 17) 17,cE (cZ p 85 17) 17,cE (cZ p 102 17) 17,cE (cZ p 119 17) 17,cE (cZ p 136 17) 17,cE (cZ p 153 17) 17,cE (cZ p 170 17) 17,cE (cZ p 187 17) 17,cE (cZ p 204 17) 17,cE (cZ p 221 17) 17,cE (cZ p 238 17) 17,cE (cZ p 255 17) 17,cE (cZ p 272 17) 17,cE (cZ p 289 17) 17,cE (cZ p 306 17) 17,cE (cZ p 323 17) 17,cE (cZ p 340 17) 17,cE (cZ p 357 17) 17,cE (cZ p 374 17) 17,cE (cZ p 391 17) 17,cE (cZ p 408 17) 17,cE (cZ p 425 17) 17,cE (cZ p 442 17) 17,cE (cZ p 459 17) 17,cE (cZ p 476 17) 17,cE (cZ p 493 17) 17,cE (cZ p 510 17) 17,cE (cZ p 527 17) 17,cE (cZ p 544 17) 17,cE (cZ p 561 17) 17,cE (cZ p 578 17) 17,cE (cZ p 595 17) 17,cE (cZ p 612 17) 17,cE (cZ p 629 17) 17,cE (cZ p 646 4) 4] 186 ((qb p P).set 3 λ_=>oG P ve 537 24)
def Nz:=oC vg vg 2557 2562 70 1 225 2
def Fp:=oN (aP p 19) vg vg ve 537 230
def Hf:=gH [dD,jb,oQ "tuple" [vS Cd 2560,vS Rh 2561] 0,dD,oK (aP p 19) vg vg,Nz,Fp p] 225 (((xj p P).set 3 λ_=>oG P ve 537 25).set 29 λ_=>oF .none ((iJ).take 33))
def Hg:=(Hf p P).set 3 λ_=>oG P lz 2565 25
def NC:=oC vh vh 2567 2570 76 1 232 1
def Fq:=oN (aP p 21) vh vh lz 2565 235
def Hh:=gH [dD,jb,oK (aP p 21) vh vh,NC,Fq p] 232 (((Hg p P).set 3 λ_=>oG P lz 2565 26).set 29 λ_=>oF .none ((iJ).take 36))
def wL:=oC vj vj 2573 2576 79 3 237 1
def A5:=oN (aP p 22) vj vj lz 2565 240
def Hi:=gH [dD,jb,oK (aP p 22) vj vj,wL,A5 p] 237 (((Hh p P).set 3 λ_=>oG P lz 2565 27).set 29 λ_=>oF .none ((iJ).take 39))
def ND:=oC vm vm 2579 2582 90 4 242 1
def Ft:=oN (aP p 23) vm vm lz 2565 245
def Hj:=gH [dD,jb,oK (aP p 23) vm vm,ND,Ft p] 242 (((Hi p P).set 3 λ_=>oG P lz 2565 28).set 29 λ_=>oF .none ((iJ).take 42))
def NF:=oC vo vo 2585 2588 113 1 247 1
def Fv:=oN (aP p 24) vo vo lz 2565 250
def Hl:=gH [dD,jb,oK (aP p 24) vo vo,NF,Fv p] 247 (((Hj p P).set 3 λ_=>oG P lz 2565 29).set 29 λ_=>oF .none ((iJ).take 45))
def NG:=oC vp vp 2591 2594 125 0 252 1
def Fw:=oN (aP p 25) vp vp lz 2565 255
def Ho:=gH [dD,jb,oK (aP p 25) vp vp,NG,Fw p] 252 (((Hl p P).set 3 λ_=>oG P lz 2565 30).set 29 λ_=>oF .none ((iJ).take 48))
def NH:=oC vq vq 2597 2600 134 2 257 1
def Fx:=oN (aP p 26) vq vq lz 2565 260
def Hp:=gH [dD,jb,oK (aP p 26) vq vq,NH,Fx p] 257 (((Ho p P).set 3 λ_=>oG P lz 2565 31).set 29 λ_=>oF .none ((iJ).take 51))
def NI:=oC vt vt 2603 2606 142 1 262 1
def Fy:=oN (aP p 27) vt vt lz 2565 265
def uP:=gH [dD,jb,oK (aP p 27) vt vt,NI,Fy p] 262 (((Hp p P).set 3 λ_=>oG P lz 2565 32).set 29 λ_=>oF .none ((iJ).take 54))
end
noncomputable abbrev PQ:=PySem.Challenge.pw_wz0025_01
noncomputable def bodyOf(p:dz):List c6:=behindTheImports p
noncomputable def gZ(p:dz):aO:={scope:=p.main.scope,locals:=oX,globals:=oX,cells:=[],code:=.ref 30,frame:=aa 31}
def cT(p:dz):Code:=.body (bodyOf p) (gZ p)
noncomputable def c7:List Frame:=[topFrame ⟨0,0,0,0⟩]
noncomputable abbrev ki(T:dz->lM->BT)(n G:Nat)(p:dz)(w:bL)(P:b8):iB:=⟨T p w.params,n,{},#[],{},G,P⟩
noncomputable abbrev PC(f j:Nat)(a:aS)(T:dz->lM->BT)(n t:Nat)(y:aS)(B:dz->lM->BT)(d g:Nat)(w:bL)(P:b8):Prop:=IS CG PQ w 28 (aa (.ref 6)) 1 f (ki T n t PQ w P) ⟨(SN [aP PQ j] (gZ PQ)).wrap Cy ng id id,cT PQ,a,c7⟩=aa (.next,ki B d g PQ w P,cT PQ,y)
theorem pq0(w:bL)(P:b8):PC 10 1 ⟨0,0,0,0⟩ xD 32 282 ⟨2,0,2,8⟩ HY 32 284 w P:=by kernel_rfl
theorem pq1(w:bL)(P:b8):PC 260 2 ⟨2,0,2,8⟩ HY 32 284 ⟨3,0,16,16⟩ HZ 60 326 w P:=by kernel_rfl
theorem pq2(w:bL)(P:b8):PC 41 3 ⟨3,0,16,16⟩ HZ 60 326 ⟨17,0,20,88⟩ H6 67 344 w P:=by kernel_rfl
theorem pq3(w:bL)(P:b8):PC 34 4 ⟨17,0,20,88⟩ H6 67 344 ⟨21,0,33,22⟩ H7 74 355 w P:=by kernel_rfl
theorem pq4(w:bL)(P:b8):PC 32 5 ⟨21,0,33,22⟩ H7 74 355 ⟨34,0,38,13⟩ H8 81 364 w P:=by kernel_rfl
theorem pq5(w:bL)(P:b8):PC 10 6 ⟨34,0,38,13⟩ H8 81 364 ⟨39,0,39,8⟩ H9 81 366 w P:=by kernel_rfl
theorem pq6(w:bL)(P:b8):PC 60 7 ⟨39,0,39,8⟩ H9 81 366 ⟨40,0,40,10⟩ Ia 86 382 w P:=by kernel_rfl
theorem pq7(w:bL)(P:b8):PC 86 8 ⟨40,0,40,10⟩ Ia 86 382 ⟨41,0,41,10⟩ Ib 91 424 w P:=by kernel_rfl
theorem pq8(w:bL)(P:b8):PC 10 9 ⟨41,0,41,10⟩ Ib 91 424 ⟨42,0,42,4⟩ Ic 91 426 w P:=by kernel_rfl
theorem pq9(w:bL)(P:b8):PC 197 10 ⟨42,0,42,4⟩ Ic 91 426 ⟨43,0,44,8⟩ G5 104 446 w P:=by kernel_rfl
theorem xeL(w:bL)(P:b8):PC 249 11 ⟨43,0,44,8⟩ G5 104 446 ⟨45,0,50,31⟩ G6 123 474 w P:=by kernel_rfl
theorem xeM(w:bL)(P:b8):PC 265 12 ⟨45,0,50,31⟩ G6 123 474 ⟨51,0,57,39⟩ G7 142 504 w P:=by kernel_rfl
theorem xeN(w:bL)(P:b8):PC 247 13 ⟨51,0,57,39⟩ G7 142 504 ⟨58,0,62,33⟩ G8 161 530 w P:=by kernel_rfl
theorem xeO(w:bL)(P:b8):PC 30 14 ⟨58,0,62,33⟩ G8 161 530 ⟨63,0,64,59⟩ G9 168 537 w P:=by kernel_rfl
theorem xeP(w:bL)(P:b8):PC 10 15 ⟨63,0,64,59⟩ G9 168 537 ⟨65,0,65,8⟩ uN 168 539 w P:=by kernel_rfl
theorem xeQ(w:bL)(P:b8):PC 30 17 ⟨66,0,66,6⟩ uO 179 599 ⟨67,0,68,30⟩ qb 186 606 w P:=by kernel_rfl
theorem xeR(w:bL)(P:b8):PC 31 19 ⟨69,0,69,13⟩ xj 225 2557 ⟨70,0,74,23⟩ Hf 232 2565 w P:=by kernel_rfl
theorem xeS(w:bL)(P:b8):PC 10 20 ⟨70,0,74,23⟩ Hf 232 2565 ⟨75,0,75,8⟩ Hg 232 2567 w P:=by kernel_rfl
theorem xeT(w:bL)(P:b8):PC 27 21 ⟨75,0,75,8⟩ Hg 232 2567 ⟨76,0,78,115⟩ Hh 237 2573 w P:=by kernel_rfl
theorem xeU(w:bL)(P:b8):PC 27 22 ⟨76,0,78,115⟩ Hh 237 2573 ⟨79,0,89,54⟩ Hi 242 2579 w P:=by kernel_rfl
theorem xeV(w:bL)(P:b8):PC 27 23 ⟨79,0,89,54⟩ Hi 242 2579 ⟨90,0,112,46⟩ Hj 247 2585 w P:=by kernel_rfl
theorem xeW(w:bL)(P:b8):PC 27 24 ⟨90,0,112,46⟩ Hj 247 2585 ⟨113,0,124,15⟩ Hl 252 2591 w P:=by kernel_rfl
theorem xeX(w:bL)(P:b8):PC 27 25 ⟨113,0,124,15⟩ Hl 252 2591 ⟨125,0,133,15⟩ Ho 257 2597 w P:=by kernel_rfl
theorem xeY(w:bL)(P:b8):PC 27 26 ⟨125,0,133,15⟩ Ho 257 2597 ⟨134,0,141,121⟩ Hp 262 2603 w P:=by kernel_rfl
theorem xeZ(w:bL)(P:b8):PC 27 27 ⟨134,0,141,121⟩ Hp 262 2603 ⟨142,0,180,144⟩ uP 267 2609 w P:=by kernel_rfl
section
variable{p:dz}{w:bL}
noncomputable abbrev P4(p:dz)(w:bL):=qa gn p w 28 (aa (.ref 6))
noncomputable def Top(p:dz)(w:bL)(n:Nat)(s:iB)(t:uL)(S:iB)(g:uL):Prop:=∀N r,P4 p w N S.abs g=aa r->P4 p w (n+N) s.abs t=aa r
theorem Top.refl(s:iB)(t:uL):Top p w 0 s t s t:=λN r h=>by exact O (jl ..) h
theorem Top.trans(a:Top p w n s t U d)(b:Top p w m U d J c):Top p w (n+m) s t J c:=λN r h=>by exact O (rL ..) (a _ _ (b _ _ h))
theorem Top.more(a:Top p w n s t b g)(h:n<=m):Top p w m s t b g:=λN r q=>by have:=topRun_mono (m-n) _ _ _ _ (a N r q);rwa[show n+N+(m-n)=m+N from(jJ n N _).trans (congrArg (·+N) (Nat.add_sub_cancel' h))]at this
theorem Top.step(D:through t=ay)(C:stepOk 28 (aa (.ref 6)) t=af)(J:Cz (B9 gn) p w s t=aa (a,g)):Top p w 1 s t a g:=λN r h=>by refine O (jk ..) ?_;show qa gn p w 28 (aa (.ref 6)) (N+1) s.abs t=aa r;unfold qa;exact O D (O C (O (stepT_spec J) h))
theorem Top.seg{L:Type}{m:bh L}{res:L->ek}{n:Nat}{s S:iB}{E:Bool->Bool}{B:List aj->List aj}{R c:aS}{a:L}(l:∀b,res b=res a->b=a)(h:ux gn p w 28 (aa (.ref 6)) 1 n s ⟨m.wrap (λa=>.pure (.done (res a))) ng E B,cT p,R,c7⟩=aa (res a,S,cT p,c))(K:L->bh Fin)(H:aj->bh Fin):Top p w n s ⟨m.wrap K H E B,cT p,R,c7⟩ S ⟨K a,cT p,c,c7⟩:=λN r q=>by refine aH (seg_top (res:=res) (K':=K) (H':=H) (B:=c7) rfl n s.abs ⟨m.wrap (λa=>.pure (.done (res a))) ng E B,cT p,R,c7⟩ ⟨m.wrap K H E B,cT p,R,c7⟩ _ _ _ _ ⟨rfl,rfl,.inl ⟨rfl,rfl,m,rfl,rfl⟩⟩ (segRun_of h)) λb d t=>?_;replace t:=l b d▸t;exact t N r q
inductive cO{L:Type}(a:L)(S:iB):Nat->iB->bh L->Prop|pure:cO a S 0 S (.pure a)|load{n m:Nat}{T:BT}{c:Life}{g:Array mJ}{d:ny}{G:Nat}{P:b8}{x:ah}{q:Option aj}{k:bR->bh L}{o W:bR}(A:m7 x m=af)(e:T.get x=aa o)(i:alive o=aa W)(h:cO a S n ⟨T,m,c,g,d,G,P⟩ (k W)):cO a S (n+1) ⟨T,m,c,g,d,G,P⟩ (.load x q k)|upd{n m:Nat}{T:BT}{c:Life}{g:Array mJ}{d:ny}{G:Nat}{P:b8}{x:ah}{q:Option aj}{f:bR->bR}{k:Unit->bh L}{o W:bR}(r:kP 28 x=af)(A:m7 x m=af)(e:T.get x=aa o)(i:alive o=aa W)(h:cO a S n ⟨T.set x f,m,c,g,d,G,P⟩ (k ())):cO a S (n+1) ⟨T,m,c,g,d,G,P⟩ (.update x q f k)|rule{n:Nat}{s:iB}{t:String}{k:Unit->bh L}(h:cO a S n s (k ())):cO a S (n+1) s (.rule t k)
theorem cO.bind{L N:Type}{a:L}{b:N}{U J:iB}{m:Nat}{f:L->bh N}(g:cO b J m U (f a)):∀{n:Nat}{s:iB}{t:bh L},cO a U n s t->cO b J (n+m) s (t.bind f):=λ{n s t}h=>by induction h with|pure=>exact O (jl ..) g|load A e i h G=>rw[jJ _ 1 m];exact .load A e i G|upd r A e i h G=>rw[jJ _ 1 m];exact .upd r A e i G|rule h G=>rw[jJ _ 1 m];exact .rule G
theorem cO.top{L:Type}{a:L}{S:iB}{n:Nat}{s:iB}{t:bh L}(h:cO a S n s t)(K:L->bh Fin)(H:aj->bh Fin)(E:Bool->Bool)(B:List aj->List aj)(R:aS):Top p w n s ⟨t.wrap K H E B,cT p,R,c7⟩ S ⟨K a,cT p,R,c7⟩:=by
 induction h with|pure=>exact .refl _ _|load A e i h G=>refine O (jk ..) ?_;refine Top.trans (Top.step (by rfl) (by rfl) ?_) G;simp only[Cz,Sem.wrap,A,e,i]|upd r A e i h G=>
refine O (jk ..) ?_;refine Top.trans (Top.step (by rfl) ?_ ?_) G;.show(_&&(kP 28 _||_||_||_))=af;refine O r ?_;rfl
.simp only[Cz,Sem.wrap,A,e,i]|rule h G=>exact O (jk ..) (Top.trans (Top.step (by rfl) (by rfl) (by rfl)) G)
end
section
theorem Fz(h:f o=o'):∀{T:BT}{a:Nat},T.get a=aa o->T.set a f=T.set a λ_=>o'
|.nil,a,_=>rfl|.node v l r,a,e=>by
 rw[xgu]at e;refine O (ua ..) (O (ua ..) ?_);by_cases D:a=0;.rw[if_pos D]at e⊢;refine O (if_pos D) ?_;cases e;exact O h rfl
 .rw[if_neg D]at e⊢;refine O (if_neg D) ?_;by_cases C:a%2=1;.rw[if_pos C]at e⊢;exact O (if_pos C) (O (Fz h e) rfl)
  .rw[if_neg C]at e⊢;exact O (if_neg C) (O (Fz h e) rfl)
theorem set_set:∀{T:BT}{a:Nat},(T.set a f).set a g=T.set a λo=>g (f o)
|.nil,a=>rfl|.node v l r,a=>by
 refine O (ua ..) (O (ua ..) ?_);by_cases D:a=0;.exact O (if_pos D) (O (if_pos D) (O (ua ..) (O (if_pos D) rfl)))
 .refine O (if_neg D) (O (if_neg D) ?_);by_cases C:a%2=1;.exact O (if_pos C) (O (if_pos C) (O (ua ..) (O (if_neg D) (O (if_pos C) (O set_set rfl)))))
  .exact O (if_neg C) (O (if_neg C) (O (ua ..) (O (if_neg D) (O (if_neg C) (O set_set rfl)))))
theorem Eh:∀{T:BT}{a:Nat},T.get a=aa o->(T.set a λ_=>o)=T
|.nil,a,_=>rfl|.node v l r,a,e=>by
 rw[xgu]at e;refine O (ua ..) ?_;by_cases D:a=0;.rw[if_pos D]at e⊢;cases e;rfl
 .rw[if_neg D]at e⊢;by_cases C:a%2=1;.rw[if_pos C]at e⊢;exact O (Eh e) rfl
  .rw[if_neg C]at e⊢;exact O (Eh e) rfl
def oD(l:List gm):bR:=⟨vT "dict",ak,.dict ⟨l⟩ l.length,⟨[]⟩⟩
theorem n9(l:List gm):alive (oD l)=aa (oD l):=rfl
theorem U8(K:∀e∈l,e.hash≠h):Mm (⟨l⟩:Array gm).size (λi=>(⟨l⟩:Array gm)[i]?.map (·.hash)) h=[]:=by unfold Mm;refine vG.mpr λi E q=>?_;have q:=eq_of_beq q;refine aH (vF.mp q) λe H L=>?_;exact K e (eO (by simpa using H)) L
variable{m:Nat}{life:Life}{g:Array mJ}{dr:ny}{tk:Nat}{os:b8}
theorem xfa{T:BT}{l:List gm}(r:kP 28 d=af)(A:m7 d m=af)(e:T.get d=aa (oD l))(K:∀e∈l,e.hash≠h)(I:l.length<=1000):cO () ⟨T.set d λ_=>oD (l++[⟨h,.int k t,v⟩]),m,life,g,dr,tk,os⟩ 4 ⟨T,m,life,g,dr,tk,os⟩ (HE d h (.int k t) v):=by
 unfold HE;have f:cO (ak:Option Nat) ⟨T,m,life,g,dr,tk,os⟩ 1 ⟨T,m,life,g,dr,tk,os⟩ (dictFind d (.int k t) h):=by unfold dictFind;refine cO.load A e (n9 l) ?_;show cO ak _ 0 _ (if((.int k t:aj)::(Mm (⟨l⟩:Array gm).size (λi=>(⟨l⟩:Array gm)[i]?.map (·.hash)) h).filterMap λi=>(⟨l⟩:Array gm)[i]?.map (·.key)).all carriedByValue=af then _ else _);exact O (U8 K) cO.pure
 refine cO.bind (n:=1) (m:=3) ?_ f;refine cO.load A e (n9 l) (cO.upd r A e (n9 l) ?_);rw[Fz (f:=Obj.mapDictKeys λx=>x.push ⟨h,.int k t,v⟩) (o':=oD (l++[⟨h,.int k t,v⟩])) ?_ e]
 .have U:(T.set d λ_=>oD (l++[⟨h,.int k t,v⟩])).get d=aa (oD (l++[⟨h,.int k t,v⟩])):=by refine O (E8 ..) (O (if_pos rfl) (O e ?_));rfl
  refine cO.load A U (n9 _) ?_;have:(oD (l++[⟨h,.int k t,v⟩])).data.pastItsLine=ak:=by unfold oD Data.pastItsLine;simp only[iX,cL,Jh];exact if_neg (rS.mpr (cD (qv I)))
  show cO () _ 0 _ (match(oD (l++[⟨h,.int k t,v⟩])).data.pastItsLine with|aa a=>AF a|_=>pure ());exact O this cO.pure
 .show(⟨_,_,.dict ((⟨l⟩:Array gm).push _) (l.length+1),_⟩:bR)=_;unfold oD;simp
theorem Kq(M:Nat->iB):∀(r j:Nat),(∀i,j<=i->i<j+r->cO (.yield qD) (M (i+1)) n (M i) (f i qD))->cO qD (M (j+r)) (r*n) (M j) (forIn (List.range' j r) qD f)|0,j,_=>by exact O (Nat.zero_mul ..) cO.pure|r+1,j,h=>by refine O List.range'_succ (O (tP ..) (O ((Nat.succ_mul r n).trans (jk ..)) ?_));refine cO.bind ?_ (h j (cR _) (vE (qz r)));have:=Kq M r (j+1) λi a b=>h i (nN a) (tG b (rD j r));rwa[rD j r]at this
theorem Xc{L:Type}(h:∀v∈b,∀a,v≠.ref a)(x:bh L):ic b x=x:=by
 unfold ic;split;.rfl
 .rename_i S;refine absurd (vG.mpr λv m q=>?_) S;cases v with|ref a=>exact h _ m a rfl|_=>cases q
theorem U9{T:BT}{l D:List gm}(r:kP 28 d=af)(A:m7 d m=af)(B:m7 a m=af)(u:a≠d)(e:T.get d=aa (oD l))(U:T.get a=aa (oD D))(N:∀x∈D,(∃k t,x.key=.int k t)/\∀a,x.val≠.ref a)(K:((l++D).map (·.hash)).Nodup)(I:l.length+D.length<=1000)(c:∀i,f i qD=(dictEntries a).bind λxs=>match xs[i]? with|aa e=>(ic [e.key,e.val] (HE d e.hash e.key e.val)).bind λ_=>(dictEpoch a).bind λn=>if(n !=D.length)=af then(AF "dict.changed-during-merge").bind λ(_:Unit)=>.pure (.yield qD)else .pure (.yield qD)|none=>(AF "dict.changed-during-merge").bind λ(_:Unit)=>.pure (.yield qD)):cO qD ⟨T.set d λ_=>oD (l++D),m,life,g,dr,tk,os⟩ (D.length*6) ⟨T,m,life,g,dr,tk,os⟩ (forIn (gj D.length) qD f):=by
 have:=Kq (f:=f) (n:=6) (λj=>⟨T.set d λ_=>oD (l++D.take j),m,life,g,dr,tk,os⟩) D.length 0 λi _ F=>by
  replace F:=jl ..▸F;refine O (c ..) ?_;have E:(T.set d λ_=>oD (l++D.take i)).get d=aa (oD (l++D.take i)):=by refine O (E8 ..) (O (if_pos rfl) (O e ?_));rfl
  have w:(T.set d λ_=>oD (l++D.take i)).get a=aa (oD D):=by exact O (E8 ..) (O (if_neg u) (O U rfl))
  refine aW (N D[i] (nQ F)) λz h=>?_;obtain⟨k,t,J⟩:=z;refine cO.load B w (n9 D) ?_;show cO _ _ 5 _ (match(⟨D⟩:Array gm)[i]? with|aa e=>_|none=>_);refine O (show(⟨D⟩:Array gm)[i]?=aa D[i]from by simp[F]) ?_;show cO _ _ 5 _ ((ic [D[i].key,D[i].val] (HE d D[i].hash D[i].key D[i].val)).bind _);rw[Xc (by
   intro v o b q;refine bz (bB.mp o) (λy=>?_) λo=>?_;.subst y;replace q:=J▸q;cases q
   .replace q:=aX.mp o▸q;exact h b q),J];have Z:∀x∈l++D.take i,x.hash≠D[i].hash:=λx S q=>by
   have H:l++D=l++D.take i++D[i]::D.drop (i+1):=by exact O (fT ..) (aR (CL F) (O (List.take_append_drop ..) rfl))
   replace K:=nM.mp (fY▸H▸K);exact K.2.2 _ (bF.mpr ⟨x,S,rfl⟩) _ (bF.mpr ⟨D[i],aQ ..,rfl⟩) q
  have p:=xfa (life:=life) (g:=g) (dr:=dr) (tk:=tk) (os:=os) (k:=k) (t:=t) (v:=D[i].val) r A E Z (O cL (O jA (bf (iy (tL ..) _) I)));replace p:=set_set▸p;have s:l++D.take (i+1)=l++D.take i++[D[i]]:=by exact O (IQ F) (O (fT ..) rfl)
  have C:(⟨D[i].hash,.int k t,D[i].val⟩:gm)=D[i]:=by exact aR J rfl
  replace p:=s.symm▸C▸p;refine cO.bind (m:=1) ?_ p;have L:(T.set d λ_=>oD (l++D.take (i+1))).get a=aa (oD D):=by exact O (E8 ..) (O (if_neg u) (O U rfl))
  refine cO.load B L (n9 D) ?_;show cO _ _ 0 _ (if(D.length !=D.length)=af then _ else _);exact O (bne_self_eq_false ..) cO.pure
 replace this:=Dl▸jl ..▸this;simp only[List.take_zero,g8]at this;replace this:=Eh e▸this;exact O List.range_eq_range' this
end
section
theorem qB{L N P:Type}(m:bh L)(f:L->bh N)(K:N->bh P)(H:aj->bh P)(E:Bool->Bool)(B:List aj->List aj):(m.bind f).wrap K H E B=m.wrap (λa=>(f a).wrap K H E B) H E B:=by refine O (xan ..) (O (L3 ..) ?_);rfl
theorem Xd:QF (.type "dict") (.type "dict")=pure af:=by kernel_rfl
theorem VZ:jO (.type "dict") "__iter__"=pure (aa (.builtin "dict.__iter__")):=by kernel_rfl
variable{n:Nat}{life:Life}{g:Array mJ}{dr:ny}{tk:Nat}{os:b8}
theorem Xe{T:BT}{l D:List gm}(r:kP 28 d=af)(A:m7 d n=af)(B:m7 a n=af)(u:a≠d)(W:(a==eo)=ay)(e:T.get d=aa (oD l))(U:T.get a=aa (oD D))(N:∀x∈D,(∃k t,x.key=.int k t)/\∀a,x.val≠.ref a)(K:((l++D).map (·.hash)).Nodup)(I:l.length+D.length<=1000)(b:l≠[]):cO () ⟨T.set d λ_=>oD (l++D),n,life,g,dr,tk,os⟩ (1+(1+(D.length*6+3))) ⟨T,n,life,g,dr,tk,os⟩ (Aq d (.ref a) ay):=by unfold Aq;simp only[rE,if_false];refine cO.bind (a:=af) (n:=1) (m:=1+(D.length*6+3)) ?_ (cO.load B U (n9 D) (show cO af _ 0 _ (QF (.type "dict") (.type "dict"))from by exact O Xd .pure));refine O (if_pos rfl) ?_;refine cO.bind (a:=aa (.builtin "dict.__iter__")) (n:=1) (m:=D.length*6+3) ?_ (cO.load B U (n9 D) (show cO (aa (.builtin "dict.__iter__")) _ 0 _ (jO (.type "dict") "__iter__")from by exact O VZ .pure));show cO () _ _ _ (qL (.pure ((aa (vP "dict.__iter__"):Option aj)==aa (.builtin "dict.__iter__"))) _);refine O (show((aa (vP "dict.__iter__"):Option aj)==aa (.builtin "dict.__iter__"))=af from by kernel_rfl) ?_;show cO () _ (D.length*6+3) _ (if(a==eo)=af then _ else _);refine O W (O (if_neg qq) ?_);refine cO.load A e (n9 l) ?_;show cO () _ (D.length*6+2) _ (if(⟨l⟩:Array gm).isEmpty=af then _ else _);refine O (if_neg (by simpa[Array.isEmpty]using b)) ?_;refine cO.load B U (n9 D) (cO.load B U (n9 D) ?_);exact cO.bind (m:=0) cO.pure (U9 r A B u e U N K I λi=>by refine congrArg (qL (dictEntries a)) (funext λxs=>?_);show(match xs[i]? with|aa e=>_|x=>_)=_;cases xs[i]?<;>rfl)
end
def lW(p:dz):List aT×List aT:=((kE (valOf (aP p 18))).2.map (·.getD default),(kE (valOf (aP p 18))).1)
noncomputable abbrev gf:aS:=⟨69,16,69,8704⟩
noncomputable def cut(i n:Nat)(l:List aT):List aT:=(l.drop i).take n
def iC(p:dz)(i n:Nat):List (bh aj×bh aj):=(kM (cut i n (lW p).1) (gZ p)).zip ((kM (cut i n (lW p).2) (gZ p)).map λv=>v.bind λx=>(fL gf).bind λ_=>.pure x)
def qc(p:dz)(i:Nat):List gm:=cZ p (17*i) 17
def lQ(p:dz)(i:Nat):List gm:=cZ p 0 (17*(i+1))
def TB(p:dz)(P:lM):Nat->BT|0=>(qb p P).ins 186 (oD (qc p 0))|i+1=>((TB p P i).ins (187+i) (oD (qc p (i+1)))).set 186 λ_=>oD (lQ p (i+1))
def TC(p:dz)(P:lM)(i:Nat):BT:=(TB p P i).ins (187+i) (oD (qc p (i+1)))
noncomputable abbrev eg(w:bL)(b:Bool):bL:=w.withFollow "special-get-raises" b
noncomputable abbrev gI(T:BT)(n G:Nat)(P:b8):iB:=⟨T,n,{},#[],{},G,P⟩
noncomputable abbrev RD:List aj->List aj:=λl=>.ref 186::l
noncomputable abbrev BQ:ah->bh Fin:=λd=>.pure (.done (.ret (.ref d)))
noncomputable abbrev P5:Unit->bh Fin:=λ_=>.pure (.done .next)
theorem V0(w:bL)(P:b8):ux gn PQ (eg w af) 28 (aa (.ref 6)) 1 1000 (gI (qb PQ (eg w af).params) 186 606 P) ⟨(wX (iC PQ 0 17)).wrap BQ ng id id,cT PQ,gf,c7⟩=aa (.ret (.ref 186),gI (TB PQ (eg w af).params 0) 187 657 P,cT PQ,gf):=by refine O vB (O tC (O IZ ?_));kernel_rfl
theorem Va(w:bL)(P:b8):ux gn PQ (eg w ay) 28 (aa (.ref 6)) 1 1000 (gI (qb PQ (eg w ay).params) 186 606 P) ⟨(wX (iC PQ 0 17)).wrap BQ ng id id,cT PQ,gf,c7⟩=aa (.ret (.ref 186),gI (TB PQ (eg w ay).params 0) 187 657 P,cT PQ,gf):=by refine O vB (O tC (O IZ ?_));kernel_rfl
noncomputable def mapR{L:Type}(f:Nat->L):List Nat->List L|[]=>[]|a::l=>f a::mapR f l
theorem AI{L:Type}{f g:Nat->L}:∀{l:List Nat},mapR f l=l.map g->∀i∈l,f i=g i|a::l,h,i,m=>(bB.mp m).elim (λe=>e▸(Ka h).1) λm=>AI (Ka h).2 i m
noncomputable def uQ:List Nat:=(gj 38).map Nat.succ
theorem Ei(C:1<=i)(J:i<=38):i∈uQ:=bF.mpr ⟨i-1,rI.mpr (iz (xgv C xdX) J),U1 C⟩
def P6(w:bL)(P:b8)(b:Bool)(i:Nat):Option (ek×iB×Code×aS):=IS CG PQ (eg w b) 28 (aa (.ref 6)) 1 1000 (gI (TB PQ (eg w b).params (i-1)) (186+i) (606+51*i) P) ⟨(Fast.tw11913375310210876947 (iC PQ (17*i) 17)).wrap BQ ng id RD,cT PQ,gf,c7⟩
def P7(w:bL)(P:b8)(b:Bool)(i:Nat):Option (ek×iB×Code×aS):=aa (.ret (.ref (186+i)),gI (TC PQ (eg w b).params (i-1)) (187+i) (606+51*i+3*bif m7 i 38 then 17 else 4) P,cT PQ,gf)
theorem xaI(w:bL)(P:b8):mapR (P6 w P af) uQ=uQ.map (P7 w P af):=by kernel_rfl
theorem xaJ(w:bL)(P:b8):mapR (P6 w P ay) uQ=uQ.map (P7 w P ay):=by kernel_rfl
theorem Kr{L P:Type}(a:List aj)(m:bh L)(K:L->bh P)(H:aj->bh P)(E:Bool->Bool)(B:List aj->List aj):(m.keep a).wrap K H E B=m.wrap K H E λl=>B (a++l):=by refine O (Sem.keep_eq_wrap ..) (O (L3 ..) ?_);rfl
theorem T9{L P:Type}(m:bh L)(h:aj->bh Unit)(K:L->bh P)(H:aj->bh P)(E:Bool->Bool)(B:List aj->List aj):(m.onRaise h).wrap K H E B=m.wrap K (λe=>((h e).bind λ_=>.raise e).wrap K H E B) E B:=by refine O (Sem.onRaise_eq_wrap ..) (O (L3 ..) ?_);rfl
noncomputable abbrev SP:=bh aj×bh aj
noncomputable def pW(a:List SP->Option ah->bh (Option ah)):List (List SP)->Option ah->bh (Option ah)|[],m=>.pure m|c::b,m=>(a c m).bind (pW a b)
theorem wz{L N P:Type}(m:bh L)(f:L->bh N)(g:N->bh P):(m.bind f).bind g=m.bind λa=>(f a).bind g:=bind_assoc m f g
section
variable{f:Option (bh aj)×bh aj->Option ah×List SP->bh (ForInStep (Option ah×List SP))}{fl:List SP->Option ah->bh (Option ah)}
theorem gather(C:∀(q:SP)(a:Option ah)(b:List SP),b.length+1≠17->f (aa q.1,q.2) (a,b)=.pure (.yield (a,b++[q]))):∀(l:List SP)(r:List (Option (bh aj)×bh aj))(a:Option ah)(b:List SP),b.length+l.length<17->forIn (l.map (λq=>(aa q.1,q.2))++r) (a,b) f=forIn r (a,b++l) f|[],r,a,b,_=>by exact O xcs (O (tQ ..) (O (g8 ..) rfl))|q::l,r,a,b,h=>by rw[fC]at h;refine O f6 (O zW (O (tP ..) (O (C q a b (bS (gO (iy (qv (jm _)) _) h))) ?_)));show forIn (l.map (λq=>(aa q.1,q.2))++r) (a,b++[q]) f=_;refine O (gather C l r a (b++[q]) (by rw[cL];exact gO (di (rD _ _)) h)) (O (fT ..) ?_);rfl
theorem JA(C:∀(q:SP)(a:Option ah)(b:List SP),b.length+1≠17->f (aa q.1,q.2) (a,b)=.pure (.yield (a,b++[q])))(J:∀(q:SP)(a:Option ah)(b:List SP),b.length+1=17->f (aa q.1,q.2) (a,b)=(fl (b++[q]) a).bind λm=>.pure (.yield (m,[])))(v:List SP)(V:v.length<17):∀(F:List (List SP))(a:Option ah),(∀c∈F,c.length=17)->forIn ((F.flatten++v).map λq=>(aa q.1,q.2)) (a,[]) f=(pW fl F a).bind λm=>.pure (m,v)|[],a,_=>by have:=gather C v [] a [] (by simpa using V);rw[g8]at this;rw[YS,tQ,this];rfl|c::F,a,h=>by have Z:=h c (aQ ..);obtain⟨M,q,rfl⟩:∃M q,c=M++[q]:=⟨c.dropLast,c.getLast (by intro z;rw[z]at Z;cases Z),(List.dropLast_concat_getLast _).symm⟩;rw[cL,Jh]at Z;refine O YH (O (fT ..) (O (fT ..) (O fY (O (gather C M _ a [] (tG (tK (di (jl _))) Z)) ?_))));rw[tQ,List.singleton_append,f6,tP,J q a M Z];show((fl (M++[q]) a).bind _).bind _=((fl (M++[q]) a).bind _).bind _;refine O (wz ..) (O (wz ..) ?_);refine congrArg _ (funext λm=>?_);exact JA C J v V F m λx S=>h x (aZ _ S)
end
noncomputable def q9(b:List SP)(a:Option ah):bh (Option ah):=match a with|none=>(wX b).bind λd=>.pure (aa d)|aa d=>(ic [.ref d] (wX b)).bind λT=>((ic [.ref d,.ref T] (Aq d (.ref T) ay)).onRaise λx=>(ic [.ref d,x] (runValue (.builtin "proto.let_go" {}))).bind λ_=>.pure ()).bind λ_=>.pure (aa d)
theorem xcF(F:List (List SP))(v:List SP)(V:v.length<17)(f:v≠[])(h:∀c∈F,c.length=17):we ((F.flatten++v).map λq=>(aa q.1,q.2))=(pW q9 F none).bind λm=>(q9 v m).bind λr=>match r with|aa d=>.pure (.ref d)|none=>BH:=by
 unfold we;dsimp only;rw[JA (fl:=q9) (λq a b D=>?_) (λq a b D=>?_) v V F none h];.show((pW q9 F none).bind _).bind _=_;refine O (wz ..) ?_;refine congrArg _ (funext λm=>?_);show qL (if v.isEmpty=af then _ else _) _=_;refine O (if_neg (by simpa using f)) ?_;cases m<;>rfl
 .have:((b++[(q.1,q.2)]).length==17)=ay:=by simp;exact λe=>D (congrArg (·+1) e)
  simp only[this,rE,if_false];rfl
 .have:((b++[(q.1,q.2)]).length==17)=af:=by simp;exact Af D
  simp only[this,if_true];have e:(b++[(q.1,q.2)]).isEmpty=ay:=by simp
  simp only[e,rE,if_false];cases a<;>rfl
section
theorem subs(w:bL)(P:b8)(b:Bool)(i:Nat)(C:1<=i)(J:i<=38):ux gn PQ (eg w b) 28 (aa (.ref 6)) 1 1000 (gI (TB PQ (eg w b).params (i-1)) (186+i) (606+51*i) P) ⟨(wX (iC PQ (17*i) 17)).wrap BQ ng id RD,cT PQ,gf,c7⟩=aa (.ret (.ref (186+i)),gI (TC PQ (eg w b).params (i-1)) (187+i) (606+51*i+3*bif m7 i 38 then 17 else 4) P,cT PQ,gf):=by
 refine O vB (O tC (O IZ ?_));cases b;.exact AI (xaJ w P) i (Ei C J)
 .exact AI (xaI w P) i (Ei C J)
theorem Xf(P:lM):mapR (λi=>((TC PQ P (i-1)).get 186,(TC PQ P (i-1)).get (186+i))) uQ=uQ.map λi=>(aa (oD (lQ PQ (i-1))),aa (oD (qc PQ i))):=by kernel_rfl
theorem xfb(P:lM)(i:Nat)(C:1<=i)(J:i<=38):(TC PQ P (i-1)).get 186=aa (oD (lQ PQ (i-1)))/\(TC PQ P (i-1)).get (186+i)=aa (oD (qc PQ i)):=L4 (AI (Xf P) i (Ei C J))
noncomputable def xo:List Int->Bool|a::b::l=>decide (a<b)&&xo (b::l)|_=>af
theorem OS:∀{l:List Int}{a:Int},xo (a::l)=af->∀x∈l,a<x
|b::l,a,h,x,m=>by
 unfold xo at h;replace h:=(dZ ..).mp h;have C:=of_decide_eq_true h.1;rcases bB.mp m with rfl|m;.exact C
 .exact mY C (OS h.2 x m)
theorem K5:∀{l:List Int},xo l=af->l.Nodup|[],_=>tU|[a],_=>by simp|a::b::l,h=>by refine mj.mpr ⟨λm=>absurd (OS h a m) (yg _),K5 ?_⟩;unfold xo at h;exact(vJ.mp h).2
theorem NJ:(wY PQ).length=650:=by kernel_rfl
theorem xcG:xo ((wY PQ).map (·.hash))=af:=by kernel_rfl
noncomputable def RE:aj->Bool|.int _ _=>af|_=>ay
noncomputable def isR:aj->Bool|.ref _=>af|_=>ay
theorem xcI:(wY PQ).all (λx=>RE x.key&&!isR x.val)=af:=by kernel_rfl
theorem xaK(h:RE v=af):∃k t,v=.int k t:=by cases v<;>first|exact⟨_,_,rfl⟩|cases h
theorem xaL(x:gm)(m:x∈wY PQ):(∃k t,x.key=.int k t)/\∀a,x.val≠.ref a:=by have c:=vJ.mp (cj.mp xcI x m);exact⟨xaK c.1,λa q=>by replace c:=q▸c;cases c.2⟩
theorem xcJ(i:Nat)(h:1<=i):lQ PQ (i-1)++qc PQ i=lQ PQ i:=by unfold lQ qc cZ;exact O Ad (O (congrArg (17*·) (qt h)) (O (Mn 17 i) (O List.take_add rfl)))
theorem xcK(i:Nat):lQ PQ i≠[]:=λq=>by have:=congrArg t8 q;unfold lQ cZ at this;replace this:=qx▸NJ▸jA▸Ad▸this;exact gb (xgt.mpr ⟨Nat.mul_pos dk (qz i),dk⟩) this
variable{n:Nat}{life:Life}{g:Array mJ}{dr:ny}{tk:Nat}{os:b8}
theorem Y8(P:lM)(i:Nat)(C:1<=i)(J:i<=38):∃k,k<=200/\cO () ⟨TB PQ P i,187+i,life,g,dr,tk,os⟩ k ⟨TC PQ P (i-1),187+i,life,g,dr,tk,os⟩ (Aq 186 (.ref (186+i)) ay):=by
 refine aW (xfb P i C J) λe U=>?_;have a:=xcJ i C;have d:(lQ PQ i).length<=650:=by unfold lQ cZ;exact O Ad (O jA (O NJ (tL _ _)))
 have b:=congrArg t8 a;replace b:=cL▸b;have c:(qc PQ i).length<=17:=by unfold qc cZ;exact O jA (vO _ _)
 have K:((lQ PQ i).map (·.hash)).Nodup:=(K5 xcG).sublist ((show(lQ PQ i).Sublist (wY PQ)from by unfold lQ cZ;exact O Ad (De ..)).map _);have y:=Xe (n:=187+i) (life:=life) (g:=g) (dr:=dr) (tk:=tk) (os:=os) (d:=186) (a:=186+i) dk (Jj (e7 187 i)) (Jj (di (Mp 186 i).symm)) (gb (vE C)) (beq_false_of_ne (by show¬186+i=1;exact gb (kC _ (gQ _ _)))) e U (λx m=>xaL x (List.mem_of_mem_drop (nL (by unfold qc cZ at m;exact m)))) (by exact O a K) (jv b (cD d)) (xcK _);replace y:=a▸y;have:TB PQ P i=(TC PQ P (i-1)).set 186 λ_=>oD (lQ PQ i):=by obtain⟨j,rfl⟩:∃j,i=j+1:=⟨i-1,i6 (qt C)⟩;rfl
 exact O this ⟨_,cD (iy (iy (qp (tE 6 c) 3) 1) 1),y⟩
end
theorem NK(w:bL)(P:b8)(b:Bool)(i:Nat)(C:1<=i)(J:i<=38)(K:Option ah->bh Fin)(H:aj->bh Fin):Top PQ (eg w b) (1000+200) (gI (TB PQ (eg w b).params (i-1)) (186+i) (606+51*i) P) ⟨(q9 (iC PQ (17*i) 17) (aa 186)).wrap K H id id,cT PQ,gf,c7⟩ (gI (TB PQ (eg w b).params i) (187+i) (606+51*i+3*bif m7 i 38 then 17 else 4) P) ⟨K (aa 186),cT PQ,gf,c7⟩:=by show Top _ _ _ _ ⟨(qL (Sem.keep [.ref 186] (wX (iC PQ (17*i) 17))) _).wrap K H id id,cT PQ,gf,c7⟩ _ _;refine O (qB ..) (O (Kr ..) ?_);refine(Top.seg (res:=λd=>.ret (.ref d)) λa e=>by cases e;rfl (subs w P b i C J) _ _).trans (m:=200) ?_;show Top _ _ _ _ ⟨(qL (Sem.onRaise (Sem.keep [.ref 186,.ref (186+i)] (Aq 186 (.ref (186+i)) ay)) _) _).wrap K H id id,cT PQ,gf,c7⟩ _ _;refine O (qB ..) (O (T9 ..) (O (Kr ..) ?_));refine aH (Y8 (life:={}) (g:=#[]) (dr:={}) (tk:=606+51*i+3*bif m7 i 38 then 17 else 4) (os:=P) (eg w b).params i C J) λk N y=>?_;exact(y.top _ _ _ _ gf).more N
theorem Y9(w:bL)(P:b8)(b:Bool)(K:Option ah->bh Fin)(H:aj->bh Fin):Top PQ (eg w b) 1000 (gI (qb PQ (eg w b).params) 186 606 P) ⟨(q9 (iC PQ 0 17) ak).wrap K H id id,cT PQ,gf,c7⟩ (gI (TB PQ (eg w b).params 0) 187 657 P) ⟨K (aa 186),cT PQ,gf,c7⟩:=by
 show Top _ _ _ _ ⟨(qL (wX (iC PQ 0 17)) _).wrap K H id id,cT PQ,gf,c7⟩ _ _;refine O (qB ..) ?_;cases b;.exact Top.seg (res:=λd=>.ret (.ref d)) λa e=>by cases e;rfl (Va w P) _ _
 .exact Top.seg (res:=λd=>.ret (.ref d)) λa e=>by cases e;rfl (V0 w P) _ _
theorem J3(a:List SP->Option ah->bh (Option ah))(c:List SP):∀(F:List (List SP))(m:Option ah),pW a (F++[c]) m=(pW a F m).bind (a c)|[],m=>by show(a c m).bind Sem.pure=a c m;exact bind_pure (a c m)|x::F,m=>by show(a x m).bind (pW a (F++[c]))=((a x m).bind (pW a F)).bind (a c);exact O (wz ..) (congrArg _ (funext λm=>J3 a c F m))
def nE(n:Nat):List (List SP):=(gj n).map λi=>iC PQ (17*i) 17
theorem chain(w:bL)(P:b8)(b:Bool):∀n,n<=37->∀(K:Option ah->bh Fin)(H:aj->bh Fin),Top PQ (eg w b) (1200*(n+1)) (gI (qb PQ (eg w b).params) 186 606 P) ⟨(pW q9 (nE (n+1)) ak).wrap K H id id,cT PQ,gf,c7⟩ (gI (TB PQ (eg w b).params n) (187+n) (606+51*(n+1)) P) ⟨K (aa 186),cT PQ,gf,c7⟩
|0,_,K,H=>by show Top _ _ _ _ ⟨(qL (q9 (iC PQ (17*0) 17) ak) (pW q9 [])).wrap K H id id,cT PQ,gf,c7⟩ _ _;exact O (qB ..) ((Y9 w P b _ H).more dk)|n+1,h,K,H=>by
 have e:nE (n+1+1)=nE (n+1)++[iC PQ (17*(n+1)) 17]:=by unfold nE;refine O xao (O fY ?_);rfl
 refine O e (O (J3 ..) (O (qB ..) (O (Mn 1200 (n+1)) ?_)));refine(chain w P b n (nN h) _ H).trans ?_;have:=NK w P b (n+1) (qz n) (nO h) K H;rw[show m7 (n+1) 38=af from Jj (qv h)]at this;have L:606+51*(n+1)+3*(bif af then 17 else 4)=606+51*(n+1+1):=rL 606 (51*(n+1)) 51;rw[L,show 186+(n+1)=187+n from(Mp 186 n).symm]at this;exact this
theorem yK(G:aO):∀l:List aT,(kM l G).length=l.length|[]=>rfl|a::l=>by show(kM l G).length+1=l.length+1;exact O (yK G l) rfl
theorem Ej(G:aO):∀(n:Nat)(l:List aT),kM l G=kM (l.take n) G++kM (l.drop n) G|0,l=>rfl|n+1,[]=>rfl|n+1,a::l=>by show aU a G::kM l G=aU a G::(kM (l.take n) G++kM (l.drop n) G);exact aR (Ej G n l) rfl
theorem yy:(lW PQ).1.length=650/\(lW PQ).2.length=650:=⟨by kernel_rfl,by kernel_rfl⟩
def zF(i:Nat):List SP:=(kM ((lW PQ).1.drop i) (gZ PQ)).zip ((kM ((lW PQ).2.drop i) (gZ PQ)).map λv=>v.bind λx=>(fL gf).bind λ_=>.pure x)
theorem K6(i:Nat):zF i=iC PQ i 17++zF (i+17):=by unfold zF iC cut;exact O (Ej _ 17 ((lW PQ).1.drop i)) (O (Ej _ 17 ((lW PQ).2.drop i)) (O fY (O xav (O xav (Kg (by rw[yK,aI,yK,jA,jA,Dm,Dm,yy.1,yy.2]))))))
theorem NL:∀n,zF 0=(nE n).flatten++zF (17*n)
|0=>rfl|n+1=>by
 have e:nE (n+1)=nE n++[iC PQ (17*n) 17]:=by unfold nE;refine O xao (O fY ?_);rfl
 refine O (NL n) (O e (O List.flatten_append (O (fT ..) (O (K6 (17*n)) (O (Mn 17 n) ?_)))));congr 1;show _=([iC PQ (17*n) 17]:List (List SP)).flatten++_;exact O YH (O YS (O (g8 ..) rfl))
theorem ED(i:Nat):(iC PQ i 17).length=min 17 (650-i):=by unfold iC cut;exact O gP (O (aI ..) (O (yK ..) (O (yK ..) (O jA (O jA (O Dm (O Dm (O yy.1 (O yy.2 (O (nW ..) rfl))))))))))
noncomputable abbrev sO:aS:=⟨69,0,69,13⟩
theorem xcL:aP PQ 18=.Assign [.Name "b3_exceptions" sO] (.Dict ((lW PQ).1.map aa) (lW PQ).2 gf) ⟨69,0,69,8704⟩:=by kernel_rfl
theorem Mw(G:aO):∀l:List aT,E9 (l.map aa) G=(kM l G).map aa|[]=>rfl|a::l=>by show aa (aU a G)::E9 (l.map aa) G=aa (aU a G)::(kM l G).map aa;exact O (Mw G l) rfl
theorem K7{L N:Type}:∀(l:List L)(r:List N),(l.map aa).zip r=(l.zip r).map λq=>(aa q.1,q.2)|[],_=>rfl|_::_,[]=>rfl|a::l,b::r=>by show(aa a,b)::(l.map aa).zip r=(aa a,b)::(l.zip r).map _;exact O (K7 l r) rfl
theorem V1(w:bL)(P:b8):ux gn PQ (eg w af) 28 (aa (.ref 6)) 1 200 (gI (TB PQ (eg w af).params 38) 225 2556 P) ⟨(kN (gZ PQ) "b3_exceptions" (.ref 186)).wrap P5 ng id id,cT PQ,sO,c7⟩=aa (.next,gI (xj PQ (eg w af).params) 225 2557 P,cT PQ,sO):=by refine O vB (O tC ?_);kernel_rfl
theorem Vb(w:bL)(P:b8):ux gn PQ (eg w ay) 28 (aa (.ref 6)) 1 200 (gI (TB PQ (eg w ay).params 38) 225 2556 P) ⟨(kN (gZ PQ) "b3_exceptions" (.ref 186)).wrap P5 ng id id,cT PQ,sO,c7⟩=aa (.next,gI (xj PQ (eg w ay).params) 225 2557 P,cT PQ,sO):=by refine O vB (O tC ?_);kernel_rfl
theorem Top.at{L:Type}(s:iB)(q R:aS)(f:Unit->bh L)(K:L->bh Fin)(H:aj->bh Fin)(E:Bool->Bool)(B:List aj->List aj):Top p w 1 s ⟨((fL q).bind f).wrap K H E B,cT p,R,c7⟩ s ⟨(f ()).wrap K H E B,cT p,q,c7⟩:=Top.step (by rfl) (by rfl) (by rfl)
theorem Za:lG (.Dict ((lW PQ).1.map aa) (lW PQ).2 gf) (aa (.Name "b3_exceptions" sO)) 69 (gZ PQ)=pure ay:=by rfl
theorem Zb:(E9 ((lW PQ).1.map aa) (gZ PQ)).zip ((kM (lW PQ).2 (gZ PQ)).map λv=>do let x<-v;fL gf;pure x)=((nE 38).flatten++iC PQ 646 17).map λq=>(aa q.1,q.2):=by
 have e:zF 0=(nE 38).flatten++iC PQ 646 17:=by
  refine O (NL 38) (O (K6 (17*38)) ?_);have:zF (17*38+17)=[]:=by unfold zF;refine O (CP (by rw[yy.1];decide)) ?_;rfl
  exact O this (O (g8 ..) rfl)
 refine aR e (O (Mw ..) (O (K7 ..) ?_));rfl
theorem xaM(w:bL)(b:Bool)(P:b8)(K:aj->bh Fin)(H:aj->bh Fin):Top PQ (eg w b) (1200*38+1200) (gI (qb PQ (eg w b).params) 186 606 P) ⟨(we (((nE 38).flatten++iC PQ 646 17).map λq=>(aa q.1,q.2))).wrap K H id id,cT PQ,gf,c7⟩ (gI (TB PQ (eg w b).params 38) 225 2556 P) ⟨K (.ref 186),cT PQ,gf,c7⟩:=by rw[xcF (nE 38) (iC PQ 646 17) (by refine O (ED ..) ?_;decide) (λq=>by have:=congrArg t8 q;rw[ED]at this;cases this) λc m=>by refine aH (bF.mp m) λi E z=>?_;subst z;refine O (ED ..) ?_;exact Kh (Nat.le_sub_of_add_le (cD (iy (mV 17 (YT (rI.mp E))) 17))),qB];refine(chain w P b 37 (cR _) _ H).trans ?_;exact O (qB ..) (NK w P b 38 dk dk _ H)
theorem Zc(w:bL)(b:Bool)(P:b8)(R:aS)(K:ek->bh Fin)(H:aj->bh Fin):Top PQ (eg w b) 50000 (gI (qb PQ (eg w b).params) 186 606 P) ⟨(dY (aP PQ 18) (gZ PQ)).wrap K H id id,cT PQ,R,c7⟩ (gI (xj PQ (eg w b).params) 225 2557 P) ⟨K .next,cT PQ,sO,c7⟩:=by
 refine O xcL (O (z4 (hs:=Za)) ?_);refine Top.more (n:=1+(1+(1200*38+1200+(1+200)))) ?_ dk;refine(Top.at _ _ _ _ _ _ _ _).trans ?_;show Top _ _ _ _ ⟨(qL (aU _ (gZ PQ)) _).wrap K H id id,cT PQ,_,c7⟩ _ _;refine O (qB ..) (O (Nd ..) ?_);refine(Top.at _ _ _ _ _ _ _ _).trans ?_;refine O Zb ?_;refine(xaM w b P _ H).trans ?_;refine(Top.at _ _ _ _ _ _ _ _).trans ?_;show Top _ _ _ _ ⟨(qL (kN (gZ PQ) "b3_exceptions" (.ref 186)) _).wrap K H id id,cT PQ,_,c7⟩ _ _;refine O (qB ..) ?_;cases b;.exact Top.seg (a:=()) (res:=λ_=>.next) (λ_ _=>rfl) (Vb w P) _ H
 .exact Top.seg (a:=()) (res:=λ_=>.next) (λ_ _=>rfl) (V1 w P) _ H
theorem S8(w:bL)(P:b8):PC 1200 16 ⟨65,0,65,8⟩ uN 168 539 ⟨66,0,66,6⟩ uO 179 599 ((w.withFollow "set-order" af).withFollow "special-get-raises" af) P:=by kernel_rfl
theorem S0(w:bL)(P:b8):PC 1200 16 ⟨65,0,65,8⟩ uN 168 539 ⟨66,0,66,6⟩ uO 179 599 ((w.withFollow "set-order" af).withFollow "special-get-raises" ay) P:=by kernel_rfl
theorem S1(w:bL)(P:b8):PC 1200 16 ⟨65,0,65,8⟩ uN 168 539 ⟨66,0,66,6⟩ uO 179 599 ((w.withFollow "set-order" ay).withFollow "special-get-raises" af) P:=by kernel_rfl
theorem SQ(w:bL)(P:b8):PC 1200 16 ⟨65,0,65,8⟩ uN 168 539 ⟨66,0,66,6⟩ uO 179 599 ((w.withFollow "set-order" ay).withFollow "special-get-raises" ay) P:=by kernel_rfl
theorem xcM(h:ux gn p w 28 (aa (.ref 6)) 1 n s ⟨(b9 [st] G).wrap Cy ng id id,cT p,a,c7⟩=aa (.next,b,cT p,c))(K:ek->bh Fin)(H:aj->bh Fin):Top p w n s ⟨(b9 (st::u) G).wrap K H id id,cT p,a,c7⟩ b ⟨(b9 u G).wrap K H id id,cT p,c,c7⟩:=by exact O (show st::u=[st]++u from rfl) (O (execs_app_wrap ..) (Top.seg (res:=id) (λ_ e=>e) h _ H))
theorem xaN(w:bL)(b:Bool)(P:b8)(R:aS)(u:List c6)(K:ek->bh Fin)(H:aj->bh Fin):Top PQ (eg w b) 50000 (gI (qb PQ (eg w b).params) 186 606 P) ⟨(b9 (aP PQ 18::u) (gZ PQ)).wrap K H id id,cT PQ,R,c7⟩ (gI (xj PQ (eg w b).params) 225 2557 P) ⟨(b9 u (gZ PQ)).wrap K H id id,cT PQ,sO,c7⟩:=by exact O (execs_cons_wrap ..) (Zc w b P R _ H)
theorem fG(h:IS CG p w 28 (aa (.ref 6)) 1 n s ⟨(SN [st] G).wrap Cy ng id id,cT p,a,c7⟩=aa (.next,b,cT p,c))(K:ek->bh Fin)(H:aj->bh Fin):Top p w n s ⟨(b9 (st::u) G).wrap K H id id,cT p,a,c7⟩ b ⟨(b9 u G).wrap K H id id,cT p,c,c7⟩:=by replace h:=Fast.te12563942051412417395.symm▸tC.symm▸vB.symm▸h;exact xcM h K H
theorem V2:bodyOf PQ=[aP PQ 1,aP PQ 2,aP PQ 3,aP PQ 4,aP PQ 5,aP PQ 6,aP PQ 7,aP PQ 8,aP PQ 9,aP PQ 10,aP PQ 11,aP PQ 12,aP PQ 13,aP PQ 14,aP PQ 15,aP PQ 16,aP PQ 17,aP PQ 18,aP PQ 19,aP PQ 20,aP PQ 21,aP PQ 22,aP PQ 23,aP PQ 24,aP PQ 25,aP PQ 26,aP PQ 27]:=by kernel_rfl
noncomputable abbrev eW(w:bL)(a b:Bool):bL:=(w.withFollow "set-order" a).withFollow "special-get-raises" b
theorem xaO(w:bL)(a b:Bool)(P:b8)(u:List c6)(K:ek->bh Fin)(H:aj->bh Fin):Top PQ (eW w a b) 1200 (ki uN 168 539 PQ (eW w a b) P) ⟨(b9 (aP PQ 16::u) (gZ PQ)).wrap K H id id,cT PQ,⟨65,0,65,8⟩,c7⟩ (ki uO 179 599 PQ (eW w a b) P) ⟨(b9 u (gZ PQ)).wrap K H id id,cT PQ,⟨66,0,66,6⟩,c7⟩:=by
 cases a<;>cases b;.exact fG (SQ w P) K H
 .exact fG (S1 w P) K H
 .exact fG (S0 w P) K H
 .exact fG (S8 w P) K H
theorem Vc(w:bL)(a b:Bool)(P:b8)(K:ek->bh Fin)(H:aj->bh Fin):Top PQ (eW w a b) 60000 (ki xD 32 282 PQ (eW w a b) P) ⟨(b9 (bodyOf PQ) (gZ PQ)).wrap K H id id,cT PQ,⟨0,0,0,0⟩,c7⟩ (ki uP 267 2609 PQ (eW w a b) P) ⟨K .next,cT PQ,⟨142,0,180,144⟩,c7⟩:=by refine O V2 ?_;refine Top.more (n:=10+(260+(41+(34+(32+(10+(60+(86+(10+(197+(249+(265+(247+(30+(10+(1200+(30+(50000+(31+(10+(27+(27+(27+(27+(27+(27+(27+0))))))))))))))))))))))))))) ?_ dk;refine Top.trans (fG (pq0 (eW w a b) P) K H) ?_;refine Top.trans (fG (pq1 (eW w a b) P) K H) ?_;refine Top.trans (fG (pq2 (eW w a b) P) K H) ?_;refine Top.trans (fG (pq3 (eW w a b) P) K H) ?_;refine Top.trans (fG (pq4 (eW w a b) P) K H) ?_;refine Top.trans (fG (pq5 (eW w a b) P) K H) ?_;refine Top.trans (fG (pq6 (eW w a b) P) K H) ?_;refine Top.trans (fG (pq7 (eW w a b) P) K H) ?_;refine Top.trans (fG (pq8 (eW w a b) P) K H) ?_;refine Top.trans (fG (pq9 (eW w a b) P) K H) ?_;refine Top.trans (fG (xeL (eW w a b) P) K H) ?_;refine Top.trans (fG (xeM (eW w a b) P) K H) ?_;refine Top.trans (fG (xeN (eW w a b) P) K H) ?_;refine Top.trans (fG (xeO (eW w a b) P) K H) ?_;refine Top.trans (fG (xeP (eW w a b) P) K H) ?_;refine Top.trans (xaO w a b P _ K H) ?_;refine Top.trans (fG (xeQ (eW w a b) P) K H) ?_;refine Top.trans (xaN (w.withFollow "set-order" a) b P _ _ K H) ?_;refine Top.trans (fG (xeR (eW w a b) P) K H) ?_;refine Top.trans (fG (xeS (eW w a b) P) K H) ?_;refine Top.trans (fG (xeT (eW w a b) P) K H) ?_;refine Top.trans (fG (xeU (eW w a b) P) K H) ?_;refine Top.trans (fG (xeV (eW w a b) P) K H) ?_;refine Top.trans (fG (xeW (eW w a b) P) K H) ?_;refine Top.trans (fG (xeX (eW w a b) P) K H) ?_;refine Top.trans (fG (xeY (eW w a b) P) K H) ?_;refine Top.trans (fG (xeZ (eW w a b) P) K H) ?_;exact Top.refl _ _
noncomputable def xq(p:dz):bh (aj×ah):=(Pq p.main).bind λi=>(newBodyFrame i oX oX).bind λK=>.pure (i,K)
noncomputable def BR:aj×ah->ek|(.ref c,a)=>if a=c+1 then .ret (.ref c)else .brk|_=>.next
theorem Xg(x:aj×ah)(h:BR x=.ret (.ref 30)):x=(.ref 30,31):=by
 obtain⟨v,K⟩:=x;cases v with|ref c=>
have h:(if K=c+1 then Flow.ret (.ref c)else .brk)=.ret (.ref 30):=h;by_cases e:K=c+1;.replace h:=if_pos e▸h;obtain rfl:c=30:=Kc (Flow.ret.inj h);exact O e rfl
.replace h:=if_neg e▸h;cases h|_=>cases h
theorem Zd(w:bL)(P:b8):ux gn PQ w 28 (aa (.ref 6)) 0 40 (ki Ta 28 276 PQ w P) ⟨(xq PQ).wrap (λa=>.pure (.done (BR a))) ng id id,.builtin "claim.caller" {},default,[]⟩=aa (.ret (.ref 30),ki xD 32 282 PQ w P,.builtin "claim.caller" {},default):=by refine O vB (O tC ?_);kernel_rfl
theorem xaP:blockStart (bodyOf PQ) (gZ PQ)=.pure ():=by kernel_rfl
theorem Ze(w:bL)(s:au)(R:aS):qa gn PQ w 28 (aa (.ref 6)) 10 s ⟨Cy .next,cT PQ,R,c7⟩=aa s:=by rfl
theorem Vd(w:bL):∃a b,eW w a b=w:=⟨w.params.followText "set-order",w.params.followText "special-get-raises",by have C:=U3 w "set-order";have J:=U3 w "special-get-raises";show(w.withFollow _ _).withFollow _ _=w;exact O C (O J rfl)⟩
theorem Zf:HF PQ=⟨(xq PQ).bind λc=>(run (.body (bodyOf PQ) {scope:=PQ.main.scope,locals:=oX,globals:=oX,cells:=[],code:=c.1,frame:=aa c.2})).bind λ_=>(ret .none:bh Fin),.builtin "claim.caller" {},default,[]⟩:=by unfold xq;refine O (wz ..) ?_;show _=(⟨(Pq PQ.main).bind λi=>((newBodyFrame i oX oX).bind λK=>.pure (i,K)).bind _,_,_,_⟩:uL);unfold HF;congr 1;refine congrArg (qL (Pq PQ.main)) (funext λi=>?_);refine O (wz ..) ?_;rfl
theorem Uv(D:through t=ay)(C:stepOk 28 (aa (.ref 6)) t=af)(J:step (B9 gn) p w s t=.go a g)(h:qa gn p w 28 (aa (.ref 6)) N a g=aa r):qa gn p w 28 (aa (.ref 6)) (N+1) s t=aa r:=by unfold qa;exact O D (O C (O J h))
theorem Zg(w:bL)(P:b8):qa gn PQ w 28 (aa (.ref 6)) (40+(1+(60000+10))) (ki Ta 28 276 PQ w P).abs (HF PQ)=aa (ki uP 267 2609 PQ w P).abs:=by
 refine O Zf ?_;refine kZ (Vd w) λa b e=>?_;have A:=Vc w a b P Cy (leaveH (gZ PQ));replace A:=e▸A;have E:=Ze w (ki uP 267 2609 PQ w P).abs ⟨142,0,180,144⟩;have S:=A 10 _ E;refine aH (seg_top (res:=BR) (K':=λc=>(run (.body (bodyOf PQ) {scope:=PQ.main.scope,locals:=oX,globals:=oX,cells:=[],code:=c.1,frame:=aa c.2})).bind λ_=>(ret .none:bh Fin)) (H':=Sem.raise) (gd:=id) (lv:=id) (B:=[]) rfl 40 (ki Ta 28 276 PQ w P).abs ⟨(xq PQ).wrap (λa=>.pure (.done (BR a))) ng id id,.builtin "claim.caller" {},default,[]⟩ ⟨(xq PQ).bind λc=>(run (.body (bodyOf PQ) {scope:=PQ.main.scope,locals:=oX,globals:=oX,cells:=[],code:=c.1,frame:=aa c.2})).bind λ_=>(ret .none:bh Fin),.builtin "claim.caller" {},default,[]⟩ _ _ _ _ ⟨rfl,rfl,.inl ⟨rfl,rfl,xq PQ,rfl,by exact O (xan ..) rfl⟩⟩ (segRun_of (Zd w P))) λx Y t=>?_;have Y:=Xg x Y;subst Y;have d:qa gn PQ w 28 (aa (.ref 6)) (1+(60000+10)) (ki xD 32 282 PQ w P).abs ⟨(run (.body (bodyOf PQ) (gZ PQ))).bind λ_=>(ret .none:bh Fin),.builtin "claim.caller" {},default,[]⟩=aa (ki uP 267 2609 PQ w P).abs:=by
  have:qa gn PQ w 28 (aa (.ref 6)) (60000+10) (ki xD 32 282 PQ w P).abs ⟨B9 gn (.body (bodyOf PQ) (gZ PQ)),cT PQ,⟨0,0,0,0⟩,c7⟩=aa (ki uP 267 2609 PQ w P).abs:=by exact O (body_wrap ..) (O xaP S)
  exact O (jk ..) (Uv (by rfl) (by rfl) (by rfl) this)
 exact t _ _ d
def Te(p:dz)(P:lM):BT:=cu [QM P,BP P,G3 P,G4 P,GS P,QN P,QO P,QS P,QT P,QU P,QE P,OE P,Gb,Bg P,Gd,dD,Ge,Gf,Gp P,Gg,Gh P,Bh P,Gi,Gj,Gk,Gl,Gn,Gq P]
noncomputable def AJ(M:dz->bL->iB->uL->Option (iB×uL))(p:dz)(w:bL):Nat->iB->uL->Option iB|0,_,_=>none|n+1,s,t=>match t.atExitBegin with|aa []=>aa s|aa (_::_)=>none|none=>match M p w s t with|aa (a,g)=>AJ M p w n a g|none=>none
theorem Ku{p:dz}{w:bL}:∀{n:Nat}{s S:iB}{t:uL},AJ (Cz (B9 gn)) p w n s t=some S->F1 gn p w n s.abs t=some S.abs|0,_,_,_,h=>by cases h|n+1,s,S,t,h=>by unfold AJ at h;unfold F1;cases L:t.atExitBegin with
|some x=>replace h:=L▸h;cases x with|nil=>cases h;rfl|cons=>cases h
|none=>replace h:=L▸h;cases W:Cz (B9 gn) p w s t with|none=>replace h:=W▸h;cases h|some r=>obtain⟨J,c⟩:=r;replace h:=W▸h;dsimp only;exact O (stepT_spec W) (Ku h)
theorem Zh(w:bL):AJ (Fast.tw10156331382660048174 (Fast.tw11892475500146522536 CG)) (jo PQ) w 900 ⟨.nil,0,(lO (jo PQ)).1.heap.life,#[],(lO (jo PQ)).1.drawn,(lO (jo PQ)).1.toks,(lO (jo PQ)).1.os⟩ (lO (jo PQ)).2=aa ⟨Te PQ w.params,28,{},#[],{},276,(lO (jo PQ)).1.os⟩:=by kernel_rfl
theorem V3(w:bL):(λP=>(fenceModules? PQ ⟨uy (Te PQ w.params) 28 {},#[],{},276,P⟩).map λs=>(s.heap,s.gens,s.drawn,s.toks))=λ_=>aa (uy (Ta PQ w.params) 28 {},#[],{},276):=by kernel_rfl
def H0(P:lM):aB:=uy (Ta PQ P) 28 {}
def H1(P:lM):aB:=uy (uP PQ P) 267 {}
def qV:dz:=view PQ [27]
noncomputable def qP:List ai:=PQ.main.scope.names.map (·.1)
end MineH
namespace Mine
open PySem PySem.W PySem.Calls PyProof.Rows
noncomputable abbrev RL:RowW:=OpenRow.toRowW (OpenLaw.row PySem.Challenge.rw_wz0025_01)
def dL:DefRec×List (ai×aT):=(defOf MineH.qV "law").getD ⟨⟨"",default,[],default,default⟩,[]⟩
noncomputable def WalkAt(w:bL):Prop:=WalkO MineH.qV MineH.qP (λ_ _=>True) (λA h=>A=w/\∀b o,(MineH.H1 w.params).get? b=aa o->h.get? b=aa o) RL dL.1 dL.2 λf K=>dP f K
theorem RG:∃w,WalkAt w->∀a,WalkAt a:=(Classical.em (∀a,WalkAt a)).elim (λh=>⟨⟨default,{strHash:=default,shareClass:=default,mergeTok:=default,idOf:=default,idOfShared:=default,followText:=default,idOfImm:=default}⟩,λ_=>h⟩) λh=>(Classical.not_forall.mp h).imp λw n x=>absurd x n
noncomputable def w:bL:=Classical.choose RG
theorem Xh(h:WalkAt w):∀a,WalkAt a:=Classical.choose_spec RG h
end Mine
namespace MineH
open PySem PySem.W Mine
theorem xfc(T:BT)(P:b8):L5 ⟨T,28,{},#[],{},276,P⟩=⟨uy T 28 {},#[],{},276,P⟩:=rfl
theorem Xi(w:bL):F1 gn (jo PQ) w 900 (lO (jo PQ)).1 (lO (jo PQ)).2=aa ⟨uy (Te PQ w.params) 28 {},#[],{},276,(lO (jo PQ)).1.os⟩:=by
 have h:=Zh w;replace h:=tC.symm▸Fast.te11892475500146522536.symm▸Fast.te10156331382660048174.symm▸h;have k:=@Ku (jo PQ) w 900 _ _ _ h;have e:L5 ⟨.nil,0,(lO (jo PQ)).1.heap.life,#[],(lO (jo PQ)).1.drawn,(lO (jo PQ)).1.toks,(lO (jo PQ)).1.os⟩=(lO (jo PQ)).1:=by kernel_rfl
 exact(congrArg (λs=>F1 gn (jo PQ) w 900 s (lO (jo PQ)).2) e).symm.trans (k.trans (congrArg aa (xfc _ _)))
theorem Zi(w:bL):(fencedOpening gn PQ w 60051).map (λs=>(s.heap,s.gens,s.drawn,s.toks))=aa (H0 w.params,#[],{},276):=open_cut (M:=900) (He:=λP=>uy (Te PQ P) 28 {}) Xi (by rfl) V3 w
theorem Zj(w:bL):((H0 w.params).isNs mF&&(#[]:Array mJ).size==0,(H0 w.params).objs.size,(H0 w.params).nsMap mF "__annotations__")=(af,28,aa (.ref 6)):=by kernel_rfl
theorem xaQ(w:bL):(staticsOk (DR PQ.main.body) (H0 w.params) (H1 w.params)&&namesBound PQ (H1 w.params)&&laidKept (H0 w.params) (H1 w.params))=af:=by kernel_rfl
theorem xaR(w:bL):(λP=>openSeen qV qP (DR PQ.main.body) (λ_=>af) af ⟨H1 w.params,#[],{},2609,P⟩)=λ_=>openGood qV qP:=by kernel_rfl
theorem P8(T:BT)(n G:Nat)(P:b8):L5 ⟨T,n,{},#[],{},G,P⟩=⟨uy T n {},#[],{},G,P⟩:=rfl
theorem xaS(w:bL)(P:b8):qa gn PQ w 28 (aa (.ref 6)) (40+(1+(60000+10))) ⟨H0 w.params,#[],{},276,P⟩ (HF PQ)=aa ⟨H1 w.params,#[],{},2609,P⟩:=by have r:=Zg w P;rewrite[P8,P8]at r;exact r
theorem xfd{a b c d:Bool}(h:(a&&b&&d)=af)(Z:c=af):(a&&b&&c&&d)=af:=by subst Z;rw[tW];exact h
theorem pr3{L N P:Type}{a y:L}{b g:N}{c:P}(C:a=y)(J:b=g):(a,b,c)=(y,g,c):=by rw[C,J]
theorem Xj(w:bL):(λP=>(staticsOk (DR PQ.main.body) (H0 w.params) (H1 w.params)&&namesBound PQ (H1 w.params)&&gensDone ⟨H1 w.params,#[],{},2609,P⟩&&laidKept (H0 w.params) (H1 w.params),openSeen qV qP (DR PQ.main.body) (λ_=>af) af ⟨H1 w.params,#[],{},2609,P⟩,H1 w.params))=λ_=>(af,openGood qV qP,H1 w.params):=funext λP=>@pr3 _ _ _ _ _ _ _ _ (@xfd _ _ _ _ (xaQ w) (@rfl _ af)) (congrFun (xaR w) P)
theorem left:LeftO PQ qV qP (λ_=>af) (λs=>s.heap) (λw=>H1 w.params) 60051:=@LeftO.of_pieces PQ qV qP (λ_=>af) aB (λs=>s.heap) (λw=>H1 w.params) 60051 af H0 H1 #[] #[] {} {} 276 2609 28 (aa (.ref 6)) 60051 Zi Zj xaS (@rfl _ af) Xj
end MineH
namespace Mine
open PySem PySem.W PySem.Calls PyProof.Rows
section
inductive T where|none|bool(b:Bool)|int(i:Int)|str(x:ai)|bytes(b:Array UInt8)|list(l:List T)|tup(l:List T)|dS(y:List ai)(K:List T)|dI(y:List Int)(K:List T)|aJ(v:aj)
noncomputable abbrev PW:Program:=PySem.Challenge.pw_wz0025_01
mutual
noncomputable def Rep(X:List ah)(h:aB):T->aj->Prop|.none,v=>v=.none|.bool b,v=>v=.bool b|.int i,v=>∃t,v=.int i t|.str x,v=>∃t,v=.str x t|.bytes b,v=>∃t,v=.bytes b t|.list l,v=>∃a xs,v=.ref a/\a∉X/\h.PlainList a xs/\az X h l xs.toList|.tup l,v=>∃a xs,v=.ref a/\a∉X/\h.IsTuple a xs/\az X h l xs.toList|.dS ks vs,v=>∃a us,v=.ref a/\a∉X/\(a==eo)=ay/\h.DictOf (strKind PW w) a (ks.zip us)/\us.length=ks.length/\az X h vs us|.dI ks vs,v=>∃a us,v=.ref a/\a∉X/\(a==eo)=ay/\h.DictOf (ow PW w) a (ks.zip us)/\us.length=ks.length/\az X h vs us|.aJ u,v=>v=u
noncomputable def az(X:List ah)(h:aB):List T->List aj->Prop|[],[]=>True|t::ts,v::vs=>Rep X h t v/\az X h ts vs|[],_::_=>False|_::_,[]=>False
end
noncomputable def Kp(h h':aB):Prop:=∀b o,h.get? b=aa o->h'.get? b=aa o
noncomputable def bg(X:List ah)(h h':aB):Prop:=∀b o,b∉X->h.get? b=aa o->h'.get? b=aa o
theorem Kp.bN(k:Kp h h')(X:List ah):bg X h h':=λb o _ e=>k b o e
theorem Kp.trans(x:Kp a b)(y:Kp b c):Kp a c:=λd o e=>y d o (x d o e)
theorem bg.trans(x:bg X a b)(y:bg X b c):bg X a c:=λd o n e=>y d o n (x d o n e)
theorem DU{K:Type}[DecidableEq K]{s:KeyKind PW w K}{h h':aB}{a:ah}{b:List (K×aj)}(x:h.DictOf s a b)(k:∀o,h.get? a=aa o->h'.get? a=aa o):h'.DictOf s a b:=x.at k
theorem Aj{K:Type}[DecidableEq K]{s:KeyKind PW w K}{h:aB}{a:ah}{b:List (K×aj)}(x:h.DictOf s a b):∃o,h.get? a=aa o:=x.imp λo q=>q.elim λ_ q=>q.elim λ_ q=>q.1
theorem Rep.map{X Y:List ah}{h h':aB}(k:∀a o,a∉X->h.get? a=aa o->a∉Y/\h'.get? a=aa o)(t:T):∀v,Rep X h t v->Rep Y h' t v:=T.rec (motive_1:=λt=>∀v,Rep X h t v->Rep Y h' t v) (motive_2:=λF=>∀K,az X h F K->az Y h' F K) (λ_ r=>r) (λ_ _ r=>r) (λ_ _ r=>r) (λ_ _ r=>r) (λ_ _ r=>r) (λ_ G _ r=>cI r λa W e n p q=>⟨a,W,e,p.elim λ_ x=>(k a _ n x).1,p.at λo x=>(k a o n x).2,G _ q⟩) (λ_ G _ r=>cI r λa W e n p q=>⟨a,W,e,p.elim λ_ x=>(k a _ n x.1).1,p.at λo x=>(k a o n x).2,G _ q⟩) (λ_ _ G _ r=>jN r λa W e n m p z q=>⟨a,W,e,(Aj p).elim λ_ x=>(k a _ n x).1,m,p.at λo x=>(k a o n x).2,z,G _ q⟩) (λ_ _ G _ r=>jN r λa W e n m p z q=>⟨a,W,e,(Aj p).elim λ_ x=>(k a _ n x).1,m,p.at λo x=>(k a o n x).2,z,G _ q⟩) (λ_ _ r=>r) λK r=>by cases K with|nil=>trivial|cons=>exact r
 (λt F i j K r=>by cases K with|nil=>exact r|cons v K=>exact⟨i v r.1,j K r.2⟩) t
@[elab_as_elim]theorem az.ind{X:List ah}{h:aB}{P:List T->List aj->Prop}(n:P [] [])(c:∀t v F K,Rep X h t v->az X h F K->P F K->P (t::F) (v::K)){F:List T}:∀{K:List aj},az X h F K->P F K:=by induction F with
|nil=>intro K r;cases K with|nil=>exact n|cons=>exact r.elim
|cons t F G=>intro K r;cases K with|nil=>exact r.elim|cons v K=>exact c t v F K r.1 r.2 (G r.2)
theorem az.map{X Y:List ah}{h h':aB}(k:∀a o,a∉X->h.get? a=aa o->a∉Y/\h'.get? a=aa o){F:List T}{K:List aj}(r:az X h F K):az Y h' F K:=az.ind (P:=λF K=>az Y h' F K) trivial (λt v _ _ x _ i=>⟨Rep.map k t v x,i⟩) r
theorem Rep.kp(k:bg X h h')(t:T)(v:aj)(r:Rep X h t v):Rep X h' t v:=Rep.map (λa o n e=>⟨n,k a o n e⟩) t v r
theorem az.kp(k:bg X h h')(F:List T)(K:List aj)(r:az X h F K):az X h' F K:=az.map (λa o n e=>⟨n,k a o n e⟩) r
theorem get?_none_of_le{h:aB}(k:h.objs.size<=a):h.get? a=none:=by cases e:h.get? a with|none=>rfl|some o=>exact absurd (dR e) (rS.mpr k)
theorem g9{h h':aB}(k:Kp h h')(n:h'.get? a=none):h.get? a=none:=by cases q:h.get? a with|none=>rfl|some z=>rw[k a z q]at n;cases n
noncomputable def bJ(X:List ah)(h:aB):Prop:=∀a∈X,∃o,h.get? a=aa o
theorem bJ.kp(l:bJ X h)(k:Kp h h'):bJ X h':=λa m=>(l a m).imp λo e=>k a o e
theorem bJ.new{h:aB}(l:bJ X h):h.objs.size∉X:=λm=>by refine aE (l _ m) λo e=>?_;exact vV _ (dR e)
theorem OT{X Y:List ah}{h:aB}(y:∀a∈Y,h.get? a=ak\/a∈X)(a:ah)(o:bR)(n:a∉X)(e:h.get? a=aa o):a∉Y/\h.get? a=aa o:=⟨λm=>(y a m).elim (λz=>gone e z) n,e⟩
theorem Rep.wide{X Y:List ah}{h:aB}(y:∀a∈Y,h.get? a=ak\/a∈X)(t:T)(v:aj)(r:Rep X h t v):Rep Y h t v:=Rep.map (OT y) t v r
theorem az.wide{X Y:List ah}{h:aB}(y:∀a∈Y,h.get? a=ak\/a∈X)(F:List T)(K:List aj)(r:az X h F K):az Y h F K:=az.map (OT y) r
theorem az.length{X:List ah}{h:aB}{F:List T}{K:List aj}(r:az X h F K):K.length=F.length:=az.ind (P:=λF K=>K.length=F.length) rfl (λ_ _ _ _ _ _ i=>congrArg (·+1) i) r
theorem jW{L:Type}{l:List L}(h:l.length=n+1):∃a r,l=a::r/\r.length=n:=by cases l with|nil=>cases h|cons a r=>exact⟨a,r,rfl,Af h⟩
theorem OU{L:Type}{l:List L}(h:l.length=1):∃a,l=[a]:=Jd.mp h
theorem OV{L:Type}{l:List L}(h:l.length=2):∃a b,l=[a,b]:=by refine eK (jW h) λa r I C=>?_;subst I;refine aE (OU C) λb I=>?_;subst I;exact⟨a,b,rfl⟩
theorem yX{L:Type}{l:List L}(h:l.length=3):∃a b c,l=[a,b,c]:=by refine eK (jW h) λa r I C=>?_;subst I;refine kZ (OV C) λb c I=>?_;subst I;exact⟨a,b,c,rfl⟩
theorem xcN{L:Type}{l:List L}(h:l.length=4):∃a b c d,l=[a,b,c,d]:=by refine eK (jW h) λa r I C=>?_;subst I;refine iT (yX C) λb c d I=>?_;subst I;exact⟨a,b,c,d,rfl⟩
theorem oM{L:Type}{l:List L}(h:l.length=5):∃a b c d e,l=[a,b,c,d,e]:=by refine eK (jW h) λa r I C=>?_;subst I;refine eK (jW C) λb q I J=>?_;subst I;refine iT (yX J) λc d e I=>?_;subst I;exact⟨a,b,c,d,e,rfl⟩
section
variable{X:List ah}{h:aB}{t u x:T}{K:List aj}
theorem az.ju(r:az X h [t] K):∃a,K=[a]:=OU r.length
theorem az.nF(r:az X h [t,u] K):∃a b,K=[a,b]:=OV r.length
theorem az.zf(r:az X h [t,u,x] K):∃a b c,K=[a,b,c]:=yX r.length
end
theorem az.at{X:List ah}{h:aB}{F:List T}{K:List aj}(r:az X h F K):∀{i:Nat}{t:T},F[i]?=aa t->∃v,K[i]?=aa v/\Rep X h t v:=az.ind (P:=λF K=>∀{i:Nat}{t:T},F[i]?=aa t->∃v,K[i]?=aa v/\Rep X h t v) (λe=>gone e rfl) (λt v F K x _ G=>λ{i u}e=>by cases i with|zero=>exact⟨v,rfl,nR e▸x⟩|succ i=>exact G e) r
theorem az.append{X:List ah}{h:aB}{F W:List T}{K a:List aj}(r:az X h F K)(q:az X h W a):az X h (F++W) (K++a):=az.ind (P:=λF K=>az X h (F++W) (K++a)) q (λ_ _ _ _ x _ i=>⟨x,i⟩) r
structure Ks(s s':au):Prop where
kp:Kp s.heap s'.heap
eq:s'={s with heap:=s'.heap,toks:=s'.toks}
theorem Ks.refl(s:au):Ks s s:=⟨λ_ _ e=>e,rfl⟩
theorem Ks.trans(x:Ks a b)(y:Ks b c):Ks a c:=by refine⟨x.kp.trans y.kp,?_⟩;have e:=x.eq;have U:=y.eq;refine O U ?_;exact O e rfl
theorem Ks.tok(s:au)(t:Nat):Ks s {s with toks:=t}:=⟨λ_ _ e=>e,rfl⟩
theorem Ks.mk'(s:au)(h:aB)(t:Nat)(k:Kp s.heap h):Ks s {s with heap:=h,toks:=t}:=⟨k,rfl⟩
theorem Ks.push(s:au)(o:bR):Ks s {s with heap:=s.heap.push o}:=⟨λ_ _ e=>bX _ e,rfl⟩
structure cG(A:aG)(k:Nat):Prop where
hd:A.handled=ak
dep:A.depth+k<660
jH:A.units+8*k<2000
theorem cG.deep{A:aG}(u:cG A (n+1))(G:aO):cG (A.deeper G) n:=⟨u.hd,HM u.dep,GZ u.jH⟩
noncomputable def EV(A:aG)(G:aO)(X:List ah)(B:aB)(e:aT)(t:T):Prop:=∀(s:au)(E:aj->au->Prop),Kp B s.heap->av (aA PW w) A (aU e G) (λv S=>Ks s S/\Rep X S.heap t v) E s
noncomputable def TV(A:aG)(G:aO)(B:aB)(e:aT)(b:Bool):Prop:=∀(s:au)(E:aj->au->Prop),Kp B s.heap->av (aA PW w) A (xh e G (aU e G)) (λr S=>Ks s S/\r=b) E s
section
variable{A:aG}{G:aO}{X:List ah}{B:aB}
theorem EV.int{i:Int}{k R}:EV A G X B (.Constant (.int i) k R) (.int i):=λs E q=>wpAny_Constant_int ⟨.tok ..,⟨_,rfl⟩⟩
theorem EV.str{x:ai}{k R}:EV A G X B (.Constant (.str x) k R) (.str x):=λs E q=>Constant_str ⟨.tok ..,⟨_,rfl⟩⟩
theorem EV.bool{k R}:EV A G X B (.Constant (.bool b) k R) (.bool b):=λs E q=>λ_ _ _=>⟨.refl _,rfl⟩
theorem EV.none{k R}:EV A G X B (.Constant .none k R) .none:=λs E q=>λ_ _ _=>⟨.refl _,rfl⟩
theorem EV.bytes{b:List UInt8}{k R}:EV A G X B (.Constant (.bytes b) k R) (.bytes b.toArray):=λs E q=>λ_ _ _=>⟨.tok ..,⟨_,rfl⟩⟩
noncomputable def bE(A:aG)(X:List ah)(B:aB)(n:Operator)(t u r:T):Prop:=∀(s:au)(E:aj->au->Prop)(a b:aj),Kp B s.heap->Rep X s.heap t a->Rep X s.heap u b->av (aA PW w) A (QV n a b) (λv S=>Ks s S/\Rep X S.heap r v) E s
noncomputable def aY(A:aG)(X:List ah)(B:aB)(n:CmpOp)(t u:T)(r:Bool):Prop:=∀(s:au)(E:aj->au->Prop)(a b:aj),Kp B s.heap->Rep X s.heap t a->Rep X s.heap u b->av (aA PW w) A (compareOp n a b) (λv S=>Ks s S/\v=.bool r) E s
theorem EV.bin{l n r R}{t u v:T}(V:EV A G X B l t)(D:EV A G X B r u)(g:bE A X B n t u v):EV A G X B (.BinOp l n r R) v:=λs E q=>wpAny_BinOp (aC (V s E q) (λa U x=>aC (D U E (q.trans x.1.kp)) (λb J y=>aC (g J E a b (q.trans (x.1.trans y.1).kp) (Rep.kp (y.1.kp.bN X) _ _ x.2) y.2) (λc j z=>⟨(x.1.trans y.1).trans z.1,z.2⟩) λ_ _ e=>e) λ_ _ e=>e) λ_ _ e=>e)
theorem EV.cmp{l n r R}{t u:T}{b:Bool}(V:EV A G X B l t)(D:EV A G X B r u)(g:aY A X B n t u b)(Q:Nf n r=ay:=by with_unfolding_all rfl):EV A G X B (.Compare l [n] [r] R) (.bool b):=λs E q=>wpAny_Compare1 (aC (V s E q) (λa U x=>aC (D U E (q.trans x.1.kp)) (λb J y=>aC (g J E a b (q.trans (x.1.trans y.1).kp) (Rep.kp (y.1.kp.bN X) _ _ x.2) y.2) (λc j z=>⟨(x.1.trans y.1).trans z.1,z.2⟩) λ_ _ e=>e) λ_ _ e=>e) λ_ _ e=>e) Q
end
end
noncomputable def jT{L:Type}(A:Nat->Nat->Bool):KasT L->L|.ret a=>a|.ask i j k=>jT A (k (A i j))
noncomputable abbrev Gm:=ai->Option T
noncomputable def upd(P:Gm)(x:ai)(t:T):Gm:=λy=>if y=x then aa t else P y
theorem pJ(P:Gm)(x:ai)(t:T):upd P x t x=aa t:=by simp[upd]
theorem eE(P:Gm)(t:T)(h:y≠x):upd P x t y=P y:=by simp[upd,h]
noncomputable def br(i P:Gm):Prop:=∀x t,i x=aa t->P x=aa t
theorem br.refl(P:Gm):br P P:=λ_ _ e=>e
theorem br.iK(h:br i a)(e:a x=aa t):br (upd i x t) a:=λy u q=>by
 by_cases p:y=x;.subst p;replace q:=pJ ..▸q;cases q;exact e
 .replace q:=eE _ _ p▸q;exact h y u q
theorem br.out(h:br i a)(e:i x=ak):br i (upd a x t):=λy u q=>by
 by_cases p:y=x;.subst p;exact gone q e
 .exact O (eE _ _ p) (h y u q)
noncomputable def uR(h:aB)(G:aO)(x:ai)(v:aj):Prop:=∃u,h.Ns G.globals u/\(u x=aa v\/u x=ak/\∃j,h.Ns G.builtins j/\j x=aa v)
theorem uR.at{h h':aB}{G:aO}(g:uR h G x v)(k:∀o,h.get? G.globals=aa o->h'.get? G.globals=aa o)(w:∀o,h.get? G.builtins=aa o->h'.get? G.builtins=aa o):uR h' G x v:=g.imp λu z=>⟨z.1.at' k,z.2.imp id λz=>⟨z.1,z.2.imp λj z=>⟨z.1.at' w,z.2⟩⟩⟩
noncomputable def lY(k:Option pP):Bool:=k==ak||k==aa .globalImplicit
noncomputable def iU(h:aB)(G:aO)(x:ai)(v:aj):Prop:=lY (G.kindOf x)=af/\uR h G x v\/(G.kindOf x=aa .local/\∃m,h.Ns G.locals m/\m x=aa v)\/(G.kindOf x=aa .cell\/G.kindOf x=aa .free)/\∃c,G.cells.lookup x=aa c/\h.IsCell c (aa v)
theorem iU.map{h h':aB}{G:aO}(g:∀o,h.get? G.globals=aa o->h'.get? G.globals=aa o)(b:∀o,h.get? G.builtins=aa o->h'.get? G.builtins=aa o)(l:∀m,h.Ns G.locals m->m x=aa v->∃m,h'.Ns G.locals m/\m x=aa v)(c:∀c,(x,c)∈G.cells->h.IsCell c (aa v)->h'.IsCell c (aa v))(n:iU h G x v):iU h' G x v:=n.imp (λq=>⟨q.1,q.2.at g b⟩) (Or.imp (λq=>⟨q.1,q.2.elim λm y=>l m y.1 y.2⟩) λq=>⟨q.1,q.2.imp λd y=>⟨y.1,c d (mem_of_lookup y.1) y.2⟩⟩)
def isVar(G:aO)(x:ai):Bool:=!lY (G.kindOf x)&&(!x==("__classdict__":ai)&&!x==("__debug__":ai))
noncomputable def mP(G:aO)(x:ai):Bool:=G.kindOf x==aa .globalImplicit&&!x==("__debug__":ai)
theorem Gv{a b:Bool}(h:(a&&!b)=af):a=af/\b=ay:=(dZ _ _).mp h|>.imp id (tH _).mp
theorem K8{G:aO}(h:G.kindOf x=aa .local\/G.kindOf x=aa .cell):lY (G.kindOf x)=ay:=h.elim (λh=>O h rfl) λh=>O h rfl
theorem EE{G:aO}(h:isVar G x=af):lY (G.kindOf x)=ay/\(x==("__classdict__":ai))=ay/\(x==("__debug__":ai))=ay:=have h:=(dZ _ _).mp h
have k:=Gv h.2
⟨(tH _).mp h.1,(tH _).mp k.1,k.2⟩
structure lN(X:List ah)(h:aB)(G:aO):Prop where
fn:G.scope.kind=.function
ns:∃m,h.Ns G.locals m
loc:G.locals∈X
eN:G.globals∉X
blt:G.builtins∉X
cell:∀x,G.kindOf x=aa .cell->∃c F,G.cells.lookup x=aa c/\h.IsCell c F
own:∀x c,(x,c)∈G.cells->c∈X
apart:G.cells.Pairwise λx y=>x.2≠y.2
off:∀x c,(x,c)∈G.cells->c≠G.locals
structure CX(X:List ah)(h:aB)(G:aO)(P:Gm):Prop where
ok:lN X h G
live:bJ X h
eZ:(∃o,h.get? G.globals=aa o)/\∃o,h.get? G.builtins=aa o
val:∀x t,P x=aa t->∃v,Rep X h t v/\iU h G x v
theorem iU.kp(k:Kp h h')(n:iU h G x v):iU h' G x v:=n.map (k _) (k _) (λm a b=>⟨m,a.keeps k,b⟩) λ_ _ b=>b.keeps k
theorem lN.kp(k:Kp h h')(n:lN X h G):lN X h' G:=⟨n.fn,(n.ns).imp λm a=>a.keeps k,n.loc,n.eN,n.blt,λx e=>(n.cell x e).imp λc z=>z.imp λF z=>⟨z.1,z.2.keeps k⟩,n.own,n.apart,n.off⟩
theorem CX.kp(k:Kp h h')(c:CX X h G a):CX X h' G a:=⟨c.ok.kp k,c.live.kp k,⟨c.eZ.1.imp λ_ e=>k _ _ e,c.eZ.2.imp λ_ e=>k _ _ e⟩,λx t e=>(c.val x t e).imp λv z=>⟨Rep.kp (k.bN X) t v z.1,z.2.kp k⟩⟩
theorem CX.less(c:CX X h G a)(k:∀x t,δ x=aa t->a x=aa t):CX X h G δ:=⟨c.ok,c.live,c.eZ,λx t e=>c.val x t (k x t e)⟩
noncomputable def aM(G:aO):List ah:=G.locals::G.cells.map (·.2)
noncomputable def dh(G:aO)(x:ai):ah:=if G.kindOf x=aa .local then G.locals else(G.cells.lookup x).getD 0
theorem DV{env:aO}(h:env.kindOf x=aa .local):dh env x=env.locals:=if_pos h
theorem Jm:aa mX≠aa .local:=nofun
theorem Ek{env:aO}(h:env.kindOf x=aa .cell)(e:env.cells.lookup x=aa c):dh env x=c:=by rw[dh,if_neg (h▸Jm),e];rfl
theorem lN.iW(e:lN X h G):∀a∈aM G,a∈X:=λa m=>by
 refine bz (bB.mp m) (λb=>?_) λm=>?_;.subst b;exact e.loc
 .refine aH (bF.mp m) λI p N=>?_;subst N;obtain⟨x,c⟩:=I;exact e.own x c p
theorem bg.mono(k:bg X h h')(s:∀a∈X,a∈Y):bg Y h h':=λb o n e=>k b o (λm=>n (s b m)) e
theorem qj(B:tZ D h h'):bg [D] h h':=λb o n e=>(B.2 b λq=>n (aX.mpr q)).trans e
structure bu(X:List ah)(s s':au):Prop where
kp:bg X s.heap s'.heap
eq:s'={s with heap:=s'.heap,toks:=s'.toks}
theorem bu.of(k:Ks s a):bu X s a:=⟨k.kp.bN X,k.eq⟩
theorem bu.trans(x:bu X a b)(y:bu X b c):bu X a c:=by refine⟨x.kp.trans y.kp,?_⟩;have e:=x.eq;have U:=y.eq;refine O U ?_;exact O e rfl
theorem bu.mono(x:bu X a b)(s:∀a∈X,a∈Y):bu Y a b:=⟨x.kp.mono s,x.eq⟩
theorem bu.refl(X:List ah)(s:au):bu X s s:=.of (.refl s)
section
variable{A:aG}{E:aj->au->Prop}{G:aO}{X:List ah}{B:aB}{P:Gm}
theorem C5{s:au}(N:G.scope.kind=.function)(n:iU s.heap G x v)(h:Q v s)(K:(x==("__classdict__":ai))=ay)(V:lY (G.kindOf x)=ay):av (aA PW w) A (loadName G x) Q E s:=by
 rcases n with⟨e,_⟩|⟨e,m,a,b⟩|⟨e|e,c,a,b⟩;.exact YU (V.symm.trans e)
 .exact wpAny_loadName_local N e a b h
 .exact wpAny_loadName_cell N e a b h
 .exact wpAny_loadName_free N e a b h K
theorem EV.name(c:CX X B G P)(e:autoParam (P x=aa t) yAR)(V:autoParam (isVar G x=af) yAK):EV A G X B (.Name x pos) t:=λs E k=>(c.val x t e).elim λv q=>wpAny_Name (C5 c.ok.fn (q.2.kp k) ⟨.refl s,Rep.kp (k.bN X) t v q.1⟩ (EE V).2.1 (EE V).1) (EE V).2.2
theorem iU.gv(g:lY (G.kindOf x)=af)(n:iU h G x v):uR h G x v:=by
 refine bz n (λn=>?_) λH=>bz H (λn=>?_) λn=>?_;.exact n.2
 .replace g:=n.1▸g;cases g
 .rcases n.1 with e|e<;>replace g:=e▸g<;>cases g
theorem EV.glob(c:CX X B G P)(e:P x=aa t)(g:autoParam (mP G x=af) yAK):EV A G X B (.Name x pos) t:=λs E k=>by
 have H:=eq_of_beq (Gv g).1;refine aH (c.val x t e) λv r n=>?_;refine aH ((n.kp k).gv (by refine O H ?_;rfl)) λu a b=>?_;refine Name_function_global c.ok.fn H ?_ (Gv g).2;refine bz b (λb=>?_) λp=>?_;.exact loadGlobal_global a b ⟨.refl s,Rep.kp (k.bN X) t v r⟩
 .obtain⟨b,j,d,f⟩:=p;exact loadGlobal_builtin a b d f ⟨.refl s,Rep.kp (k.bN X) t v r⟩
theorem iU.cellOf{h:aB}(g:G.kindOf x=aa .cell\/G.kindOf x=aa .free)(n:iU h G x v):∃c,G.cells.lookup x=aa c/\h.IsCell c (aa v):=by
 rcases n with n|n|n;.rcases g with e|e<;>replace n:=e▸n<;>cases n.1
 .rcases g with e|e<;>replace e:=n.1▸e<;>cases e
 .exact n.2
theorem Je{s:au}(c:CX X s.heap G P)(Y:G.kindOf x=aa .local\/G.kindOf x=aa .cell)(r:Rep X s.heap t v)(h:∀D,bu [dh G x] s D->CX X D.heap G (upd P x t)->Q () D):av (aA PW w) A (storeName G x v) Q E s:=by
 have d:∀(h':aB)(N:Nat)(a:ah),dh G x=a->a∈X->tZ a s.heap h'->lN X h' G->iU h' G x v->(∃o,h'.get? a=aa o)->(∀y u,y≠x->(∀m,s.heap.Ns G.locals m->m y=aa u->∃m,h'.Ns G.locals m/\m y=aa u)/\∀c,(y,c)∈G.cells->s.heap.IsCell c (aa u)->h'.IsCell c (aa u))->Q () {s with heap:=h',toks:=N}:=by
  intro h' N a hw ha sb ok nx ex L;have T:bg [dh G x] s.heap h':=λb o R e=>(sb.2 b λq=>R (by exact O hw (O q (aQ ..)))).trans e;have U:bg X s.heap h':=T.mono λb m=>aX.mp m▸hw.symm▸ha;refine h _ ⟨T,rfl⟩ ⟨ok,λb R=>?_,⟨c.eZ.1.imp λ_ e=>U _ _ c.ok.eN e,c.eZ.2.imp λ_ e=>U _ _ c.ok.blt e⟩,λy u e=>?_⟩
  .by_cases q:b=a;.exact q▸ex
   .exact(c.live b R).imp λo g=>(sb.2 b q).trans g
  .by_cases q:y=x;.subst q;replace e:=pJ ..▸e;exact⟨v,nR e▸Rep.kp U t v r,nx⟩
   .replace e:=eE _ _ q▸e;exact(c.val y u e).imp λC z=>⟨Rep.kp U u C z.1,z.2.map (λo=>U _ o c.ok.eN) (λo=>U _ o c.ok.blt) (L y C q).1 (L y C q).2⟩
 refine aE c.ok.ns λm K=>?_;rcases Y with Y|Y
 .refine wpAny_storeName_local Y K (λh' k I=>?_) (by refine O c.ok.fn ?_;rfl);have f:∀y j F,(y,j)∈G.cells->s.heap.IsCell j F->h'.IsCell j F:=λy j F l Z=>Z.sameBut I (c.ok.off y j l);refine d h' _ G.locals (DV Y) c.ok.loc I ⟨c.ok.fn,⟨_,k⟩,c.ok.loc,c.ok.eN,c.ok.blt,λy e=>(c.ok.cell y e).imp λj z=>z.imp λF z=>⟨z.1,f y j F (mem_of_lookup z.1) z.2⟩,c.ok.own,c.ok.apart,c.ok.off⟩ (.inr (.inl ⟨Y,_,k,if_pos rfl⟩)) (k.elim λo z=>z.elim λ_ z=>z.elim λ_ z=>⟨o,z.1⟩) λy u q=>⟨λH a b=>⟨_,k,?_⟩,λj=>f y j _⟩;have:m=H:=by funext z;refine uc K λo es ep g hd hk hf=>?_;refine uc a λo' es' pn p J hk' i=>?_;replace p:=g▸p;cases p;replace J:=hd▸J;cases J;exact aR (hf ..) (aR (i ..) rfl)
  subst this;exact(if_neg q).trans b
 .refine eK (c.ok.cell x Y) λj F a b=>?_;have S:=mem_of_lookup a;refine wpAny_storeName_cell c.ok.fn Y a b λh' M I=>?_;have W:G.locals≠j:=gu (c.ok.off x j S);have f:∀y V n,y≠x->(y,V)∈G.cells->s.heap.IsCell V n->h'.IsCell V n:=λy V n q l Z=>Z.sameBut I λe=>q (name_of_addr c.ok.apart l (e▸S));refine d h' s.toks j (Ek Y a) (c.ok.own x j S) I ⟨c.ok.fn,⟨m,K.sameBut I W⟩,c.ok.loc,c.ok.eN,c.ok.blt,λy e=>?_,c.ok.own,c.ok.apart,c.ok.off⟩ (.inr (.inr ⟨.inl Y,j,a,M⟩)) (M.imp λ_ z=>z.1) λy u q=>⟨λH a b=>⟨H,a.sameBut I W,b⟩,λV=>f y V _ q⟩;by_cases q:y=x;.subst q;exact⟨j,_,a,M⟩
  .exact(c.ok.cell y e).imp λV z=>z.imp λn z=>⟨z.1,f y V n q (mem_of_lookup z.1) z.2⟩
theorem zV{s:au}(c:CX X s.heap G P)(Y:G.kindOf x=aa .local\/G.kindOf x=aa .cell)(r:Rep X s.heap t v)(h:∀a,bu [dh G x] s a->CX X a.heap G (upd P x t)->Q () a):av (aA PW w) A (kN G x v) Q E s:=wpAny_bindName (Je c Y r h)
end
section
variable{A:aG}{G:aO}{X:List ah}{h₀:aB}{d:Gm}
theorem Rep.El(r:Rep X h (.bool b) v):v=.bool b:=r
theorem Rep.cM(r:Rep X h (.int i) v):∃t,v=.int i t:=r
theorem Rep.eV(r:Rep X h (.str x) v):∃t,v=.str x t:=r
theorem Rep.d8{h:aB}(r:Rep X h (.list l) v):∃a xs,v=.ref a/\a∉X/\h.PlainList a xs/\az X h l xs.toList:=r
theorem Rep.jQ{h:aB}(r:Rep X h (.tup l) v):∃a xs,v=.ref a/\a∉X/\h.IsTuple a xs/\az X h l xs.toList:=r
theorem Rep.fO(i:Int)(t:l8):Rep X h (.int i) (.int i t):=⟨t,rfl⟩
theorem Rep.AK(b:Bool):Rep X h (.bool b) (.bool b):=rfl
theorem Rep.m8(x:ai)(t:l8):Rep X h (.str x) (.str x t):=⟨t,rfl⟩
theorem Rep.ie(v:aj):Rep X h (.aJ v) v:=rfl
@[elab_as_elim]theorem ints2{h:aB}{i j:Int}{a b:aj}{P:aj->aj->Prop}(Y:Rep X h (.int i) a)(o:Rep X h (.int j) b)(f:∀t u,P (.int i t) (.int j u)):P a b:=Y.elim λt e=>o.elim λu U=>e.symm▸U.symm▸f t u
theorem bE.add{i j:Int}:bE A X h₀ .Add (.int i) (.int j) (.int (i+j)):=λs E a b k Y o=>ints2 Y o λt u=>add_int ⟨.tok ..,.fO _ _⟩
theorem bE.sub{i j:Int}:bE A X h₀ .Sub (.int i) (.int j) (.int (i-j)):=λs E a b k Y o=>ints2 Y o λt u=>sub_int ⟨.tok ..,.fO _ _⟩
theorem bE.mul{i j:Int}(h:IntMulOk i j):bE A X h₀ .Mult (.int i) (.int j) (.int (i*j)):=λs E a b k Y o=>ints2 Y o λt u=>mul_int ⟨.tok ..,.fO _ _⟩ h
theorem bE.fdiv{i j:Int}(h:j≠0)(Q:CH i j=ay):bE A X h₀ .FloorDiv (.int i) (.int j) (.int (i.fdiv j)):=λs E a b k Y o=>ints2 Y o λt u=>floordiv_int h ⟨.tok ..,.fO _ _⟩ (.inl Q)
theorem bE.fmod{i j:Int}(h:j≠0):bE A X h₀ .Mod (.int i) (.int j) (.int (i.fmod j)):=λs E a b k Y o=>ints2 Y o λt u=>mod_int' h ⟨.tok ..,.fO _ _⟩
theorem bE.shr{i j:Int}(h:0<=j):bE A X h₀ .RShift (.int i) (.int j) (.int (i.fdiv (2^j.toNat))):=λs E a b k Y o=>ints2 Y o λt u=>rshift_int h ⟨.tok ..,.fO _ _⟩
theorem bE.pow{i j:Int}(h:0<=j)(I:(zL i:Int)*j<=2^27):bE A X h₀ .Pow (.int i) (.int j) (.int (i^j.toNat)):=λs E a b k Y o=>ints2 Y o λt u=>pow_int h I ⟨.tok ..,.fO _ _⟩
theorem aY.lt{i j:Int}:aY A X h₀ .Lt (.int i) (.int j) (decide (i<j)):=λs E a b k Y o=>ints2 Y o λt u=>TR ⟨.refl _,rfl⟩
theorem aY.gt{i j:Int}:aY A X h₀ .Gt (.int i) (.int j) (decide (j<i)):=λs E a b k Y o=>ints2 Y o λt u=>xgO ⟨.refl _,rfl⟩
theorem aY.ge{i j:Int}:aY A X h₀ .GtE (.int i) (.int j) (decide (j<=i)):=λs E a b k Y o=>ints2 Y o λt u=>xgP ⟨.refl _,rfl⟩
theorem aY.eq{i j:Int}:aY A X h₀ .Eq (.int i) (.int j) (i==j):=λs E a b k Y o=>ints2 Y o λt u=>xgQ ⟨.refl _,rfl⟩
theorem aY.ne{i j:Int}:aY A X h₀ .NotEq (.int i) (.int j) (i !=j):=λs E a b k Y o=>ints2 Y o λt u=>xgR ⟨.refl _,rfl⟩
theorem EV.neg{e R}(h:EV A G X h₀ e (.int i)):EV A G X h₀ (.UnaryOp .USub e R) (.int (-i)):=λs E k=>by show av _ _ (do let v<-aU e G;fL R;ic [v] (unaryOp .USub v)) _ _ _;refine aq (aC (h s E k) (λv U x=>?_) λ_ _ e=>e);obtain⟨t,rfl⟩:=x.2.cM;exact aq (cW (dJ (xgS ⟨x.1.trans (.tok ..),.fO _ _⟩)))
theorem TV.of{e:aT}(h:EV A G X h₀ e (.bool b))(W:autoParam (xh e G (aU e G)=do let v<-aU e G;fL e.pos;ic [v] (truthy v)) yAR):TV A G h₀ e b:=λs E k=>by refine O W ?_;refine aq (aC (h s E k) (λv U x=>?_) λ_ _ e=>e);obtain rfl:=x.2.El;exact aq (cW (dJ (x9 ⟨x.1,rfl⟩)))
theorem TV.cmp{l n r R}(V:EV A G X h₀ l t)(D:EV A G X h₀ r u)(g:aY A X h₀ n t u b)(Q:Nf n r=ay:=by with_unfolding_all rfl):TV A G h₀ (.Compare l [n] [r] R) b:=λs E k=>by refine O (xdY ..) (O (W4 Q) ?_);refine aq (aC (V s E k) (λa U x=>?_) λ_ _ e=>e);refine aq (dJ (aC (D U E (k.trans x.1.kp)) (λb J y=>?_) λ_ _ e=>e));refine aq (cW (aq ?_));refine λm p W=>?_;refine O (DP ..) ?_;refine(aC (g J E a b (k.trans (x.1.trans y.1).kp) (Rep.kp (y.1.kp.bN X) _ _ x.2) y.2) (λc j z=>?_) λ_ _ e=>e) m p W;obtain⟨z,rfl⟩:=z;exact dJ (x9 ⟨(x.1.trans y.1).trans z,rfl⟩)
theorem TV.not{e R}(h:TV A G h₀ e b):TV A G h₀ (.UnaryOp .Not e R) !b:=λs E k=>by show av _ _ (do return !(<-xh e G (aU e G))) _ _ _;exact aq (F9 (h s E k) λr U x e=>aN ⟨x,congrArg _ e⟩)
noncomputable def AT(A:aG)(G:aO)(h₀:aB)(n:BoolOp)(D:List aT)(b:Bool):Prop:=∀(s:au)(E:aj->au->Prop),Kp h₀ s.heap->av (aA PW w) A (Sy n D G) (λr S=>Ks s S/\r=b) E s
theorem AT.yL:AT A G h₀ .And [] af:=λs E k=>aN ⟨.refl s,rfl⟩
theorem AT.Bj:AT A G h₀ .Or [] ay:=λs E k=>aN ⟨.refl s,rfl⟩
theorem AT.and{e D}(h:TV A G h₀ e b)(r:b=true->AT A G h₀ .And D c):AT A G h₀ .And (e::D) (b&&c):=λs E k=>by show av _ _ (xh e G (aU e G)>>=λx=>match BoolOp.And,x with|.And,false=>pure false|.Or,true=>pure true|_,_=>Sy .And D G) _ _ _;refine aq (aC (h s E k) (λf U x=>?_) λ_ _ e=>e);obtain⟨x,rfl⟩:=x;cases f with|false=>exact aN ⟨x,rfl⟩|true=>exact aC (r rfl U E (k.trans x.kp)) (λq J y=>⟨x.trans y.1,y.2⟩) λ_ _ e=>e
theorem AT.or{e D}(h:TV A G h₀ e b)(r:b=false->AT A G h₀ .Or D c):AT A G h₀ .Or (e::D) (b||c):=λs E k=>by show av _ _ (xh e G (aU e G)>>=λx=>match BoolOp.Or,x with|.And,false=>pure false|.Or,true=>pure true|_,_=>Sy .Or D G) _ _ _;refine aq (aC (h s E k) (λf U x=>?_) λ_ _ e=>e);obtain⟨x,rfl⟩:=x;cases f with|true=>exact aN ⟨x,rfl⟩|false=>exact aC (r rfl U E (k.trans x.kp)) (λq J y=>⟨x.trans y.1,y.2⟩) λ_ _ e=>e
theorem TV.ry{n D R}(h:AT A G h₀ n D b):TV A G h₀ (.BoolOp n D R) b:=h
theorem EV.ite{a x y R}(h:TV A G h₀ a b)(Y:b=true->EV A G X h₀ x t)(w:b=false->EV A G X h₀ y t):EV A G X h₀ (.IfExp a x y R) t:=λs E k=>by show av _ _ (xh a G (aU a G)>>=λc=>if c then aU x G else aU y G) _ _ _;refine aq (aC (h s E k) (λr U z=>?_) λ_ _ e=>e);obtain⟨z,rfl⟩:=z;cases r with|true=>exact aC (Y rfl U E (k.trans z.kp)) (λq J y=>⟨z.trans y.1,y.2⟩) λ_ _ e=>e|false=>exact aC (w rfl U E (k.trans z.kp)) (λq J y=>⟨z.trans y.1,y.2⟩) λ_ _ e=>e
theorem EV.uS{x y R}{b c:Bool}(Y:EV A G X h₀ x (.bool b))(w:b=true->EV A G X h₀ y (.bool c)):EV A G X h₀ (.BoolOp .And [x,y] R) (.bool (b&&c)):=λs E k=>by refine aq (aC (Y s E k) (λv U z=>?_) λ_ _ e=>e);obtain rfl:=z.2.El;refine aq (cW (aq (dJ (x9 ?_))));cases b with|false=>exact aN ⟨z.1,.AK _⟩|true=>exact aC (w rfl U E (k.trans z.1.kp)) (λq J y=>⟨z.1.trans y.1,y.2⟩) λ_ _ e=>e
noncomputable def EL(A:aG)(G:aO)(X:List ah)(h₀:aB)(R:aS)(D:List aT)(F:List T):Prop:=∀(s:au)(E:aj->au->Prop),Kp h₀ s.heap->av (aA PW w) A (fN (cN R (bq D G))) (λK S=>Ks s S/\az X S.heap F K) E s
theorem EL.nil{pos}:EL A G X h₀ pos [] []:=λs E k=>rQ ⟨.refl s,trivial⟩
theorem EL.cons{R e D t ts}(h:EV A G X h₀ e t)(r:EL A G X h₀ R D ts)(W:autoParam (bq (e::D) G=(ay,aU e G)::bq D G) yAR):EL A G X h₀ R (e::D) (t::ts):=λs E k=>by refine O W ?_;show av _ _ (fN ((ay,aU e G)::cN R (bq D G))) _ _ _;refine nY (aC (h s E k) (λv U x=>?_) λ_ _ e=>e);exact aC (r U E (k.trans x.1.kp)) (λK J y=>⟨x.1.trans y.1,⟨Rep.kp (y.1.kp.bN X) _ _ x.2,y.2⟩⟩) λ_ _ e=>e
theorem Ve{s:au}{F:List T}(l:bJ X s.heap)(r:az X s.heap F a)(n:F.length<=100000):av (aA PW w) A (uz a) (λv S=>Ks s S/\Rep X S.heap (.list F) v) E s:=by refine tY ⟨.push ..,?_⟩ (O dK (iV n r.length));exact⟨_,_,rfl,l.new,⟨0,cF _ rfl⟩,az.kp (λb o _ e=>bX _ e) _ _ r⟩
theorem z7{s:au}{F:List T}(l:bJ X s.heap)(r:az X s.heap F a)(n:F.length<=100000):av (aA PW w) A (wW a) (λv S=>Ks s S/\Rep X S.heap (.tup F) v) E s:=by refine Ag ⟨.push ..,?_⟩ (O dK (iV n r.length));exact⟨_,_,rfl,l.new,⟨_,cF _ rfl,rfl,0,rfl⟩,az.kp (λb o _ e=>bX _ e) _ _ r⟩
theorem EV.list{D R ts}(l:bJ X h₀)(h:EL A G X h₀ R D ts)(n:ts.length<=100000:=by first|decide|simp):EV A G X h₀ (.List D R) (.list ts):=λs E k=>by show av _ _ (do fL R;uz (<-fN (cN R (bq D G)))) _ _ _;refine aq (cW (aq (aC (h s E k) (λK U x=>?_) λ_ _ e=>e)));exact aC (Ve ((l.kp k).kp x.1.kp) x.2 n) (λv J y=>⟨x.1.trans y.1,y.2⟩) λ_ _ e=>e
theorem EV.tup{D c R F}(l:bJ X h₀)(h:EL A G X h₀ R D F)(n:F.length<=100000:=by first|decide|simp):EV A G X h₀ (.Tuple D c R) (.tup F):=λs E k=>by show av _ _ (do fL R;wW (<-fN (cN R (bq D G)))) _ _ _;refine aq (cW (aq (aC (h s E k) (λK U x=>?_) λ_ _ e=>e)));exact aC (z7 ((l.kp k).kp x.1.kp) x.2 n) (λv J y=>⟨x.1.trans y.1,y.2⟩) λ_ _ e=>e
end
section
variable{A:aG}{G:aO}{X:List ah}{B:aB}{P:Gm}
noncomputable def cU(A:aG)(X:List ah)(B:aB)(f h:aT)(t u r:T):Prop:=∀(s:au)(E:aj->au->Prop)(a b:aj),Kp B s.heap->Rep X s.heap t a->Rep X s.heap u b->av (aA PW w) A (subscriptTail f h a b) (λv S=>Ks s S/\Rep X S.heap r v) E s
theorem EV.sub{f h R}{t u r:T}(K:EV A G X B f t)(W:EV A G X B h u)(g:cU A X B f h t u r):EV A G X B (.Subscript f h R) r:=λs E q=>Subscript_ (aC (K s E q) (λa U x=>aC (W U E (q.trans x.1.kp)) (λb J y=>aC (g J E a b (q.trans (x.1.trans y.1).kp) (Rep.kp (y.1.kp.bN X) _ _ x.2) y.2) (λc j z=>⟨(x.1.trans y.1).trans z.1,z.2⟩) λ_ _ e=>e) λ_ _ e=>e) λ_ _ e=>e)
noncomputable abbrev jR(h:aT):Prop:=∀o i,subscripted h ay o i=operate [o,i] (getItem o i)
theorem cU.list{f h}{k:Int}(D:0<=k)(C:k<2^63)(e:l[k.toNat]?=aa t)(hs:autoParam (jR h) yAW):cU A X B f h (.list l) (.int k) t:=λs E a b q Y o=>by refine cI Y.d8 λL xs I n p r=>?_;subst I;refine aE o.cM λu I=>?_;subst I;refine aH (r.at e) λv d c=>?_;exact GU p.isList.typeIs Kl.lookup (Kd p.isList D C (by exact aR gM d) ⟨.refl s,c⟩) (hs _ _)
theorem cU.Zk{f h}{l:List T}(D:k<0)(C:-(l.length:Int)<=k)(c:l.length<100000)(e:l[(k+l.length).toNat]?=aa t)(hs:autoParam (jR h) yAW):cU A X B f h (.list l) (.int k) t:=λs E a b q Y o=>by refine cI Y.d8 λL xs I n p r=>?_;subst I;refine aE o.cM λu I=>?_;subst I;refine aH (r.at e) λv g d=>?_;have V:=r.length;rw[dw]at V;exact GU p.isList.typeIs Kl.lookup (wpAny_getItem_list_neg p.isList D (by exact O V C) (gG (xci (PF (eB c))) C) (by exact O V (aR gM g)) ⟨.refl s,d⟩) (hs _ _)
theorem cU.tup{f h}{k:Int}(D:0<=k)(C:k<2^63)(e:l[k.toNat]?=aa t)(w:autoParam (jR h) yAW):cU A X B f h (.tup l) (.int k) t:=λs E a b q Y x=>by
 refine cI Y.jQ λL xs I n p r=>?_;subst I;refine aE x.cM λu I=>?_;subst I;refine aH (r.at e) λv i j=>?_;have d:IsTup s.heap L xs.toList.toArray:=by obtain⟨o,a,b,m,c⟩:=p;exact⟨o,a,b,m,by simpa using c⟩
 have W:k.toNat<xs.toList.length:=by
  refine bz (yk k.toNat xs.toList.length) (λg=>?_) λg=>?_;.exact g
  .exact gone i (pF g)
 refine item_tupleT d (fW D) C (j:=k.toNat) ?_ i ⟨.refl s,j⟩ (w _ _);unfold QG;have:¬k<0:=fD.mpr D;simp only[this,if_false];exact O (if_pos (by simp only[dZ,decide_eq_true_eq];exact Q7 D W)) rfl
theorem Rep.cS(r:Rep X h (.aJ u) v):v=u:=r
noncomputable def CA(A:aG)(X:List ah)(B:aB)(f:aj)(F:List T)(r:T):Prop:=∀(s:au)(E:aj->au->Prop)(K:List aj),Kp B s.heap->az X s.heap F K->av (aA PW w) A (dP f K []) (λv S=>Ks s S/\Rep X S.heap r v) E s
theorem mh{i:List (Bool×bh aj)}(N:yU f=pure .machine)(p:i.any (·.1)=ay)(h:av M A (evalArgs f af i []) (λa U=>av M A (dP f (b++a.pos) a.kw) Q E U) E s):av M A (mK c f b i []) Q E s:=by unfold mK;refine aq (dJ (aC h (λa U Z=>aq (cW ?_)) λ_ _ x=>x));simp only[p,List.any_nil,xcj];refine O N ?_;refine aq (aN ?_);exact aq (aC Z (λr J D=>aq (dJ (wpAny_point (aN D)))) λ_ _ x=>x)
theorem EV.cQ(l:EV A G X B (.Name x b) (.aJ f))(K:yU f=pure .machine)(V:EL A G X B a (e::D) d)(g:CA A X B f d r)(hs:autoParam (bq (e::D) G=(ay,aU e G)::bq D G) yAR)(p:autoParam ((cN a (bq D G)).any (·.1)=ay) yAR):EV A G X B (.Call (.Name x b) (e::D) [] a) r:=λs E k=>by show av _ _ (do mK a (<-aU (.Name x b) G) [] (cN a (bq (e::D) G)) (oj a (nZ [] G))) _ _ _;refine aq (aC (l s E k) (λv U x=>?_) λ_ _ e=>e);obtain rfl:=x.2.cS;have M:=V U E (k.trans x.1.kp);rw[hs]at M⊢;refine mh K (by show(ay||(cN a (bq D G)).any (·.1))=ay;refine O p ?_;rfl) (mW (aC M (λh J y=>?_) λ_ _ e=>e));exact aC (g J E h (k.trans (x.1.trans y.1).kp) y.2) (λc j z=>⟨(x.1.trans y.1).trans z.1,z.2⟩) λ_ _ e=>e
theorem EV.uB{x:ai}{b R:aS}{e:aT}{D:List aT}{a:ah}{o:bR}{fd:eU}{F:List T}{r:T}(l:EV A G X B (.Name x b) (.aJ (.ref a)))(g:B.get? a=aa o)(d:o.data=.func fd)(V:EL A G X B R (e::D) F)(Z:CA A X B (.ref a) F r)(W:autoParam (bq (e::D) G=(ay,aU e G)::bq D G) yAR):EV A G X B (.Call (.Name x b) (e::D) [] R) r:=λs E k=>by show av _ _ (do mK R (<-aU (.Name x b) G) [] (cN R (bq (e::D) G)) (oj R (nZ [] G))) _ _ _;refine aq (aC (l s E k) (λv U x=>?_) λ_ _ e=>e);obtain rfl:=x.2.cS;have M:=V U E (k.trans x.1.kp);rw[W]at M⊢;refine Dv (o:=o) (fd:=fd) (mW (aC M (λK J y=>?_) λ_ _ e=>e));refine⟨⟨k.trans (x.1.trans y.1).kp _ _ g,d⟩,?_⟩;exact aC (Z J E K (k.trans (x.1.trans y.1).kp) y.2) (λc j z=>⟨(x.1.trans y.1).trans z.1,z.2⟩) λ_ _ e=>e
end
theorem Rep.less(y:∀a∈Y,a∈X)(t:T)(v:aj)(r:Rep X h t v):Rep Y h t v:=Rep.map (λa _ n e=>⟨λm=>n (y a m),e⟩) t v r
theorem az.less(y:∀a∈Y,a∈X)(F:List T)(K:List aj)(r:az X h F K):az Y h F K:=az.map (λa _ n e=>⟨λm=>n (y a m),e⟩) r
noncomputable def fz(X:List ah)(D:ah)(h:aB):T->Prop|.list l=>∃xs,h.PlainList D xs/\az X h l xs.toList|.dS y a=>(D==eo)=ay/\∃W,h.DictOf (strKind PW w) D (y.zip W)/\W.length=y.length/\az X h a W|.dI y a=>(D==eo)=ay/\∃W,h.DictOf (ow PW w) D (y.zip W)/\W.length=y.length/\az X h a W|_=>False
theorem fz.map{h h':aB}(k:∀a o,a∉X->h.get? a=aa o->a∉Y/\h'.get? a=aa o)(T:∀o,h.get? D=aa o->h'.get? D=aa o)(x:fz X D h t):fz Y D h' t:=by cases t with|list l=>exact x.imp λxs q=>⟨q.1.at T,az.map k q.2⟩|dS y K=>exact⟨x.1,x.2.imp λW q=>⟨q.1.at T,q.2.1,az.map k q.2.2⟩⟩|dI y K=>exact⟨x.1,x.2.imp λW q=>⟨q.1.at T,q.2.1,az.map k q.2.2⟩⟩|_=>exact x
theorem fz.kp{h h':aB}(k:bg X h h')(T:∀o,h.get? D=aa o->h'.get? D=aa o)(x:fz X D h t):fz X D h' t:=x.map (λa o n e=>⟨n,k a o n e⟩) T
theorem fz.less(y:∀a∈Y,a∈X)(x:fz X D h t):fz Y D h t:=x.map (λa o n e=>⟨λm=>n (y a m),e⟩) λ_ e=>e
theorem fz.rep(n:D∉X)(x:fz X D h t):Rep X h t (.ref D):=by cases t with|list l=>exact x.elim λxs q=>⟨D,xs,rfl,n,q⟩|dS y K=>exact x.2.elim λW q=>⟨D,W,rfl,n,x.1,q⟩|dI y K=>exact x.2.elim λW q=>⟨D,W,rfl,n,x.1,q⟩|_=>exact x.elim
theorem fz.up{h:aB}(x:fz X D h t):∃o,h.get? D=aa o:=by cases t with|list l=>exact x.elim λxs q=>q.1.elim λ_ e=>⟨_,e⟩|dS y K=>exact x.2.elim λW q=>Aj q.1|dI y K=>exact x.2.elim λW q=>Aj q.1|_=>exact x.elim
section
variable{X Y:List ah}{h h':aB}{G:aO}{P:Gm}
theorem Mx(k:bg Y h h')(g:∀a∈aM G,a∉Y)(o:bR):h.get? G.locals=aa o->h'.get? G.locals=aa o:=k _ o (g _ (aQ ..))
theorem K9(k:bg Y h h')(g:∀a∈aM G,a∉Y)(m:(x,c)∈G.cells)(o:bR):h.get? c=aa o->h'.get? c=aa o:=k c o (g _ (aZ _ (bF.mpr ⟨(x,c),m,rfl⟩)))
theorem iU.dM(k:bg Y h h')(H:lN X h G)(g:∀a∈aM G,a∉Y)(w:∀a∈Y,a∈X)(n:iU h G x v):iU h' G x v:=n.map (λo=>k _ o λm=>H.eN (w _ m)) (λo=>k _ o λm=>H.blt (w _ m)) (λm a b=>⟨m,a.at' (Mx k g),b⟩) λ_ m y=>y.imp λo z=>⟨K9 k g m o z.1,z.2⟩
theorem lN.dM(k:bg Y h h')(H:lN X h G)(g:∀a∈aM G,a∉Y):lN X h' G:=⟨H.fn,(H.ns).imp λm a=>a.at' (Mx k g),H.loc,H.eN,H.blt,λx e=>(H.cell x e).imp λc z=>z.imp λF z=>⟨z.1,z.2.imp λo y=>⟨K9 k g (mem_of_lookup z.1) o y.1,y.2⟩⟩,H.own,H.apart,H.off⟩
theorem CX.shift(k:bg Y h h')(c:CX X h G P)(g:∀a∈aM G,a∉Y)(w:∀a∈Y,a∈X)(Z:∀a∈U,a∈X)(b:∀a∈aM G,a∈U)(l:bJ U h'):CX U h' G P:=have q:=c.ok.dM k g
⟨⟨q.fn,q.ns,b _ (aQ ..),λm=>c.ok.eN (Z _ m),λm=>c.ok.blt (Z _ m),q.cell,λx j m=>b _ (aZ _ (bF.mpr ⟨(x,j),m,rfl⟩)),q.apart,q.off⟩,l,⟨c.eZ.1.imp λ_ e=>k _ _ (λm=>c.ok.eN (w _ m)) e,c.eZ.2.imp λ_ e=>k _ _ (λm=>c.ok.blt (w _ m)) e⟩,λx t e=>(c.val x t e).imp λv n=>⟨Rep.less Z _ _ (Rep.kp (k.mono w) t v n.1),n.2.dM k c.ok g w⟩⟩
theorem CX.dM(k:bg Y h h')(c:CX X h G P)(g:∀a∈aM G,a∉Y)(w:∀a∈Y,a∈X)(l:bJ X h'):CX X h' G P:=c.shift k g w (λ_ m=>m) c.ok.iW l
theorem bJ.dM(l:bJ X h)(k:bg Y h h')(u:∀a∈Y,∃o,h'.get? a=aa o):bJ X h':=λa m=>by
 by_cases q:a∈Y;.exact u a q
 .refine aE (l a m) λo e=>?_;exact⟨o,k a o q e⟩
theorem CX.widen(c:CX X h G P)(k:Kp h h')(K:∀a∈Y,h.get? a=ak)(i:∀a∈Y,∃o,h'.get? a=aa o):CX (Y++X) h' G P:=by
 have H:=c.eZ.1;have R:=c.eZ.2;have s:∀a o,h.get? a=aa o->a∉Y:=λa o e m=>by exact gone e (K a m)
 have d:∀{a},a∈X->a∈Y++X:=λm=>cK _ m;refine⟨⟨c.ok.fn,(c.ok.ns).imp λm a=>a.keeps k,d c.ok.loc,λm=>?_,λm=>?_,λx e=>let⟨j,F,a,b⟩:=c.ok.cell x e;⟨j,F,a,b.keeps k⟩,λx j m=>d (c.ok.own x j m),c.ok.apart,c.ok.off⟩,λa m=>?_,⟨H.imp λ_ e=>k _ _ e,R.imp λ_ e=>k _ _ e⟩,λx t e=>?_⟩
 .refine bz (bD.mp m) (λm=>?_) λm=>?_;.refine aE H λo e=>?_;exact s _ o e m
  .exact c.ok.eN m
 .refine bz (bD.mp m) (λm=>?_) λm=>?_;.refine aE R λo e=>?_;exact s _ o e m
  .exact c.ok.blt m
 .refine bz (bD.mp m) (λm=>?_) λm=>?_;.exact i a m
  .exact(c.live.kp k) a m
 .refine aH (c.val x t e) λv r n=>?_;exact⟨v,Rep.kp (k.bN _) t v (Rep.wide (λa m=>(bD.mp m).elim (λm=>.inl (K a m)) .inr) t v r),n.kp k⟩
theorem CX.narrow(c:CX X h G P)(w:∀a∈Y,a∈X)(g:∀a∈aM G,a∈Y)(l:bJ Y h):CX Y h G P:=c.shift (Y:=[]) (λ_ _ _ e=>e) (λ_ _=>cg) (λ_ m=>absurd m cg) w g l
end
structure gz(A:aG)(I:ah)(S z:List ah)(X:List ah)(Z:aT)(Q:List T)(p:Nat->aB->Prop):Prop where
sub:∀b∈z,b∈S
frame:∀i h h',p i h->(∀b∈S,∀o,h.get? b=aa o->h'.get? b=aa o)->bg X h h'->p i h'
up:∀i h,p i h->∀b∈z,∃o,h.get? b=aa o
item:∀i t(s:au)(E:aj->au->Prop),Q[i]?=aa t->p i s.heap->bJ X s.heap->av (aA PW w) A (zl (.ref I)) (λr U=>∃v,r=aa v/\av (aA PW w) A (tS Z (.ref I) v) (λ_ J=>bu z s J/\p (i+1) J.heap/\Rep X J.heap t v) E U) E s
done:∀(s:au)(E:aj->au->Prop),p Q.length s.heap->av (aA PW w) A (zl (.ref I)) (λr U=>r=ak/\bu z s U) E s
self:∀i(s:au)(E:aj->au->Prop),p i s.heap->av (aA PW w) A (sE (.ref I)) (λv U=>v=.ref I/\U=s) E s
structure jE(A:aG)(X:List ah)(B h:aB)(I:ah)(S z:List ah)(Z:aT)(Q:List T):Prop where
up:∀b∈S,∃o,h.get? b=aa o
off:∀b∈S,b∉X
new:∀b∈z,B.get? b=ak
sub:∀b∈z,b∈S
st:∀Y,(∀a∈Y,h.get? a=ak\/a∈X\/a∈z)->(∀a∈z,a∈Y)->∃p,gz A I S z Y Z Q p/\p 0 h
noncomputable def IT(A:aG)(G:aO)(X:List ah)(B:aB)(u Z:aT)(Q:List T):Prop:=∀(s:au)(E:aj->au->Prop),Kp B s.heap->av (aA PW w) A (aU u G) (λx U=>av (aA PW w) A (sE x) (λv J=>Ks s J/\∃I S z,v=.ref I/\jE A X s.heap J.heap I S z Z Q) E U) E s
noncomputable def AS(A:aG)(G:aO)(V:List ah)(Z:aT)(t:T)(P r:Gm):Prop:=∀(X:List ah)(s:au)(E:aj->au->Prop)(v:aj),(∀a∈V,a∈X)->CX X s.heap G P->Rep X s.heap t v->av (aA PW w) A (fV Z G v) (λ_ S=>bu V s S/\CX X S.heap G r) E s
section
variable{A:aG}{G:aO}{V:List ah}{P d:Gm}
theorem AS.name(Y:G.kindOf x=aa .local\/G.kindOf x=aa .cell)(K:dh G x∈V):AS A G V (.Name x pos) t P (upd P x t):=λX s E v i c r=>by show av _ _ (do fL pos;kN G x v) _ _ _;exact aq (cW (zV c Y r λS k M=>⟨k.mono (one K),M⟩))
def bQ(P:Gm):List ai->List T->Gm|x::xs,t::a=>bQ (upd P x t) xs a|_,_=>P
theorem I7(i:∀a∈V,a∈X){l:List (ai×(aj->bh Unit))}:∀{F:List T}{K:List aj}{s:au}{P:Gm},l.length=F.length->(∀p∈l,((G.kindOf p.1=aa .local\/G.kindOf p.1=aa .cell)/\dh G p.1∈V)/\∀v s(Q:Unit->au->Prop),av (aA PW w) A (kN G p.1 v) Q E s->av (aA PW w) A (p.2 v) Q E s)->CX X s.heap G P->az X s.heap F K->av (aA PW w) A (yi (l.map (·.2)) K) (λ_ S=>bu V s S/\CX X S.heap G (bQ P (l.map (·.1)) F)) E s:=by induction l with
|nil=>intro F K s P e _ c r;cases F with|cons=>cases e|nil=>cases K with|cons=>exact r.elim|nil=>exact aN ⟨.refl _ s,c⟩
|cons p l f=>intro F K s P e N c r;cases F with|nil=>cases e|cons t F=>cases K with|nil=>exact r.elim|cons v K=>have h:=N p (aQ ..);refine aq (dJ (h.2 v s _ (zV c h.1.1 r.1 λU k b=>?_)));have k:bu V s U:=k.mono λa m=>aX.mp m▸h.1.2;exact aC (f (Af e) (λy m=>N y (aZ _ m)) b (az.kp (k.kp.mono i) _ _ r.2)) (λ_ J q=>⟨k.trans q.1,q.2⟩) λ_ _ e=>e
theorem IV(i:∀a∈V,a∈X){xs:List ai}{ps:List aS}{F:List T}{s:au}(e:xs.length=F.length)(U:ps.length=xs.length)(N:∀x∈xs,(G.kindOf x=aa .local\/G.kindOf x=aa .cell)/\dh G x∈V)(c:CX X s.heap G P)(r:az X s.heap F b):av (aA PW w) A (yi ((xs.zip ps).map λy=>fV (.Name y.1 y.2) G) b) (λ_ S=>bu V s S/\CX X S.heap G (bQ P xs F)) E s:=by have h:=I7 (A:=A) (E:=E) (l:=(xs.zip ps).map λy=>(y.1,fV (.Name y.1 y.2) G)) i (by exact O (aI ..) (O gP (O U (O (nW ..) (O e rfl))))) (λp m=>by refine aH (bF.mp m) λy Z I=>?_;subst I;exact⟨N _ (z3 Z).1,λv s Q h=>aq (cW h)⟩) c r;rw[bO,bO,show(xs.zip ps).map (F5∘λy=>(y.1,fV (.Name y.1 y.2) G))=xs from JZ (di U.symm)]at h;exact h
theorem AS.tup(h:A.handled=ak){xs:List ai}{ps:List aS}{F:List T}(Y:∀x∈xs,(G.kindOf x=aa .local\/G.kindOf x=aa .cell)/\dh G x∈V)(e:xs.length=F.length)(U:ps.length=xs.length)(g:pI D G=(xs.zip ps).map λy=>(ay,fV (.Name y.1 y.2) G)):AS A G V (.Tuple D k f) (.tup F) P (bQ P xs F):=λX s E v i c r=>by
 obtain⟨L,K,rfl,n,p,r⟩:=r.jQ;have a:=r.length;rw[dw]at a;refine xck h p ?_ ?_ λh' m=>?_;.exact O g (O (aI ..) (O gP (O U (O (nW ..) (O a (O e rfl))))))
 .refine O g ?_;have:∀l:List (ai×aS),(l.map λy:ai×aS=>(ay,fV (.Name y.1 y.2) G)).findIdx? (·.1)=ak:=λl=>by refine Uj.mpr ?_;intro z I;obtain⟨y,_,rfl⟩:=bF.mp I;rfl
  exact this _
 .have k:Kp s.heap h':=λb o e=>m b o (bS (dR e)) e;refine O g (O bO ?_);refine aC (IV (s:={s with heap:=h'}) i e U Y (c.kp k) (az.kp (k.bN X) _ _ r)) (λ_ J q=>⟨(bu.of (⟨k,rfl⟩:Ks s {s with heap:=h'})).trans q.1,q.2⟩) λ_ _ e=>e
end
noncomputable def EG(q:List aT)(G:aO):bh Bool:=forIn q af λc r=>if r=af then do let H<-xh c G (aU c G);pure (VQ H)else pure (VQ r)
def oA(Z u:aT)(q:List aT)(a:aj)(G:aO)(f:bh Fin->bh Fin)(c:Code):bh Fin:=do fL u.pos;match<-zl a with|none=>pure (.done .next)|aa v=>tS Z a v;fV Z G v;let H<-EG q G;if H then f (again c)else again c
noncomputable def pX(l:aT)(D:ah)(G:aO)(k:bh Fin):bh Fin:=do(do let _<-dP (.builtin "list.append") [.ref D,<-aU l G])k
noncomputable def yY(U n:aT)(D:ah)(G:aO)(k:bh Fin):bh Fin:=do(do let i<-aU U G;let v<-ic [i] (aU n G)fL {U.pos with endLine:=n.pos.endLine,endCol:=n.pos.endCol}ic [i,v] (dictSet D i v))k
noncomputable def Bk(e:aT)(d:Nat)(u:aT)(D:ah)(G:aO)(k:bh Fin):bh Fin:=do let x<-aU u G;fL u.pos;let x<-g7 u G x;let _<-runOwn (.compStart e d (<-ic [x] (sE x)) (.ref D) G) G;k
theorem DW{l Z u q p R a D G}:om (.ListComp l [⟨Z,u,q,0⟩] p R) 0 a (.ref D) G=oA Z u q a G (pX l D G) (.compLoop (.ListComp l [⟨Z,u,q,0⟩] p R) 0 a (.ref D) G):=by rfl
theorem Kv{l Z u q b n d r p R a D G}:om (.ListComp l (⟨Z,u,q,0⟩::⟨b,n,d,0⟩::r) p R) 0 a (.ref D) G=oA Z u q a G (Bk (.ListComp l (⟨Z,u,q,0⟩::⟨b,n,d,0⟩::r) p R) 1 n D G) (.compLoop (.ListComp l (⟨Z,u,q,0⟩::⟨b,n,d,0⟩::r) p R) 0 a (.ref D) G):=by rfl
theorem Uw{l g b n d p R a D G}:om (.ListComp l [g,⟨b,n,d,0⟩] p R) 1 a (.ref D) G=oA b n d a G (pX l D G) (.compLoop (.ListComp l [g,⟨b,n,d,0⟩] p R) 1 a (.ref D) G):=by rfl
theorem Ux{l g Z u q b n d p R a D G}:om (.ListComp l [g,⟨Z,u,q,0⟩,⟨b,n,d,0⟩] p R) 1 a (.ref D) G=oA Z u q a G (Bk (.ListComp l [g,⟨Z,u,q,0⟩,⟨b,n,d,0⟩] p R) 2 n D G) (.compLoop (.ListComp l [g,⟨Z,u,q,0⟩,⟨b,n,d,0⟩] p R) 1 a (.ref D) G):=by rfl
theorem Uy{l g s b n d p R a D G}:om (.ListComp l [g,s,⟨b,n,d,0⟩] p R) 2 a (.ref D) G=oA b n d a G (pX l D G) (.compLoop (.ListComp l [g,s,⟨b,n,d,0⟩] p R) 2 a (.ref D) G):=by rfl
theorem V4{U n Z u q p R a D G}:om (.DictComp U n [⟨Z,u,q,0⟩] p R) 0 a (.ref D) G=oA Z u q a G (yY U n D G) (.compLoop (.DictComp U n [⟨Z,u,q,0⟩] p R) 0 a (.ref D) G):=by rfl
noncomputable def TS(A:aG)(G:aO)(B:aB)(q:List aT)(b:Bool):Prop:=∀(s:au)(E:aj->au->Prop),Kp B s.heap->av (aA PW w) A (EG q G) (λr S=>Ks s S/\r=b) E s
theorem TS.nil{A:aG}{G:aO}{B:aB}:TS A G B [] af:=λs E k=>aN ⟨.refl s,rfl⟩
theorem TS.one{A:aG}{G:aO}{B:aB}{c:aT}{b:Bool}(t:TV A G B c b):TS A G B [c] b:=λs E k=>by unfold EG;simp only[tP,KX,if_true];exact aq (aq (aC (t s E k) (λb S R=>aN (aN R)) λ_ _ x=>x))
noncomputable def CE(A:aG)(e:aT):Prop:=∀d a i G,(xcl e d a i G).isFrame=ay/\(DH e d a i G).isFrame=ay/\A.under (.compLoop e d a i G)=A/\A.under (.compStart e d a i G)=A
theorem CE.list{A:aG}{l a p R}:CE A (.ListComp l a p R):=λ_ _ _ _=>⟨rfl,rfl,rfl,rfl⟩
theorem CE.dict{A:aG}{k v a p R}:CE A (.DictComp k v a p R):=λ_ _ _ _=>⟨rfl,rfl,rfl,rfl⟩
noncomputable def fl{L N:Type}(p:L->Bool)(g:L->List N)(t:List L):List N:=t.flatMap λa=>if p a=af then g a else[]
theorem yM{L N:Type}{p:L->Bool}{g:L->List N}{l m:List L}:fl p g (l++m)=fl p g l++fl p g m:=Jx
theorem qQ{L N:Type}{p:L->Bool}{f:L->N}:∀{l:List L},fl p (λa=>[f a]) l=(l.filter p).map f:=λ{l}=>by induction l with|nil=>rfl|cons a l G=>refine O Dn (O (show a::l=[a]++l from rfl) (O yM (O G ?_)));cases h:p a<;>simp[fl,h]
theorem EH{L N:Type}{f:L->N}{l:List L}:fl (λ_=>af) (λa=>[f a]) l=l.map f:=by exact O qQ (O (zP.mpr λ_ _=>rfl) rfl)
structure wZ{N:Type}(g:List ah)(R:ah->List N->List ah->aB->Prop)(H:List N->Prop):Prop where
kp:∀{D l Y h h'},bg Y h h'->(∀b∈D::g,∀o,h.get? b=aa o->h'.get? b=aa o)->R D l Y h->R D l Y h'
less:∀{D l Y q h},(∀a∈q,a∈Y)->R D l Y h->R D l q h
pre:∀{l m},H (l++m)->H l
noncomputable def Out{N:Type}(A:aG)(G:aO)(B:aB)(g V X:List ah)(D:ah)(R:ah->List N->List ah->aB->Prop)(H:List N->Prop)(P:Gm)(f:bh Fin->bh Fin)(z:List N):Prop:=∀(l:List N)(Y:List ah)(s:au)(E:aj->au->Prop)(k:bh Fin)(Q:Fin->au->Prop),H (l++z)->(∀a∈X,a∈Y)->CX Y s.heap G P->bg g B s.heap->R D l Y s.heap->(∀b,bu (D::(V++g)) s b->CX Y b.heap G P->R D (l++z) Y b.heap->av (aA PW w) A k Q E b)->av (aA PW w) A (f k) Q E s
section
variable{A:aG}
theorem Kw{α β:Type}{e:aT}{d:Nat}{I D:ah}{G:aO}{tg iter:aT}{ifs:List aT}{E:bh Fin->bh Fin}{fp f X V PP:List ah}{B:List α}{kf:α->T}{p:α->Bool}{g:α->List β}{St:Nat->aB->Prop}{uC:Gm}{cV:α->Gm}{AC:ah->List β->List ah->aB->Prop}{ok:List β->Prop}{l₀:List β}{h₀:aB}{R:Result->au->Prop}(hturn:om e d (.ref I) (.ref D) G=oA tg iter ifs (.ref I) G E (.compLoop e d (.ref I) (.ref D) G))(ce:CE A e)(W:gz A I fp f (f++X) tg (B.map kf) St)(RH:∀a∈D::(V++PP),a∈X)(Ce:∀a∈aM G,a∈X)(hKV:∀b∈D::PP,b∉V)(Ie:∀b∈fp,b∉X)(mk:wZ PP AC ok)(has:∀a∈B,AS A G V tg (kf a) uC (cV a))(hle:∀a∈B,∀x t,uC x=aa t->cV a x=aa t)(htest:∀a∈B,∀Y h,CX Y h G (cV a)->bg PP h₀ h->TS A G h ifs (p a))(hin:∀a∈B,p a=true->Out A G h₀ PP V X D AC ok (cV a) E (g a))(hok:ok (l₀++fl p g B)){s:au}(c:CX (f++X) s.heap G uC)(st:St 0 s.heap)(ac:AC D l₀ (f++X) s.heap)(old:∀h,bg (f++D::(V++PP)) s.heap h->bg PP h₀ h)(hR:∀s',bu (f++D::(V++PP)) s s'->CX X s'.heap G uC->AC D (l₀++fl p g B) X s'.heap->R (.ok .next) s'):pU (aA PW w) A (.compLoop e d (.ref I) (.ref D) G) R s:=by have Cf:∀a∈f,a∈f++X:=λa=>bI _;have N:∀a∈X,a∈f++X:=λa=>cK _;have P9:∀a∈D::(V++PP),a∈f++X:=λa m=>N a (RH a m);have Ig:∀a∈V,a∈D::(V++PP):=λa m=>aZ _ (bI _ m);have Ih:∀b∈fp,b∉D::(V++PP):=λb m n=>Ie b m (RH b n);have RJ:∀a∈D::PP,a∉f:=λa m n=>Ih a (W.sub a n) ((bB.mp m).elim (λe=>e▸aQ ..) λm=>aZ _ (cK _ m));have xF:∀a∈f,a∈f++D::(V++PP):=λa=>bI _;have RK:∀a∈D::(V++PP),a∈f++D::(V++PP):=λa=>cK _;have how:∀a∈aM G,a∉f:=λa m n=>Ie a (W.sub a n) (Ce a m);have RM:∀a∈V,a∈f++X:=λa m=>P9 a (Ig a m);refine kR (ce d (.ref I) (.ref D) G) λhf _ hA _=>?_;refine codeAny_loop rfl (λk s'=>∃l r,B=l++r/\k=r.length+1/\bu (f++D::(V++PP)) s s'/\CX (f++X) s'.heap G uC/\St l.length s'.heap/\AC D (l₀++fl p g l) (f++X) s'.heap) (λk U hI=>?_) (B.length+1) ⟨[],B,rfl,rfl,.refl _ s,c,st,by exact O (show fl p g []=[]from rfl) (O (g8 ..) ac)⟩;refine jN hI λl r ha hk ks j OW P=>?_;refine O hA ?_;show av _ A (if(xcl e d (.ref I) (.ref D) G).isFrame=true then(om e d (.ref I) (.ref D) G).onRaise (leaving G)else(om e d (.ref I) (.ref D) G).onRaise λx=>do yH x G;theTreesLotGoes x) _ _ U;refine O hf (O (if_neg dk) ?_);refine wpAny_noted ?_;refine O hturn ?_;unfold oA;refine aq (cW (aq ?_));cases r with|nil=>rw[g8]at ha;subst ha;refine aC (W.done U _ (by exact O (aI ..) OW)) (λq s₂ x=>?_) λ_ _ e=>e;obtain⟨rfl,x⟩:=x;have kX:bg (f++X) U.heap s₂.heap:=x.kp.mono Cf;exact aN (hR s₂ (ks.trans (x.mono xF)) (j.shift x.kp how Cf N Ce λa m=>(j.live a (N a m)).imp λo e=>x.kp a o (λq=>Ie a (W.sub a q) m) e) (mk.less N (mk.kp kX (λb m o e=>x.kp b o (RJ b m) e) P)))|cons a r=>
have hai:(B.map kf)[l.length]?=aa (kf a):=by refine O ha ?_;simp
have Q:a∈B:=by refine O ha ?_;simp
refine aC (W.item l.length (kf a) U _ hai OW j.live) (λq s₂ x=>?_) λ_ _ e=>e;obtain⟨v,rfl,x⟩:=x;refine aq (aC x (λ_ s₃ y=>?_) λ_ _ e=>e);refine gW y λi M xfe=>?_;refine aq (aC (has a Q _ s₃ _ v RM (j.dM i.kp how Cf (j.live.dM i.kp (W.up _ _ M))) xfe) (λ_ s₄ y=>?_) λ_ _ e=>e);refine aW y λF c₄=>?_;have RN:bg (f++X) s₃.heap s₄.heap:=F.kp.mono RM;have S:bu (f++D::(V++PP)) s s₄:=ks.trans ((i.mono xF).trans (F.mono λa m=>RK a (Ig a m)));refine aq (aC (htest a Q _ _ c₄ (old _ S.kp) s₄ _ λ_ _ e=>e) (λok H y=>?_) λ_ _ e=>e);refine aW y λC z=>?_;try clear y;subst z
have c₅:=c₄.kp C.kp;have J:St (l.length+1) H.heap:=W.frame _ _ _ M (λb m o e=>C.kp b o (F.kp b o (λn=>Ih b m (Ig b n)) e)) (RN.trans (C.kp.bN _));have K:=mk.kp (C.kp.bN _) (λb m o e=>C.kp b o e) (mk.kp ((i.kp.mono Cf).trans RN) (λb m o e=>F.kp b o (hKV b m) (i.kp b o (RJ b m) e)) P);have u:bu (f++D::(V++PP)) s H:=S.trans (.of C);have hlen:(l++[a]).length=l.length+1:=by simp
have L:B=l++[a]++r:=by refine O ha ?_;simp
cases hp:p a with|false=>refine O (if_neg dk) ?_;refine aN ⟨rfl,r.length+1,by refine O hk ?_;simp,l++[a],r,L,rfl,u,c₅.less (hle a Q),by exact O hlen J,?_⟩;exact O yM (O (show fl p g [a]=[]by simp[fl,hp]) (O (g8 ..) K))|true=>
 refine O (if_pos rfl) ?_;have e1:fl p g [a]=g a:=by simp[fl,hp]
 refine hin a Q hp (l₀++fl p g l) _ H _ _ _ ?_ N c₅ (old _ u.kp) K λs₆ Z c₆ xcO=>?_;.rw[L,yM,yM,e1,<-fT,<-fT]at hok;exact mk.pre hok
 .refine aN ⟨rfl,r.length+1,by refine O hk ?_;simp,l++[a],r,L,rfl,u.trans (Z.mono RK),c₆.less (hle a Q),?_,by exact O yM (O e1 (aR (fT ..) xcO))⟩;exact O hlen (W.frame _ _ _ J (λb m o e=>Z.kp b o (Ih b m) e) (Z.kp.mono P9))
end
noncomputable def dX(g:List (ai×pP))(G:aO):List (ai×ah):=((g.filter λp=>p.2==.free).map λp=>(p.1,(G.cells.lookup p.1).getD 0)).reverse
noncomputable def i7:List ai->Bool|[]=>af|x::r=>!r.contains x&&i7 r
def i8(j:dW)(G:aO):Bool:=j.kind==.function&&(G.scope.kind==.function&&(i7 (j.names.map (·.1))&&j.names.all λp=>if p.2=.free then G.kindOf p.1==aa .cell||G.kindOf p.1==aa .free&&(G.cells.lookup p.1).isSome else if p.2=.globalImplicit then lY (G.kindOf p.1)else p.2==.local||p.2==.cell))
theorem v5{j:dW}{G:aO}(K:lN X h G)(H:i8 j G=af):j.kind=.function/\i7 (j.names.map (·.1))=af/\(∀x,(x,mC)∈j.names->(∃c,G.cells.lookup x=aa c)/\(G.kindOf x=aa .cell\/G.kindOf x=aa .free))/\∀x,(x,NameKind.globalImplicit)∈j.names->lY (G.kindOf x)=af:=by
 refine aW ((dZ _ _).mp H) λT o=>?_;refine aW ((dZ _ _).mp o) λ_ o=>?_;refine aW ((dZ _ _).mp o) λE o=>?_;refine⟨eq_of_beq T,E,λx m=>?_,λx m=>cj.mp o _ m⟩;refine bz ((yb _ _).mp (cj.mp o _ m)) (λq=>?_) λq=>?_;.exact(K.cell x (eq_of_beq q)).elim λc z=>z.elim λ_ z=>⟨⟨c,z.1⟩,.inl (eq_of_beq q)⟩
 .have q:=(dZ _ _).mp q;exact⟨CN.mp q.2,.inr (eq_of_beq q.1)⟩
theorem rN(h:i7 (x::r)=af):x∉r/\i7 r=af:=((dZ _ _).mp h).imp (λa m=>by replace a:=jz.mpr m▸a;cases a) id
theorem V5{l:List ai}(h:i7 l=af):l.Nodup:=by induction l with|nil=>exact .nil|cons x r G=>exact mj.mpr ⟨(rN h).1,G (rN h).2⟩
theorem Ky{L:Type}{l:List (ai×L)}(h:i7 (l.map (·.1))=af):l.Pairwise λx y=>x.1≠y.1:=Df.mp (V5 h)
theorem JB{L:Type}{l:List (ai×L)}{x:ai}{c:L}(h:l.Pairwise λx y=>x.1≠y.1)(m:(x,c)∈l):l.lookup x=aa c:=by induction l with|nil=>cases m|cons p l G=>
refine aW (C3.mp h) λa b=>?_;rcases bB.mp m with e|m;.subst e;exact CS
.show Na x ((p.1,p.2)::l)=_;rewrite[Dp,beq_false_of_ne (a _ m).symm];exact G b m
theorem C6{L:Type}{l:List (ai×L)}{x:ai}{k:L}(h:i7 (l.map (·.1))=af)(m:(x,k)∈l):l.lookup x=aa k:=JB (Ky h) m
theorem S2{L:Type}{l:List (ai×L)}{x:ai}{c:L}(m:(x,c)∈l):∃M,l.lookup x=some M:=by cases e:l.lookup x with|some M=>exact⟨M,rfl⟩|none=>exact absurd (List.lookup_eq_none_iff.mp e _ m) (by simp)
theorem Xk{G:aO}(m:p∈dX names G):(p.1,mC)∈names/\p.2=(G.cells.lookup p.1).getD 0:=by refine aH (bF.mp (J0.mp m)) λq j e=>?_;refine aW (d7.mp j) λU s=>?_;subst e;exact⟨eq_of_beq s▸U,rfl⟩
theorem La{G:aO}(g:List (ai×pP))(m:(x,mC)∈g):(x,(G.cells.lookup x).getD 0)∈dX g G:=J0.mpr (bF.mpr ⟨_,d7.mpr ⟨m,rfl⟩,rfl⟩)
theorem Xl{g:List (ai×pP)}(h:i7 (g.map (·.1))=af):(dX g G).Pairwise λx y=>x.1≠y.1:=List.pairwise_reverse.mpr (Df.mpr (((Ky h).filter _).imp λe=>e.symm))
theorem V6{env:aO}(l:∀n k a,f (n,k) a=if k==.free then do pure (.yield ((n,<-cellOf env n)::a))else pure (.yield a))(g:List (ai×pP)):∀(i:List (ai×ah)),(∀p∈g,p.2=.free->(env.cells.lookup p.1).isSome=af)->forIn g i f=pure (dX g env++i):=by induction g with|nil=>intro _ _;rfl|cons p r G=>
intro i h;have D:=λq m=>h q (aZ p m);refine O (tP ..) (O (show p=(p.1,p.2)from rfl) (O (l ..) ?_));by_cases N:(p.2==mC)=af;.refine aE (CN.mp (h p (aQ ..) (eq_of_beq N))) λc Z=>?_;rw[if_pos N,show cellOf env p.1=pure c by unfold cellOf;rw[Z],pure_bind,pure_bind];show forIn r _ f=_;rw[G _ D,dX,dX,Dn,if_pos N,f6,JU,fT,Z];rfl
.refine O (if_neg N) (O (pure_bind ..) ?_);show forIn r _ f=_;rw[G _ D,dX,dX,Dn,if_neg N]
theorem C7{j:dW}{G:aO}(h:∀p∈j.names,p.2=.free->(G.cells.lookup p.1).isSome=af):closureFor j G=pure (dX j.names G):=by simp only[closureFor];refine O (V6 (env:=G) λn k F=>by cases t:k==mC<;>simp j.names [] h) (O (g8 ..) ?_);rfl
theorem Dy(g:List (ai×pP)):∀n:Nat,∃o:List (ai×ah),(∀i,pM n g i=o++i)/\(∀p∈o,n<=p.2/\(p.1,mX)∈g)/\(o.Pairwise λx y=>x.2≠y.2)/\(∀x,(x,mX)∈g->∃c,(x,c)∈o)/\∀h:aB,h.objs.size=n->∀p∈o,(wJ h g).IsCell p.2 ak:=by induction g with|nil=>exact λn=>⟨[],λ_=>rfl,λ_ m=>absurd m cg,CV,λ_ m=>absurd m cg,λ_ _ _ m=>absurd m cg⟩|cons q r G=>
intro n;by_cases N:(q.2==mX)=af
.refine n8 (G (n+1)) λo e a b c d=>?_;refine⟨o++[(q.1,n)],λi=>(if_pos N).trans (by refine O (e ..) (O (fT ..) ?_);rfl),λp m=>?_,?_,λy m=>?_,λh W p m=>?_⟩
 .refine bz (bD.mp m) (λm=>?_) λm=>?_;.exact⟨nN (a p m).1,aZ _ (a p m).2⟩
  .rw[aX]at m;subst m;exact⟨cR _,eq_of_beq N▸aQ ..⟩
 .exact VR.mpr ⟨b,List.pairwise_singleton ..,λp m q H e=>vV n (by rw[aX.mp H]at e;exact bf (a p m).1 (di e))⟩
 .refine bz (bB.mp m) (λe=>?_) λm=>?_;.exact⟨n,cK _ (aX.mpr (congrArg (·,n) (congrArg F5 e)))⟩
  .exact(c y m).imp λ_=>bI _
 .rw[show wJ h (q::r)=wJ (h.push {cls:=.type "cell",data:=.cell ak}) r from if_pos N];refine bz (bD.mp m) (λm=>?_) λm=>?_;.exact d _ (by exact O (mu ..) (O W rfl)) p m
  .refine O (aX.mp m) ?_;exact xgZ (h:=h.push {cls:=.type "cell",data:=.cell ak}) ⟨_,by exact aR W (cF _ rfl),rfl⟩ (L6 _ _)
.refine n8 (G n) λo e a b c d=>?_;refine⟨o,λi=>(if_neg N).trans (e i),λp m=>⟨(a p m).1,aZ _ (a p m).2⟩,b,λy m=>?_,λh W=>by rw[show wJ h (q::r)=wJ h r from if_neg N];exact d h W⟩;refine bz (bB.mp m) (λe=>?_) λm=>?_;.subst e;exact absurd rfl N
 .exact c y m
theorem Tz{g:List (ai×pP)}(h:i7 (g.map (·.1))=af):∀{n:Nat}{i:List (ai×ah)},(∀p∈i,p.1∉g.map (·.1))->(i.Pairwise λx y=>x.1≠y.1)->(pM n g i).Pairwise λx y=>x.1≠y.1:=by induction g with|nil=>exact λ_ h=>h|cons q r G=>
intro n i K Q;refine aW (rN h) λU P=>?_;have D:∀p∈i,p.1∉r.map (·.1):=λp m z=>K p m (aZ _ z);by_cases N:(q.2==mX)=af;.rw[show pM n (q::r) i=pM (n+1) r ((q.1,n)::i)from if_pos N];exact G P (λp m=>(bB.mp m).elim (λe=>e▸U) (D p)) (C3.mpr ⟨λy m e=>K y m (e▸aQ ..),Q⟩)
.rw[show pM n (q::r) i=pM n r i from if_neg N];exact G P D Q
theorem Vf{L:Type}{f:ai->L->L}{l:List (ai×L)}{x:ai}:(l.map λp=>(p.1,f p.1 p.2)).lookup x=(l.lookup x).map (f x):=by induction l with|nil=>rfl|cons p l G=>
by_cases e:x=p.1;.subst e;refine O (show p::l=(p.1,p.2)::l from rfl) (O f6 (O CS (O CS ?_)));rfl
.rewrite[show p::l=(p.1,p.2)::l from rfl,f6,Dp,Dp,beq_false_of_ne e];exact G
theorem S9{G:aO}{g:List (ai×pP)}{x:ai}:(g.map λ(n,k)=>if(k==mC&&G.scope.kind==.function&&G.kindOf n==aa .cell)then(n,mX)else(n,k)).lookup x=(g.lookup x).map λk=>if(k==mC&&G.scope.kind==.function&&G.kindOf x==aa .cell)then mX else k:=by exact aR (Vf (f:=λx k=>if(k==mC&&G.scope.kind==.function&&G.kindOf x==aa .cell)then mX else k)) (congrArg (Na x) (congrArg (List.map · g) (funext λp=>(apply_ite (Prod.mk p.1) _ _ _).symm)))
def dU(j:dW)(G:aO)(P:Gm):Gm:=λx=>if j.names.lookup x=aa .free\/j.names.lookup x=aa .globalImplicit\/j.names.lookup x=ak/\lY (G.kindOf x)=af then P x else ak
theorem Vg{s:au}{G:aO}{scope:dW}(X:Q {scope,locals:=s.heap.objs.size,globals:=G.globals,cells:=pM (s.heap.objs.size+1) scope.names b,qual:=G.qual,func:=ak,code:=G.code,frame:=G.frame,builtins:=G.builtins} {s with heap:=wJ (s.heap.push {cls:=.type "dict",data:=.dict #[]}) scope.names}):av M A (xgw scope G.globals b [] G.qual ak .none (aa G)) Q E s:=by simp only[xgw,Option.isSome_some,if_true];refine aq (wpAny_alloc ?_);refine aq (wpAny_layCells _ λi a f=>by cases t:a==mX<;>simp[t] _ _ _ _ ?_);refine aq (aN (aN ?_));exact O (show({s with heap:=s.heap.push {cls:=.type "dict",data:=.dict #[]}}:au).heap.objs.size=s.heap.objs.size+1 from mu ..) X
structure Hq(j:dW)(F:List (ai×ah))(C:ah)(G:aO)(V:List ah):Prop where ok:∀x,j.names.lookup x=aa .local\/j.names.lookup x=aa .cell->((dO j F C G).kindOf x=aa .local\/(dO j F C G).kindOf x=aa .cell)/\dh (dO j F C G) x∈V
theorem Ua{l:List (ai×ah)}(h:l.Pairwise λx y=>x.1≠y.1)(k:∀p∈l,∀q∈l,p.2=q.2->p.1=q.1):l.Pairwise λx y=>x.2≠y.2:=by induction l with|nil=>exact CV|cons p r G=>refine aW (C3.mp h) λa b=>?_;exact C3.mpr ⟨λq m e=>a q m (k p (aQ ..) q (aZ _ m) e),G b λp m q H=>k p (aZ _ m) q (aZ _ H)⟩
theorem AL{L:Type}{F:List (ai×L)}{P:L->Prop}{x:ai}{c:L}(m:(x,c)∈F)(h:∀q,(x,q)∈F->P q):∃q,F.lookup x=aa q/\P q:=(S2 m).imp λq e=>⟨e,h q (mem_of_lookup e)⟩
theorem CX.frame{h C:aB}{env:aO}{o cl:List (ai×ah)}(k:Kp h C)(l:bJ X h)(j:env.scope.kind=.function)(D:env.cells=o++cl)(i:∀q∈env.locals::o.map (·.2),h.get? q=ak)(g:∀p∈o,p.2≠env.locals)(B:∃o,h.get? env.globals=aa o)(r:∃o,h.get? env.builtins=aa o)(H:env.globals∉X)(E:env.builtins∉X)(s:∃m,C.Ns env.locals m)(w:∀p∈o,∃F,C.IsCell p.2 F)(S:o.Pairwise λx y=>x.2≠y.2)(b:∀p∈cl,p.2∈X)(I:cl.Pairwise λx y=>x.2≠y.2)(a:∀x,env.kindOf x=aa .cell->∃c F,env.cells.lookup x=aa c/\C.IsCell c F)(f:∀x t,G x=aa t->∃v,Rep X h t v/\iU C env x v):CX (env.locals::o.map (·.2)++X) C env G:=by
 have A:∀q z,h.get? q=aa z->q∉X->q∉env.locals::o.map (·.2)++X:=λq z e n m=>(bD.mp m).elim (λm=>gone e (i q m)) n;have d:∀p∈o,p.2∈env.locals::o.map (·.2):=λp m=>aZ _ (bF.mpr ⟨p,m,rfl⟩);have u:∀p∈cl,∀q∈env.locals::o.map (·.2),q≠p.2:=λp m q n e=>(l _ (b p m)).elim λz y=>gone y (e▸i q n);refine⟨⟨j,s,bI _ (aQ ..),B.elim λz e=>A _ z e H,r.elim λz e=>A _ z e E,a,λx q m=>?_,D▸VR.mpr ⟨S,I,λp m q n=>u q n _ (d p m)⟩,λx q m=>?_⟩,λq m=>?_,⟨B.imp λ_=>k _ _,r.imp λ_=>k _ _⟩,λx t e=>(f x t e).imp λv z=>⟨Rep.kp (k.bN _) t v (Rep.wide (λq m=>(bD.mp m).imp (i q) id) t v z.1),z.2⟩⟩;.exact(bD.mp (D▸m)).elim (λm=>bI _ (d _ m)) λm=>cK _ (b _ m)
 .exact(bD.mp (D▸m)).elim (g _) λm=>(u _ m _ (aQ ..)).symm
 .refine bz (bD.mp m) (λm=>?_) λm=>?_
  .rcases bB.mp m with e|m;.exact e▸s.elim λ_ z=>z.imp λ_ z=>z.elim λ_ z=>z.elim λ_ z=>z.1
   .refine aH (bF.mp m) λp Q e=>?_;exact e▸(w p Q).elim λ_ z=>z.imp λ_ z=>z.1
  .exact(l.kp k) q m
theorem EI{G:aO}{g:List (ai×pP)}(c:CX X h G a)(l:i7 (g.map (·.1))=af)(K:∀x,(x,mC)∈g->∃c,G.cells.lookup x=aa c):(∀p∈dX g G,g.lookup p.1=aa .free/\G.cells.lookup p.1=aa p.2)/\(∀p∈dX g G,p.2∈X)/\(dX g G).Pairwise λx y=>x.2≠y.2:=by
 have h:∀p∈dX g G,g.lookup p.1=aa .free/\G.cells.lookup p.1=aa p.2:=λp m=>by refine aW (Xk m) λm e=>?_;exact⟨C6 l m,(K _ m).elim λz I=>by refine O e (O I ?_);rfl⟩
 exact⟨h,λp m=>c.ok.own p.1 p.2 (mem_of_lookup (h p m).2),Ua (Xl l) λp m q H e=>name_of_addr c.ok.apart (mem_of_lookup (h p m).2) (e▸mem_of_lookup (h q H).2)⟩
theorem JC:aa mC≠aa .cell:=nofun
theorem CX.comp{X:List ah}{h:aB}{G:aO}{P:Gm}{scope:dW}(c:CX X h G P)(H:i8 scope G=af){C:ah}{cs:List (ai×ah)}{h₂:aB}(S:C=h.objs.size)(D:cs=pM (C+1) scope.names (dX scope.names G))(j:h₂=wJ (h.push {cls:=.type "dict",data:=.dict #[]}) scope.names):∃V,CX (V++X) h₂ (dO scope cs C G) (dU scope G P)/\Kp h h₂/\(∀a∈V,h.get? a=none)/\(∀a∈V,C<=a)/\C∈V/\Hq scope cs C G V:=by
 refine kR (v5 c.ok H) λU E l M=>?_;refine n8 (Dy scope.names (C+1)) λo e a b B d=>?_;have i:cs=o++dX scope.names G:=D.trans (e _);subst S;have k:Kp h h₂:=λb x e=>j▸L6 _ _ b x (bX _ e);refine gW (EI c E λx m=>(l x m).1) λA K I=>?_;have w:∀p∈o,h₂.IsCell p.2 none:=λp m=>j▸d _ (mu ..) p m;have R:∀x,scope.names.lookup x=some .cell->∃q,cs.lookup x=some q/\(x,q)∈o:=λx Y=>(B x (mem_of_lookup Y)).elim λq hq=>AL (i▸bI _ hq) λq m=>(bD.mp (i▸m)).elim id λm=>absurd ((A _ m).1.symm.trans Y) JC;have n:∀x,scope.names.lookup x=some .free->cs.lookup x=G.cells.lookup x:=λx Y=>(AL (P:=λq=>G.cells.lookup x=some q) (i▸cK _ (La _ (mem_of_lookup Y))) λq m=>(bD.mp (i▸m)).elim (λm=>absurd (Y.symm.trans (C6 E (a _ m).2)) JC) λm=>(A _ m).2).elim λq z=>z.1.trans z.2.symm;have f:∀x,(dO scope cs h.objs.size G).kindOf x=(scope.names.lookup x).map λk=>if(k==mC&&G.scope.kind==.function&&G.kindOf x==some .cell)then mX else k:=λx=>S9;have r:∀q∈h.objs.size::o.map (·.2),h.objs.size<=q:=λq m=>by
  refine bz (bB.mp m) (λe=>?_) λm=>?_;.exact di e.symm
  .refine aH (bF.mp m) λp Q e=>?_;exact e▸nN (a p Q).1
 refine⟨_,CX.frame (env:=dO scope cs h.objs.size G) k c.live U i (λq m=>get?_none_of_le (r q m)) (λp m=>gb (a p m).1) c.eZ.1 c.eZ.2 c.ok.eN c.ok.blt ⟨_,j▸(Heap.Ns.new h (.type "dict")).keeps (L6 _ _)⟩ (λp m=>⟨_,w p m⟩) b K I (λx e=>?_) λx t e=>?_,k,λq m=>get?_none_of_le (r q m),r,aQ ..,⟨λx Y=>?_⟩⟩;.replace e:=f ..▸e;cases Y:scope.names.lookup x with|none=>replace e:=Y▸e;cases e|some T=>
  replace e:=Y▸e;have e:=nR e;by_cases Z:(T==mC&&G.scope.kind==.function&&G.kindOf x==some .cell)=af;.refine aW ((dZ _ _).mp Z) λZ hd=>?_;refine eK (c.ok.cell x (eq_of_beq hd)) λq F s W=>?_;exact⟨q,F,(n x (Y.trans (congrArg some (eq_of_beq ((dZ _ _).mp Z).1)))).trans s,W.keeps k⟩
  .exact(R x (Y.trans (congrArg some ((if_neg Z).symm.trans e)))).imp λq z=>⟨none,z.1,w _ z.2⟩
 .unfold dU at e;by_cases Z:scope.names.lookup x=some .free\/scope.names.lookup x=some .globalImplicit\/scope.names.lookup x=none/\lY (G.kindOf x)=af
  .replace e:=if_pos Z▸e;refine(c.val x t e).imp λv z=>⟨z.1,?_⟩;have L:lY (G.kindOf x)=af->lY ((dO scope cs h.objs.size G).kindOf x)=af->iU h₂ (dO scope cs h.objs.size G) x v:=λg J=>.inl ⟨J,(z.2.gv g).at (k _) (k _)⟩;refine bz Z (λY=>?_) λzz=>bz zz (λY=>?_) λu=>?_
   .have N:=(l x (mem_of_lookup Y)).2;refine .inr (.inr ⟨?_,(z.2.cellOf N).imp λq y=>⟨(n x Y).trans y.1,y.2.keeps k⟩⟩);refine O (f ..) (O Y ?_);show some (if _ then _ else _)=_\/some (if _ then _ else _)=_;by_cases Z:(mC==mC&&G.scope.kind==.function&&G.kindOf x==some .cell)=af;.exact O (if_pos Z) (.inl rfl)
    .exact O (if_neg Z) (.inr rfl)
   .exact L (M x (mem_of_lookup Y)) (by refine O (f ..) (O Y ?_);rfl)
   .obtain⟨Y,g⟩:=u;exact L g (by refine O (f ..) (O Y ?_);rfl)
  .replace e:=if_neg Z▸e;cases e
 .refine bz Y (λY=>?_) λY=>?_;.have:=(f x).trans (by refine O Y ?_;rfl:_=some NameKind.local);exact⟨.inl this,DV this▸aQ ..⟩
  .have:=(f x).trans (by refine O Y ?_;rfl:_=some mX);exact⟨.inr this,(R x Y).elim λq z=>Ek this z.1▸aZ _ (bF.mpr ⟨_,z.2,rfl⟩)⟩
section
variable{A:aG}
theorem Jo{g:Ng}(H:(QH e)[d]?=aa g)(K:g.is_async=0)(F:(DH e d a i G).isFrame=ay)(Z:∀h,A.under (DH e d a i G)=h->h=A)(b:∀E,av (aA PW w) A (sE a) (λv U=>v=a/\U=s) E s)(D:pU (aA PW w) A (.compLoop e d a i G) R s):pU (aA PW w) A (.compStart e d a i G) R s:=by
 refine L7 ?_;refine O (Z _ rfl) ?_;show av _ A (if(DH e d a i G).isFrame=af then(QI e d a i G).onRaise (leaving G)else(QI e d a i G).onRaise λx=>do yH x G;fL theWindowsPlace) _ _ s;refine O F (O (if_neg dk) ?_);refine wpAny_notedAt ?_;unfold QI;refine O H ?_;have I:Option.elim (aa g) ay λx=>x.is_async !=0=ay:=by simp[K]
 refine O I ?_;show av _ A (ask>>=_) _ _ s;refine aq (wpAny_askSetting (wpAny_ite ?_));split;.first|exact aq (aN (aN (iR rfl D)))|exact aN (iR rfl D)
 .refine aq (qE ?_);show av _ _ (fL g.iter.pos>>=_) _ _ s;refine aq (cW (aq (aC (b _) (λv U x=>?_) λ_ _ e=>e)));refine aW x λy u=>?_;try clear x;subst y;subst u
  exact aN (iR rfl D)
theorem jE.wide{B h h':aB}(i:jE A X B h I c z d Q)(k:Kp h h')(w:∀a∈Y,h.get? a=ak\/a∈X):∃p,gz A I c z (z++Y) d Q p/\p 0 h'/\∀b∈c,b∉Y:=by
 obtain⟨p,W,M⟩:=i.st (z++Y) (λa m=>by
rcases bD.mp m with m|m;.exact .inr (.inr m)
.exact(w a m).elim .inl λm=>.inr (.inl m)) λa m=>bI _ m;refine⟨p,W,W.frame 0 h h' M (λb m o e=>k b o e) (k.bN _),λb m n=>?_⟩;rcases w b n with q|q;.refine aE (i.up b m) λo e=>?_;exact gone e q
 .exact i.off b m q
theorem Xm{j:dW}(c:CX X h G b)(H:i8 j G=af)(m:a∈aM (dO j (pM (C+1) j.names (dX j.names G)) C G)):a=C\/C<a\/a∈aM G:=by
 refine kR (v5 c.ok H) λ_ E l _=>?_;rcases bB.mp m with e|m;.exact .inl e
 .refine aH (bF.mp m) λp D e=>?_;refine dm (Dy j.names (C+1)) λr K f _=>?_;have D:p∈pM (C+1) j.names (dX j.names G):=D;rw[K]at D;rcases bD.mp D with z|z;.exact .inr (.inl (e▸(f _ z).1))
  .exact .inr (.inr (aZ _ (bF.mpr ⟨p,mem_of_lookup ((EI c E λx m=>(l x m).1).1 p z).2,e⟩)))
structure TG(A:aG)(j:dW)(G:aO)(Z:aT)(t:T)(P r:Gm):Prop where
as:∀C cs V,Hq j cs C G V->AS A (dO j cs C G) V Z t P r
le:br P r
structure Spot(j:dW)(G:aO)(g:List ah)(B:aB)(C:ah)(F:List (ai×ah))(V:List ah)(D:ah):Prop where
wo:Hq j F C G V
new:∀a∈D::V,B.get? a=ak
off:∀b∈D::g,b∉V/\b∉aM (dO j F C G)nP:D∉g
theorem Ak{α β:Type}{e:aT}{j:dW}{G:aO}{pos:aS}{tg u:aT}{ifs:List aT}{rest:List Ng}{use:Option (aj->bh Unit)}{t:bh aj}{f:bR}{F:ah->aO->bh Fin->bh Fin}{X PP:List ah}{as:List α}{kf:α->T}{p:α->Bool}{g:α->List β}{γ:Gm}{cV:α->Gm}{AC:ah->List β->List ah->aB->Prop}{ok:List β->Prop}{Q E:aj->au->Prop}{s:au}(hPP:∀a∈PP,a∈X)(Ii:∀a∈PP,a∉aM G)(mk:wZ PP AC ok)(c:CX X s.heap G γ)(S:i8 j G=af)(ce:CE A e)(hi:IT A G X s.heap u tg (as.map kf))(hcl:QH e=⟨tg,u,ifs,0⟩::rest)(Z:∀I D r,om e 0 (.ref I) (.ref D) r=oA tg u ifs (.ref I) r (F D r) (.compLoop e 0 (.ref I) (.ref D) r))(hnew:∀(s:au)(Q E:aj->au->Prop),Q (.ref s.heap.objs.size) {s with heap:=s.heap.push f}->av (aA PW w) A t Q E s)(hlive:∀h:aB,(h.push f).get? h.objs.size=aa f)(hacc:∀(h:aB)Y,Kp s.heap h->(∀a∈Y,s.heap.get? a=ak\/a∈X)->AC h.objs.size [] Y (h.push f))(RO:∀a∈as,TG A j G tg (kf a) (dU j G γ) (cV a))(U:∀a∈as,∀C B Y h,CX Y h (dO j B C G) (cV a)->bg PP s.heap h->TS A (dO j B C G) h ifs (p a))(hin:∀C B V D,Spot j G PP s.heap C B V D->∀a∈as,p a=af->Out A (dO j B C G) s.heap PP V (D::(V++X)) D AC ok (cV a) (F D (dO j B C G)) (g a))(hok:ok (fl p g as))(post:∀D C s' m,bu PP s s'->s.heap.get? D=ak->s.heap.get? C=ak->D≠C->s'.heap.Ns C m->AC D (fl p g as) (D::C::X) s'.heap->GV (aA PW w) A E use Q (.ref D) C (.ok .next) s')(hs:∀x,g7 u G x=pure x):av (aA PW w) A (Eg e j G pos t ay (aU u G) use) Q E s:=by
 refine kR (v5 c.ok S) λo1 o3 o4 _=>?_;refine wpAny_comprehension_free (cl:=dX j.names G) hcl hs (C7 λq m hq=>CN.mpr (o4 q.1 (hq▸m)).1) o1 (λx m e=>C6 o3 (e▸m)) ?_;refine aC (hi s E λ_ _ e=>e) (λxv s₁ h₁=>aC h₁ (λit J h₂=>?_) λ_ _ e=>e) λ_ _ e=>e;obtain⟨ks,I,fp,wr,rfl,i⟩:=h₂;refine hnew _ _ _ (Vg ?_);generalize hD:J.heap.objs.size=D;generalize L:J.heap.push f=d;have k3:Kp J.heap d:=λb o e=>by exact aR L (bX _ e)
 have fr:∀{b},D<=b->J.heap.get? b=ak:=λhb=>get?_none_of_le (hD▸hb);have frs:∀{b},J.heap.get? b=ak->s.heap.get? b=ak:=λe=>g9 ks.kp e;have l:s.heap.get? D=ak:=frs (fr (cR _));have hDu:d.get? D=aa f:=by exact aR L (aR hD (hlive _))
 have xff:d.objs.size=D+1:=by exact aR L (O (mu ..) (O hD rfl))
 have ka:Kp s.heap d:=ks.kp.trans k3;have c3:CX (D::wr++X) d G γ:=c.widen ka (λa m=>(bB.mp m).elim (λe=>e▸l) (i.new a)) λa m=>(bB.mp m).elim (λe=>⟨_,e▸hDu⟩) λm=>(i.up a (i.sub a m)).imp λo=>k3 a o;dsimp only;refine VY (CX.comp (scope:=j) c3 S (C:=d.objs.size) (cs:=cellsFrom (d.objs.size+1) j.names (dX j.names G)) (h₂:=pushCells (d.push {cls:=.type "dict",data:=.dict #[]}) j.names) rfl rfl rfl) λV c4 k4 vn vC RP wo=>?_;rw[xff]at c4 vC RP wo⊢;generalize hh4:pushCells (d.push {cls:=.type "dict",data:=.dict #[]}) j.names=P at c4 k4⊢;have H:=λa=>Xm (a:=a) (C:=D+1) c S;generalize cellsFrom (D+1+1) j.names (dX j.names G)=B at c4 wo H⊢;have RQ:∀a∈V,J.heap.get? a=ak:=λa m=>fr (nN (vC a m));have K:∀a∈V,s.heap.get? a=ak:=λa m=>frs (RQ a m);have Ij:D∉V:=λm=>WR _ (vC D m);obtain⟨St,W,st,sY⟩:=i.wide (h':=P) (Y:=D::(V++X)) (k3.trans k4) λa m=>by
  refine bz (bB.mp m) (λN=>?_) λm=>?_;.subst N;exact .inl (fr (cR _))
  .exact(bD.mp m).imp (RQ a) id
 have y:∀a,a∈wr++D::(V++X)↔a∈V++(D::wr++X):=λa=>by simp only[bD,bB];exact⟨λh=>by rcases h with h|h|h|h<;>simp[h],λh=>by rcases h with h|(h|h)|h<;>simp[h]⟩
 have M:∀{a},(∃o,J.heap.get? a=aa o)->a∈aM (dO j B (D+1) G)->a∈aM G:=λ{a}h m=>by
  refine aE h λo e=>?_;have no:¬D<=a:=λz=>by exact gone e (fr z)
  refine bz (H a m) (λq=>?_) λzz=>bz zz (λq=>?_) λq=>?_;.exact absurd (q▸dN _) no
  .exact absurd (nN (nN q)) no
  .exact q
 have Ce:∀a∈aM (dO j B (D+1) G),a∈D::(V++X):=λa m=>(bD.mp ((y a).mpr (c4.ok.iW a m))).elim (λq=>absurd (c.ok.iW a (M (i.up _ (i.sub _ q)) m)) (i.off a (i.sub _ q))) id;have hDo:D∉aM (dO j B (D+1) G):=λm=>by
  refine bz (H D m) (λq=>?_) λzz=>bz zz (λq=>?_) λq=>?_;.exact Dt _ q.symm
  .exact WR _ (nN q)
  .refine aE (c.live D (c.ok.iW D q)) λo e=>?_;exact gone e l
 have R:∀b∈PP,∃o,s.heap.get? b=aa o:=λb m=>c.live b (hPP b m);have hDP:D∉PP:=λm=>by refine aE (R D m) λo e=>?_;exact gone e l
 have off:∀b∈D::PP,b∉V/\b∉aM (dO j B (D+1) G):=λb m=>by
  refine bz (bB.mp m) (λN=>?_) λm=>?_;.subst N;exact⟨Ij,hDo⟩
  .exact⟨λn=>by refine aE (R b m) λo e=>?_;exact gone e (K b n),λn=>Ii b m (M ((R b m).imp λo=>ks.kp b o) n)⟩
 have old:∀h,bg (wr++D::(V++PP)) s.heap h->bg PP s.heap h:=λh k b o np e=>k b o (λm=>by
refine bz (bD.mp m) (λm=>?_) λm=>?_;.exact gone e (i.new b m)
.refine bz (bB.mp m) (λN=>?_) λm=>?_;.subst N;exact gone e l
 .refine bz (bD.mp m) (λm=>?_) λm=>?_;.exact gone e (K b m)
  .exact np m) e;have RS:Kp s.heap P:=ka.trans k4;refine Jo (by refine O hcl ?_;rfl) rfl (ce _ _ _ _).2.1 (λh e=>e.symm.trans (ce _ _ _ _).2.2.2) (λE'=>aC (W.self 0 _ E' st) (λv s₁ x=>x) λ_ _ e=>e) ?_;refine Kw (h₀:=s.heap) (V:=V) (PP:=PP) (X:=D::(V++X)) (kf:=kf) (uC:=dU j G γ) (cV:=cV) (l₀:=[]) (Z ..) ce W (λa m=>(bB.mp m).elim (λe=>e▸aQ ..) λm=>aZ _ ((bD.mp m).elim (bI _) λm=>cK _ (hPP a m))) Ce (λb m=>(off b m).1) sY mk (λa m=>(RO a m).as _ B V wo) (λa m=>(RO a m).le) (λa m Y h c' k'=>U a m _ B Y h c' k') (hin _ B V D ⟨wo,λa m=>(bB.mp m).elim (λe=>e▸l) (K a),off,hDP⟩) hok (c4.narrow (λa m=>(y a).mp m) (λa m=>(y a).mpr (c4.ok.iW a m)) λa m=>c4.live a ((y a).mp m)) st ?_ (λh k=>old h ((RS.bN _).trans k)) ?_
 .have:=hacc J.heap (wr++D::(V++X)) ks.kp λa m=>by
   refine bz (bD.mp m) (λm=>?_) λm=>?_;.exact .inl (i.new a m)
   .refine bz (bB.mp m) (λN=>?_) λm=>?_;.subst N;exact .inl l
    .exact(bD.mp m).imp (K a) id
  rw[hD,L]at this;exact mk.kp (k4.bN _) (λb _ o e=>k4 b o e) this
 .intro s' kx cx ax;refine aE cx.ok.ns λm hm=>?_;refine post D (D+1) s' m ⟨old _ ((RS.bN _).trans kx.kp),?_⟩ l (frs (fr (dN _))) (Dt _).symm hm (mk.less (λa m=>?_) ax);.have e1:=kx.eq;have e2:=ks.eq;refine O e1 ?_;dsimp only;exact O e2 rfl
  .rcases bB.mp m with ea|m;.exact O ea (aQ ..)
   refine bz (bB.mp m) (λea=>?_) λm=>?_;.exact O ea (aZ _ (bI _ RP))
   .exact aZ _ (cK _ m)
theorem Out.next{L β:Type}{e:aT}{d:Nat}{D:ah}{G:aO}{V X:List ah}{Z u:aT}{y:List aT}{f:bh Fin->bh Fin}{z:List L}{S:L->T}{p:L->Bool}{g:L->List β}{P:Gm}{j:L->Gm}{R:ah->List β->List ah->aB->Prop}{N:List β->Prop}{B:aB}(ce:CE A e)(hg:(QH e)[d]?=aa ⟨Z,u,y,0⟩)(w:∀I,om e d (.ref I) (.ref D) G=oA Z u y (.ref I) G f (.compLoop e d (.ref I) (.ref D) G))(hn:∀a∈D::V,B.get? a=ak)(Ij:D∉V)(hX:∀a∈D::V,a∈X)(mk:wZ [] R N)(J:∀{D l Y M h},(∀a∈M,h.get? a=ak\/a∈Y)->R D l Y h->R D l M h)(hi:∀Y h,CX Y h G P->Kp B h->IT A G Y h u Z (z.map S))(has:∀a∈z,AS A G V Z (S a) P (j a))(hle:∀a∈z,∀x t,P x=aa t->j a x=aa t)(r:∀a∈z,∀Y h,CX Y h G (j a)->Kp B h->TS A G h y (p a))(hin:∀a∈z,p a=af->Out A G B [] V X D R N (j a) f (g a))(hs:∀x,g7 u G x=pure x):Out A G B [] V X D R N P (Bk e d u D G) (fl p g z):=λl Y U E k Q hok hY c H ac hk=>by
 have H:Kp B U.heap:=λb o e=>H b o cg e;unfold Bk;refine aq (aC (hi Y _ c H U E λ_ _ e=>e) (λxv s₂ K=>?_) λ_ _ e=>e);refine aq (cW (aq (wg (hs xv) (aq (dJ (aC K (λit q F=>?_) λ_ _ e=>e))))));obtain⟨C,I,fp,wr,rfl,i⟩:=F;refine dm (i.wide (h':=q.heap) (Y:=Y) (λ_ _ e=>e) λa m=>.inr m) λSt W st sY=>?_;have old:∀h,bg (wr++D::(V++[])) q.heap h->bg [] B h:=λh k b o _ e=>k b o (λm=>by
refine bz (bD.mp m) (λm=>?_) λm=>?_;.have:=H b o e;exact gone this (i.new b m)
.replace m:=g8 ..▸m;exact gone e (hn b m)) (C.kp b o (H b o e));refine aq (wpAny_runOwn (Jo hg rfl (ce _ _ _ _).2.1 (λh e=>e.symm.trans (ce _ _ _ _).2.2.2) (λE'=>aC (W.self 0 _ E' st) (λv U x=>x) λ_ _ e=>e) ?_));refine Kw (h₀:=B) (V:=V) (PP:=[]) (X:=Y) (kf:=S) (uC:=P) (cV:=j) (l₀:=l) (w I) ce W (λa m=>hY a (hX a (by replace m:=g8 ..▸m;exact m))) c.ok.iW (λb m=>by exact O (aX.mp m) Ij) sY mk has hle (λa m Y h c' k'=>r a m Y h c' λb o e=>k' b o cg e) (λa m hp l' M s E k Q h1 h2=>hin a m hp l' M s E k Q h1 λa m=>h2 a (hY a m)) hok (c.widen C.kp (λa m=>i.new a m) λb m=>i.up b (i.sub b m)) st (mk.kp (C.kp.bN _) (λb _ o e=>C.kp b o e) (J (λa m=>(bD.mp m).imp (i.new a) id) ac)) old λs' kx cx ax=>?_;refine hk s' ⟨λb o n e=>kx.kp b o (λm=>?_) (C.kp b o e),?_⟩ cx ax
 .refine bz (bD.mp m) (λm=>?_) λm=>?_;.exact gone e (i.new b m)
  .exact n m
 .have e1:=kx.eq;have e2:=C.eq;refine O e1 ?_;dsimp only;exact O e2 rfl
end
noncomputable def EF(A:aG)(G:aO)(X:List ah)(B:aB)(e:aT)(t:T):Prop:=∀(s:au)(E:aj->au->Prop),Kp B s.heap->av (aA PW w) A (aU e G) (λv S=>Ks s S/\Rep X S.heap t v/\∃a,v=.ref a/\s.heap.get? a=ak) E s
theorem EF.ev(x:EF A G X B e t):EV A G X B e t:=λs E k=>aC (x s E k) (λv S h=>⟨h.1,h.2.1⟩) λ_ _ e=>e
noncomputable def flat:T->Bool|.none=>af|.bool _=>af|.int _=>af|.str _=>af|.bytes _=>af|.aJ _=>af|_=>ay
theorem Rep.flat(f:Mine.flat t=af)(r:Rep X h t v):Rep Y h t v:=by cases t<;>first|exact r|cases f
theorem az.flat(f:∀t∈a,Mine.flat t=af)(r:az X h a b):az Y h a b:=az.ind (P:=λa b=>(∀t∈a,Mine.flat t=af)->az Y h a b) (λ_=>trivial) (λt _ _ _ x _ i f=>⟨Rep.flat (f t (aQ ..)) x,i λu m=>f u (aZ _ m)⟩) r f
theorem EV.flat(x:EV A G X B e t)(f:Mine.flat t=af):EV A G Y B e t:=λs E k=>aC (x s E k) (λv S h=>⟨h.1,h.2.flat f⟩) λ_ _ e=>e
theorem EF.flat(x:EF A G X B e (.list c))(l:bJ Y B)(f:∀t∈c,Mine.flat t=af):EF A G Y B e (.list c):=λs E k=>aC (x s E k) (λv S h=>by obtain⟨y,r,a,rfl,n⟩:=h;refine cI r.d8 λb xs e d p q=>?_;cases e;refine⟨y,?_,a,rfl,n⟩;exact⟨a,xs,rfl,λm=>let⟨o,e⟩:=(l.kp k) a m;by exact gone e n,p,az.flat f q⟩) λ_ _ e=>e
section
variable{A:aG}{G:aO}{X:List ah}{B:aB}{P:Gm}
theorem z8(s:au)(Q E:aj->au->Prop)(h:Q (.ref s.heap.objs.size) {s with heap:=s.heap.push {cls:=.type "list",data:=.seq #[] 0}}):av (aA PW w) A (uz []) Q E s:=tY h (by refine O dK ?_;decide)
theorem Dz(s:au)(Q E:aj->au->Prop)(h:Q (.ref s.heap.objs.size) {s with heap:=s.heap.push {cls:=.type "dict",data:=.dict #[]}}):av (aA PW w) A BH Q E s:=qu h
noncomputable def aL(I:List ah->aB->Prop)(D:ah)(l:List T)(Y:List ah)(h:aB):Prop:=fz Y D h (.list l)/\I Y h
noncomputable def xG(l:List T):Prop:=l.length<=100000
section
variable{g V:List ah}{I:List ah->aB->Prop}
theorem aL.ok(v:∀Y h h',bg Y h h'->(∀b∈g,∀o,h.get? b=aa o->h'.get? b=aa o)->I Y h->I Y h')(z:∀Y q h,(∀a∈q,a∈Y)->I Y h->I q h):wZ g (aL I) xG where kp k c a:=⟨a.1.kp k (c _ (aQ ..)),v _ _ _ k (λb m=>c b (aZ _ m)) a.2⟩;less y a:=⟨a.1.less y,z _ _ _ y a.2⟩;pre h:=bf (by exact O cL (e7 ..)) h
theorem Out.pX(Z:∀Y(s:au)(E:aj->au->Prop),CX Y s.heap G P->(∀a∈X,a∈Y)->bg g B s.heap->I Y s.heap->av (aA PW w) A (aU r G) (λv S=>bu g s S/\I Y S.heap/\(∀b∈g,∃o,S.heap.get? b=aa o)/\Rep Y S.heap t v) E s)(W:∀Y h h',bg Y h h'->(∀b∈g,∀o,h.get? b=aa o->h'.get? b=aa o)->I Y h->I Y h')(T:∀b∈D::g,b∈X)(K:∀b∈D::g,b∉V/\b∉aM G)(i:D∉g):Out A G B g V X D (aL I) xG P (pX r D G) [t]:=λl Y U E k Q H j c kk N hk=>by
 unfold Mine.pX;refine aq (aq (aC (Z Y U _ c j kk N.2) (λv J x=>?_) λ_ _ e=>e));refine kR x λM i2 u2 r2=>?_;refine aW N λz _=>?_;refine aH z λxs p R=>?_;have C:=T D (aQ ..);have y:∀a∈g,a∈Y:=λa m=>j a (T a (aZ _ m));refine aq (Jk (hsz:=by refine O dK (aR dw (O R.length ?_));have H:(l++[t]).length<=100000:=H;rw[cL]at H;exact bf (eB H) (gQ _ _)) (p.at λo e=>M.kp _ _ i e) λh' L sb=>aN ?_);have d:bg [D] J.heap h':=λb o n e=>(sb.2 b λq=>n (q▸aQ ..)).trans e;have f:∀a∈[D],a=D:=λa=>aX.mp;have u:bg Y J.heap h':=d.mono λa m=>f a m▸j D C;have F:CX Y J.heap G P:=c.dM M.kp (λa m n=>(K a (aZ _ n)).2 m) y (c.live.dM M.kp u2);refine hk _ ((M.mono λb m=>aZ _ (cK _ m)).trans ⟨d.mono λa m=>f a m▸aQ ..,rfl⟩) ?_ ⟨⟨xs.push v,L,?_⟩,W _ _ _ u (λb m o e=>d b o (λn=>i (f b n▸m)) e) i2⟩;.exact F.dM d (λa m n=>(K D (aQ ..)).2 (f a n▸m)) (λa m=>f a m▸j D C) (F.live.dM d λa m=>f a m▸L.elim λ_ e=>⟨_,e⟩)
 .exact O W5 (az.append (az.kp u _ _ (az.kp (M.kp.mono y) _ _ R)) ⟨Rep.kp u _ _ r2,trivial⟩)
theorem bg.nil(k:bg [] h h'):Kp h h':=λb o e=>k b o cg e
theorem bu.nil(k:bu [] s a):Ks s a:=⟨k.kp.nil,k.eq⟩
theorem Out.ev(L:∀Y h,CX Y h G P->(∀a∈X,a∈Y)->Kp B h->EV A G Y h l t)(d:D∈X)(f:D∉V/\D∉aM G):Out A G B [] V X D (aL λ_ _=>True) xG P (Mine.pX l D G) [t]:=.pX (λY s E c J k _=>aC (L Y _ c J k.nil s E λ_ _ e=>e) (λv S y=>⟨.of y.1,trivial,λ_ m=>absurd m cg,y.2⟩) λ_ _ e=>e) (λ_ _ _ _ _ i=>i) (λb m=>aX.mp m▸d) (λb m=>aX.mp m▸f) cg
end
theorem Ks.tail{s S:au}(k:Ks s S)(a:tZ C S.heap h')(J:s.heap.get? C=ak):Ks s {S with heap:=h'}:=by refine⟨λb o e=>(a.2 b λq=>gone (q▸e) J).trans (k.kp b o e),?_⟩;have e:=k.eq;dsimp only;exact O e rfl
noncomputable def w4(G:aO)(e:aT)(j:Option (aj->bh Unit)->bh aj):Prop:=∀(A:aG)(s:au)(E:aj->au->Prop),(∀Q:aj->au->Prop,av (aA PW w) A (j ak) Q E s->av (aA PW w) A (aU e G) Q E s)/\∀(Q:ek->au->Prop)(x:ai)(c R:aS),lG e (aa (.Name x c)) R.line G=pure af->av (aA PW w) A (j (aa (fV (.Name x c) G))) (λ_ S=>Q .next S) E s->av (aA PW w) A (dY (.Assign [.Name x c] e R) G) Q E s
theorem w4.list{l a j R}:w4 G (.ListComp l a j R) λN=>Eg (.ListComp l a j R) j G (Ox a R) (uz []) (Pr a) (QJ a G) N:=λA s E=>⟨λQ h=>h,λQ x c R W h=>by rewrite[YV _ _ _ _ W];exact aq (cW (aq (aq (mono h λ_ _ q=>aN (aN q)))))⟩
theorem w4.dict{U n a j R}:w4 G (.DictComp U n a j R) λN=>Eg (.DictComp U n a j R) j G (Ox a R) BH (Pr a) (QJ a G) N:=λA s E=>⟨λQ h=>h,λQ x c R W h=>by rewrite[YV _ _ _ _ W];exact aq (cW (aq (aq (mono h λ_ _ q=>aN (aN q)))))⟩
noncomputable def CU(A:aG)(G:aO)(X:List ah)(B:aB)(e:aT)(t:T):Prop:=∃j,w4 G e j/\∀(s:au)(N:Option (aj->bh Unit))(Q E:aj->au->Prop),Kp B s.heap->(∀D C a m,Ks s a->s.heap.get? D=ak->s.heap.get? C=ak->D≠C->a.heap.Ns C m->fz (D::C::X) D a.heap t->GV (aA PW w) A E N Q (.ref D) C (.ok .next) a)->av (aA PW w) A (j N) Q E s
noncomputable def EM(A:aG)(G:aO)(X:List ah)(B:aB)(e:aT)(t:T):Prop:=∀(s:au)(E:aj->au->Prop),Kp B s.heap->av (aA PW w) A (aU e G) (λv S=>Ks s S/\∃a,v=.ref a/\s.heap.get? a=ak/\fz (a::X) a S.heap t) E s
theorem CU.em(x:CU A G X B e t):EM A G X B e t:=λs E k=>x.elim λj x=>(x.1 A s E).1 _ (x.2 s ak _ E k λD C S m y f J K c r=>⟨m,c,λh' d=>⟨y.tail d J,D,rfl,f,(r.kp (λb o n e=>(d.2 b λq=>n (q▸aZ _ (aQ ..))).trans e) λo e=>(d.2 D K).trans e).less (both (aQ ..) λa m=>aZ _ (aZ _ m))⟩⟩)
theorem EM.ef(x:EM A G X B e t)(l:bJ X B):EF A G X B e t:=λs E k=>mono (x s E k) λv S y=>by obtain⟨c,a,rfl,n,r⟩:=y;exact⟨c,(r.less λb m=>aZ _ m).rep λm=>((l.kp k) a m).elim λo e=>gone e n,a,rfl,n⟩
theorem CU.ef(x:CU A G X B e t)(l:bJ X B):EF A G X B e t:=x.em.ef l
noncomputable def mS(A:aG)(j:dW)(G:aO)(B:aB)(i:Gm)(q:List aT)(b:Bool):Prop:=∀C a Y h,CX Y h (dO j a C G) i->Kp B h->TS A (dO j a C G) h q b
noncomputable def xH(A:aG)(j:dW)(G:aO)(B:aB)(i:Gm)(e:aT)(t:T):Prop:=∀C a Y h,CX Y h (dO j a C G) i->Kp B h->EV A (dO j a C G) Y h e t
noncomputable def pq(A:aG)(j:dW)(G:aO)(X:List ah)(B:aB)(i:Gm)(e:aT)(t:T):Prop:=∀C a Y h,CX Y h (dO j a C G) i->(∀x∈X,x∈Y)->Kp B h->EV A (dO j a C G) Y h e t
theorem CU.lists{L:Type}{n Z u:aT}{q:List aT}{e:List Ng}{j:dW}{R:aS}{t:List L}{K:L->T}{p:L->Bool}{g:L->List T}{l:L->Gm}{f:ah->aO->bh Fin->bh Fin}(c:CX X B G P)(S:i8 j G=af)(hi:IT A G X B u Z (t.map K))(r:∀I D d,om (.ListComp n (⟨Z,u,q,0⟩::e) j R) 0 (.ref I) (.ref D) d=oA Z u q (.ref I) d (f D d) (.compLoop (.ListComp n (⟨Z,u,q,0⟩::e) j R) 0 (.ref I) (.ref D) d))(F:∀a∈t,TG A j G Z (K a) (dU j G P) (l a))(o:∀a∈t,mS A j G B (l a) q (p a))(H:∀b,Kp B b->∀C v V D,Spot j G [] b C v V D->∀a∈t,p a=af->Out A (dO j v C G) b [] V (D::(V++X)) D (aL λ_ _=>True) xG (l a) (f D (dO j v C G)) (g a))(M:xG (fl p g t))(hs:∀x,g7 u G x=pure x):CU A G X B (.ListComp n (⟨Z,u,q,0⟩::e) j R) (.list (fl p g t)):=⟨_,.list,λs use Q E k w=>by exact Ak (PP:=[]) (λ_ m=>absurd m cg) (λ_ m=>absurd m cg) (aL.ok (λ_ _ _ _ _ i=>i) λ_ _ _ _ i=>i) (c.kp k) S .list (λU z y=>hi U z (k.trans y)) rfl r z8 (λh=>cF _ rfl) (λh Y _ _=>⟨⟨#[],⟨0,cF _ rfl⟩,trivial⟩,trivial⟩) F (λa m C v Y h W k'=>o a m C v Y h W (k.trans k'.nil)) (H _ k) M (λD C s' m ks N hC hn J ac=>w D C s' m ks.nil N hC hn J ac.1) hs⟩
theorem CU.yq{L:Type}{l Z u:aT}{q:List aT}{j:dW}{R:aS}{t:List L}{kf:L->T}{p:L->Bool}{f:L->T}{cV:L->Gm}(c:CX X B G P)(H:i8 j G=af)(e:IT A G X B u Z (t.map kf))(b:∀a∈t,TG A j G Z (kf a) (dU j G P) (cV a))(i:∀a∈t,mS A j G B (cV a) q (p a))(s:∀a∈t,p a=af->pq A j G X B (cV a) l (f a))(I:t.length<=100000)(W:autoParam (∀x,g7 u G x=pure x) yAI):CU A G X B (.ListComp l [⟨Z,u,q,0⟩] j R) (.list ((t.filter p).map f)):=by refine aR qQ ?_;refine CU.lists c H e (λ_ _ _=>DW) b i (λd k C F V D S a m Q=>.ev (λY h M J w=>s a m Q C F Y h M (λx m=>J x (aZ _ (cK _ m))) (k.trans w)) (aQ ..) (S.off D (aQ ..))) ?_ W;exact O qQ (bf (by rw[aI];exact nJ ..) I)
end
theorem yh{L N:Type}{f:L->List N}{n:Nat}:∀{l:List L},(∀a∈l,(f a).length<=n)->(l.flatMap f).length<=l.length*n|[],_=>by simp|a::l,h=>by exact O zS (O cL (O fC (O (Nat.add_mul ..) (O (yo ..) (O (jk ..) (mz (yh λb m=>h b (aZ _ m)) (h a (aQ ..))))))))
theorem C8{L N:Type}{f:L->N}{p:L->Bool}{l:List L}:((l.filter p).map f).length<=l.length:=by exact O (aI ..) (nJ ..)
section
variable{A:aG}{G:aO}{X:List ah}{B:aB}{P:Gm}
theorem FA{L N:Type}{p:L->Bool}{g:L->List N}{n:Nat}{l:List L}(h:∀a∈l,(g a).length<=n):(fl p g l).length<=l.length*n:=yh λa m=>by
 split;.exact h a m
 .exact jm _
theorem aL.wide{h:aB}(y:∀a∈q,h.get? a=ak\/a∈Y)(a:aL (λ_ _=>True) D l Y h):aL (λ_ _=>True) D l q h:=⟨a.1.imp λxs x=>⟨x.1,az.wide y _ _ x.2⟩,trivial⟩
theorem aL.mk:wZ [] (aL λ_ _=>True) xG:=aL.ok (λ_ _ _ _ _ i=>i) λ_ _ _ _ i=>i
theorem Cg{a:ah}{D:ah}{V X Y:List ah}(h:∀a∈D::(V++X),a∈Y):∀a∈X,a∈Y:=λa m=>h a (aZ _ (cK _ m))
theorem Ik:∀a∈D::V,a∈D::(V++X):=λa m=>(bB.mp m).elim (λe=>e▸aQ ..) λm=>aZ _ (bI _ m)
noncomputable def aD{K:Type}[DecidableEq K](s:KeyKind PW w K)(D:ah)(l:List (K×T))(Y:List ah)(h:aB):Prop:=(D==eo)=ay/\∃W,h.DictOf s D ((l.map (·.1)).zip W)/\W.length=l.length/\az Y h (l.map (·.2)) W
noncomputable def RT{K:Type}(l:List (K×T)):Prop:=l.length<=100000/\(l.map (·.1)).Nodup
theorem NN{K L:Type}[DecidableEq K]{s:KeyKind PW w K}{D:ah}{b:List L}{g:L->K}{f:L->T}{l:List (K×T)}{Y:List ah}{h:aB}(e:l=b.map λa=>(g a,f a))(a:aD s D l Y h):(D==eo)=ay/\∃W,h.DictOf s D ((b.map g).zip W)/\W.length=(b.map g).length/\az Y h (b.map f) W:=by subst e;obtain⟨m,W,p,q,r⟩:=a;rw[bO]at p r;exact⟨m,W,p,q.trans ((aI ..).trans (aI ..).symm),r⟩
theorem aD.mk{K:Type}[DecidableEq K]{knd:KeyKind PW w K}:wZ [] (aD knd) RT where kp k b a:=⟨a.1,a.2.imp λW x=>⟨x.1.at (b _ (aQ ..)),x.2.1,az.kp k _ _ x.2.2⟩⟩;less y a:=⟨a.1,a.2.imp λW x=>⟨x.1,x.2.1,az.less y _ _ x.2.2⟩⟩;pre h:=⟨bf (by exact O cL (e7 ..)) h.1,by have:=h.2;rw[fY]at this;exact(nM.mp this).1⟩
theorem Out.yY{K:Type}[DecidableEq K]{s:KeyKind PW w K}{Z vx:aT}{D:ah}{V:List ah}{x:K}{R t:T}(d:∀Y h v,Rep Y h R v->s.is x v=af)(hx:∀Y h,CX Y h G P->(∀a∈X,a∈Y)->Kp B h->EV A G Y h Z R)(he:∀Y h,CX Y h G P->(∀a∈X,a∈Y)->Kp B h->EV A G Y h vx t)(hD:D∈X)(ho:D∉V/\D∉aM G):Out A G B [] V X D (aD s) RT P (Mine.yY Z vx D G) [(x,t)]:=λl Y U E k Q ok H c kk ac hk=>by
 unfold Mine.yY;refine aq (aq (aC (hx Y _ c H kk.nil U E λ_ _ e=>e) (λkv J y=>?_) λ_ _ e=>e));refine aW y λM r2=>?_;refine aq (dJ (aC (he Y _ c H kk.nil J E M.kp) (λC j y=>?_) λ_ _ e=>e));refine aW y λk3 r3=>?_;obtain⟨sm,W,p,e,rl⟩:=ac;refine aW ok λg S=>?_;rw[cL]at g;rw[fY]at S;have L:Kp U.heap j.heap:=M.kp.trans k3.kp;have el:(l.map (·.1)).length=W.length:=by exact O (aI ..) (O e rfl)
 have I:Ca ((l.map (·.1)).zip W) x C=((l++[(x,t)]).map (·.1)).zip (W++[C]):=by
  unfold Ca;rw[if_neg,fY,Kg el];.rfl
  .intro q;rw[vN]at q;refine aH q λu m q=>?_;obtain⟨y,z⟩:=u;simp only[decide_eq_true_eq]at q;exact(nM.mp S).2.2 x (q▸(z3 m).1) x (aQ ..) rfl
 refine aq (cW (dJ (wpAny_dictSet_pairs (hsz:=O dK (O gP (BN (iV (nN g) e)))) (d _ _ _ r2) (p.at λo e=>L _ _ e) λh' F sb=>?_)));rw[I]at F;have r:bg [D] j.heap h':=λb o n e=>(sb.2 b λq=>n (q▸aQ ..)).trans e;have f:∀a∈[D],a=D:=λa=>aX.mp;have i:∀a∈[D],a∈Y:=λa m=>f a m▸H D hD;have kY:bg Y j.heap h':=r.mono i;have N:=c.kp L;refine hk _ ((bu.of (M.trans k3)).trans ⟨r.mono λa m=>f a m▸aQ ..,rfl⟩) ?_ ⟨sm,W++[C],F,by refine O cL (O cL (O e ?_));rfl,?_⟩;.exact N.dM r (λa m n=>ho.2 (f a n▸m)) i (N.live.dM r λa m=>f a m▸F.imp λ_⟨_,_,e,_⟩=>e)
 .exact O fY (az.append (az.kp kY _ _ (az.kp (L.bN _) _ _ rl)) ⟨Rep.kp kY _ _ r3,trivial⟩)
theorem CU.OX{L K:Type}[DecidableEq K]{knd:KeyKind PW w K}{tk:K->T}{kx vx Z u:aT}{z:List aT}{j:dW}{W:aS}{t:List L}{kf:L->T}{p:L->Bool}{g:L->K}{f:L->T}{b:L->Gm}{r:T}(d:∀x Y h v,Rep Y h (tk x) v->knd.is x v=af)(hr:∀D l Y h,l=(t.filter p).map (λa=>(g a,f a))->aD knd D l Y h->fz Y D h r)(c:CX X B G P)(ok:i8 j G=af)(hi:IT A G X B u Z (t.map kf))(N:∀a∈t,TG A j G Z (kf a) (dU j G P) (b a))(i:∀a∈t,mS A j G B (b a) z (p a))(hk:∀a∈t,p a=af->xH A j G B (b a) kx (tk (g a)))(F:∀a∈t,p a=af->pq A j G X B (b a) vx (f a))(J:((t.filter p).map g).Nodup)(hz:t.length<=100000)(R:∃o,B.get? eo=aa o)(hs:∀x,g7 u G x=pure x):CU A G X B (.DictComp kx vx [⟨Z,u,z,0⟩] j W) r:=⟨_,.dict,λs use Q E k n=>by
refine Ak (PP:=[]) (g:=λa=>[(g a,f a)]) (λ_ m=>absurd m cg) (λ_ m=>absurd m cg) (aD.mk (knd:=knd)) (c.kp k) ok .dict (λU H q=>hi U H (k.trans q)) rfl (λ_ _ _=>V4) Dz (λh=>cF _ rfl) (λh Y kh _=>⟨?_,[],by simpa using Dd h,rfl,trivial⟩) N (λa m C I Y h M y=>i a m C I Y h M (k.trans y.nil)) (λC I V D S a m hp=>.yY (d (g a)) (λY h M hY y=>hk a m hp C I Y h M (k.trans y)) (λY h M hY y=>F a m hp C I Y h M (Cg (a:=0) hY) (k.trans y)) (aQ ..) (S.off D (aQ ..))) ?_ (λD C s' m ks hD hC hn hns ac=>n D C s' m ks.nil hD hC hn hns (hr D _ _ _ qQ ac)) hs;.refine aE R λo ho=>?_;have:=dR (kh _ _ (k _ _ ho));exact beq_eq_false_iff_ne.mpr λe=>by rw[e]at this;exact vV _ this
.refine O qQ ?_;exact⟨bf C8 hz,by exact O bO J⟩⟩
end
noncomputable abbrev isNm(Z:aT):Prop:=tS Z=λ_ _=>pure ()
noncomputable abbrev BS(Z:aT):Prop:=tS Z=tS (.Tuple [] 0 default)
section
variable{A:aG}
theorem Lb(h:isNm b)(a v:aj):tS b a v=pure ():=congrFun (congrFun h a) v
theorem az.get{Y:List ah}{h:aB}{F:List T}{K:List aj}(r:az Y h F K){i:Nat}{t:T}{v:aj}(c:F[i]?=aa t)(a:K[i]?=aa v):Rep Y h t v:=by refine aH (r.at c) λq e f=>?_;replace e:=a▸e;cases e;exact f
theorem gz.ofWalks{Z:aT}{I:ah}{S z Y:List ah}{n:Nat}{P:Nat->aj->Prop}{p:Nat->aB->Prop}{Q:List T}(d:aB->Prop)(f:isNm Z)(W:Walks PW w A I S z n P p)(K:n=Q.length)(a:∀h h',d h->bg Y h h'->d h')(X:∀i v t h,P i v->Q[i]?=aa t->d h->Rep Y h t v)(V:∀i h,p i h->∀b∈z,∃o,h.get? b=aa o)(C:∀b∈z,b∈Y):gz A I S z Y Z Q λi h=>p i h/\d h where
sub:=W.sub;frame:=λi h h' M k U=>⟨W.frame i h h' M.1 k,a h h' M.2 U⟩;up:=λi h M=>V i h M.1;item:=λi t s E c M l=>by
 have F:i<n:=by
  refine O K ?_;refine bz (yk i Q.length) (λg=>?_) λg=>?_;.exact g
  .exact gone c (pF g)
 refine W.item i s _ E F M.1 λv h' G j st' k=>⟨v,rfl,?_⟩;rw[Lb f];have U:bg z s.heap h':=λb o n e=>k b o n e;exact aN ⟨⟨U,rfl⟩,⟨st',a _ _ M.2 (U.mono C)⟩,X i v t _ j c (a _ _ M.2 (U.mono C))⟩
done:=λs E M=>W.done s _ E (K▸M.1) λh' G k=>⟨rfl,λb o n e=>k b o n e,rfl⟩;self:=λi s E M=>W.self i s _ E M.1 ⟨rfl,rfl⟩
theorem gz.Au{D:List aT}{N:Nat}{j:aS}{I:ah}{S z Y:List ah}{n:Nat}{P:Nat->Array aj->Prop}{p:Nat->aB->Prop}{B:Nat->ah->aB->Prop}{Q:List T}(d:aB->Prop)(W:WalksT PW w A I S z n P p B)(K:n=Q.length)(a:∀h h',d h->bg Y h h'->d h')(X:∀i v t h,P i v->Q[i]?=aa t->d h->∃F,t=.tup F/\az Y h F v.toList)(V:∀i h,p i h->∀b∈z,∃o,h.get? b=aa o)(H:∀b∈z,b∈Y):gz A I S z Y (.Tuple D N j) Q λi h=>p i h/\d h where
sub:=W.sub;frame:=λi h h' M k U=>⟨W.frame i h h' M.1 k,a h h' M.2 U⟩;up:=λi h M=>V i h M.1;item:=λi t s E y M l=>by
 have hi:i<n:=by
  refine O K ?_;refine bz (yk i Q.length) (λg=>?_) λg=>?_;.exact g
  .exact gone y (pF g)
 refine W.item i s _ E hi M.1 λL J h' Z hp f hT G k=>⟨.ref L,rfl,?_⟩;have U:bg z s.heap h':=λb o n e=>k b o n e;refine W.go D N j i L _ _ E G λR x c=>?_;have q:bg z h' R:=λb o n e=>c b o n e;have C:d R:=a _ _ (a _ _ M.2 (U.mono H)) (q.mono H);refine⟨⟨U.trans q,rfl⟩,⟨x,C⟩,?_⟩;refine aH (X i J t _ hp y C) λF u r=>?_;subst u;refine⟨L,J,rfl,λm=>?_,hT.at λo e=>c L o (W.apart i L _ G) e,r⟩;refine aE (l L m) λo e=>?_;exact rS.mpr f (dR e)
done:=λs E M=>W.done s _ E (K▸M.1) λh' Z k=>⟨rfl,λb o n e=>k b o n e,rfl⟩;self:=λi s E M=>W.self i s _ E M.1 ⟨rfl,rfl⟩
theorem letGo_listiter(f:isNm a\/BS a){s:au}(P:s.heap.IsListIter I l i)(X:Q () s):av (aA PW w) A (tS a (.ref I) v) Q E s:=by
 refine bz f (λh=>?_) λh=>?_;.rw[Lb h];exact aN X
 .refine O h ?_;cases v<;>first|exact wpAny_letOwnedTupleGo_listiter P X|(unfold tS;exact aN X)
theorem gz.list(d:A.handled=ak){Z:aT}(f:isNm Z\/BS Z){I y:ah}(S:y≠I){xs:Array aj}{Q:List T}{Y:List ah}(u:I∈Y)(V:xs.size=Q.length):gz A I [I,y] [I] Y Z Q λi h=>(h.IsListIter I y i/\h.IsList y xs)/\az Y h Q xs.toList where
sub:=(Nh (prog:=PW) (w:=w) d I y S xs).sub;frame:=λi h h' M k U=>⟨(Nh (prog:=PW) (w:=w) d I y S xs).frame i h h' M.1 k,Mine.az.kp U _ _ M.2⟩;up:=λi h M b m=>by replace m:=aX.mp m;subst m;refine aH M.1.1 λo j _=>?_;exact⟨o,j⟩
item:=λi t s E g M l=>by refine aH (M.2.at g) λv K _=>?_;replace K:=gM▸K;refine YI M.1.1 M.1.2 K λh' x a=>⟨v,rfl,letGo_listiter f x ?_⟩;have U:bg [I] s.heap h':=λb o n e=>a.extBut b o (λq=>n (by exact O q (aQ ..))) e;have z:bg Y s.heap h':=U.mono (one u);have c:=Mine.az.kp z _ _ M.2;exact⟨⟨U,rfl⟩,⟨⟨x,M.1.2.extBut a.extBut S⟩,c⟩,c.get g (by exact O gM K)⟩
done:=λs E M=>(Nh (prog:=PW) (w:=w) d I y S xs).done s _ E (by exact O V M.1) λh' G k=>⟨rfl,λb o n e=>k b o n e,rfl⟩;self:=λi s E M=>wpAny_pyIter_listiter M.1.1 ⟨rfl,rfl⟩
theorem oh{X Y b:List ah}{h h':aB}{F:List T}{K:List aj}(k:Kp h h')(J:∀a∈Y,h'.get? a=ak\/a∈X\/a∈b)(C:∀a∈b,h.get? a=ak)(r:az X h F K):az Y h' F K:=az.map (λa o n e=>⟨λm=>(J a m).elim (λz=>gone (k a o e) z) λz=>z.elim n λz=>gone e (C a z),k a o e⟩) r
theorem jE.two{B h:aB}(P:bJ X B)(u:B.get? I=ak)(d:∃o,h.get? I=aa o)(c:∃o,h.get? D=aa o)(n:D∉X)(M:∀Y,(∀a∈Y,h.get? a=ak\/a∈X\/a∈[I])->(∀a∈[I],a∈Y)->∃p,gz A I [I,D] [I] Y b Q p/\p 0 h):jE A X B h I [I,D] [I] b Q:=⟨both d (one c),both (λm=>(P I m).elim λo e=>gone e u) (one n),one u,one (aQ ..),M⟩
theorem Tc(d:A.handled=ak){Z:aT}(f:isNm Z\/BS Z){X:List ah}{s:au}{E:aj->au->Prop}{v:aj}{F:List T}(P:bJ X s.heap)(r:Rep X s.heap (.list F) v):av (aA PW w) A (sE v) (λv J=>Ks s J/\∃I S z,v=.ref I/\jE A X s.heap J.heap I S z Z F) E s:=by refine cI r.d8 λy xs u n p R=>?_;subst u;refine zX p.isList ⟨.push ..,s.heap.objs.size,[s.heap.objs.size,y],[s.heap.objs.size],rfl,?_⟩;refine aE p λq B=>?_;have K:s.heap.get? s.heap.objs.size=ak:=get?_none_of_le (cR _);have k:Kp s.heap (s.heap.push {cls:=.type "list_iterator",data:=.fields #[.ref y,.int 0 0]}):=λb o e=>bX _ e;exact .two P K ⟨_,cF _ rfl⟩ ⟨_,k _ _ B⟩ n λY a C=>⟨_,gz.list d f (bS (dR B)) (C _ (aQ ..)) R.length,⟨⟨_,cF _ rfl,rfl,rfl⟩,⟨_,k _ _ B,rfl,q,rfl⟩⟩,oh k a (one K) R⟩
theorem jE.mono(i:jE A X h₁ h I c z a Q)(k:Kp B h₁):jE A X B h I c z a Q:=⟨i.up,i.off,λb m=>g9 k (i.new b m),i.sub,i.st⟩
variable{G:aO}{X:List ah}{B:aB}
theorem IT.list(d:A.handled=ak)(f:isNm a\/BS a)(l:bJ X B)(h:EV A G X B iter (.list ts)):IT A G X B iter a ts:=λs E k=>aC (h s E k) (λv U x=>aC (Tc d f ((l.kp k).kp x.1.kp) x.2) (λv J y=>by obtain⟨M,I,S,z,rfl,i⟩:=y;exact⟨x.1.trans M,I,S,z,rfl,i.mono x.1.kp⟩) λ_ _ e=>e) λ_ _ e=>e
noncomputable def IC(A:aG)(X:List ah)(B:aB)(f:aj)(F:List T)(Z:aT)(Q:List T):Prop:=∀(s:au)(E:aj->au->Prop)(K:List aj),Kp B s.heap->az X s.heap F K->av (aA PW w) A (dP f K []) (λx U=>av (aA PW w) A (sE x) (λv J=>Ks s J/\∃I S z,v=.ref I/\jE A X s.heap J.heap I S z Z Q) E U) E s
theorem IT.cQ(l:EV A G X B (.Name x b) (.aJ f))(K:yU f=pure .machine)(V:EL A G X B a (e::D) m)(d:IC A X B f m h its)(hs:autoParam (bq (e::D) G=(ay,aU e G)::bq D G) yAR)(p:autoParam ((cN a (bq D G)).any (·.1)=ay) yAR):IT A G X B (.Call (.Name x b) (e::D) [] a) h its:=λs E k=>by show av _ _ (do mK a (<-aU (.Name x b) G) [] (cN a (bq (e::D) G)) (oj a (nZ [] G))) _ _ _;refine aq (aC (l s E k) (λv U x=>?_) λ_ _ e=>e);obtain rfl:=x.2.cS;have M:=V U E (k.trans x.1.kp);rw[hs]at M⊢;refine mh K (by show(ay||(cN a (bq D G)).any (·.1))=ay;refine O p ?_;rfl) (mW (aC M (λn J y=>?_) λ_ _ e=>e));refine aC (d J E n (k.trans (x.1.trans y.1).kp) y.2) (λc j z=>aC z (λv g z=>?_) λ_ _ e=>e) λ_ _ e=>e;obtain⟨o,I,S,q,rfl,i⟩:=z;exact⟨(x.1.trans y.1).trans o,I,S,q,rfl,i.mono (x.1.trans y.1).kp⟩
end
theorem bJ.above{h:aB}(l:bJ X h)(k:h.objs.size<=a):a∉X:=λm=>by refine aE (l a m) λo e=>?_;exact gone e (get?_none_of_le k)
section
variable{A:aG}{X:List ah}{h₀:aB}{G:aO}
noncomputable def pA(a c:Int)(n:Nat):List T:=(gj n).map λi:Nat=>.int (a+(i:Int)*c)
theorem Zl{a c:Int}{n i:Nat}{t:T}(h:(pA a c n)[i]?=aa t):t=.int (a+(i:Int)*c):=by
 unfold pA at h;rw[eS]at h;refine bz (yk i n) (λg=>?_) λg=>?_;.rw[List.getElem?_range g]at h;simpa using h.symm
 .rw[pF (by simpa using g)]at h;cases h
theorem CT(g:A.handled=ak){Z:aT}(f:isNm Z){s:au}{E:aj->au->Prop}{r:ah}{a b c:Int}{t u v:l8}{n:Nat}(P:bJ X s.heap)(D:IsRange s.heap r a b c t u v)(W:I9 a b c=af)(K:pC a b c=n):av (aA PW w) A (sE (.ref r)) (λv J=>Ks s J/\∃I S z,v=.ref I/\jE A X s.heap J.heap I S z Z (pA a c n)) E s:=by refine wpAny_pyIter_range D W ⟨.push ..,s.heap.objs.size,[s.heap.objs.size],[s.heap.objs.size],rfl,?_⟩;refine⟨one ⟨_,cF _ rfl⟩,one P.new,one (get?_none_of_le (cR _)),λb m=>m,λY k C=>⟨_,gz.ofWalks (λ_=>True) f (Walks.range g s.heap.objs.size a c n) (by simp[pA]) (λ_ _ _ _=>trivial) (λi v t h q d _=>q.elim λj e=>(Zl d).symm▸e.symm▸.fO _ _) (λi h M=>one ⟨_,M⟩) C,?_,trivial⟩⟩;have:=cF s.heap (o:={cls:=.type "range_iterator",data:=.fields #[e9 a,e9 (pC a b c),e9 c]}) rfl;show IsRangeIter _ _ (a+((0:Nat):Int)*c) ((n:Int)-((0:Nat):Int)) c;exact O (show a+((0:Nat):Int)*c=a by simp) (O (show(n:Int)-((0:Nat):Int)=pC a b c by rw[K];simp) this)
theorem IC.oB(d:A.handled=ak){Z:aT}(f:isNm Z){n:Nat}(l:bJ X h₀)(b:n<2^60):IC A X h₀ (.type "range") [.int n] Z (pA 0 1 n):=λs E K k r=>by
 refine aE (az.ju r) λv N=>?_;subst N;refine aE r.1.cM λt N=>?_;subst N;refine call_range_1 ?_;refine aC (CT (X:=X) d f (n:=n) (λa m=>?_) (L8 ..) (small_one dk dk (fW (iO _)) (qs (gR.mpr b) jh)) (by
refine O (rangeSize_one ..) ?_;split;.exact Int.sub_zero _
.exact yd (iO n) (fD.mp ‹¬(0:Int)<n›))) (λv J y=>?_) λ_ _ e=>e;.refine aE ((l.kp k) a m) λo e=>?_;exact⟨o,bX _ e⟩
 .obtain⟨M,I,S,z,rfl,i⟩:=y;have V:Ks s {s with heap:=s.heap.push {cls:=.type "range",data:=.fields #[.int 0 s.toks,.int n t,.int 1 (s.toks+1)]},toks:=s.toks+1+1}:=.mk' s _ _ λ_ _ e=>bX _ e;exact⟨V.trans M,I,S,z,rfl,i.mono V.kp⟩
theorem IC.xaT(h:A.handled=ak){Z:aT}(f:isNm Z){a b:Int}{n:Nat}(l:bJ X h₀)(K:0<=a)(R:b<2^60)(c:a<2^60)(g:(n:Int)=if a<b then b-a else 0)(d:-2^60<=b):IC A X h₀ (.type "range") [.int a,.int b] Z (pA a 1 n):=λs E j k r=>by
 obtain⟨v,q,rfl⟩:=az.nF r;obtain⟨t,rfl⟩:=r.1.cM;obtain⟨u,rfl⟩:=r.2.1.cM;refine call_range_2 ?_;refine aC (CT (X:=X) h f (n:=n) (λa m=>?_) (L8 ..) (small_one (fW K) (eF c) (fW d) (eF R)) (by exact O (rangeSize_one ..) g.symm)) (λv J y=>?_) λ_ _ e=>e;.obtain⟨o,e⟩:=(l.kp k) a m;exact⟨o,bX _ e⟩
 .obtain⟨M,I,S,z,rfl,i⟩:=y;have V:Ks s {s with heap:=s.heap.push {cls:=.type "range",data:=.fields #[.int a t,.int b u,.int 1 s.toks]},toks:=s.toks+1}:=.mk' s _ _ λ_ _ e=>bX _ e;exact⟨V.trans M,I,S,z,rfl,i.mono V.kp⟩
theorem IC.xaU(j:A.handled=ak){Z:aT}(f:isNm Z){a b c:Int}{n:Nat}(l:bJ X h₀)(g:c≠0)(W:I9 a b c=af)(K:pC a b c=n)(Q:CH (b-a) c=ay):IC A X h₀ (.type "range") [.int a,.int b,.int c] Z (pA a c n):=λs E p k r=>by
 refine iT (az.zf r) λv q h d=>?_;subst d;refine aE r.1.cM λt d=>?_;subst d;refine aE r.2.1.cM λu d=>?_;subst d;refine aE r.2.2.1.cM λx d=>?_;subst d;refine call_range_3 g ?_ (.inl Q);refine aC (CT (X:=X) j f (n:=n) (λa m=>?_) (L8 ..) W K) (λv J y=>?_) λ_ _ e=>e;.refine aE ((l.kp k) a m) λo e=>?_;exact⟨o,bX _ e⟩
 .obtain⟨M,I,S,z,rfl,i⟩:=y;have V:Ks s {s with heap:=s.heap.push {cls:=.type "range",data:=.fields #[.int a t,.int b u,.int c x]},toks:=s.toks}:=.mk' s _ _ λ_ _ e=>bX _ e;exact⟨V.trans M,I,S,z,rfl,i.mono V.kp⟩
noncomputable def jX(i:Int):List T->List T|[]=>[]|t::a=>.tup [.int i,t]::jX (i+1) a
theorem Kz:∀{j:Int}{i:Nat}{t:T},(jX j c)[i]?=aa t->∃u,c[i]?=aa u/\t=.tup [.int (j+i),u]:=by induction c with|nil=>intro j i t h;simp[jX]at h|cons u c d=>intro j i t h;cases i with|zero=>simp only[jX,List.getElem?_cons_zero,zQ]at h;exact⟨u,rfl,by refine aR h ?_;simp⟩|succ i=>rw[jX,List.getElem?_cons_succ]at h;refine aH (d h) λv a b=>?_;refine⟨v,a,?_⟩;exact O b (O (show j+1+(i:Int)=j+((i+1:Nat):Int)from(nU j 1 i).trans (congrArg (j+·) (jM 1 (i:Int)))) rfl)
theorem v7{F:List T}:∀{j:Int},(jX j F).length=F.length:=by induction F with|nil=>intro j;rfl|cons u F a=>intro j;rw[jX,fC,fC,a]
theorem PlainList.exact{h:aB}(p:h.PlainList a xs):∃n,h.get? a=aa {cls:=.type "list",dict:=ak,data:=.seq xs n,slots:=#[]}:=p
theorem IC.enumerate(f:A.handled=ak)(l:bJ X h₀):IC A X h₀ (.type "enumerate") [.list b] (.Tuple D N m) (jX 0 b):=λs E w k r=>by
 refine aE (az.ju r) λv I=>?_;subst I;refine cI r.1.d8 λy xs I n p R=>?_;subst I;refine aE (PlainList.exact p) λq B=>?_;have W:=dR B;refine call_enumerate_1 B λh' L P T V=>?_;refine xct L ?_;have H:s.heap.get? s.heap.objs.size=ak:=get?_none_of_le (cR _);have g:s.heap.get? (s.heap.objs.size+1)=ak:=get?_none_of_le (dN _);have K:∀a∈[s.heap.objs.size+1,s.heap.objs.size],s.heap.get? a=ak:=both (get?_none_of_le (dN _)) (one (get?_none_of_le (cR _)));refine⟨.mk' s h' s.toks V,_,[s.heap.objs.size+1,s.heap.objs.size,y],[s.heap.objs.size+1,s.heap.objs.size],rfl,both ⟨_,L⟩ (both (P.imp λo z=>z.1) (one ⟨_,V _ _ B⟩)),both ((l.kp k).above (dN _)) (both ((l.kp k).above (cR _)) (one n)),K,both (aQ ..) (one (aZ _ (aQ ..))),λY J C=>⟨_,gz.Au (λh=>az Y h b xs.toList) (WalksT.enumerate f (s.heap.objs.size+1) s.heap.objs.size y (Dt _) (bS (vM W)) (bS W) xs) (R.length.trans v7.symm) (λh h' r k=>Mine.az.kp k _ _ r) (λi v t h Q d r=>?_) (λi h M=>M.1.elim λe x=>both ⟨_,x⟩ (one (M.2.1.imp λo z=>z.1))) C,⟨⟨_,L⟩,P,⟨_,V _ _ B,rfl,q,rfl⟩⟩,oh V J K R⟩⟩;refine eK Q λj x c I=>?_;try clear Q;subst I
 refine aH (Kz d) λu Z I=>?_;subst I;exact⟨_,rfl,(mD (i:Int)).symm▸.fO _ _,r.get Z (by exact O gM c),trivial⟩
end
structure FS(H:List ah)(N B s:au)(Z:List ah)(G:aO)(P:Gm)(M:List (ah×T)):Prop where
ks:Ks N s
kx:bu (aM G++M.map (·.1)) B s
new:∀a∈Z,N.heap.get? a=ak
own:∀a∈aM G,a∈Z
cx:CX (Z++H) s.heap G P
acc:∀p∈M,p.1∈Z/\p.1∉aM G/\fz (Z++H) p.1 s.heap p.2
nd:(M.map (·.1)).Nodup
section
variable{A:aG}{H:List ah}{N B s S:au}{Z:List ah}{G:aO}{d:Gm}{M:List (ah×T)}{E:aj->au->Prop}
theorem FS.step(f:FS H N B s Z G d M)(k:Ks s S):FS H N B S Z G d M:=⟨f.ks.trans k,f.kx.trans (.of k),f.new,f.own,f.cx.kp k.kp,λp m=>⟨(f.acc p m).1,(f.acc p m).2.1,(f.acc p m).2.2.kp (k.kp.bN _) λo e=>k.kp _ _ e⟩,f.nd⟩
theorem FS.less(f:FS H N B s Z G d M)(k:∀x t,δ x=aa t->d x=aa t):FS H N B s Z G δ M:=⟨f.ks,f.kx,f.new,f.own,f.cx.less k,f.acc,f.nd⟩
theorem FS.OY(f:FS H N B s Z G d M):bJ H s.heap:=λa m=>f.cx.live a (cK _ m)
theorem Ks.qk{N s S:au}(k:Ks N s)(x:bu Z s S)(n:∀a∈Z,N.heap.get? a=ak):Ks N S:=by refine⟨λb o e=>x.kp b o (λm=>by exact gone e (n b m)) (k.kp b o e),?_⟩;have c:=k.eq;have L:=x.eq;refine O L ?_;dsimp only;exact O c rfl
theorem FS.bind(f:FS H N B s Z G d M)(Y:G.kindOf x=aa .local\/G.kindOf x=aa .cell)(C:dh G x∈aM G)(r:Rep (Z++H) s.heap t v)(h:∀S,bu (aM G) s S->FS H N B S Z G (upd d x t) M->Q () S):av (aA PW w) A (kN G x v) Q E s:=zV f.cx Y r λS k c=>by have b:bu (aM G) s S:=k.mono (one C);have g:bu Z s S:=b.mono λa m=>f.own a m;refine h S b ⟨f.ks.qk g f.new,f.kx.trans (b.mono λa m=>bD.mpr (.inl m)),f.new,f.own,c,λp m=>⟨(f.acc p m).1,(f.acc p m).2.1,?_⟩,f.nd⟩;exact(f.acc p m).2.2.kp (b.kp.mono f.cx.ok.iW) λo e=>b.kp _ _ (f.acc p m).2.1 e
theorem FS.write(f:FS H N B s Z G d M)(F:M[i]?=aa (D,t))(k:bu [D] s S)(r:fz (Z++H) D S.heap t'):FS H N B S Z G d (M.set i (D,t')):=by
 have g:(D,t)∈M:=eO F;have c:=f.acc _ g;have h:bu Z s S:=k.mono (one c.1);have T:∀a∈[D],a∈Z++H:=one (bD.mpr (.inl c.1));have b:(M.set i (D,t')).map (·.1)=M.map (·.1):=by
  refine O vX ?_;have J:(M.map (·.1))[i]?=aa D:=by refine O eS (O F ?_);rfl
  obtain⟨V,L⟩:=rC.mp J;have:=VM V;replace this:=L▸this;exact this
 refine⟨f.ks.qk h f.new,by exact O b (f.kx.trans (k.mono (one (bD.mpr (.inr (bF.mpr ⟨_,g,rfl⟩)))))),f.new,f.own,f.cx.dM k.kp (λa m n=>?_) T (f.cx.live.dM k.kp λa m=>?_),λp m=>?_,by exact O b f.nd⟩;.replace n:=aX.mp n;exact c.2.1 (n▸m)
 .replace m:=aX.mp m;exact O m r.up
 .rcases List.getElem?_of_mem m with⟨j,Y⟩;by_cases e:i=j;.subst e;have V:i<M.length:=(rC.mp F).1;replace Y:=zK V▸Y;cases Y;exact⟨c.1,c.2.1,r⟩
  .replace Y:=CW e▸Y;have Q:=f.acc p (eO Y);refine⟨Q.1,Q.2.1,Q.2.2.kp (k.kp.mono T) λo K=>k.kp _ _ (λn=>?_) K⟩;replace n:=aX.mp n;have C:(M.map (·.1))[i]?=aa D:=by refine O eS (O F ?_);rfl
   have J:(M.map (·.1))[j]?=aa D:=by refine O eS (O Y (aR n ?_));rfl
   have V:i<(M.map (·.1)).length:=(rC.mp C).1;exact e ((List.getElem?_inj V f.nd).mp (C.trans J.symm))
theorem FS.BU(f:FS H N B s Z G d M)(k:Ks s S)(n:s.heap.get? D=none)(c:fz (D::(Z++H)) D S.heap t):FS H N B S (D::Z) G d ((D,t)::M):=by
 have i:N.heap.get? D=none:=by cases q:N.heap.get? D with|none=>rfl|some z=>rw[f.ks.kp D z q]at n;cases n
 have K:D∉Z:=λm=>by refine aE (f.cx.live D (bI _ m)) λo e=>?_;exact gone e n
 have h:∀a∈D::(Z++H),s.heap.get? a=none\/a∈Z++H:=λa m=>(bB.mp m).elim (λe=>.inl (by exact O e n)) .inr;have g:∀{P:ah}{u:T},fz (Z++H) P s.heap u->fz (D::(Z++H)) P S.heap u:=by intro P u c;cases u with|list l=>refine aH c λxs F r=>?_;exact⟨xs,F.at λo e=>k.kp _ _ e,Mine.az.kp (k.kp.bN _) _ _ (Mine.az.wide h _ _ r)⟩|dS a b=>obtain⟨z,W,F,e,r⟩:=c;exact⟨z,W,F.at λo e=>k.kp _ _ e,e,Mine.az.kp (k.kp.bN _) _ _ (Mine.az.wide h _ _ r)⟩|dI a b=>obtain⟨z,W,F,e,r⟩:=c;exact⟨z,W,F.at λo e=>k.kp _ _ e,e,Mine.az.kp (k.kp.bN _) _ _ (Mine.az.wide h _ _ r)⟩|_=>exact c.elim
 refine⟨f.ks.trans k,(f.kx.trans (.of k)).mono λa m=>(bD.mp m).elim (λm=>bI _ m) λm=>cK _ (by exact O f6 (aZ _ m)),λa m=>(bB.mp m).elim (λe=>by exact O e i) (f.new a),λa m=>aZ _ (f.own a m),?_,λp m=>?_,?_⟩;.exact f.cx.widen (Y:=[D]) k.kp (one n) (one c.up)
 .rcases bB.mp m with rfl|m;.exact⟨aQ ..,λq=>K (f.own _ q),c⟩
  .exact⟨aZ _ (f.acc p m).1,(f.acc p m).2.1,g (f.acc p m).2.2⟩
 .refine O f6 ?_;refine mj.mpr ⟨λq=>?_,f.nd⟩;refine aH (bF.mp q) λp m e=>?_;have C:=(f.acc p m).1;have U:p.1=D:=e;rw[U]at C;exact K C
theorem EM.nil{pos}:EM A G X a (.List [] pos) (.list []):=λs E k=>by show av _ _ (do fL pos;uz (<-fN (cN pos (bq [] G)))) _ _ _;refine aq (cW (aq (rQ (z8 _ _ _ ⟨.push ..,_,rfl,get?_none_of_le (cR _),#[],⟨0,cF _ rfl⟩,trivial⟩))))
theorem EF.em(x:EF A G X c e (.list g))(f:∀t∈g,Mine.flat t=af):EM A G X c e (.list g):=λs E k=>aC (x s E k) (λv S h=>by obtain⟨y,r,a,rfl,n⟩:=h;refine cI r.d8 λb xs e i p q=>?_;cases e;exact⟨y,a,rfl,n,xs,p,az.flat f q⟩) λ_ _ e=>e
theorem FS.set{x:ai}{e:aT}{c R:aS}{t:T}{Q:ek->au->Prop}(f:FS H N B s Z G d M)(Y:G.kindOf x=aa .local\/G.kindOf x=aa .cell)(C:dh G x∈aM G)(L:EV A G (Z++H) s.heap e t)(X:∀S,bu (aM G) s S->FS H N B S Z G (upd d x t) M->Q .next S)(W:autoParam (lG e (aa (.Name x c)) R.line G=pure ay) yAR):av (aA PW w) A (dY (.Assign [.Name x c] e R) G) Q E s:=by rw[z4 G x c e R W];refine aq (cW (aq (aC (L s E λ_ _ e=>e) (λv U y=>?_) λ_ _ e=>e)));exact aq (cW (aq ((f.step y.1).bind Y C y.2 λS k h=>aN (X S ((bu.of y.1).trans k) h))))
theorem FS.NO{c R:aS}(f:FS H N B s Z G d M)(Y:G.kindOf x=aa .local\/G.kindOf x=aa .cell)(C:dh G x∈aM G)(L:EM A G (Z++H) s.heap e t)(X:∀D S,FS H N B S (D::Z) G (upd d x (.aJ (.ref D))) ((D,t)::M)->Q .next S)(W:autoParam (lG e (aa (.Name x c)) R.line G=pure ay) yAR):av (aA PW w) A (dY (.Assign [.Name x c] e R) G) Q E s:=by refine O (z4 G x c e R W) ?_;refine aq (cW (aq (aC (L s E λ_ _ e=>e) (λv U y=>?_) λ_ _ e=>e)));obtain⟨k,D,rfl,n,r⟩:=y;exact aq (cW (aq ((f.BU k n r).bind Y C (.ie _) λS _ h=>aN (X D S h))))
theorem CX.shrink(c:CX i h G d)(k:bg Y h h')(w:∀a∈Y,a∈i)(g:∀a∈aM G,a∉Y)(f:∀a∈X,a∈i)(b:∀a∈aM G,a∈X)(l:bJ X h'):CX X h' G d:=⟨⟨c.ok.fn,(c.ok.dM k g).ns,b _ (aQ ..),λm=>c.ok.eN (f _ m),λm=>c.ok.blt (f _ m),(c.ok.dM k g).cell,λx j m=>b _ (aZ _ (bF.mpr ⟨(x,j),m,rfl⟩)),c.ok.apart,c.ok.off⟩,l,⟨c.eZ.1.imp λ_ e=>k _ _ (λm=>c.ok.eN (w _ m)) e,c.eZ.2.imp λ_ e=>k _ _ (λm=>c.ok.blt (w _ m)) e⟩,λx t e=>let⟨v,r,n⟩:=c.val x t e;⟨v,Rep.less f t v (Rep.kp (k.mono w) t v r),n.dM k c.ok g w⟩⟩
end
section
variable{A:aG}{H:List ah}{g B s S:au}{Z:List ah}{G:aO}{F K:Gm}{M:List (ah×T)}{E:aj->au->Prop}
theorem bY{a:c6}{u:List c6}{Q:ek->au->Prop}(h:av (aA PW w) A (dY a G) (λf S=>f=.next/\av (aA PW w) A (b9 u G) Q E S) E s):av (aA PW w) A (b9 (a::u) G) Q E s:=nS (aC h (λf S x=>by obtain⟨rfl,x⟩:=x;exact x) λ_ _ e=>e)
theorem dj{a:c6}{Q:ek->au->Prop}(h:av (aA PW w) A (dY a G) Q E s):av (aA PW w) A (b9 [a] G) Q E s:=nS (aC h (λf S x=>by cases f<;>first|exact x|exact iA x) λ_ _ e=>e)
theorem fz.NP{h h':aB}(k:Kp h h')(i:∀a∈Y,h.get? a=ak):∀{t:T},fz X D h t->fz (Y++X) D h' t:=by have f:∀a∈Y++X,h.get? a=ak\/a∈X:=λa m=>(bD.mp m).elim (λm=>.inl (i a m)) .inr;intro t d;cases t with|list l=>refine aH d λxs c r=>?_;exact⟨xs,c.at λo e=>k _ _ e,Mine.az.kp (k.bN _) _ _ (Mine.az.wide f _ _ r)⟩|dS a b=>obtain⟨z,W,c,e,r⟩:=d;exact⟨z,W,c.at λo e=>k _ _ e,e,Mine.az.kp (k.bN _) _ _ (Mine.az.wide f _ _ r)⟩|dI a b=>obtain⟨z,W,c,e,r⟩:=d;exact⟨z,W,c.at λo e=>k _ _ e,e,Mine.az.kp (k.bN _) _ _ (Mine.az.wide f _ _ r)⟩|_=>exact d.elim
theorem bu.RU{a b c:au}(x:bu V a b)(k:bu Y b c)(n:∀p∈Y,a.heap.get? p=ak):bu V a c:=by refine⟨λp o d e=>k.kp p o (λm=>by exact gone e (n p m)) (x.kp p o d e),?_⟩;have f:=x.eq;have L:=k.eq;refine O L ?_;dsimp only;exact O f rfl
theorem FS.BV(f:FS H g B s Z G F M)(n:s.heap.get? a=none):B.heap.get? a=none:=by cases q:B.heap.get? a with|none=>rfl|some z=>
by_cases b:a∈aM G++M.map (·.1)
.have:∃o,s.heap.get? a=some o:=by
  refine bz (bD.mp b) (λC=>?_) λC=>?_;.exact f.cx.live a (f.cx.ok.iW a C)
  .refine aH (bF.mp C) λp Q t=>?_;have i:p.1=a:=t;exact aR i (f.acc p Q).2.2.up
 refine aE this λo e=>?_;exact gone e n
.have:=f.kx.kp a z b q;exact gone this n
theorem FS.rebase(f:FS H g B s Z G F M):FS H g s s Z G F M:=⟨f.ks,.refl _ s,f.new,f.own,f.cx,f.acc,f.nd⟩
theorem FS.BW{a:List (ah×T)}(f:FS H g B s Z G F M)(h:FS H g s S Z G b a)(e:a.map (·.1)=M.map (·.1)):FS H g B S Z G b a:=⟨h.ks,by have:=h.kx;rw[e]at this⊢;exact f.kx.trans this,h.new,h.own,h.cx,h.acc,h.nd⟩
theorem FS.A6(f:FS H g B s Z G F M)(k:Ks s S)(b:∀a∈Y,s.heap.get? a=ak)(i:∀a∈Y,∃o,S.heap.get? a=aa o):FS H g B S (Y++Z) G F M:=by
 refine⟨f.ks.trans k,f.kx.trans (.of k),λa m=>(bD.mp m).elim (λm=>g9 f.ks.kp (b a m)) (f.new a),λa m=>cK _ (f.own a m),?_,λp m=>⟨cK _ (f.acc p m).1,(f.acc p m).2.1,?_⟩,f.nd⟩;.exact O (fT ..) (f.cx.widen k.kp b i)
 .exact O (fT ..) ((f.acc p m).2.2.NP k.kp b)
theorem FS.Gw(f:FS H g B s Z G F M)(W:∀a∈Z',a∈Z)(b:∀a∈aM G,a∈Z')(I:∀p∈M,p.1∈Z'):FS H g B s Z' G F M:=by have T:∀a∈Z'++H,a∈Z++H:=λa m=>(bD.mp m).elim (λm=>bI _ (W a m)) λm=>cK _ m;exact⟨f.ks,f.kx,λa m=>f.new a (W a m),b,f.cx.narrow T (λa m=>bI _ (b a m)) λa m=>f.cx.live a (T a m),λp m=>⟨I p m,(f.acc p m).2.1,(f.acc p m).2.2.less T⟩,f.nd⟩
theorem FS.other(f:FS H g B s Z G F M)(k:bu Y s S)(J:∀a∈Y,a∈Z)(b:∀a∈aM G,a∉Y)(I:∀p∈M,p.1∉Y)(i:∀a∈Y,∃o,S.heap.get? a=aa o)(R:∀a∈Y,B.heap.get? a=ak):FS H g B S Z G F M:=by have T:∀a∈Y,a∈Z++H:=λa m=>bI _ (J a m);exact⟨f.ks.qk k λa m=>f.new a (J a m),f.kx.RU k R,f.new,f.own,f.cx.dM k.kp b T (f.cx.live.dM k.kp i),λp m=>⟨(f.acc p m).1,(f.acc p m).2.1,(f.acc p m).2.2.kp (k.kp.mono T) λo e=>k.kp _ _ (I p m) e⟩,f.nd⟩
theorem FS.re(f:FS H g B s Z G F M)(k:bu (aM G) s S)(c:CX (Z++H) S.heap G K):FS H g B S Z G K M:=⟨f.ks.qk k λa m=>f.new a (f.own a m),f.kx.trans (k.mono λa m=>bI _ m),f.new,f.own,c,λp m=>⟨(f.acc p m).1,(f.acc p m).2.1,(f.acc p m).2.2.kp (k.kp.mono λa m=>bI _ (f.own a m)) λo e=>k.kp _ _ (f.acc p m).2.1 e⟩,f.nd⟩
theorem FS.xaV(f:FS H g B s Z G F M)(k:bu Y s S)(J:∀a∈Y,a∈Z)(b:∀a∈aM G,a∉Y)(I:∀p∈M,p.1∉Y)(i:∀a∈Y,∃o,S.heap.get? a=aa o):FS H g S S Z G F M:=by have T:∀a∈Y,a∈Z++H:=λa m=>bI _ (J a m);exact⟨f.ks.qk k λa m=>f.new a (J a m),.refl _ _,f.new,f.own,f.cx.dM k.kp b T (f.cx.live.dM k.kp i),λp m=>⟨(f.acc p m).1,(f.acc p m).2.1,(f.acc p m).2.2.kp (k.kp.mono T) λo e=>k.kp _ _ (I p m) e⟩,f.nd⟩
noncomputable def EJ(N:au->Prop)(Q:ek->au->Prop)(fl:ek)(s:au):Prop:=match fl with|.next|.cont=>N s|.brk=>Q .next s|.ret v=>Q (.ret v) s
theorem FS.Qa{α:Type}{tg R:aT}{body:List c6}{pos:aS}{t:List α}{kf:α->T}{h:List α->Gm}{iw:List α->α->Gm}{j:List α->List (ah×T)}{Q:ek->au->Prop}(V:List ah)(J:au->Prop)(P:List α->Prop)(hP:P [])(f:FS H g B s Z G (h []) (j []))(hV:∀b∈V,b∈Z++H)(hi:IT A G (Z++H) s.heap R tg (t.map kf))(hM:∀l,(j l).map (·.1)=(j []).map (·.1))(has:∀l a,(∃r,t=l++a::r)->AS A G (aM G) tg (kf a) (h l) (iw l a))(j0:∀S,Ks s S->J S)(jw:∀z U c,(∀b∈z,s.heap.get? b=ak)->J U->bu z U c->J c)(ja:∀U c,J U->bu (aM G) U c->J c)(hbody:∀l a,(∃r,t=l++a::r)->P l->∀z U E,(∀b∈z,s.heap.get? b=ak)->J U->FS H g U U (z++Z) G (iw l a) (j l)->(∀{c:au}{N:Gm}{j4:List (ah×T)},j4.map (·.1)=(j []).map (·.1)->FS H g c c (z++Z) G N j4->FS H g c c Z G N j4)->av (aA PW w) A (b9 body G) (EJ (λc=>P (l++[a])/\FS H g c c (z++Z) G (h (l++[a])) (j (l++[a]))/\bg V U.heap c.heap/\J c) Q) E U)(hend:∀S,P t->FS H g S S Z G (h t) (j t)->J S->Q .next S)(hs:∀x,g7 R G x=pure x):av (aA PW w) A (dY (.For tg R body [] pos) G) Q E s:=by
 refine wpAny_For (mono (hi s E λ_ _ e=>e) λx U h₁=>mono h₁ λit c h₂=>?_) hs;obtain⟨ks,I,fp,z,rfl,i⟩:=h₂;refine dm (i.wide (h':=c.heap) (Y:=Z++H) (λ_ _ e=>e) λa m=>.inr m) λSt W st sY=>?_;have xF:∀a∈z,a∉Z:=λa m n=>sY a (i.sub a m) (bI _ n);have Ci:∀M':List (ah×T),M'.map (·.1)=(j []).map (·.1)->∀p∈M',p.1∈Z:=λM' e p m=>by refine aH (bF.mp (e▸bF.mpr ⟨p,m,rfl⟩:p.1∈(j []).map (·.1))) λq mq e=>?_;exact(show q.1=p.1 from e)▸(f.acc q mq).1
 have Y:z++Z++H=z++(Z++H):=fT ..;have RV:∀a∈z,a∈z++Z++H:=λa m=>bI _ (bI _ m);have sub:∀a∈Z++H,a∈z++Z++H:=λa m=>Y▸cK _ m;refine codeAny_forLoop_any (λk S=>∃l r,t=l++r/\k=r.length+1/\P l/\FS H g S S (z++Z) G (h l) (j l)/\J S/\St l.length S.heap) (λk U hI=>?_) (t.length+1) ⟨[],t,rfl,rfl,hP,(f.A6 ks i.new λb m=>i.up b (i.sub b m)).rebase,j0 _ ks,st⟩;refine jN hI λl r ha hk RW fs Qc X=>?_;cases r with|nil=>rw[g8]at ha;subst ha;refine F9 (W.done U _ (aI (f:=kf) (as:=t).symm▸X)) λq s₃ e x=>e▸?_;have RX:∀a∈Z,a∉z:=λa m n=>xF a n m;exact iA (hend s₃ RW ⟨fs.ks.qk (x.mono λa m=>bI Z m) fs.new,.refl _ _,f.new,f.own,fs.cx.shrink x.kp RV (λa m=>RX a (f.own a m)) sub (λa m=>bI _ (f.own a m)) λa m=>(fs.cx.live a (sub a m)).imp λo=>x.kp a o λn=>sY a (i.sub a n) m,λp m=>⟨Ci _ (hM t) p m,(fs.acc p m).2.1,((fs.acc p m).2.2.kp (x.kp.mono RV) λo e=>x.kp _ _ (RX _ (Ci _ (hM t) p m)) e).less sub⟩,fs.nd⟩ (jw z _ _ i.new Qc x))|cons a r=>refine mono (W.item l.length (kf a) U _ (by refine O ha ?_;simp) X (Y▸fs.cx.live)) λq s₃ x=>?_;obtain⟨v,rfl,x⟩:=x;refine mono x λ_ s₄ y=>?_;refine gW y λQd D xfg=>?_;have L:FS H g s₄ s₄ (z++Z) G (h l) (j l):=fs.xaV Qd (λa m=>bI _ m) (λa m n=>xF a n (f.own a m)) (λp m n=>xF _ n (Ci _ (hM l) p m)) (W.up _ _ D);refine F9 (has l a ⟨r,ha⟩ (z++Z++H) s₄ _ v L.cx.ok.iW L.cx (Y.symm▸xfg)) λ_ u C c₅=>?_;have xcP:St (l.length+1) u.heap:=W.frame _ _ _ D (λb m o e=>C.kp b o (λn=>sY b m (bI _ (f.own b n))) e) (C.kp.mono λa m=>cK _ (bI _ (f.own a m)));refine mono (hbody l a ⟨r,ha⟩ RW z u _ i.new (ja _ _ (jw z _ _ i.new Qc Qd) C) (L.re C c₅).rebase λe f₂=>(f₂.Gw (λa m=>cK _ m) f.own (Ci _ e)).rebase) λfl d y=>?_;have key:P (l++[a])/\FS H g d d (z++Z) G (h (l++[a])) (j (l++[a]))/\bg V u.heap d.heap/\J d->∃m,m<k/\∃l r,t=l++r/\m=r.length+1/\P l/\FS H g d d (z++Z) G (h l) (j l)/\J d/\St l.length d.heap:=λy=>⟨r.length+1,hk▸gA _,l++[a],r,ha.trans (fT l [a] r).symm,rfl,y.1,y.2.1,y.2.2.2,cL (as:=l)▸W.frame _ _ _ xcP (λb m o e=>y.2.2.1 b o (λn=>sY b m (hV b n)) e) (y.2.2.1.mono λa m=>cK _ (hV a m))⟩;cases fl with|next=>exact key y|cont=>exact key y|brk=>exact y|ret v=>exact y
theorem mem_keys{M M':List (ah×T)}(e:M'.map (·.1)=M.map (·.1))(h:∀p∈M,p.1∈Z)(b:ah)(m:b∈M'.map (·.1)):b∈Z:=by refine aH (bF.mp (e▸m)) λp Q e=>?_;exact e▸h p Q
theorem FS.for{L:Type}{V u:aT}{d:List c6}{X:aS}{as:List L}{kf:L->T}{cV:List L->Gm}{iw:List L->L->Gm}{Mf:List L->List (ah×T)}{Q:ek->au->Prop}(P:List L->Prop)(hP:P [])(f:FS H g B s Z G (cV []) (Mf []))(hi:IT A G (Z++H) s.heap u V (as.map kf))(R:∀l,(Mf l).map (·.1)=(Mf []).map (·.1))(Y:∀l a,(∃r,as=l++a::r)->AS A G (aM G) V (kf a) (cV l) (iw l a))(h:∀l a,(∃r,as=l++a::r)->P l->∀z U E,FS H g U U (z++Z) G (iw l a) (Mf l)->(∀{J:au}{c:Gm}{j4:List (ah×T)},j4.map (·.1)=(Mf []).map (·.1)->FS H g U J (z++Z) G c j4->FS H g B J Z G c j4)->av (aA PW w) A (b9 d G) (EJ (λJ=>P (l++[a])/\FS H g U J (z++Z) G (cV (l++[a])) (Mf (l++[a]))) Q) E U)(N:∀S,P as->FS H g B S Z G (cV as) (Mf as)->Q .next S)(hs:autoParam (∀x,g7 u G x=pure x) yAI):av (aA PW w) A (dY (.For V u d [] X) G) Q E s:=by
 have up:∀{U J:au}{q:List ah}{c:Gm}{j4:List (ah×T)},j4.map (·.1)=(Mf []).map (·.1)->bu (aM G++(Mf []).map (·.1)) B U->FS H g U J q G c j4->bu (aM G++(Mf []).map (·.1)) B J:=λe j f=>j.trans (e▸f.kx);refine FS.Qa (aM G++(Mf []).map (·.1)) (λS=>bu (aM G++(Mf []).map (·.1)) B S) P hP f (λb m=>bI _ ((bD.mp m).elim (f.own b) (mem_keys rfl (λp m=>(f.acc p m).1) b))) hi R Y (λS k=>f.kx.trans (.of k)) (λz U J n j k=>j.RU k λb m=>f.BV (n b m)) (λU J j k=>j.trans (k.mono λa m=>bI _ m)) (λl a hl W z U E hw j t C=>mono (h l a hl W z U E t λe D=>?_) λfl J y=>?_) (λS hPs i j=>N S hPs ⟨i.ks,R as▸j,i.new,i.own,i.cx,i.acc,i.nd⟩) hs;.have o:=C e D.rebase;exact⟨o.ks,e.symm▸up e j D,o.new,o.own,o.cx,o.acc,o.nd⟩
 .have I:P (l++[a])/\FS H g U J (z++Z) G (cV (l++[a])) (Mf (l++[a]))->P (l++[a])/\FS H g J J (z++Z) G (cV (l++[a])) (Mf (l++[a]))/\bg (aM G++(Mf []).map (·.1)) U.heap J.heap/\bu (aM G++(Mf []).map (·.1)) B J:=λy=>⟨y.1,y.2.rebase,R (l++[a])▸y.2.kx.kp,up (R _) j y.2⟩;cases fl with|next=>exact I y|cont=>exact I y|brk=>exact y|ret v=>exact y
noncomputable def MT(t:T)(i:ai)(id:String):Prop:=∀(X:List ah)(s:au)(v:aj),Rep X s.heap t v->∃l:String,F2 l/\tw l i id/\uM (.builtin id)=pure (.type "method_descriptor")/\s.TypeIs v l/\∀a,v=.ref a->∃b,s.heap.get? a=aa b/\b.dict=ak
variable{X:List ah}{C:aB}
theorem EV.xcQ{o:aT}{name:ai}{m R:aS}{id:String}{t r:T}(i:EV A G X C o t)(Q:MT t name id)(h:CA A X C (.builtin id) [t] r)(P:autoParam (kG o name G (aU o G)=aU o G) yAR)(u:autoParam ((m.endLine==R.line)=af) yAR):EV A G X C (.Call (.Attribute o name m) [] [] R) r:=λs E k=>by refine Ez P u (aC (i s E k) (λf U x=>?_) λ_ _ e=>e);refine n8 (Q X U f x.2) λl a b c d e=>?_;refine⟨l,id,a,b,c,d,e,mh rfl rfl (zI ?_)⟩;exact aC (h U E [f] (k.trans x.1.kp) ⟨x.2,trivial⟩) (λc j z=>⟨x.1.trans z.1,z.2⟩) λ_ _ e=>e
theorem EV.Bl{o e:aT}{name:ai}{m R:aS}{id:String}{t u r:T}(i:EV A G X C o t)(L:EV A G X C e u)(Q:MT t name id)(h:CA A X C (.builtin id) [t,u] r)(hbase:autoParam (kG o name G (aU o G)=aU o G) yAR)(hs:autoParam (bq [e] G=[(ay,aU e G)]) yAR)(hline:autoParam ((m.endLine==R.line)=af) yAR):EV A G X C (.Call (.Attribute o name m) [e] [] R) r:=λs E k=>by refine EA hbase hs hline (aC (i s E k) (λf U x=>?_) λ_ _ e=>e);refine n8 (Q X U f x.2) λl a b c d e=>?_;refine⟨l,id,a,b,c,d,e,mh rfl rfl (mW (nY (aC (L U E (k.trans x.1.kp)) (λv J y=>rQ ?_) λ_ _ e=>e)))⟩;exact aC (h J E [f,v] (k.trans (x.1.trans y.1).kp) ⟨Rep.kp (y.1.kp.bN X) _ _ x.2,y.2,trivial⟩) (λc j z=>⟨(x.1.trans y.1).trans z.1,z.2⟩) λ_ _ e=>e
end
structure FnAt(h:aB)(a:ah)(fd:eU)(body:List c6)(M:List ai):Prop where
obj:∃o,h.get? a=aa o/\o.data=.func fd
code:h.CodeRec fd.code fd.qualname
OZ:h.NoLimit
body:fd.body=.stmts body
RY:fd.closure=[]bind:∀vals,vals.length=M.length->GW fd ⟨vals,[]⟩=pure (M.zip vals)kinds:∀x∈M,fd.scope.names.lookup x=aa .local\/fd.scope.names.lookup x=aa .cell
nd:i7 M=af
nn:i7 (fd.scope.names.map (·.1))=af
kind:fd.scope.kind=.function
co:fd.scope.isCoroutine=ay
gen:fd.scope.isGenerator=ay
theorem FnAt.kp{h h':aB}{a:ah}{fd:eU}{d:List c6}{M:List ai}(f:FnAt h a fd d M)(k:Kp h h'):FnAt h' a fd d M:=⟨f.obj.imp λo z=>⟨k _ _ z.1,z.2⟩,f.code.keeps k,f.OZ.keeps k,f.body,f.RY,f.bind,f.kinds,f.nd,f.nn,f.kind,f.co,f.gen⟩
structure GX(h:aB)(g b:ah)(G:Gm):Prop where
gU:∃o,h.get? g=aa o
bU:∃o,h.get? b=aa o
val:∀x t,G x=aa t->∃v,(∀X h',Rep X h' t v)/\∃u,h.Ns g u/\(u x=aa v\/u x=ak/\∃j,h.Ns b j/\j x=aa v)
theorem GX.kp(x:GX h g b G)(k:Kp h h'):GX h' g b G:=⟨x.gU.imp λ_ e=>k _ _ e,x.bU.imp λ_ e=>k _ _ e,λy t e=>(x.val y t e).imp λv z=>⟨z.1,z.2.imp λu z=>⟨z.1.keeps k,z.2.imp id λz=>⟨z.1,z.2.imp λj z=>⟨z.1.keeps k,z.2⟩⟩⟩⟩⟩
def eX(j:dW)(G:Gm):Gm:=λx=>if lY (j.names.lookup x)=af then G x else ak
theorem Vh{xs:List ai}:∀{F:List T}{P:Gm}{x:ai}{t:T},i7 xs=af->xs.length=F.length->bQ P xs F x=aa t->(∃i:Nat,xs[i]?=aa x/\F[i]?=aa t)\/x∉xs/\P x=aa t:=by induction xs with|nil=>exact λ_ _ h=>.inr ⟨cg,h⟩|cons y f G=>intro F P x t n l h;cases F with|nil=>cases l|cons u W=>
rcases G (rN n).2 (Af l) h with q|⟨a,b⟩;.exact .inl (q.elim λi z=>⟨i+1,z⟩)
.by_cases q:x=y;.subst q;exact .inl ⟨0,rfl,(pJ ..).symm.trans b⟩
 .exact .inr ⟨λm=>(bB.mp m).elim q a,(eE _ _ q).symm.trans b⟩
section
variable{a:ai->Option pP}{x:ai}{v:aj}
theorem V7{z:List (ai×aj)}:∀{m:ai->Option aj},x∉z.map (·.1)->bindL a z m x=m x:=by induction z with|nil=>exact λ_=>rfl|cons p r G=>
intro m h;obtain⟨n,v⟩:=p;refine(G λq=>h (aZ _ q)).trans ?_;by_cases k:a n=aa .local;.exact O (if_pos k) (if_neg λe:x=n=>h (e▸aQ ..))
.exact O (if_neg k) rfl
theorem V8{z:List (ai×aj)}:∀{m:ai->Option aj},x∉z.map (·.1)->bindC a z m x=m x:=by induction z with|nil=>exact λ_=>rfl|cons p r G=>
intro m h;obtain⟨n,v⟩:=p;refine(G λq=>h (aZ _ q)).trans ?_;by_cases k:a n=aa .local;.exact O (if_pos k) rfl
.exact O (if_neg k) (if_neg λe:x=n=>h (e▸aQ ..))
theorem V9{z:List (ai×aj)}:∀{m:ai->Option aj},i7 (z.map (·.1))=af->(x,v)∈z->a x=aa .local->bindL a z m x=aa v:=by induction z with|nil=>exact λ_ m=>absurd m cg|cons p r G=>
intro m h Q N;refine bz (bB.mp Q) (λe=>?_) λQ=>?_;.subst e;exact(V7 (rN h).1).trans ((congrFun (if_pos N) x).trans (if_pos rfl))
.exact G (rN h).2 Q N
theorem Wa{z:List (ai×aj)}:∀{m:ai->Option aj},i7 (z.map (·.1))=af->(x,v)∈z->a x≠aa .local->bindC a z m x=aa v:=by induction z with|nil=>exact λ_ m=>absurd m cg|cons p r G=>
intro m h Q N;refine bz (bB.mp Q) (λe=>?_) λQ=>?_;.subst e;exact(V8 (rN h).1).trans ((congrFun (if_neg N) x).trans (if_pos rfl))
.exact G (rN h).2 Q N
end
section
variable{A:aG}{X:List ah}{B:aB}
theorem v8{fd:eU}{M:List ai}{ts:List T}{s:au}(j:FnAt s.heap a fd C M)(g:GX s.heap fd.globals fd.builtins G)(Y:cG A (n+1))(lX:bJ X s.heap)(H:fd.globals∉X)(P:fd.builtins∉X)(W:M.length=ts.length)(rv:az X s.heap ts k)(h:∀(U:au)(E:aj->au->Prop)(Z:List ah)(L:ah),FS X s U U Z (cy fd L a) (bQ (eX fd.scope G) M ts) []->cG (A.deeper (cy fd L a)) n->(∀x,fd.scope.names.lookup x=aa .local\/fd.scope.names.lookup x=aa .cell->((cy fd L a).kindOf x=aa .local\/(cy fd L a).kindOf x=aa .cell)/\dh (cy fd L a) x∈aM (cy fd L a))->av (aA PW w) (A.deeper (cy fd L a)) (b9 C (cy fd L a)) (λf s'=>Q (match f with|.ret v=>v|_=>.none) s') E U):av (aA PW w) A (dP (.ref a) k []) Q E s:=by
 refine aH j.obj λo ho hd=>?_;have D:k.length=M.length:=by exact O rv.length (O W rfl)
 refine n8 (Dy fd.scope.names (s.heap.objs.size+1)) λu e ao bo co _=>?_;have e:=(e []).trans (g8 _);have R:∀x,fd.scope.names.lookup x=aa .cell->∃q,(pM (s.heap.objs.size+1) fd.scope.names []).lookup x=aa q/\(x,q)∈u:=λx hx=>(co x (mem_of_lookup hx)).elim λq hq=>AL (e▸hq) λq m=>e▸m;have d:(M.zip k).map (·.1)=M:=JZ (di D.symm);refine AZ (codeAny_call_cells (gO (e7 _ _) (cD Y.dep)) ho hd j.OZ j.code j.body (j.bind k D) j.RY (λp m=>?_) ?_ j.co j.gen j.kind)
 .refine bz (j.kinds p.1 (d▸bF.mpr ⟨p,m,rfl⟩)) (λq=>?_) λq=>?_;.exact .inl q
  .exact .inr ⟨q,(R _ q).elim λz I=>by refine O I.1 ?_;rfl⟩
 intro U x;generalize hL:s.heap.objs.size=L at*;refine eK x.done λK tk es kk=>?_;have S:Ks s U:=es▸⟨kk,rfl⟩;have N:u.Pairwise λx y=>x.1≠y.1:=e▸Tz j.nn (λp m=>absurd m cg) CV;have r:∀p∈u,U.heap.IsCell p.2 (bindC (cy fd L a).kindOf (M.zip k) (λ_=>ak) p.1):=λp m=>x.cell p.1 p.2 ((congrArg (Na p.1) e).trans (JB N m));have c:aM (cy fd L a)=L::u.map (·.2):=congrArg (λl:List (ai×ah)=>L::l.map qG) e;have F:∀q∈L::u.map (·.2),s.heap.get? q=ak:=λq m=>get?_none_of_le (by
  refine O hL ?_;refine bz (bB.mp m) (λe=>?_) λm=>?_;.exact di e.symm
  .refine aH (bF.mp m) λp mp e=>?_;exact e▸nN (ao p mp).1);have cx:CX (L::u.map (·.2)++X) U.heap (cy fd L a) (bQ (eX fd.scope G) M ts):=by
  refine CX.frame (env:=cy fd L a) S.kp lX j.kind (e.trans (g8 _).symm) F (λp m=>gb (ao p m).1) g.gU g.bU H P ⟨_,x.toInCall.ns⟩ (λp m=>⟨_,r p m⟩) bo (λp m=>absurd m cg) .nil (λy b=>(R y b).imp λq z=>⟨_,z.1,r _ z.2⟩) λy t b=>?_;refine bz (Vh j.nd W b) (λq1=>?_) λq2=>?_
  .obtain⟨i,K,J⟩:=q1;refine aH (rv.at J) λv hv r1=>?_;refine⟨v,r1,?_⟩;have I:(y,v)∈M.zip k:=eO (i:=i) (I4.mpr ⟨K,hv⟩);have hn:i7 ((M.zip k).map (·.1))=af:=d.symm▸j.nd;rcases j.kinds y (eO K)with b|b;.exact .inr (.inl ⟨b,_,x.toInCall.ns,V9 hn I b⟩)
   .refine .inr (.inr ⟨.inl b,(R y b).imp λq z=>⟨z.1,?_⟩⟩);have:=r _ z.2;rw[Wa (v:=v) hn I λq=>Jm (b.symm.trans q)]at this;exact this
  .obtain⟨_,J⟩:=q2;unfold eX at J;by_cases V:lY (fd.scope.names.lookup y)=af;.replace J:=if_pos V▸J;exact((g.kp S.kp).val y t J).imp λv z=>⟨z.1 _ _,.inl ⟨V,z.2⟩⟩
   .replace J:=if_neg V▸J;cases J
 refine h U _ _ L ⟨S,.refl _ _,F,λ_ m=>c▸m,cx,λ_ m=>absurd m cg,tU⟩ (Y.deep _) λy b=>⟨b,?_⟩;refine bz b (λb=>?_) λb=>?_;.exact DV (env:=cy fd L a) b▸aQ ..
 .exact(R y b).elim λq z=>Ek (env:=cy fd L a) b z.1▸c▸aZ _ (bF.mpr ⟨_,z.2,rfl⟩)
theorem CA.body{a:ah}{fd:eU}{body:List c6}{M:List ai}{F:List T}{r:T}{G:Gm}{n:Nat}(j:FnAt B a fd body M)(g:GX B fd.globals fd.builtins G)(u:cG A (n+1))(P:bJ X B)(b:fd.globals∉X)(d:fd.builtins∉X)(V:M.length=F.length)(h:∀(s U:au)(E:aj->au->Prop)(Z:List ah)(L:ah),FS X s U U Z (cy fd L a) (bQ (eX fd.scope G) M F) []->Kp B s.heap->cG (A.deeper (cy fd L a)) n->(∀x,fd.scope.names.lookup x=aa .local\/fd.scope.names.lookup x=aa .cell->((cy fd L a).kindOf x=aa .local\/(cy fd L a).kindOf x=aa .cell)/\dh (cy fd L a) x∈aM (cy fd L a))->av (aA PW w) (A.deeper (cy fd L a)) (b9 body (cy fd L a)) (λf S=>Ks s S/\Rep X S.heap r (match f with|.ret v=>v|_=>.none)) E U):CA A X B (.ref a) F r:=λs E K k c=>v8 (j.kp k) (g.kp k) u (P.kp k) b d V c λU E Z L f i C=>h s U E Z L f k i C
end
theorem Td:Be CB "dict_itemiterator.__iter__"=aa Builtin.«dict_keyiterator.__iter__»:=entryFor_alias (id':="dict_keyiterator.__iter__") (by kernel_rfl) rfl (by decide+kernel) (by kernel_rfl)
section
variable{A:aG}{X:List ah}{B:aB}{G:aO}
theorem Rep.qR{h:aB}{y:List ai}(r:Rep X h (.dS y b) v):∃a W,v=.ref a/\a∉X/\(a==eo)=ay/\h.DictOf (rJ PW w) a (y.zip W)/\W.length=y.length/\az X h b W:=r
theorem Rep.xaW{h:aB}{y:List Int}(r:Rep X h (.dI y b) v):∃a W,v=.ref a/\a∉X/\(a==eo)=ay/\h.DictOf (ow PW w) a (y.zip W)/\W.length=y.length/\az X h b W:=r
theorem MT.dict{y:List ai}{K:List T}{i:ai}{id:String}(c:tw "dict" i id)(d:uM (.builtin id)=pure (.type "method_descriptor")):MT (.dS y K) i id:=λX s v r=>by refine jN r.qR λa W N n C p e r=>?_;subst N;refine As p λo D t g Y _=>?_;refine⟨"dict",xaw,c,d,⟨o,g,Y.1⟩,λb R=>?_⟩;cases R;exact⟨o,g,Y.2.1⟩
theorem MT.list{l:List T}{i:ai}{id:String}(c:tw "list" i id)(d:uM (.builtin id)=pure (.type "method_descriptor")):MT (.list l) i id:=λX s v r=>by refine cI r.d8 λa xs N n p r=>?_;subst N;refine⟨"list",Ke,c,d,p.isList.typeIs,λb R=>?_⟩;cases R;refine aE p λq e=>?_;exact⟨_,e,rfl⟩
theorem MT.str{x:ai}{i:ai}{id:String}(c:tw "str" i id)(a:uM (.builtin id)=pure (.type "method_descriptor")):MT (.str x) i id:=λX s v r=>by refine aE r.eV λt p=>?_;subst p;exact⟨"str",xcm,c,a,rfl,λb R=>by cases R⟩
theorem zip_get{L N:Type}{y:List L}{W:List N}{i:Nat}{k:L}{u:N}(h:(y.zip W)[i]?=aa (k,u)):y[i]?=aa k/\W[i]?=aa u:=by replace h:=I4.mp h;exact h
theorem IT.Zm(hh:A.handled=ak)(j:isNm tg){m R:aS}{y:List ai}{K:List T}(l:bJ X B)(h:EV A G X B o (.dS y K))(hl:y.length=K.length)(P:autoParam (kG o "values" G (aU o G)=aU o G) yAR)(u:autoParam ((m.endLine==R.line)=af) yAR):IT A G X B (.Call (.Attribute o "values" m) [] [] R) tg K:=λs E k=>by
 refine Ez P u (aC (h s E k) (λov U x=>?_) λ_ _ e=>e);refine aW x λV S=>?_;refine n8 (MT.dict Dg xap X U ov S) λQ a b c d e=>?_;refine⟨Q,_,a,b,c,d,e,mh rfl rfl (zI ?_)⟩;refine jN S.qR λD W q2 n sm p eu ru=>?_;subst q2;refine t7 Dg p.typeIs YW (YJ _) (xcu (rJ PW w) D sm) ⟨⟨_,p⟩,?_⟩;refine aE p.dictAt λf q=>?_;have J:Kp U.heap (U.heap.push {cls:=.type "dict_values",data:=.fields #[.ref D]}):=λ_ _ e=>bX _ e;have I:=q.at' (h':=U.heap.push {cls:=.type "dict_values",data:=.fields #[.ref D]}) λo e=>J _ _ e;refine xax ⟨_,cF _ rfl,rfl,rfl⟩ I ?_;generalize hh1:U.heap.push {cls:=.type "dict_values",data:=.fields #[.ref D]}=Z at*;have g:Kp Z (Z.push {cls:=.type "dict_valueiterator",data:=.fields #[.ref D,.int 0 0,.int (y.zip W).length 0,.int f 0]}):=λ_ _ e=>bX _ e;have H:D<Z.objs.size:=by refine eK I λo _ C _=>?_;exact dR C
 have M:Kp U.heap (Z.push {cls:=.type "dict_valueiterator",data:=.fields #[.ref D,.int 0 0,.int (y.zip W).length 0,.int f 0]}):=J.trans g;have e1:Z.get? Z.objs.size=ak:=get?_none_of_le (cR _);have L:U.heap.get? Z.objs.size=ak:=g9 J e1;refine eK (id I) λo _ C _=>?_;refine⟨V.trans (.mk' U _ _ M),Z.objs.size,[Z.objs.size,D],[Z.objs.size],rfl,.two (l.kp k) (g9 V.kp L) ⟨_,cF _ rfl⟩ ⟨o,g _ _ C⟩ n λY hY hw=>⟨_,gz.ofWalks (λh=>az Y h K W) j (YK hh Z.objs.size D (bS H) (y.zip W) f) (by exact O gP (O eu (O hl (nW _)))) (λh h' r k=>Mine.az.kp k _ _ r) (λi v t h hp ht r=>hp.elim λkk N=>r.get ht (zip_get N).2) (λi h st=>one (st.1.imp λo z=>z.1)) hw,⟨⟨_,cF _ rfl,rfl,rfl⟩,I.at' λo e=>g _ _ e⟩,oh M hY (one L) ru⟩⟩
theorem IT.O0(q:A.handled=ak){Z u:aT}(f:isNm Z){y:List ai}{K:List T}(l:bJ X B)(h:EV A G X B u (.dS y K)):IT A G X B u Z (y.map .str):=λs E k=>by
 refine aC (h s E k) (λP U x=>?_) λ_ _ e=>e;refine aW x λV S=>?_;refine jN S.qR λD W N n w p j J=>?_;subst N;refine aE p.dictAt λa I=>?_;refine wpAny_pyIter_dict w I ?_;have r:Kp U.heap (U.heap.push {cls:=.type "dict_keyiterator",data:=.fields #[.ref D,.int 0 0,.int (y.zip W).length 0,.int a 0]}):=λ_ _ e=>bX _ e;have b:D<U.heap.objs.size:=by refine eK I λo _ g _=>?_;exact dR g
 have L:U.heap.get? U.heap.objs.size=ak:=get?_none_of_le (cR _);refine eK (id I) λo _ g _=>?_;refine⟨V.trans (.mk' U _ _ r),U.heap.objs.size,[U.heap.objs.size,D],[U.heap.objs.size],rfl,.two (l.kp k) (g9 V.kp L) ⟨_,cF _ rfl⟩ ⟨o,r _ _ g⟩ n λY F C=>⟨_,gz.ofWalks (λ_=>True) f (Walks.dictKeys q U.heap.objs.size D (bS b) (y.zip W) a) (by exact O gP (O j (O (aI ..) (nW _)))) (λ_ _ _ _=>trivial) (λi v t h Q c _=>?_) (λi h M=>one (M.1.imp λo z=>z.1)) C,⟨⟨_,cF _ rfl,rfl,rfl⟩,I.at' λo e=>r _ _ e⟩,trivial⟩⟩;refine eK Q λR x d m=>?_;rw[eS,(zip_get d).1]at c;refine aE (VS m) λH N=>?_;subst N;exact nR c▸.m8 _ _
noncomputable def rW(y:List ai)(K:List T):List T:=(y.zip K).map λp=>.tup [.str p.1,p.2]
theorem Vi{y:List ai}{K:List T}:(rW y K).length=min y.length K.length:=(aI ..).trans gP
theorem Vj{y:List ai}{K:List T}{i:Nat}{t:T}(h:(rW y K)[i]?=aa t):∃k v,y[i]?=aa k/\K[i]?=aa v/\t=.tup [.str k,v]:=by unfold rW at h;rw[eS]at h;refine aH (vF.mp h) λp e N=>?_;subst N;exact⟨p.1,p.2,(zip_get e).1,(zip_get e).2,rfl⟩
theorem gz.items(hh:A.handled=ak){es:List aT}{kk:Nat}{pp:aS}{I D:ah}{y:List ai}{K:List T}{us:List aj}{ep:Nat}{Y:List ah}(S:D≠I)(V:I∈Y)(eu:us.length=y.length)(hl:y.length=K.length):gz A I [I,D] [I] Y (.Tuple es kk pp) (rW y K) λi h=>((∃H f,IsItemIter h I D i (y.zip us).length ep H f)/\h.DictAt (rJ PW w) D (y.zip us) ep)/\az Y h K us where
sub:=one (aQ ..);frame:=λi h h' M k kx=>⟨⟨let⟨H,f,e⟩:=M.1.1;⟨H,f,k I (aQ ..) _ e⟩,M.1.2.at' λo e=>k D (aZ _ (aQ ..)) o e⟩,Mine.az.kp kx _ _ M.2⟩;up:=λi h M b m=>by replace m:=aX.mp m;refine O m ?_;refine kZ M.1.1 λH f e=>?_;exact⟨_,e⟩
item:=λi t s E ht M l=>by
 refine aW M λN J=>?_;refine aW N λp U=>?_;obtain⟨H,f,P⟩:=p;refine wu (Vj ht) λk v hk z N=>?_;subst N;refine aH (J.at z) λu Z ruv=>?_;have c:(y.zip us)[i]?=aa (k,u):=by exact I4.mpr ⟨hk,Z⟩
 refine wpAny_pyNext_items_item P U c λkey h' a x C hsz kp=>⟨_,rfl,?_⟩;have L:I<s.heap.objs.size:=dR P;refine wpAny_letOwnedTupleGo_items x λR g j=>?_;have W:bg [I] s.heap h':=λb o n e=>kp b o (λq=>n (by exact O q (aQ ..))) e;have k2:bg [I] h' R:=qj j;have r:=W.trans k2;have kY:bg Y s.heap R:=r.mono (one V);have Q:=Mine.az.kp kY _ _ J;refine⟨⟨r,rfl⟩,⟨⟨⟨_,_,g⟩,U.at' λo e=>r D o (λq=>S (aX.mp q)) e⟩,Q⟩,?_⟩;refine⟨_,_,rfl,l.new,⟨_,(j.2 _ (gb L)).trans C,rfl,_,rfl⟩,?_⟩;refine aE (VS a) λtk N=>?_;subst N;exact⟨.m8 _ _,Q.get z Z,trivial⟩
done:=λs E M=>by
 refine aW M λN J=>?_;refine aW N λp U=>?_;obtain⟨H,f,P⟩:=p;have hz:(rW y K).length=(y.zip us).length:=by exact O Vi (O gP (O eu (O hl rfl)))
 replace P:=hz▸P;exact wpAny_pyNext_items_end hh P U (pF (cR _)) λh' c=>⟨rfl,λb o n e=>c b o (λq=>n (by exact O q (aQ ..))) e,rfl⟩
self:=λi s E M=>by refine aW M λN J=>?_;refine aW N λp U=>?_;obtain⟨H,f,P⟩:=p;have d:s.TypeIs (.ref I) "dict_itemiterator":=⟨_,P,rfl⟩;refine wpAny_pyIter_slot d T5 (tN T5 d Td ?_ (F.args_dict_itemiterator_iter_1 _));show av _ _ (ret (.ref I)) _ _ s;exact aN ⟨_,rfl,"dict_itemiterator",_,d,F.slot_dict_itemiterator_next.lookup,rfl,rfl⟩
theorem IT.NQ(hh:A.handled=ak){m R:aS}{y:List ai}{K:List T}(l:bJ X B)(h:EV A G X B o (.dS y K))(z:y.length=K.length)(P:autoParam (kG o "items" G (aU o G)=aU o G) yAR)(u:autoParam ((m.endLine==R.line)=af) yAR):IT A G X B (.Call (.Attribute o "items" m) [] [] R) (.Tuple es kk pp) (rW y K):=λs E k=>by
 refine Ez P u (aC (h s E k) (λov U x=>?_) λ_ _ e=>e);refine aW x λV S=>?_;refine n8 (MT.dict xay F.type_dict_items X U ov S) λj a b c d e=>?_;refine⟨j,_,a,b,c,d,e,mh rfl rfl (zI ?_)⟩;refine jN S.qR λD W N n sm p C J=>?_;subst N;refine t7 xay p.typeIs F.entry_dict_items (F.args_dict_items_1 _) (meets_dict_items (rJ PW w) D sm) ⟨⟨_,p⟩,?_⟩;refine aE p.dictAt λt q=>?_;have i:Kp U.heap (U.heap.push {cls:=.type "dict_items",data:=.fields #[.ref D]}):=λ_ _ e=>bX _ e;have I:=q.at' (h':=U.heap.push {cls:=.type "dict_items",data:=.fields #[.ref D]}) λo e=>i _ _ e;refine wpAny_pyIter_items ⟨_,cF _ rfl,rfl,rfl⟩ I ?_;generalize v:U.heap.push {cls:=.type "dict_items",data:=.fields #[.ref D]}=Z at*;have r:Kp Z (Z.push {cls:=.type "dict_itemiterator",data:=.fields #[.none,.bool ay,.ref D,.int 0 0,.int (y.zip W).length 0,.int t 0,.none,.none]}):=λ_ _ e=>bX _ e;have f:D<Z.objs.size:=by refine eK I λo _ g _=>?_;exact dR g
 have M:=i.trans r;have Q:Z.get? Z.objs.size=ak:=get?_none_of_le (cR _);have L:U.heap.get? Z.objs.size=ak:=g9 i Q;refine eK (id I) λo _ g _=>?_;exact⟨V.trans (.mk' U _ _ M),Z.objs.size,[Z.objs.size,D],[Z.objs.size],rfl,.two (l.kp k) (g9 V.kp L) ⟨_,cF _ rfl⟩ ⟨o,r _ _ g⟩ n λY H hw=>⟨_,gz.items (us:=W) (ep:=t) hh (bS f) (hw _ (aQ ..)) C z,⟨⟨_,_,cF _ rfl⟩,I.at' λo e=>r _ _ e⟩,oh M H (one L) J⟩⟩
theorem IT.str(n:A.handled=ak)(f:isNm j){x:ai}(l:bJ X B)(h:EV A G X B iter (.str x)):IT A G X B iter j (x.cps.toList.map λc=>.str ⟨#[c]⟩):=λs E k=>by
 refine aC (h s E k) (λF U y=>?_) λ_ _ e=>e;refine aW y λV S=>?_;refine aE S.eV λt N=>?_;subst N;have L:U.heap.get? U.heap.objs.size=ak:=get?_none_of_le (cR _);have P:=(l.kp k).kp V.kp;have a:∀(T:String)(o:bR),(∀h:aB,(h.push o).IsStrIter h.objs.size T x t 0)->Walks PW w A U.heap.objs.size [U.heap.objs.size] [U.heap.objs.size] x.cps.size (SignAt x) (λi h=>h.IsStrIter U.heap.objs.size T x t i)->Ks s {U with heap:=U.heap.push o}/\∃I p z,bV U.heap.objs.size=.ref I/\jE A X s.heap (U.heap.push o) I p z j (x.cps.toList.map λc=>.str ⟨#[c]⟩):=λT o D W=>by
  have r:Kp U.heap (U.heap.push o):=λ_ _ e=>bX _ e;have D:=D U.heap;refine⟨V.trans (.mk' U _ _ r),U.heap.objs.size,[U.heap.objs.size],[U.heap.objs.size],rfl,λb m=>?_,λb m=>?_,λb m=>?_,λb m=>m,λY J C=>⟨_,gz.ofWalks (λ_=>True) f W (by simp) (λ_ _ _ _=>trivial) (λi v t h Q d _=>?_) (λi h M b m=>?_) C,D,trivial⟩⟩;.rw[aX]at m;refine O m ?_;refine aH D λq g _=>?_;exact⟨q,g⟩
  .rw[aX]at m;exact O m P.new
  .rw[aX]at m;exact O m (g9 V.kp L)
  .refine eK Q λc u Z N=>?_;try clear Q;subst N
   rw[eS,gM,Z]at d;simp only[z0,zQ]at d;exact aR d (.m8 _ _)
  .rw[aX]at m;refine O m ?_;refine aH M λq g _=>?_;exact⟨q,g⟩
 cases K:x.cps.all (·<128);.exact wpAny_pyIter_wide K (a _ _ (λh=>⟨_,cF _ rfl,rfl,rfl⟩) (Walks.strWide n _ x t))
 .exact wpAny_pyIter_ascii K (a _ _ (λh=>⟨_,cF _ rfl,rfl,rfl⟩) (Walks.strAscii n _ x t))
end
theorem slot_list_iadd:tw "list" (Sz "add") "list.__iadd__":=.of (owner:="list") (n:="__iadd__") (by refine O (iQ ..) (O iN ?_);kernel_rfl) (by decide+kernel) (by decide+kernel) (by decide+kernel) (by first|exact .inl (by decide+kernel)|exact .inr (by decide+kernel)) (by refine O (Ea ..) ?_;kernel_rfl)
theorem Tf(a b:aj):sG "list.__iadd__" ⟨[a,b],[]⟩:=by unfold sG;kernel_rfl
theorem JD(f:Array aj->Array aj)(Q:Array aj)(n:Nat):∃d,dc f {cls:=.type "list",data:=.seq Q n}={cls:=.type "list",data:=.seq (f Q) d}:=by exact⟨_,rfl⟩
section
variable{A:aG}{H:List ah}{N B s S:au}{Z:List ah}{G:aO}{P c:Gm}{M:List (ah×T)}{E:aj->au->Prop}
theorem Ub{xs f:Array aj}(V:s.heap.PlainList l xs)(R:s.heap.PlainList b f)(I:xs.size+f.size<=qN)(X:∀h',h'.PlainList l (xs++f)->tZ l s.heap h'->Q (.ref l) {s with heap:=h'}):av (aA PW w) A (inplaceOp .Add (.ref l) (.ref b)) Q E s:=by
 refine aE V λn a=>?_;refine aE R λi y=>?_;have K:s.TypeIs (.ref l) "list":=⟨_,a,rfl⟩;have d:s.TypeIs (.ref b) "list":=⟨_,y,rfl⟩;unfold inplaceOp;refine dJ ?_;have u:xdM (.type "list") "add" (Operator.Add==.Add)=pure ay:=by unfold xdM;show(jO (.type "list") (Sz "add")>>=λh=>pure (h.isSome&&!isSeqSlot h))=pure ay;refine O slot_list_iadd.lookup ?_;rfl
 have g:seqSlot? (.type "list") (Sz "add")=pure (aa (.builtin "list.__iadd__")):=by unfold seqSlot?;refine O slot_list_iadd.lookup ?_;rfl
 refine aq (EB K (aq (wg u ?_)));show av _ A (if ay=af then _ else _) Q E s;refine O (if_neg qq) ?_;refine aq (wpAny_binaryOp1_none (nm:="add") K d xdZ ?_);refine aq (wg g ?_);refine aq (qE ?_);refine wj slot_list_iadd K VT (Tf _ _) (AutoSeq1.list___iadd___list_list_0 l xs n b f i (extend_door I) (QY I) (nO I)) ⟨a,y,?_⟩;refine aE (JD (λx=>x++f) xs n) λj e=>?_;exact X _ ⟨j,by rw[qo _ a (by refine O e ?_;rfl),e]⟩ (mU ..)
theorem FS.qX(f:FS H N B s Z G P M)(e:P x=aa (.aJ (.ref D)))(V:autoParam (isVar G x=af) yAK):EV A G X s.heap (.Name x a) (.aJ (.ref D)):=(EV.name f.cx e V).flat rfl
theorem FS.iadd{l ts:List T}(f:FS H N B s Z G P M)(Y:G.kindOf x=aa .local\/G.kindOf x=aa .cell)(hw:dh G x∈aM G)(K:P x=aa (.aJ (.ref D)))(F:M[i]?=aa (D,.list l))(X:EV A G (Z++H) s.heap e (.list ts))(R:l.length+ts.length<=100000)(hQ:∀S,FS H N B S Z G P (M.set i (D,.list (l++ts)))->Q .next S)(hn:autoParam ((x==("__classdict__":ai))=ay) yAD):av (aA PW w) A (dY (.AugAssign (.Name x V) .Add e pos) G) Q E s:=by
 refine O (xcn ..) ?_;refine aH (f.cx.val x _ K) λv r n=>?_;obtain rfl:=r.cS;refine aq (cW (aq (C5 f.cx.ok.fn n ?_ hn (K8 Y))));refine aq (dJ (aC (X s E λ_ _ e=>e) (λu U y=>?_) λ_ _ e=>e));refine aW y λk ru=>?_;refine cI ru.d8 λb m q1 nb pb o=>?_;subst q1;have h:=f.step k;have g:=h.acc _ (eO F);refine aH g.2.2 λxs px j=>?_;refine aq (cW (aq λΓ p W=>?_));refine O (DP ..) ?_;have d:xs.size+m.size<=qN:=by have C:=j.length;have J:=o.length;rw[dw]at C J;exact O dK (G2 R C J)
 refine Ub (Q:=λv S=>av (aA PW w) A (do fL V;kN G x v;pure .next) Q E S) px pb d (λh' ph a=>?_) Γ p W;have I:bu [D] U {U with heap:=h'}:=⟨qj a,rfl⟩;have z:bg (Z++H) U.heap h':=I.kp.mono (one (bD.mpr (.inl g.1)));have L:FS H N B {U with heap:=h'} Z G P (M.set i (D,.list (l++ts))):=h.write F I ⟨xs++m,ph,by refine O tF ?_;exact az.append (Mine.az.kp z _ _ j) (Mine.az.kp z _ _ o)⟩;refine aq (cW (aq (L.bind Y hw (.ie _) λS _ f'=>aN (hQ S (f'.less λy t e=>?_)))));by_cases q:y=x;.subst q;exact O (pJ ..) (aR K (O e rfl))
 .exact O (eE _ _ q) e
theorem Jp{f:Array aj}{k:Int}(V:s.heap.PlainList l f)(D:0<=k)(b:k<2^63)(K:k<f.size)(X:∀h',h'.PlainList l (f.setIfInBounds k.toNat v)->tZ l s.heap h'->Q () {s with heap:=h'}):av (aA PW w) A (setItem (.ref l) (.int k t) v) Q E s:=by
 obtain⟨u,g⟩:=V;have d:s.TypeIs (.ref l) "list":=⟨_,g,rfl⟩;unfold setItem;try with_reducible refine dJ ?_
 first|refine aq (aN ?_)|skip
 refine aq (xcv d dk ?_);refine aq (xV (name:=nX "__setitem__") d xcw (tN xcw d entry_list_setitem ?_ (args_list_setitem _ _ _)));show av _ _ (xgT (.int k t)>>=_) _ _ s;refine aq (wpAny_listSubscript_int (fitsIndex_of D b) ?_);clear b;obtain⟨j,rfl⟩:=Int.eq_ofNat_of_zero_le D;have Y:j<f.size:=gR.mp K;have m:f[j]?=aa f[j]:=kB Y;show av _ _ ((seqItemAt l j>>=λr=>pure (r.map (j,·)))>>=_) _ _ s;refine aq (aq (wpAny_seqItemAt g rfl (aN ?_)));refine O m ?_;show av _ _ (setSeqItemAt l j v>>=_) _ _ s;obtain⟨h,e⟩:=JD (λx=>x.setIfInBounds j v) f u;have a:(s.heap.update l (dc (·.setIfInBounds j v))).PlainList l (f.setIfInBounds j v):=⟨h,by rw[qo _ g (by refine O e ?_;rfl),e]⟩;refine aq (wpAny_setSeqItemAt g rfl ?_);first|exact aq (aN (aN ⟨.none,rfl,aN (X _ a (mU ..))⟩))|exact aN ⟨.none,rfl,aN (X _ a (mU ..))⟩
theorem az.set{F:List T}{K:List aj}(r:az X h F K)(q:Rep X h t v):az X h (F.set i t) (K.set i v):=az.ind (P:=λF K=>∀i:Nat,az X h (F.set i t) (K.set i v)) (λ_=>trivial) (λ_ _ _ _ x r a i=>by cases i with|zero=>exact⟨q,r⟩|succ i=>exact⟨x,a i⟩) r i
theorem FS.putItem{l:List T}{k:Int}(f:FS H N B s Z G P M)(F:M[i]?=aa (D,.list l))(e:0<=k)(C:k<l.length)(I:l.length<=100000)(r:Rep (Z++H) s.heap t v)(X:∀S,FS H N B S Z G P (M.set i (D,.list (l.set k.toNat t)))->Q () S):av (aA PW w) A (setItem (.ref D) (.int k g) v) Q E s:=by
 have d:=f.acc _ (eO F);refine aH d.2.2 λxs Y j=>?_;have V:xs.size=l.length:=by exact aR j.length (O dw rfl)
 refine Jp Y e (sI C I) (Bf C V) λh' b a=>X _ ?_;have m:bu [D] s {s with heap:=h'}:=⟨qj a,rfl⟩;have z:bg (Z++H) s.heap h':=m.kp.mono (one (bD.mpr (.inl d.1)));refine f.write F m ⟨_,b,?_⟩;exact O TU (az.set (Mine.az.kp z _ _ j) (Rep.kp z _ _ r))
theorem FS.setItem{r Y R:aS}{l:List T}{k:Int}(f:FS H N B s Z G P M)(K:P x=aa (.aJ (.ref D)))(F:M[i]?=aa (D,.list l))(L:EV A G (Z++H) s.heap n t)(h:EV A G X1 s.heap g (.int k))(b:0<=k)(C:k<l.length)(I:l.length<=100000)(X:∀S,FS H N B S Z G P (M.set i (D,.list (l.set k.toNat t)))->Q .next S)(W:autoParam (lG n (aa (.Subscript (.Name x r) g Y)) R.line G=pure ay) yAR)(V:autoParam (isVar G x=af) yAK):av (aA PW w) A (dY (.Assign [.Subscript (.Name x r) g Y] n R) G) Q E s:=by refine Ju (aC (L s E λ_ _ e=>e) (λv U y=>?_) λ_ _ e=>e) W;refine aC (f.qX (X:=[]) K V U E y.1.kp) (λo J z=>?_) λ_ _ e=>e;obtain rfl:=z.2.cS;refine aC (h J E (y.1.trans z.1).kp) (λm j u=>?_) λ_ _ e=>e;refine aE u.2.cM λd a=>?_;subst a;exact((f.step y.1).step z.1).step u.1|>.putItem F b C I (Rep.kp ((z.1.trans u.1).kp.bN _) _ _ y.2) X
theorem FS.Zn{l:List T}{k a b:Int}(f:FS H N B s Z G P M)(hv:P x=aa (.aJ (.ref D)))(F:M[i]?=aa (D,.list l))(h:EV A G X1 s.heap v (.int k))(L:EV A G X2 s.heap V (.int b))(j:0<=k)(r:l[k.toNat]?=aa (.int a))(p:l.length<=100000)(X:∀S,FS H N B S Z G P (M.set i (D,.list (l.set k.toNat (.int (a+b)))))->Q .next S)(ha:∀d m q,augStore v d m q=(do ic [q,d,m] (Ae d m q);SA [q,d,m] [];pure .next):=by intros;rfl)(Y:autoParam (isVar G x=af) yAK):av (aA PW w) A (dY (.AugAssign (.Subscript (.Name x xp) v sp) .Add V pos) G) Q E s:=by
 have C:k<l.length:=by
  refine bz (yk k.toNat l.length) (λg=>?_) λg=>?_;.exact(Q7 j g).2
  .exact gone r (pF g)
 refine UY (aC (f.qX (X:=[]) hv Y s E λ_ _ e=>e) (λo U z=>?_) λ_ _ e=>e) ha;obtain rfl:=z.2.cS;refine aC (h U E z.1.kp) (λm J u=>?_) λ_ _ e=>e;refine aE u.2.cM λtk I=>?_;subst I;have n:=(f.step z.1).step u.1;have R:=n.acc _ (eO F);refine aH R.2.2 λxs px W=>?_;refine aH (W.at r) λvv t rv=>?_;refine aE rv.cM λta I=>?_;subst I;replace t:=gM▸t;refine Kd px.isList j (sI C p) t ?_;refine aC (L J E (z.1.trans u.1).kp) (λbv K y=>?_) λ_ _ e=>e;refine aE y.2.cM λtb I=>?_;subst I;refine Mq ?_;exact((n.step y.1).step (.tok ..)).putItem F j C p (.fO _ _) X
theorem FS.append{r p k R:aS}{l:List T}(f:FS H N B s Z G P M)(hv:P x=aa (.aJ (.ref D)))(I:M[i]?=aa (D,.list l))(he:EV A G (Z++H) s.heap e t)(hz:l.length<=100000)(hQ:∀S,FS H N B S Z G P (M.set i (D,.list (l++[t])))->Q .next S)(j:autoParam (interactive G=ay) yAR)(d:autoParam (lG (.Call (.Attribute (.Name x r) "append" p) [e] [] k) ak R.line G=pure ay) yAR)(a:autoParam (kG (.Name x r) "append" G (aU (.Name x r) G)=aU (.Name x r) G) yAR)(hs:autoParam (bq [e] G=[(ay,aU e G)]) yAR)(u:autoParam ((p.endLine==k.line)=af) yAR)(hl:autoParam (isVar G x=af) yAK):av (aA PW w) A (dY (.Expr (.Call (.Attribute (.Name x r) "append" p) [e] [] k) R) G) Q E s:=by
 refine wpAny_Expr_any (EA a hs u (aC (f.qX (X:=[]) hv hl s E λ_ _ e=>e) (λo U z=>?_) λ_ _ e=>e)) j d;obtain rfl:=z.2.cS;have W:=f.step z.1;have V:=W.acc _ (eO I);refine aH V.2.2 λxs px rx=>?_;refine aE px λn X=>?_;refine⟨"list","list.append",Ke,PySem.F.slot_list_append,PySem.F.type_list_append,⟨_,X,rfl⟩,λb hb=>by cases hb;exact⟨_,X,rfl⟩,mh rfl rfl (mW (nY (aC (he U E z.1.kp) (λv J y=>rQ ?_) λ_ _ e=>e)))⟩;have L:=W.step y.1;have K:=L.acc _ (eO I);refine aH K.2.2 λm q h=>?_;have C:m.size=l.length:=by exact aR h.length (O dw rfl)
 refine Jk (hsz:=by exact O dK (O C (cD hz))) q λh' ph g=>hQ _ ?_;have kD:bu [D] J {J with heap:=h'}:=⟨qj g,rfl⟩;have Y:bg (Z++H) J.heap h':=kD.kp.mono (one (bD.mpr (.inl V.1)));refine L.write I kD ⟨_,ph,?_⟩;exact O W5 (az.append (Mine.az.kp Y _ _ h) ⟨Rep.kp Y _ _ y.2,trivial⟩)
end
section
open PySem.MeetsSeq PySem.MeetsSeq2 PySem.MeetsSeq3 PySem.SeqAt PySem.SeqRoads2
noncomputable def lZ(A:aG)(s:au)(y x:aj):Prop:=∀(E:aj->au->Prop)(Q:Bool->au->Prop),Q af s->av (aA PW w) A (IL y x) Q E s
theorem lZ.of(h:EqAt A s y x af):lZ A s y x:=λE Q q=>h PW w E Q q
theorem lZ.refs(h:∀(E Q:aj->au->Prop),Q (.bool af) s->av (aA PW w) A (Fb .Eq (.ref l) (.ref b)) Q E s):lZ A s (.ref l) (.ref b):=λE Q q=>by unfold IL;exact dJ (xea (λ_=>aq (qE (aN q))) λ_=>aq (h E _ (x9 q)))
theorem J4{L N:Type}{M:uY}{A:aG}{s:au}{E:aj->au->Prop}{Q:N->au->Prop}{f:L->N->bh (ForInStep N)}{b:N}{l:List L}(h:∀a∈l,∀Q:ForInStep N->au->Prop,Q (.yield b) s->av M A (f a b) Q E s)(q:Q b s):av M A (forIn l b f) Q E s:=by induction l with|nil=>exact aN q|cons a l G=>rewrite[tP];exact aq (h a (aQ ..) _ (G λa m=>h a (aZ _ m)))
section
variable{A:aG}{s:au}{E Q:aj->au->Prop}{l b:ah}{f a:Array aj}
theorem xcR{o M:bR}(u:Bool)(g:s.heap.get? l=aa o)(U:o.data=.seq f n)(t:s.heap.get? b=aa M)(x:M.data=.seq a c)(T:f.size=a.size)(L:∀j(C:j<f.size)(J:j<a.size),lZ A.in1 s f[j] a[j])(h:R (.ok (.ret (.bool !u))) s)(k:Nat):∀i:Nat,f.size-i=k->pU (aA PW w) A (.builtin "list.__eq__.loop" ⟨[.ref l,.ref b,e9 i,e9 (bif u then 3 else 2)],[]⟩) R s:=by induction k with|zero=>intro i N;have C:f[((i:Nat):Int).toNat]?=ak:=UZ (Nat.le_of_sub_eq_zero N);have J:∀v,v=!u->R (.ok (.ret (.bool v))) s:=λv e=>e▸h;refine tT entry_eq_loop ?_;refine O (xX plain_eq_loop _) ?_;cases u<;>(refine aq (qy g U (aq (qy t x ?_)));rewrite[C];refine aq (qy g U (aq (qy t x (aN (J _ ?_)))));refine O T ?_;simp)|succ k G=>intro i N;have W:i<f.size:=Nat.lt_of_sub_eq_succ N;have C:f[((i:Nat):Int).toNat]?=aa f[i]:=kB W;have J:a[((i:Nat):Int).toNat]?=aa (a[i]'(T▸W)):=kB (T▸W);have r:=G (i+1) (congrArg Pu N);refine tT entry_eq_loop ?_;refine O (xX plain_eq_loop _) ?_;cases u<;>(refine aq (qy g U (aq (qy t x ?_)));rewrite[C,J];exact aq (L i W (T▸W) _ _ (aN ⟨vW plain_eq_loop _,r⟩)))
theorem DA(u:Bool)(V:s.heap.IsList l f)(m:s.heap.IsList b a)(k:A.units<fy)(T:f.size=a.size)(L:∀j(C:j<f.size)(J:j<a.size),lZ A.in1 s f[j] a[j])(h:Q (.bool !u) s):av (aA PW w) A (Fb (bif u then .NotEq else .Eq) (.ref l) (.ref b)) Q E s:=by
 obtain⟨o,g,Z,n,U⟩:=V;obtain⟨M,t,d,P,x⟩:=m;have c:s.TypeIs (.ref b) "list":=⟨M,t,d⟩;have r:=λR q=>xcR (R:=R) u g U t x T L q _ 0 rfl;have K:¬(f.size !=a.size)=true:=by refine O T ?_;simp
 cases u with|false=>refine CK (op:=.Eq) ⟨o,g,Z⟩ ⟨M,t,d⟩ xdN (t7 xdN ⟨o,g,Z⟩ F.entry_list_eq (F.args_list_eq_2 _ _) (S:=λi R S=>i=A/\S=s/\R (.ok (.ret (.bool true))) s) (λi R S q=>?_) ⟨rfl,rfl,nofun,h⟩) k;obtain⟨rfl,e,q⟩:=q;subst e;show av _ _ (wk (.ref b) (.type "list")>>=_) _ _ _;refine aq (z5 c T6 (aq (qy g U (aq (qy t x ?_)))));rewrite[if_neg K];exact aN ⟨vW plain_eq_loop _,r _ q⟩|true=>refine CK (op:=.NotEq) ⟨o,g,Z⟩ ⟨M,t,d⟩ Ma (t7 Ma ⟨o,g,Z⟩ xcx (xco _ _) (S:=λi R S=>i=A/\S=s/\R (.ok (.ret (.bool false))) s) (λi R S q=>?_) ⟨rfl,rfl,nofun,h⟩) k;obtain⟨rfl,e,q⟩:=q;subst e;show av _ _ (wk (.ref b) (.type "list")>>=_) _ _ _;refine aq (z5 c T6 (aq (qy g U (aq (qy t x ?_)))));rewrite[if_neg K];exact aN ⟨vW plain_eq_loop _,r _ q⟩
theorem Vk(u:Bool)(V:s.heap.IsTuple l f)(r:s.heap.IsTuple b a)(k:A.units<fy)(T:f.size=a.size)(L:∀j(C:j<f.size)(J:j<a.size),lZ A.in1 s f[j] a[j])(h:Q (.bool !u) s):av (aA PW w) A (Fb (bif u then .NotEq else .Eq) (.ref l) (.ref b)) Q E s:=by
 obtain⟨o,g,Z,n,U⟩:=V;obtain⟨M,t,d,P,x⟩:=r;have c:s.TypeIs (.ref b) "tuple":=⟨M,t,d⟩;have I:∀p∈f.toList.zip a.toList,lZ A.in1 s p.1 p.2:=λp m=>by obtain⟨j,Y,e⟩:=Js.mp m;have C:j<f.size:=iz Y (by exact O gP (vO _ _));have J:j<a.size:=T▸C;have H:p=(f[j],a[j]):=e.symm.trans List.getElem_zip;exact H▸L j C J
 cases u with|false=>refine CK (op:=.Eq) ⟨o,g,Z⟩ ⟨M,t,d⟩ xcy (t7 xcy ⟨o,g,Z⟩ F.entry_tuple_eq (F.args_tuple_eq_2 _ _) (S:=λi R S=>i=A/\S=s/\R (.ok (.ret (.bool (f.size==a.size)))) s) (λi R S q=>?_) ⟨rfl,rfl,nofun,by exact O T (O (beq_self_eq_true ..) h)⟩) k;obtain⟨rfl,e,q⟩:=q;subst e;show av _ _ (wk (.ref b) (.type "tuple")>>=_) _ _ _;exact aq (z5 c Tu (aq (Dk g U (aq (Dk t x (aq (J4 (λp m Q q=>aq (I p m _ _ (aN q))) (aN q))))))))|true=>refine CK (op:=.NotEq) ⟨o,g,Z⟩ ⟨M,t,d⟩ xcz (t7 xcz ⟨o,g,Z⟩ F.entry_tuple_ne (F.args_tuple_ne_2 _ _) (S:=λi R S=>i=A/\S=s/\R (.ok (.ret (.bool (f.size !=a.size)))) s) (λi R S q=>?_) ⟨rfl,rfl,nofun,by exact O T (O (bne_self_eq_false ..) h)⟩) k;obtain⟨rfl,e,q⟩:=q;subst e;show av _ _ (wk (.ref b) (.type "tuple")>>=_) _ _ _;exact aq (z5 c Tu (aq (Dk g U (aq (Dk t x (aq (J4 (λp m Q q=>aq (I p m _ _ (aN q))) (aN q))))))))
end
end
section
open PySem.SeqAt
noncomputable def DS(d:List (ai×T)):T:=.dS (d.map (·.1)) (d.map (·.2))
noncomputable def getD(d:List (ai×T))(k:ai):Option T:=(d.find? λp=>p.1=k).map (·.2)
theorem z9{K:Type}[DecidableEq K]{X:List ah}{h:aB}{k:K}{d:List (K×T)}:∀{W:List aj},az X h (d.map (·.2)) W->((d.find? λp=>p.1=k).map (·.2)=ak->zc ((d.map (·.1)).zip W) k=ak)/\∀t,(d.find? λp=>p.1=k).map (·.2)=aa t->∃v,zc ((d.map (·.1)).zip W) k=aa v/\Rep X h t v:=by induction d with|nil=>exact λ_=>⟨λ_=>rfl,λ_ e=>nomatch e⟩|cons q d G=>intro W r;cases W with|nil=>exact r.elim|cons u W=>
by_cases Q:q.1=k;.have H:zc ((q.1,u)::(d.map (·.1)).zip W) k=aa u:=congrArg (ue qG) (CQ (decide_eq_true Q));have L:((q::d).find? λp=>p.1=k).map (·.2)=aa q.2:=congrArg (ue qG) (CQ (decide_eq_true Q));exact⟨λe=>gone L e,λt e=>⟨u,H,nR (L.symm.trans e)▸r.1⟩⟩
.have a:¬decide (q.1=k)=af:=λe=>Q (of_decide_eq_true e);have H:zc ((q.1,u)::(d.map (·.1)).zip W) k=zc ((d.map (·.1)).zip W) k:=congrArg (ue qG) (CR a);have L:((q::d).find? λp=>p.1=k).map (·.2)=(d.find? λp=>p.1=k).map (·.2):=congrArg (ue qG) (CR a);exact⟨λe=>H.trans ((G r.2).1 (L.symm.trans e)),λt e=>H.symm▸(G r.2).2 t (L.symm.trans e)⟩
noncomputable def SV(t:T):Prop:=Mine.flat t=af\/∃l,t=.tup l/\∀a∈l,Mine.flat a=af
noncomputable def TE:Nat->T->T->Prop|0,_,_=>False|n+1,t,u=>t=u/\Mine.flat t=af\/(∃l m,(t=.list l/\u=.list m\/t=.tup l/\u=.tup m)/\l.length=m.length/\∀(i:Nat)a b,l[i]?=aa a->m[i]?=aa b->TE n a b)\/∃d j,t=DS d/\u=DS j/\d.length=j.length/\∀p∈d,Mine.getD j p.1=aa p.2/\SV p.2
theorem TE.flat{n:Nat}{t:T}(h:Mine.flat t=af):TE (n+1) t t:=.inl ⟨rfl,h⟩
theorem TE.list{n:Nat}{l m:List T}(e:l.length=m.length)(h:∀(i:Nat)a b,l[i]?=aa a->m[i]?=aa b->TE n a b):TE (n+1) (.list l) (.list m):=.inr (.inl ⟨l,m,.inl ⟨rfl,rfl⟩,e,h⟩)
theorem TE.tup{n:Nat}{l m:List T}(e:l.length=m.length)(h:∀(i:Nat)a b,l[i]?=aa a->m[i]?=aa b->TE n a b):TE (n+1) (.tup l) (.tup m):=.inr (.inl ⟨l,m,.inr ⟨rfl,rfl⟩,e,h⟩)
theorem TE.dict{n:Nat}{d j:List (ai×T)}(e:d.length=j.length)(h:∀p∈d,Mine.getD j p.1=aa p.2/\SV p.2):TE (n+1) (DS d) (DS j):=.inr (.inr ⟨d,j,rfl,rfl,e,h⟩)
theorem S3{j:dz}{w:bL}{A:aG}{E:aj->au->Prop}{s:au}{b:Array UInt8}{t u:l8}{Q:Bool->au->Prop}(h:Q af s):av (aA j w) A (IL (.bytes b t) (.bytes b u)) Q E s:=by unfold IL;refine dJ ?_;refine xea (λG=>aq (qE (aN h))) λ_=>?_;exact aq (richCompare_gives (op:=.Eq) (T:="bytes") rfl rfl FB.slot_bytes_eq FB.entry_bytes_eq (FB.args_bytes_eq_2 _ _) (gives_bytes_eq b b t u) (λx=>nomatch x) (x9 (by simpa using h)))
section
variable{X Y:List ah}
theorem DX{A:aG}{s:au}{t:T}{v q:aj}(h:Mine.flat t=af)(r:Rep X s.heap t v)(f:Rep Y s.heap t q):EqAt A s v q af:=by cases t with|none=>exact(show v=q from jP r (i6 f))▸EqAt.same _|bool b=>exact(show v=q from jP r (i6 f))▸EqAt.same _|aJ u=>exact(show v=q from jP r (i6 f))▸EqAt.same _|int i=>refine aE r.cM λa I=>?_;subst I;refine aE f.cM λb I=>?_;subst I;exact beq_self_eq_true i▸EqAt.int_int i a i b|str x=>refine aE r.eV λa I=>?_;subst I;refine aE f.eV λb I=>?_;subst I;exact beq_self_eq_true x▸EqAt.str_str x a x b|bytes x=>exact r.elim λa e=>f.elim λb U=>e▸U▸λj w E Q B=>S3 B|_=>cases h
theorem az.at2{h:aB}{F:List T}{K:Array aj}(r:az X h F K.toList){j:Nat}(b:j<K.size):∃t,F[j]?=aa t/\Rep X h t K[j]:=by have V:=r.length;replace V:=dw▸V;have a:j<F.length:=V▸b;refine⟨F[j],cz a,?_⟩;exact r.get (cz a) (by exact O gM (kB b))
theorem size_eq{h:aB}{l m:List T}{xs f:Array aj}(R:az X h l xs.toList)(D:az Y h m f.toList)(e:l.length=m.length):xs.size=f.size:=R.length.trans (e.trans D.length.symm)
theorem Zo{A:aG}{s:au}{t:T}{v q:aj}(h:SV t)(r:Rep X s.heap t v)(f:Rep Y s.heap t q)(Z:A.units<fy):EqAt A s v q af:=by
 rcases h with h|⟨l,rfl,h⟩;.exact DX h r f
 .refine cI r.jQ λa xs I n p R=>?_;subst I;refine cI f.jQ λb d I i F D=>?_;subst I;by_cases G:a=b;.subst G;exact EqAt.same _
  have:=RcAt.tuples (A:=A) (s:=s) (e:=λ_=>af) p F Z λj C J=>by refine aH (R.at2 C) λt c S=>?_;refine aH (D.at2 J) λm k g=>?_;exact DX (h t (eO c)) S (nR (c.symm.trans k)▸g)
  have e:(((gj (min xs.size d.size)).all λ_=>af)&&xs.size==d.size)=af:=by refine O (cj.mpr λ_ _=>rfl) (O (size_eq R D rfl) ?_);simp
  exact EqAt.of_refs G (e▸this)
theorem Zp{A:aG}{s:au}{w:List (ai×aj)}{j:List (ai×T)}(Z:A.units<fy)(R:∀k t,Mine.getD j k=aa t->∃v,zc w k=aa v/\Rep Y s.heap t v){d:List (ai×T)}:∀{W:List aj},az X s.heap (d.map (·.2)) W->(∀p∈d,Mine.getD j p.1=aa p.2/\SV p.2)->KeqHits A s w ((d.map (·.1)).zip W) af:=by induction d with|nil=>exact λ_ _=>.nil|cons p d G=>intro W r h;cases W with|nil=>exact r.elim|cons u W=>refine aW (h p (aQ ..)) λC J=>?_;refine aH (R p.1 p.2 C) λv K c=>?_;exact .hit (e:=af) (b:=af) K (Zo J r.1 c Z) (G r.2 λq m=>h q (aZ _ m))
theorem O1{A:aG}{s:au}{l m:List T}{xs f:Array aj}{R:T->T->Prop}(G:∀{t u:T}{v q:aj},R t u->Rep X s.heap t v->Rep Y s.heap u q->lZ A s v q)(h:∀(i:Nat)t u,l[i]?=aa t->m[i]?=aa u->R t u)(a:az X s.heap l xs.toList)(D:az Y s.heap m f.toList)(j:Nat)(C:j<xs.size)(J:j<f.size):lZ A s xs[j] f[j]:=by refine aH (a.at2 C) λt c S=>?_;refine aH (D.at2 J) λg k Z=>?_;exact G (h j t g c k) S Z
theorem My{A:aG}{s:au}{n:Nat}{t u:T}{l m:List T}{v c:aj}{E Q:aj->au->Prop}(d:Bool)(G:∀{t u:T}{v c:aj},TE n t u->Rep X s.heap t v->Rep Y s.heap u c->lZ A.in1 s v c)(g:t=.list l/\u=.list m\/t=.tup l/\u=.tup m)(e:l.length=m.length)(h:∀(i:Nat)a b,l[i]?=aa a->m[i]?=aa b->TE n a b)(r:Rep X s.heap t v)(f:Rep Y s.heap u c)(K:A.units<fy)(q:Q (.bool !d) s):∃a b,v=.ref a/\c=.ref b/\av (aA PW w) A (Fb (bif d then .NotEq else .Eq) (.ref a) (.ref b)) Q E s:=by
 rcases g with⟨rfl,rfl⟩|⟨rfl,rfl⟩;.refine cI r.d8 λa xs I _ p R=>?_;subst I;refine cI f.d8 λb j I _ F D=>?_;subst I;exact⟨a,b,rfl,rfl,DA d p.isList F.isList K (size_eq R D e) (O1 G h R D) q⟩
 .refine cI r.jQ λa xs I _ p R=>?_;subst I;refine cI f.jQ λb j I _ F D=>?_;subst I;exact⟨a,b,rfl,rfl,Vk d p F K (size_eq R D e) (O1 G h R D) q⟩
theorem TE.eqW{n:Nat}:∀{A:aG}{s:au}{t u:T}{v c:aj},TE n t u->Rep X s.heap t v->Rep Y s.heap u c->A.units+n<fy->lZ A s v c:=by induction n with|zero=>exact λh=>h.elim|succ n G=>
intro A s t u v c h r f Z;have K:A.units<fy:=gO (e7 _ _) Z;have i:A.in1.units+n<fy:=HM Z;rcases h with⟨rfl,h⟩|⟨l,m,g,e,h⟩|⟨d,w,rfl,rfl,e,h⟩;.exact .of (DX h r f)
.have k:=λ(E Q:aj->au->Prop)q=>My (E:=E) (Q:=Q) ay (λh r f=>G h r f i) g e h r f K q;refine wu (k (λ_ _=>True) (λ_ _=>True) trivial) λa b H L _=>?_;exact O H (O L (lZ.refs λE Q q=>(k E Q q).elim λy z=>z.elim λj z=>Kc (H.symm.trans z.1)▸Kc (L.symm.trans z.2.1)▸z.2.2))
.refine jN r.qR λa W I U C p H R=>?_;subst I;refine jN f.qR λb x I P o F L D=>?_;subst I;refine lZ.refs λE Q q=>keq_eq C o p F K (λ_=>Zp (gO (e7 _ _) i) (λk t N=>(z9 D).2 t N) R h) ?_;exact O gP (O gP (O H (O L (O (aI ..) (O (aI ..) (O e (O (beq_self_eq_true ..) q)))))))
theorem aY.alike{A:aG}{B:aB}{n:Nat}{t u:T}(ne:Bool)(h:TE n t u)(Z:A.units+n<fy)(c:(∃l,t=.list l)\/∃l,t=.tup l):aY A X B (bif ne then .NotEq else .Eq) t u !ne:=λs E a b k f o=>by cases n with|zero=>exact h.elim|succ n=>
rcases h with⟨rfl,h⟩|⟨l,m,V,e,h⟩|⟨d,j,rfl,_⟩;.rcases c with⟨l,rfl⟩|⟨l,rfl⟩<;>cases h
.refine wu (My (E:=E) (Q:=λv S=>Ks s S/\Rep X S.heap (.bool !ne) v) ne (λh r g=>TE.eqW h r g (HM Z)) V e h f o (gO (e7 _ _) Z) ⟨.refl s,rfl⟩) λy i I N z=>?_;subst I;subst N;cases ne<;>exact z
.rcases c with⟨l,e⟩|⟨l,e⟩<;>cases e
theorem aY.same{A:aG}{B:aB}{n:Nat}{t u:T}(h:TE n t u)(Z:A.units+n<fy)(c:(∃l,t=.list l)\/∃l,t=.tup l):aY A X B .Eq t u af:=aY.alike ay h Z c
theorem aY.qS{A:aG}{B:aB}{n:Nat}{t u:T}(h:TE n t u)(Z:A.units+n<fy)(c:(∃l,t=.list l)\/∃l,t=.tup l):aY A X B .NotEq t u ay:=aY.alike af h Z c
theorem aY.xaX{A:aG}{B:aB}{l m:List Int}(Z:A.units+1<fy):aY A X B .Eq (.list (l.map .int)) (.list (m.map .int)) (decide (l=m)):=λs E a b k i o=>by
 refine cI i.d8 λa xs I U p R=>?_;subst I;refine cI o.d8 λb f I P F D=>?_;subst I;have V:xs.size=l.length:=R.length.trans (aI ..);have M:f.size=m.length:=D.length.trans (aI ..);have K:=rG Z;by_cases c:xs.size=f.size
 .refine RcAt.lists (e:=λj=>decide (l[j]?=m[j]?)) p.isList F.isList c K (λj C J=>?_) PW w E _ ⟨.refl s,?_⟩;.have d:l[j]?=aa l[j]:=cz (V▸C);have r:m[j]?=aa m[j]:=cz (M▸J);have S:=R.get (i:=j) (t:=.int l[j]) (by refine O eS (O d ?_);rfl) (by exact O gM (kB C));have n:=D.get (i:=j) (t:=.int m[j]) (by refine O eS (O r ?_);rfl) (by exact O gM (kB J));refine aE S.cM λx H=>?_;refine aE n.cM λy L=>?_;exact O H (O L (O d (O r (O (show decide (aa l[j]=aa m[j])=(l[j]==m[j])by rw[tR];simp) (EqAt.int_int _ _ _ _)))))
  .refine congrArg Ni (tR.mpr ⟨λh=>decide_eq_true (JV λj=>?_),λh=>cj.mpr λj _=>decide_eq_true (of_decide_eq_true h▸rfl)⟩);refine bz (yk j l.length) (λg=>?_) λg=>?_;.exact of_decide_eq_true (cj.mp h j (rI.mpr (V▸g)))
   .exact O (pF g) (O (pF (bf (di (M.symm.trans (c.symm.trans V))) g)) rfl)
 .refine RcAt.lists_lengths p.isList F.isList (bne_iff_ne.mpr c) K PW w E _ ⟨.refl s,?_⟩;exact congrArg Ni (decide_eq_false λe:l=m=>c (V.trans (e▸M.symm))).symm
theorem aY.O2{A:aG}{h₀:aB}{l:List T}(Z:A.units+1<fy):aY A X h₀ .Eq (.list l) (.list []) l.isEmpty:=λs E a b k c o=>by refine cI c.d8 λa xs I U p R=>?_;subst I;refine cI o.d8 λb f I P F D=>?_;subst I;have V:xs.size=l.length:=R.length;have M:f.size=0:=D.length;cases l with|nil=>exact DA ay p.isList F.isList (rG Z) (V.trans M.symm) (λj C=>absurd (iz C (di V)) (Km j)) ⟨.refl s,rfl⟩|cons=>exact RcAt.lists_lengths p.isList F.isList (by refine O V (O M ?_);rfl) (rG Z) PW w E _ ⟨.refl s,rfl⟩
theorem aY.xcS{A:aG}{B:aB}{l:List T}(Z:A.units+1<fy):aY A X B .NotEq (.list l) (.list []) !l.isEmpty:=λs E a b k d o=>by refine cI d.d8 λa xs I h p R=>?_;subst I;refine cI o.d8 λb f I P c D=>?_;subst I;have V:xs.size=l.length:=R.length;have M:f.size=0:=D.length;have K:=rG Z;cases l with|nil=>exact DA af p.isList c.isList K (V.trans M.symm) (λj C=>absurd (iz C (di V)) (Km j)) ⟨.refl s,rfl⟩|cons=>refine aE p λn e=>?_;refine aE c λg U=>?_;exact richCompare_meets_room (op:=.NotEq) ⟨_,e,rfl⟩ ⟨_,U,rfl⟩ Ma xcx (xco _ _) (list_ne_lengthsAt a b xs f _ _ _ _ _ _ (by refine O V (O M ?_);rfl)) ⟨e,U,nofun,.refl s,rfl⟩ K
end
end
abbrev ql(M:c6)(n q:ai)(D i:aj):eU:=fd M n q 3 D i
section
variable{A:aG}{H:List ah}{N B s S:au}{Z:List ah}{G:aO}{P a:Gm}{M:List (ah×T)}{E:aj->au->Prop}
theorem FS.xaY(f:FS H N B s Z G P M)(Y:G.kindOf x=aa .local\/G.kindOf x=aa .cell)(C:dh G x∈aM G)(c:P x=aa (.int i))(L:EV A G (Z++H) s.heap e (.int j))(X:∀S,FS H N B S Z G (upd P x (.int (i+j))) M->Q .next S)(K:autoParam ((x==("__classdict__":ai))=ay) yAD):av (aA PW w) A (dY (.AugAssign (.Name x V) .Add e b) G) Q E s:=by refine O (xcn ..) ?_;refine aH (f.cx.val x _ c) λv r n=>?_;refine aE r.cM λt z=>?_;subst z;refine aq (cW (aq (C5 f.cx.ok.fn n ?_ K (K8 Y))));refine aq (dJ (aC (L s E λ_ _ e=>e) (λu U y=>?_) λ_ _ e=>e));refine aW y λk J=>?_;refine aE J.cM λg z=>?_;subst z;refine aq (cW (aq λm p W=>?_));refine O (DP ..) ?_;refine Mq (Q:=λv S=>av (aA PW w) A (do fL V;kN G x v;pure .next) Q E S) ?_ m p W;exact aq (cW (aq ((f.step (k.trans (.tok ..))).bind Y C (.fO _ _) λS _ h=>aN (X S h))))
end
section
variable{A:aG}{H:List ah}{N B s S:au}{Z:List ah}{G:aO}{P r:Gm}{M:List (ah×T)}{E:aj->au->Prop}
theorem FS.ret(f:FS H N B s Z G P M)(L:EV A G H s.heap e t)(X:∀v S,Ks N S->Rep H S.heap t v->Q (.ret v) S):av (aA PW w) A (dY (.Return (aa e) a) G) Q E s:=Dw (aC (L s E λ_ _ e=>e) (λv g y=>X v g (f.ks.trans y.1) y.2) λ_ _ e=>e)
theorem EV.less(x:EV A G X b e t)(h:∀a∈Y,a∈X):EV A G Y b e t:=λs E k=>aC (x s E k) (λv S y=>⟨y.1,Rep.less h _ _ y.2⟩) λ_ _ e=>e
theorem inR:∀a∈H,a∈Z++H:=λa m=>cK _ m
end
def lk(k:Nat)(x:ai):Option pP:=(d9 (aP PW k)).names.lookup x
noncomputable def jd:List Int->Int|[]=>0|i::r=>i+jd r
theorem Uz(l:List Int)(a:Int):jd (l++[a])=jd l+a:=by induction l with|nil=>simp[jd]|cons x r G=>rw[zW,jd,G,jd];exact(nU ..).symm
section
variable{A:aG}{H:List ah}{N B s S:au}{Z:List ah}{G:aO}{P d:Gm}{M:List (ah×T)}{E:aj->au->Prop}
theorem KA{f:Array aj}(c:t≠e):∀(n i:Nat)(s:au)(Q:List aj->au->Prop),s.heap.IsListIter e t i->s.heap.IsList t f->i+n<=f.size->(∀h',h'.IsListIter e t (i+n)->tZ e s.heap h'->Q ((f.toList.drop i).take n) {s with heap:=h'})->av (aA PW w) A (draw (.ref e) n) Q E s
|0,i,s,Q,a,_,_,X=>by show av _ _ (pure []) Q E s;exact aN (by simpa using X s.heap a (xgU ..))|n+1,i,s,Q,a,j,m,X=>by
 have W:i<f.size:=iz (vE (qz n)) m;show av _ _ (zl (.ref e)>>=_) Q E s;refine aq (YI a j (x:=f[i]) (by simp[W]) λk h l=>?_);refine aq (dJ (KA c n (i+1) _ _ h (j.extBut l.extBut c) (bf (di (rD i n)) m) λC b g=>aN ?_));have U:f.toList.drop i=f[i]::f.toList.drop (i+1):=by simp[CL,W]
 have:=X C (by exact O (rD i n).symm b) (l.trans g);rw[U,WS]at this;exact this
theorem UA{f:Array aj}(j:A.handled=ak)(c:s.heap.IsList t f)(X:∀h',xdO s.heap.objs.size s.heap h'->Q f.toList {s with heap:=h'}):av (aA PW w) A (unpackItems (.ref t) f.size ak) Q E s:=by
 have W:t≠s.heap.objs.size:=by refine aH c λo i _=>?_;exact bS (dR i)
 unfold unpackItems;refine aq ?_
 .unfold notIterableAtAll;refine aq (Mb c.typeIs slot_list_iter.lookup ?_);refine aN ?_;simp only[rE,if_false];refine aq (dJ (zX c ?_));refine aq (dJ (KA W f.size 0 _ _ ⟨_,cF _ rfl,rfl,rfl⟩ (c.push _) (di (jk _ _)) λg h l=>?_));have k:List.take f.size (List.drop 0 f.toList)=f.toList:=by exact O Ad (List.take_of_length_le (by simp))
  refine O k ?_;refine O (if_neg (by simp)) ?_;have a:g.IsList t f:=(c.push _).extBut l.extBut W;refine aq (dJ (wpAny_pyNext_list_end j h a (by simp) λC n=>?_));simp only[Option.isSome_none,rE,if_false];refine aN (X C λb o R e=>n b o R (l.extBut b o R (bX _ e)))
theorem AS.lst(l:A.handled=ak){xs:List ai}{ps:List aS}{F:List T}(Y:∀x∈xs,(G.kindOf x=aa .local\/G.kindOf x=aa .cell)/\dh G x∈V)(e:xs.length=F.length)(U:ps.length=xs.length)(g:pI D G=(xs.zip ps).map λy=>(ay,fV (.Name y.1 y.2) G)):AS A G V (.Tuple D k j) (.list F) P (bQ P xs F):=λX s E v i c r=>by
 obtain⟨L,K,rfl,n,p,r⟩:=r.d8;have h:=r.length;rw[dw]at h;have f:(pI D G).length=K.size:=by exact O g (O (aI ..) (O gP (O U (O (nW ..) (O h (O e rfl))))))
 have a:(pI D G).findIdx? (·.1)=ak:=by refine O g (Uj.mpr ?_);intro z I;obtain⟨y,_,rfl⟩:=bF.mp I;rfl
 refine O (arm_assign_Tuple ..) ?_;refine aq (cW ?_);unfold unpack;refine O f (O a ?_);refine aq (dJ (UA l p.isList λh' m=>?_));have k:Kp s.heap h':=λb o e=>m b o (bS (dR e)) e;refine O g (O bO ?_);refine aC (IV (s:={s with heap:=h'}) i e U Y (c.kp k) (az.kp (k.bN X) _ _ r)) (λ_ J q=>⟨(bu.of (⟨k,rfl⟩:Ks s {s with heap:=h'})).trans q.1,q.2⟩) λ_ _ e=>e
theorem FS.Qe{i R:aS}(f:FS H N B s Z G P M)(L:EV A G (Z++H) s.heap e t)(K:AS A G (aM G) (.Tuple a k i) t P d)(X:∀S,FS H N B S Z G d M->Q .next S)(W:autoParam (rO [.Tuple a k i] e R.line G=pure ay) yAR)(C:autoParam (rP [.Tuple a k i] e G=pure ak) yAR):av (aA PW w) A (dY (.Assign [.Tuple a k i] e R) G) Q E s:=Ar (aC (L s E λ_ _ e=>e) (λv U y=>by have b:=f.step y.1;exact aC (K _ U E v b.cx.ok.iW b.cx y.2) (λ_ J z=>X J (b.re z.1 z.2)) λ_ _ e=>e) λ_ _ e=>e) W C
theorem FS.cond{c:aT}{a i:List c6}{R:aS}{b:Bool}{Q:ek->au->Prop}(f:FS H N B s Z G P M)(g:TV A G s.heap c b)(C:b=true->∀S,FS H N B S Z G P M->av (aA PW w) A (b9 a G) Q E S)(J:b=false->∀S,FS H N B S Z G P M->av (aA PW w) A (b9 i G) Q E S):av (aA PW w) A (dY (.If c a i R) G) Q E s:=by
 refine QW (aC (g s E λ_ _ e=>e) (λr S y=>?_) λ_ _ e=>e);refine aW y λk u=>?_;try clear y;subst u
 cases r with|true=>exact C rfl S (f.step k)|false=>exact J rfl S (f.step k)
theorem CA.zg{l:List T}(I:l.length<=100000):CA A X h₀ (.builtin "len") [.list l] (.int l.length):=λs E K k r=>by refine aE (az.ju r) λv u=>?_;subst u;refine cI r.1.d8 λa xs u n p R=>?_;subst u;have V:=R.length;rw[dw]at V;refine call_len_list p.isList (jK (nV.mpr (jv V I)) dk) ?_;exact O V ⟨.tok ..,.fO _ _⟩
end
theorem foldl_rep:∀(k:Nat)(i:Array aj),(Nq (λz o=>z++o) i (eH k #[v])).toList=i.toList++eH k v|0,i=>by simp|k+1,i=>by rw[C1,pH,foldl_rep k,C1];simp
theorem az.rep(r:Rep X h t v)(k:Nat):az X h (eH k t) (eH k v):=by induction k with|zero=>trivial|succ k G=>exact⟨r,G⟩
section
variable{A:aG}{H:List ah}{N g s S:au}{Z:List ah}{G:aO}{P d:Gm}{M:List (ah×T)}{E:aj->au->Prop}{X:List ah}{B:aB}
theorem UB{f:Array aj}{x:Int}(V:s.heap.get? l=aa {cls:=.type "list",dict:=ak,data:=.seq f k,slots:=#[]})(C:-(2^63:Int)<=x)(a:x<2^63)(T:f.size*x.toNat<=2^24)(h:Q (.ref s.heap.objs.size) {s with heap:=s.heap.push {cls:=.type "list",data:=.seq (Nq (λz o=>z++o) #[] (eH (if f.isEmpty=af then 0 else x.toNat) f))}}):av (aA PW w) A (QV .Mult (.ref l) (.int x u)) Q E s:=wpAny_binaryOp_repeat_ref (T:="list") (U:="int") dk ⟨_,V,rfl⟩ (λS=>typeIs_int S x u) noFill_list_mul F.fills_int_mul xcA repeat_list F.slot_int_index.lookup (wj xcA (typeIs_int s x u) F.entry_int_rmul (F.args_int_rmul_2 _ _) (int___rmul___int_list x u l f k) ⟨V,rfl,⟨_,V,rfl⟩,wj F.slot_list_mul ⟨_,V,rfl⟩ F.entry_list_mul (F.args_list_mul_2 _ _) (AutoListH.list___mul___list_int_3 l f k x u (by simp[SO];exact iR (fW C) (eF a)) (tM (cD T)) (by simp[xgV,qN];exact T)) ⟨V,h⟩⟩)
theorem bE.rU{k:Int}(l:bJ X B)(D:0<=k)(C:k<=100000):∀(s:au)(E:aj->au->Prop)(a b:aj),Kp B s.heap->Rep X s.heap (.list [t]) a->Rep X s.heap (.int k) b->av (aA PW w) A (QV .Mult a b) (λv S=>Ks s S/\Rep X S.heap (.list (eH k.toNat t)) v/\∃a,v=.ref a/\s.heap.get? a=ak) E s:=λs E a b j c f=>by
 refine cI c.d8 λL xs I n p R=>?_;subst I;refine aE f.cM λu I=>?_;subst I;refine aE p λm V=>?_;refine aE R.ju λv K=>?_;have Y:xs=#[v]:=by exact Array.toList_inj.mp K
 subst Y;refine UB V (fW D) (jK C jh) (by simp;exact eF C) ⟨.push ..,?_,_,rfl,get?_none_of_le (cR _)⟩;have W:Kp s.heap (s.heap.push {cls:=.type "list",data:=.seq (Nq (λz o=>z++o) #[] (eH (if(#[v]:Array aj).isEmpty=af then 0 else k.toNat) #[v]))}):=λ_ _ e=>bX _ e;refine⟨_,_,rfl,(l.kp j).new,⟨0,cF _ rfl⟩,?_⟩;refine O (if_neg (by simp)) (O (foldl_rep ..) ?_);simpa using az.rep (Rep.kp (W.bN X) _ _ R.1) k.toNat
theorem EF.rU{k:Int}(f:bJ X B)(V:EV A G X B l (.list [t]))(D:EV A G X B r (.int k))(h:0<=k)(C:k<=100000):EF A G X B (.BinOp l .Mult r i) (.list (eH k.toNat t)):=λs E q=>wpAny_BinOp (aC (V s E q) (λa U x=>aC (D U E (q.trans x.1.kp)) (λb J y=>aC (bE.rU (f.kp q) h C J E a b (x.1.trans y.1).kp (Rep.kp (y.1.kp.bN X) _ _ x.2) y.2) (λc j z=>⟨(x.1.trans y.1).trans z.1,z.2.1,let⟨a,e,n⟩:=z.2.2;⟨a,e,g9 (x.1.trans y.1).kp n⟩⟩) λ_ _ e=>e) λ_ _ e=>e) λ_ _ e=>e)
theorem FS.view{x:ai}{D:ah}{t:T}{i:Nat}(f:FS H N g s Z G P M)(K:P x=aa (.aJ (.ref D)))(F:M[i]?=aa (D,t)):CX (aM G) s.heap G (upd P x t):=by
 have b:=f.acc _ (eO F);have c:=f.cx.narrow (Y:=aM G) f.cx.ok.iW (λ_ m=>m) λa m=>f.cx.live a (f.cx.ok.iW a m);refine⟨c.ok,c.live,c.eZ,λy u e=>?_⟩;by_cases q:y=x;.subst q;replace e:=pJ ..▸e;cases e;refine aH (c.val y _ K) λv r n=>?_;obtain rfl:=r.cS;exact⟨_,(b.2.2.less f.cx.ok.iW).rep b.2.1,n⟩
 .replace e:=eE _ _ q▸e;exact c.val y u e
end
noncomputable def en{L:Type}:Int->List L->List (Int×L)|_,[]=>[]|i,a::l=>(i,a)::en (i+1) l
theorem uf{L:Type}{f:L->T}:∀{i:Int}{l:List L},jX i (l.map f)=(en i l).map λq=>.tup [.int q.1,f q.2]|_,[]=>rfl|i,a::l=>by rw[f6,jX,en,f6,uf]
theorem rX{L:Type}:∀{i:Int}{l:List L}{q:Int×L},q∈en i l->∃k:Nat,q.1=i+k/\l[k]?=aa q.2
|i,a::l,q,h=>by
 rcases bB.mp h with rfl|h;.exact⟨0,by simp,rfl⟩
 .refine aH (rX h) λk H b=>?_;exact⟨k+1,O H ((nU i 1 k).trans (congrArg (i+·) (jM 1 (k:Int)))),by simpa using b⟩
def gi(l:List Int)(i:Int):Int:=l.getD i.toNat 0
def gr(r:List (List Int))(i j:Int):Int:=gi (r.getD i.toNat []) j
structure Sq(r:List (List Int)):Prop where
len:r.length=5
row:∀l∈r,l.length=5
noncomputable def LI(l:List Int):T:=.list (l.map .int)
def b7(r:List (List Int)):T:=.list (r.map LI)
section
variable{A:aG}{X:List ah}{B:aB}{G:aO}
theorem EV.gi{l:List Int}(K:EV A G X B v (LI l))(F:EV A G X B i (.int k))(D:0<=k)(C:k<l.length)(I:l.length<=100000)(hs:autoParam (jR i) yAW):EV A G X B (.Subscript v i a) (.int (Mine.gi l k)):=EV.sub K F (cU.list (hs:=hs) D (sI C I) (by
refine O eS ?_;have:l[k.toNat]?=aa (l.getD k.toNat 0):=by refine O cA (O (cz (iu D C)) ?_);rfl
refine O this ?_;rfl))
theorem EV.xcT{l:List Int}(K:EV A G X B v (LI l))(F:EV A G X B i (.int k))(D:k<0)(C:-(l.length:Int)<=k)(I:l.length<100000)(W:autoParam (jR i) yAW):EV A G X B (.Subscript v i a) (.int (Mine.gi l (k+l.length))):=EV.sub K F (cU.Zk (hs:=W) D (by exact O (aI ..) C) (by exact O (aI ..) I) (by
refine O (aI ..) (O eS ?_);have:l[(k+l.length).toNat]?=aa (l.getD (k+l.length).toNat 0):=by refine O cA (O (cz ((Mk (Int.sub_neg k l.length▸Int.sub_nonneg_of_le C)).mpr (qs (Int.add_lt_add_right D _) (mE (mD _))))) ?_);rfl
refine O this ?_;rfl))
theorem EV.row{r:List (List Int)}{k:Int}(l:Sq r)(K:EV A G X B v (b7 r))(F:EV A G X B i (.int k))(D:0<=k)(C:k<5)(hs:autoParam (jR i) yAW):EV A G X B (.Subscript v i a) (LI (r.getD k.toNat [])):=EV.sub K F (cU.list (hs:=hs) D (eF C) (by
refine O eS ?_;have:r[k.toNat]?=aa (r.getD k.toNat []):=by rw[cA,cz (by have:=l.len;exact ji C this)];rfl
refine O this ?_;rfl))
theorem Sq.at{r:List (List Int)}(l:Sq r){k:Int}(D:0<=k)(C:k<5):(r.getD k.toNat []).length=5:=by have W:k.toNat<r.length:=ji C l.len;exact O cA (O (cz W) (l.row _ (nQ W)))
theorem EV.gr(l:Sq r)(K:EV A G X B v (b7 r))(F:EV A G X B i (.int a))(Y:EV A G X B j (.int b))(D:0<=a)(C:a<5)(J:0<=b)(R:b<5)(W:autoParam (jR i) yAW)(I:autoParam (jR j) yAW):EV A G X B (.Subscript (.Subscript v i p1) j p2) (.int (Mine.gr r a b)):=EV.gi (hs:=I) (EV.row (hs:=W) l K F D C) Y J (by exact O (l.at D C) R) (by refine O (l.at D C) ?_;decide)
end
def i9(c:List Int)(p:Int):Int:=if p=0 then gi c (-1+c.length)else gi c (p-1)
def wN(c:List Int)(p:Int):Int:=gi c ((p+1).fmod c.length)
def pK(e:List (List Int))(c:List Int)(o:List Int)(q:Int×Int):Option (List Int):=if gr e q.2 (i9 c q.1)<gr e q.2 (wN c q.1)then ak else aa (o.set q.2.toNat (gr e q.2 (i9 c q.1)))
def pO(e:List (List Int))(o c:List Int):Option (List Int):=(en 0 c).foldlM (pK e c) o
def yz(e p:List (List Int)):Option (List Int):=p.foldlM (pO e) [4,4,4,4,4]
noncomputable def r5:List Int:=[0,1,2,3,4]
noncomputable def upTo(i:Int):List Int:=(gj i.toNat).map lF
def ud(e:List (List Int))(o:List Int):List T:=r5.flatMap λone=>if af=af then((upTo one).filter λi=>decide (gr e one i<gi o one)&&decide (gr e i one<gi o i)).map λ_=>.int 1 else[]
def nj(e p:List (List Int)):Bool:=match yz e p with|none=>ay|aa o=>(ud e o).isEmpty
noncomputable def iD(j:dW)(x:ai):Bool:=j.names.lookup x==aa .local||j.names.lookup x==aa .cell
theorem Av{j:dW}(h:iD j x=af):j.names.lookup x=aa .local\/j.names.lookup x=aa .cell:=((yb _ _).mp h).imp eq_of_beq eq_of_beq
theorem mZ(h:iD j x=af):dU j G a x=ak:=by unfold dU;rcases Av h with e|e<;>rewrite[e]<;>rfl
section
variable{A:aG}{G:aO}{X:List ah}{B:aB}{P:Gm}
theorem TG.name(h:iD j x=af)(n:i x=ak):TG A j G (.Name x Y) t i (upd i x t):=⟨λ_ _ _ a=>AS.name (a.ok x (Av h)).1 (a.ok x (Av h)).2,br.out (br.refl _) n⟩
theorem Xn(h:y∉xs):bQ i xs a y=i y:=by induction xs generalizing a i with|nil=>rfl|cons x xs b=>cases a with|nil=>rfl|cons t a=>exact(b λm=>h (aZ _ m)).trans (eE _ _ λq=>h (q▸aQ ..))
theorem TG.tup{xs:List ai}{ps:List aS}{F:List T}(d:A.handled=ak)(h:xs.all (iD j)=af)(e:autoParam (xs.length=F.length) yAR)(U:autoParam (ps.length=xs.length) yAR)(g:∀a C,pI D (dO j a C G)=(xs.zip ps).map λy=>(ay,fV (.Name y.1 y.2) (dO j a C G)):=by intro _ _;rfl):TG A j G (.Tuple D b N) (.tup F) (dU j G P) (bQ (dU j G P) xs F):=have h:=cj.mp h
⟨λC a V t=>AS.tup d (λz m=>t.ok _ (Av (h z m))) e U (g a C),λy u q=>(Xn λm=>by exact gone q (mZ (h y m))).trans q⟩
theorem uS(h:a=af)(k:b=af):(a&&(b&&af))=af:=by refine O h (O k ?_);rfl
theorem CU.l1{L:Type}{l u:aT}{q:List aT}{j:dW}{R:aS}{x:ai}{Y:aS}{kf:L->T}{as:List L}{p:L->Bool}{f:L->T}(c:CX X B G P)(F:IT A G X B u (.Name x Y) (as.map kf))(i:∀a∈as,mS A j G B (upd (dU j G P) x (kf a)) q (p a))(s:∀a∈as,p a=af->pq A j G X B (upd (dU j G P) x (kf a)) l (f a))(I:as.length<=100000)(H:autoParam (i8 j G=af) yAK)(C:autoParam (iD j x=af) yAK)(W:autoParam (∀x,g7 u G x=pure x) yAI):CU A G X B (.ListComp l [⟨.Name x Y,u,q,0⟩] j R) (.list ((as.filter p).map f)):=CU.yq c H F (λa m=>.name C (mZ C)) i s I W
theorem CU.l2{L:Type}{l u:aT}{q:List aT}{j:dW}{R:aS}{x y:ai}{Y r N:aS}{b:Nat}{kf kg:L->T}{as:List L}{p:L->Bool}{f:L->T}(d:A.handled=ak)(c:CX X B G P)(F:IT A G X B u (.Tuple [.Name x Y,.Name y r] b N) (as.map λa=>.tup [kf a,kg a]))(i:∀a∈as,mS A j G B (bQ (dU j G P) [x,y] [kf a,kg a]) q (p a))(s:∀a∈as,p a=af->pq A j G X B (bQ (dU j G P) [x,y] [kf a,kg a]) l (f a))(I:as.length<=100000)(ok:autoParam (i8 j G=af) yAK)(C:autoParam (iD j x=af) yAK)(J:autoParam (iD j y=af) yAK)(W:autoParam (∀x,g7 u G x=pure x) yAI):CU A G X B (.ListComp l [⟨.Tuple [.Name x Y,.Name y r] b N,u,q,0⟩] j R) (.list ((as.filter p).map f)):=CU.yq c ok F (λa m=>.tup d (xs:=[x,y]) (ps:=[Y,r]) (uS C J)) i s I W
theorem CU.l3{L:Type}{l u:aT}{q:List aT}{j:dW}{R:aS}{x y z:ai}{Y r e N:aS}{b:Nat}{kf kg kh:L->T}{as:List L}{p:L->Bool}{f:L->T}(g:A.handled=ak)(c:CX X B G P)(F:IT A G X B u (.Tuple [.Name x Y,.Name y r,.Name z e] b N) (as.map λa=>.tup [kf a,kg a,kh a]))(i:∀a∈as,mS A j G B (bQ (dU j G P) [x,y,z] [kf a,kg a,kh a]) q (p a))(s:∀a∈as,p a=af->pq A j G X B (bQ (dU j G P) [x,y,z] [kf a,kg a,kh a]) l (f a))(I:as.length<=100000)(H:autoParam (i8 j G=af) yAK)(C:autoParam (iD j x=af) yAK)(J:autoParam (iD j y=af) yAK)(d:autoParam (iD j z=af) yAK)(W:autoParam (∀x,g7 u G x=pure x) yAI):CU A G X B (.ListComp l [⟨.Tuple [.Name x Y,.Name y r,.Name z e] b N,u,q,0⟩] j R) (.list ((as.filter p).map f)):=CU.yq c H F (λa m=>.tup g (xs:=[x,y,z]) (ps:=[Y,r,e]) (by exact O K3 (O C (uS J d)))) i s I W
section
variable{L:Type}{U n Z b:aT}{q:List aT}{j:dW}{R:aS}{t:List L}{m:L->T}{p:L->Bool}{f:L->T}{d:L->Gm}(c:CX X B G P)(H:i8 j G=af)(F:IT A G X B b Z (t.map m))(k:∀a∈t,TG A j G Z (m a) (dU j G P) (d a))(i:∀a∈t,mS A j G B (d a) q (p a))(s:∀a∈t,p a=af->pq A j G X B (d a) n (f a))(I:t.length<=100000)(z:∃o,B.get? eo=aa o)(W:∀x,g7 b G x=pure x)
include c H F k i s I z W
theorem CU.O3(o:∀a∈t,p a=af->xH A j G B (d a) U (.str (g a)))(K:((t.filter p).map g).Nodup):CU A G X B (.DictComp U n [⟨Z,b,q,0⟩] j R) (.dS ((t.filter p).map g) ((t.filter p).map f)):=CU.OX (knd:=strKind PW w) (tk:=.str) (λx Y h v r=>by refine aE r.eV λu y=>?_;subst y;exact beq_self_eq_true x) (λD l Y h e a=>NN e a) c H F k i o s K I z W
theorem CU.xcU(o:∀a∈t,p a=af->xH A j G B (d a) U (.int (g a)))(K:((t.filter p).map g).Nodup):CU A G X B (.DictComp U n [⟨Z,b,q,0⟩] j R) (.dI ((t.filter p).map g) ((t.filter p).map f)):=CU.OX (knd:=ow PW w) (tk:=.int) (λx Y h v r=>by refine aE r.cM λu y=>?_;subst y;exact beq_self_eq_true x) (λD l Y h e a=>NN e a) c H F k i o s K I z W
end
theorem CU.Il{L:Type}{U n u:aT}{q:List aT}{j:dW}{R:aS}{x:ai}{Y:aS}{kf:L->T}{as:List L}{p:L->Bool}{g:L->ai}{f:L->T}(c:CX X B G P)(z:∃o,B.get? eo=aa o)(F:IT A G X B u (.Name x Y) (as.map kf))(i:∀a∈as,mS A j G B (upd (dU j G P) x (kf a)) q (p a))(k:∀a∈as,p a=af->xH A j G B (upd (dU j G P) x (kf a)) U (.str (g a)))(s:∀a∈as,p a=af->pq A j G X B (upd (dU j G P) x (kf a)) n (f a))(K:((as.filter p).map g).Nodup)(I:as.length<=100000)(H:autoParam (i8 j G=af) yAK)(C:autoParam (iD j x=af) yAK)(W:autoParam (∀x,g7 u G x=pure x) yAI):CU A G X B (.DictComp U n [⟨.Name x Y,u,q,0⟩] j R) (.dS ((as.filter p).map g) ((as.filter p).map f)):=CU.O3 c H F (λa m=>.name C (mZ C)) i s I z W k K
theorem CU.dS2{L:Type}{U n u:aT}{q:List aT}{j:dW}{R:aS}{x y:ai}{Y r N:aS}{b:Nat}{v e:L->T}{t:List L}{p:L->Bool}{g:L->ai}{f:L->T}(d:A.handled=ak)(c:CX X B G P)(z:∃o,B.get? eo=aa o)(F:IT A G X B u (.Tuple [.Name x Y,.Name y r] b N) (t.map λa=>.tup [v a,e a]))(i:∀a∈t,mS A j G B (bQ (dU j G P) [x,y] [v a,e a]) q (p a))(k:∀a∈t,p a=af->xH A j G B (bQ (dU j G P) [x,y] [v a,e a]) U (.str (g a)))(s:∀a∈t,p a=af->pq A j G X B (bQ (dU j G P) [x,y] [v a,e a]) n (f a))(K:((t.filter p).map g).Nodup)(I:t.length<=100000)(H:autoParam (i8 j G=af) yAK)(C:autoParam (iD j x=af) yAK)(J:autoParam (iD j y=af) yAK)(W:autoParam (∀x,g7 u G x=pure x) yAI):CU A G X B (.DictComp U n [⟨.Tuple [.Name x Y,.Name y r] b N,u,q,0⟩] j R) (.dS ((t.filter p).map g) ((t.filter p).map f)):=CU.O3 c H F (λa m=>.tup d (xs:=[x,y]) (ps:=[Y,r]) (uS C J)) i s I z W k K
theorem CU.dI2{L:Type}{U n u:aT}{q:List aT}{j:dW}{R:aS}{x y:ai}{Y r N:aS}{b:Nat}{kf kg:L->T}{as:List L}{p:L->Bool}{g:L->Int}{f:L->T}(d:A.handled=ak)(c:CX X B G P)(z:∃o,B.get? eo=aa o)(F:IT A G X B u (.Tuple [.Name x Y,.Name y r] b N) (as.map λa=>.tup [kf a,kg a]))(i:∀a∈as,mS A j G B (bQ (dU j G P) [x,y] [kf a,kg a]) q (p a))(k:∀a∈as,p a=af->xH A j G B (bQ (dU j G P) [x,y] [kf a,kg a]) U (.int (g a)))(s:∀a∈as,p a=af->pq A j G X B (bQ (dU j G P) [x,y] [kf a,kg a]) n (f a))(K:((as.filter p).map g).Nodup)(I:as.length<=100000)(H:autoParam (i8 j G=af) yAK)(C:autoParam (iD j x=af) yAK)(J:autoParam (iD j y=af) yAK)(W:autoParam (∀x,g7 u G x=pure x) yAI):CU A G X B (.DictComp U n [⟨.Tuple [.Name x Y,.Name y r] b N,u,q,0⟩] j R) (.dI ((as.filter p).map g) ((as.filter p).map f)):=CU.xcU c H F (λa m=>.tup d (xs:=[x,y]) (ps:=[Y,r]) (uS C J)) i s I z W k K
theorem CU.ll{L N:Type}{r u n:aT}{s i:List aT}{j:dW}{R:aS}{x y:ai}{K I:aS}{as:List L}{kf:L->T}{p:L->Bool}{bs:L->List N}{qm:L->N->T}{p2:L->N->Bool}{f:L->N->T}(c:CX X B G P)(hi:IT A G X B u (.Name x K) (as.map kf))(l:∀a∈as,mS A j G B (upd (dU j G P) x (kf a)) s (p a))(v:∀a∈as,p a=af->∀C d Y h,CX Y h (dO j d C G) (upd (dU j G P) x (kf a))->Kp B h->IT A (dO j d C G) Y h n (.Name y I) ((bs a).map (qm a)))(g:∀a∈as,∀b∈bs a,mS A j G B (upd (upd (dU j G P) x (kf a)) y (qm a b)) i (p2 a b))(t:∀a∈as,∀b∈bs a,p2 a b=af->pq A j G X B (upd (upd (dU j G P) x (kf a)) y (qm a b)) r (f a b))(Q:as.length<=100)(F:∀a∈as,(bs a).length<=100)(U:autoParam (i8 j G=af) yAK)(H:autoParam (iD j x=af) yAK)(J:autoParam (iD j y=af) yAK)(E:autoParam (y≠x) yAD)(hs:autoParam (∀x,g7 u G x=pure x) yAI)(z:∀C d x,g7 n (dO j d C G) x=pure x:=by intro _ _ _;rfl):CU A G X B (.ListComp r [⟨.Name x K,u,s,0⟩,⟨.Name y I,n,i,0⟩] j R) (.list (as.flatMap λa=>if p a=af then((bs a).filter (p2 a)).map (f a)else[])):=by
 have e:(as.flatMap λa=>if p a=af then((bs a).filter (p2 a)).map (f a)else[])=fl p (λa=>fl (p2 a) (λb=>[f a b]) (bs a)) as:=by simp only[qQ];rfl
 refine O e ?_;refine CU.lists c U hi (λ_ _ _=>Kv) (λa m=>.name H (mZ H)) l (λZ k C d V D S a m W=>?_) ?_ hs;.have o:=S.off D (aQ ..);exact Out.next .list rfl (λ_=>Uw) S.new o.1 Ik aL.mk aL.wide (λY h M w=>v a m W C d Y h M (k.trans w)) (λb q=>TG.as (.name J (by exact O (eE _ _ E) (mZ J))) C d V S.wo) (λb q=>br.out (br.refl _) (by exact O (eE _ _ E) (mZ J))) (λb q Y h M w=>g a m b q C d Y h M (k.trans w)) (λb q hb=>.ev (λY h M hY w=>t a m b q hb C d Y h M (Cg (a:=0) hY) (k.trans w)) (aQ ..) o) (z C d)
 .refine bf (FA (n:=100) λa m=>?_) (bf (tE _ Q) dk);exact O qQ (bf C8 (F a m))
theorem CU.lll{L N I:Type}{E u n p:aT}{K:List aT}{j:dW}{pos:aS}{x y z:ai}{px py pz:aS}{t:List L}{kf:L->T}{i:List N}{qm:N->T}{r:List I}{Cj:I->T}{p3:L->N->I->Bool}{f:L->N->I->T}(c:CX X B G P)(hi:IT A G X B u (.Name x px) (t.map kf))(W:∀a∈t,∀C g Y h,CX Y h (dO j g C G) (upd (dU j G P) x (kf a))->Kp B h->IT A (dO j g C G) Y h n (.Name y py) (i.map qm))(hi3:∀a∈t,∀b∈i,∀C g Y h,CX Y h (dO j g C G) (upd (upd (dU j G P) x (kf a)) y (qm b))->Kp B h->IT A (dO j g C G) Y h p (.Name z pz) (r.map Cj))(q:∀a∈t,∀b∈i,∀d∈r,mS A j G B (upd (upd (upd (dU j G P) x (kf a)) y (qm b)) z (Cj d)) K (p3 a b d))(H:∀a∈t,∀b∈i,∀d∈r,p3 a b d=af->pq A j G X B (upd (upd (upd (dU j G P) x (kf a)) y (qm b)) z (Cj d)) E (f a b d))(hz:t.length<=10)(hz2:i.length<=10)(R:r.length<=10)(ok:autoParam (i8 j G=af) yAK)(h1:autoParam (iD j x=af) yAK)(h2:autoParam (iD j y=af) yAK)(U:autoParam (iD j z=af) yAK)(F:autoParam (y≠x) yAD)(v:autoParam (z≠x) yAD)(s:autoParam (z≠y) yAD)(hs:autoParam (∀x,g7 u G x=pure x) yAI)(Z:∀C g x,g7 n (dO j g C G) x=pure x:=by intro _ _ _;rfl)(J:∀C g x,g7 p (dO j g C G) x=pure x:=by intro _ _ _;rfl):CU A G X B (.ListComp E [⟨.Name x px,u,[],0⟩,⟨.Name y py,n,[],0⟩,⟨.Name z pz,p,K,0⟩] j pos) (.list (t.flatMap λa=>i.flatMap λb=>(r.filter (p3 a b)).map (f a b))):=by
 have e:(t.flatMap λa=>i.flatMap λb=>(r.filter (p3 a b)).map (f a b))=fl (λ_=>af) (λa=>fl (λ_=>af) (λb=>fl (p3 a b) (λd=>[f a b d]) r) i) t:=by simp only[qQ];simp only[fl,if_true]
 refine O e ?_;refine CU.lists c ok hi (λ_ _ _=>Kv) (λa m=>.name h1 (mZ h1)) (λa m C g Y h M w=>TS.nil) (λh₁ k C g V D S a m _=>?_) ?_ hs;.have o:=S.off D (aQ ..);exact Out.next .list rfl (λ_=>Ux) S.new o.1 Ik aL.mk aL.wide (λY h M w=>W a m C g Y h M (k.trans w)) (λb l=>TG.as (.name h2 (by exact O (eE _ _ F) (mZ h2))) C g V S.wo) (λb l=>br.out (br.refl _) (by exact O (eE _ _ F) (mZ h2))) (λb l Y h M w=>TS.nil) (λb l _=>Out.next .list rfl (λ_=>Uy) S.new o.1 Ik aL.mk aL.wide (λY h M w=>hi3 a m b l C g Y h M (k.trans w)) (λd Q=>TG.as (.name U (by exact O (eE _ _ s) (O (eE _ _ v) (mZ U)))) C g V S.wo) (λd Q=>br.out (br.refl _) (by exact O (eE _ _ s) (O (eE _ _ v) (mZ U)))) (λd Q Y h M w=>q a m b l d Q C g Y h M (k.trans w)) (λd Q hd=>.ev (λY h M hY w=>H a m b l d Q hd C g Y h M (Cg (a:=0) hY) (k.trans w)) (aQ ..) o) (J C g)) (Z C g)
 .refine bf (FA (n:=100) λa m=>bf (FA (n:=10) λb l=>?_) (bf (tE _ hz2) dk)) (bf (tE _ hz) dk);exact O qQ (bf C8 R)
end
theorem FS.conv(f:FS H N B s Z G a M)(e:M=M'):FS H N B s Z G a M':=e▸f
section
variable{A:aG}{H:List ah}{N B s S:au}{Z:List ah}{G:aO}{P r:Gm}{M:List (ah×T)}{E:aj->au->Prop}
theorem FS.promote(f:FS H N B s Z G P M)(c:D∈Z)(g:D∉aM G)(I:D∉M.map (·.1))(b:fz (Z++H) D s.heap t):FS H N B s Z G P ((D,t)::M):=⟨f.ks,f.kx.mono λa m=>(bD.mp m).elim (λm=>bI _ m) λm=>cK _ (by exact O f6 (aZ _ m)),f.new,f.own,f.cx,λp m=>(bB.mp m).elim (λe=>by exact O e ⟨c,g,b⟩) (f.acc p),by exact O f6 (mj.mpr ⟨I,f.nd⟩)⟩
theorem FS.lose(f:FS H N B s Z G P M)(k:bu [C] s S)(I:∀a∈u,a∈Z)(J:C∈Z)(c:C∉u++H)(g:∀a∈aM G,a∈u)(d:∀p∈M,p.1∈u):FS H N S S u G P M:=by have T:∀a∈[C],a∈Z++H:=one (bI _ J);have j:∀a∈u++H,a∈Z++H:=λa m=>(bD.mp m).elim (λm=>bI _ (I a m)) λm=>cK _ m;have b:∀a∈u++H,a∉[C]:=λa m n=>c (aX.mp n▸m);exact⟨f.ks.qk k (one (f.new C J)),.refl _ _,λa m=>f.new a (I a m),g,f.cx.shrink k.kp T (λa m=>b a (bI _ (g a m))) j (λa m=>bI _ (g a m)) λa m=>(f.cx.live a (j a m)).imp λo=>k.kp a o (b a m),λp m=>⟨d p m,(f.acc p m).2.1,((f.acc p m).2.2.kp (k.kp.mono T) λo e=>k.kp _ _ (b _ (bI _ (d p m))) e).less j⟩,f.nd⟩
theorem FS.EK{x:ai}{c:aS}{D C:ah}{t:T}{m:ai->Option aj}{Q:ek->au->Prop}(f:FS H N B s (D::C::Z) G P M)(Y:G.kindOf x=aa .local\/G.kindOf x=aa .cell)(z:dh G x∈aM G)(g:∀a∈aM G,a∈Z)(I:∀p∈M,p.1∈Z)(k:D∉Z++H)(u:C∉Z++H)(K:D≠C)(h:s.heap.Ns C m)(y:fz (D::C::(Z++H)) D s.heap t)(X:∀S,FS H N S S (D::Z) G (upd P x (.aJ (.ref D))) ((D,t)::M)->bu (C::aM G) s S->Q .next S):GV (aA PW w) A E (aa (fV (.Name x c) G)) (λ_ S=>Q .next S) (.ref D) C (.ok .next) s:=by have j:C∉aM G:=λm=>u (bI _ (g C m));refine aq (cW ((f.promote (t:=t) (aQ ..) (λm=>k (bI _ (g D m))) (λm=>k (bI _ (mem_keys rfl I D m))) y).bind Y z (.ie _) λU v i=>⟨m,h.at' λo e=>v.kp _ _ j e,λh' d=>?_⟩));have l:bu [C] U {U with heap:=h'}:=⟨λb o n e=>(d.2 b λq=>n (q▸aQ ..)).trans e,rfl⟩;exact X _ (i.lose l (λa m=>(bB.mp m).elim (λe=>e▸aQ ..) λm=>aZ _ (aZ _ m)) (aZ _ (aQ ..)) (λm=>(bB.mp m).elim (λe=>K e.symm) u) (λa m=>aZ _ (g a m)) (both (aQ ..) λp m=>aZ _ (I p m))) ((v.mono λa m=>aZ _ m).trans (l.mono (one (aQ ..))))
theorem FS.NR(f:FS H N B s (D::Z) G (upd P x (.aJ (.ref D))) ((D,t)::M))(g:∀a∈aM G,a∈Z)(I:∀p∈M,p.1∈Z)(h:D∉Z++H):FS H N s s Z G (upd P x t) M:=by
 have T:∀a∈Z++H,a∈D::Z++H:=λa m=>aZ _ m;have c:=f.cx.narrow T (λa m=>bI _ (g a m)) λa m=>f.cx.live a (T a m);refine⟨f.ks,.refl _ _,λa m=>f.new a (aZ _ m),g,⟨c.ok,c.live,c.eZ,λy u e=>?_⟩,λp m=>⟨I p m,(f.acc p (aZ _ m)).2.1,(f.acc p (aZ _ m)).2.2.less T⟩,(mj.mp f.nd).2⟩;by_cases q:y=x;.subst q;refine(c.val y (.aJ (.ref D)) (pJ ..)).imp λv z=>⟨?_,z.2⟩;exact O z.1.cS (aR (nR ((pJ ..).symm.trans e)) (((f.acc _ (aQ ..)).2.2.less T).rep h))
 .exact c.val y u ((eE _ _ q).trans ((eE _ _ q).symm.trans e))
theorem FS.NS{M':List (ah×T)}{c U:au}(f:FS H N B c Z G P M)(y:Ks c U)(k:bu (C::aM G) U S)(n:c.heap.get? C=ak)(h:FS H N S S u G r M')(I:∀a∈M.map (·.1),a∈M'.map (·.1)):FS H N B S u G r M':=have d:=f.kx.trans (.of y)
⟨h.ks,⟨λb o g e=>k.kp b o (λm=>(bB.mp m).elim (λq=>gone e (q▸f.BV n)) λm=>g (bI _ m)) (d.kp b o (λm=>g ((bD.mp m).elim (bI _) λm=>cK _ (I b m))) e),((d.mono (Y:=C::(aM G++M.map (·.1))) λa m=>aZ _ m).trans (k.mono λa m=>(bB.mp m).elim (λe=>e▸aQ ..) λm=>aZ _ (bI _ m))).eq⟩,h.new,h.own,h.cx,h.acc,h.nd⟩
theorem FS.rj(f:FS H N B s Z G P M)(n:s.heap.get? a=ak):a∉Z++H:=λm=>(f.cx.live a m).elim λo e=>gone e n
theorem FS.Vl{c R:aS}(f:FS H N B s Z G P M)(Y:G.kindOf x=aa .local\/G.kindOf x=aa .cell)(g:dh G x∈aM G)(L:CU A G (Z++H) s.heap e t)(X:∀D S,FS H N B S (D::Z) G (upd P x (.aJ (.ref D))) ((D,t)::M)->Q .next S)(W:autoParam (lG e (aa (.Name x c)) R.line G=pure af) yAR):av (aA PW w) A (dY (.Assign [.Name x c] e R) G) Q E s:=L.elim λj L=>(L.1 A s E).2 Q x c R W (L.2 s _ _ E (λ_ _ e=>e) λD C S m y d J K n b=>(f.A6 (Y:=[D,C]) y (both d (one J)) (both b.up (one (n.imp λ_ z=>z.elim λ_ z=>z.elim λ_ z=>z.1)))).EK Y g f.own (λp m=>(f.acc p m).1) (f.rj d) (f.rj J) K n b λS h k=>X D S (f.NS y k J h λa m=>aZ _ m))
theorem FS.qJ{x:ai}{e:aT}{c R:aS}{t:T}{Q:ek->au->Prop}(f:FS H N B s Z G P M)(Y:G.kindOf x=aa .local\/G.kindOf x=aa .cell)(g:dh G x∈aM G)(L:CU A G (Z++H) s.heap e t)(X:∀S,FS H N B S Z G (upd P x t) M->Q .next S)(W:autoParam (lG e (aa (.Name x c)) R.line G=pure af) yAR):av (aA PW w) A (dY (.Assign [.Name x c] e R) G) Q E s:=L.elim λj L=>(L.1 A s E).2 Q x c R W (L.2 s _ _ E (λ_ _ e=>e) λD C S m y d J K n b=>(f.A6 (Y:=[D,C]) y (both d (one J)) (both b.up (one (n.imp λ_ z=>z.elim λ_ z=>z.elim λ_ z=>z.1)))).EK Y g f.own (λp m=>(f.acc p m).1) (f.rj d) (f.rj J) K n b λS h k=>X S (f.NS y k J (h.NR f.own (λp m=>(f.acc p m).1) (f.rj d)) λa m=>m))
theorem FS.Mz(xs:List ai){ps:List aS}{i R:aS}{ts:List T}(f:FS H N B s Z G P M)(d:A.handled=ak)(L:EV A G (Z++H) s.heap e (.list ts))(Y:∀x∈xs,(G.kindOf x=aa .local\/G.kindOf x=aa .cell)/\dh G x∈aM G)(X:∀S,FS H N B S Z G (bQ P xs ts) M->Q .next S)(c:xs.length=ts.length)(b:autoParam (ps.length=xs.length) yAR)(g:autoParam (pI a G=(xs.zip ps).map λy=>(ay,fV (.Name y.1 y.2) G)) yAR)(W:autoParam (rO [.Tuple a k i] e R.line G=pure ay) yAR)(C:autoParam (rP [.Tuple a k i] e G=pure ak) yAR):av (aA PW w) A (dY (.Assign [.Tuple a k i] e R) G) Q E s:=f.Qe L (AS.lst d Y c b g) X W C
theorem FS.MA(xs:List ai){ps:List aS}{i R:aS}{F:List T}(f:FS H N B s Z G P M)(d:A.handled=ak)(L:EV A G (Z++H) s.heap e (.tup F))(Y:∀x∈xs,(G.kindOf x=aa .local\/G.kindOf x=aa .cell)/\dh G x∈aM G)(X:∀S,FS H N B S Z G (bQ P xs F) M->Q .next S)(c:xs.length=F.length)(b:autoParam (ps.length=xs.length) yAR)(g:autoParam (pI a G=(xs.zip ps).map λy=>(ay,fV (.Name y.1 y.2) G)) yAR)(W:autoParam (rO [.Tuple a k i] e R.line G=pure ay) yAR)(C:autoParam (rP [.Tuple a k i] e G=pure ak) yAR):av (aA PW w) A (dY (.Assign [.Tuple a k i] e R) G) Q E s:=f.Qe L (AS.tup d Y c b g) X W C
theorem FS.Hr{x:ai}{b R:aS}{D:ah}{t:T}{i:Nat}{Q:ek->au->Prop}(f:FS H N B s Z G P M)(K:P x=aa (.aJ (.ref D)))(F:M[i]?=aa (D,t))(a:bJ H N.heap)(X:∀S,Ks N S->Rep H S.heap t (.ref D)->Q (.ret (.ref D)) S)(V:autoParam (isVar G x=af) yAK):av (aA PW w) A (dY (.Return (aa (.Name x b)) R) G) Q E s:=by
 refine Dw (aC (f.qX (X:=[]) K V s E λ_ _ e=>e) (λv g y=>?_) λ_ _ e=>e);obtain rfl:=y.2.cS;have Y:=f.step y.1;have d:=Y.acc _ (eO F);have u:D∉H:=λm=>by refine aE (a D m) λo e=>?_;exact gone e (f.new D d.1)
 exact X g Y.ks ((d.2.2.less inR).rep u)
end
section
variable{A:aG}{X₀:List ah}{s₀ sb s S:au}{Z:List ah}{G:aO}{γ d:Gm}{M:List (ah×T)}{E:aj->au->Prop}
theorem FS.yN(h:Q [] s):av (aA PW w) A (fN (cN a (bq [] G))) Q E s:=rQ h
theorem FS.FD(f:FS X₀ s₀ sb s Z G γ M)(L:EV A G (Z++X₀) s.heap e t)(k:∀v U,FS X₀ s₀ sb U Z G γ M->Rep (Z++X₀) U.heap t v->av (aA PW w) A (fN (cN a (bq D G))) (λK J=>Q (v::K) J) E U)(W:autoParam (bq (e::D) G=(ay,aU e G)::bq D G) yAR):av (aA PW w) A (fN (cN a (bq (e::D) G))) Q E s:=by rw[W];show av _ _ (fN ((ay,aU e G)::cN a (bq D G))) _ _ _;exact nY (aC (L s E λ_ _ e=>e) (λv U y=>k v U (f.step y.1) y.2) λ_ _ e=>e)
theorem FS.wO(f:FS X₀ s₀ sb s Z G γ M)(L:EM A G (Z++X₀) s.heap e t)(k:∀D U,FS X₀ s₀ sb U (D::Z) G γ ((D,t)::M)->av (aA PW w) A (fN (cN a (bq b G))) (λK J=>Q (.ref D::K) J) E U)(W:autoParam (bq (e::b) G=(ay,aU e G)::bq b G) yAR):av (aA PW w) A (fN (cN a (bq (e::b) G))) Q E s:=by refine O W ?_;show av _ _ (fN ((ay,aU e G)::cN a (bq b G))) _ _ _;refine nY (aC (L s E λ_ _ e=>e) (λv U y=>?_) λ_ _ e=>e);obtain⟨c,D,rfl,n,r⟩:=y;exact k D U (f.BU c n r)
theorem FS.DY(xs:List ai){ps:List aS}{l i R:aS}(b:A.handled=ak)(h:av (aA PW w) A (fN (cN l (bq D G))) (λK U=>∃(u:List ah)(M':List (ah×T))(F:List T),FS X₀ s₀ sb U u G γ M'/\az (u++X₀) U.heap F K/\xs.length=F.length/\F.length<=100000/\∀J,FS X₀ s₀ sb J u G (bQ γ xs F) M'->Q .next J) E s)(Y:∀x∈xs,(G.kindOf x=aa .local\/G.kindOf x=aa .cell)/\dh G x∈aM G)(L:autoParam (ps.length=xs.length) yAR)(g:autoParam (pI a G=(xs.zip ps).map λy=>(ay,fV (.Name y.1 y.2) G)) yAR)(W:autoParam (rO [.Tuple a k i] (.Tuple D c l) R.line G=pure ay) yAR)(C:autoParam (rP [.Tuple a k i] (.Tuple D c l) G=pure ak) yAR):av (aA PW w) A (dY (.Assign [.Tuple a k i] (.Tuple D c l) R) G) Q E s:=by refine Ar ?_ W C;show av _ _ (do fL l;wW (<-fN (cN l (bq D G)))) _ _ _;refine aq (cW (aq (aC h (λK U y=>?_) λ_ _ e=>e)));refine DL y λu M' F f r H I X=>?_;refine aC (z7 f.cx.live r I) (λv J z=>?_) λ_ _ e=>e;have n:=f.step z.1;exact aC (AS.tup b Y H L g (u++X₀) J E v n.cx.ok.iW n.cx z.2) (λ_ j q=>X j (n.re q.1 q.2)) λ_ _ e=>e
theorem SI(i:∀a∈V,a∈X){xs:List ai}{F:List T}{s:au}(e:xs.length=F.length)(N:∀x∈xs,(G.kindOf x=aa .local\/G.kindOf x=aa .cell)/\dh G x∈V)(c:CX X s.heap G γ)(r:az X s.heap F b):av (aA PW w) A (yi (xs.map λn=>kN G n) b) (λ_ S=>bu V s S/\CX X S.heap G (bQ γ xs F)) E s:=by have h:=I7 (A:=A) (E:=E) (l:=xs.map λn=>(n,kN G n)) i (by exact O (aI ..) (O e rfl)) (λp m=>by refine aH (bF.mp m) λy f I=>?_;subst I;exact⟨N _ f,λv s Q h=>h⟩) c r;rw[bO,bO,show xs.map (F5∘λn=>(n,kN G n))=xs from xdP xs]at h;exact h
theorem az.rev{F:List T}{K:List aj}(r:az X h F K):az X h F.reverse K.reverse:=az.ind (P:=λF K=>az X h F.reverse K.reverse) trivial (λt v F K x _ i=>by exact O JU (O JU (az.append i ⟨x,trivial⟩))) r
theorem FS.Em(xs:List ai){l i R:aS}(W:A.handled=ak)(h:av (aA PW w) A (fN (cN l (bq D G))) (λK U=>∃(u:List ah)(M':List (ah×T))(F:List T),FS X₀ s₀ sb U u G γ M'/\az (u++X₀) U.heap F K/\xs.length=F.length/\F.length<=100000/\∀J,FS X₀ s₀ sb J u G (bQ γ xs.reverse F.reverse) M'->Q .next J) E s)(Y:∀x∈xs,(G.kindOf x=aa .local\/G.kindOf x=aa .cell)/\dh G x∈aM G)(hs:autoParam (rO [.Tuple a k i] (.Tuple D c l) R.line G=pure ay) yAR)(hw:autoParam (rP [.Tuple a k i] (.Tuple D c l) G=pure (aa xs)) yAR):av (aA PW w) A (dY (.Assign [.Tuple a k i] (.Tuple D c l) R) G) Q E s:=by refine Assign_Tuple_swapped ?_ hs hw;show av _ _ (do fL l;wW (<-fN (cN l (bq D G)))) _ _ _;refine aq (cW (aq (aC h (λK U y=>?_) λ_ _ e=>e)));refine DL y λu M' F f r H N X=>?_;refine aC (z7 f.cx.live r N) (λv J z=>?_) λ_ _ e=>e;have I:=f.step z.1;refine cI z.2.jQ λL us P n p B=>?_;subst P;have V:=B.length;rw[dw]at V;refine O (H.trans V.symm) ?_;refine wpAny_unpackItems_tuple W p λh' t=>?_;have C:Kp J.heap h':=λb o e=>t b o (bS (dR e)) e;have g:FS X₀ s₀ sb {J with heap:=h'} u G γ M':=I.step ⟨C,rfl⟩;exact aC (SI g.cx.ok.iW (by simpa using H) (λx m=>Y x (J0.mp m)) g.cx (az.rev (Mine.az.kp (C.bN _) _ _ B))) (λ_ j q=>X j (g.re q.1 q.2)) λ_ _ e=>e
theorem FS.freeze(f:FS X₀ s₀ sb s (D::Z) G γ ((D,t)::M))(K:γ x=aa (.aJ (.ref D)))(R:sb.heap.get? D=ak)(g:∀a∈aM G,a∈Z)(I:∀p∈M,p.1∈Z)(i:D∉Z++X₀):FS X₀ s₀ sb s Z G (upd γ x t) M:=by
 have h:=f.acc _ (aQ ..);have T:∀a∈Z++X₀,a∈D::Z++X₀:=λa m=>(bD.mp m).elim (λm=>bI _ (aZ _ m)) λm=>cK _ m;have c:=f.cx.narrow (Y:=Z++X₀) T (λa m=>bI _ (g a m)) λa m=>f.cx.live a (T a m);refine⟨f.ks,⟨λb o n e=>f.kx.kp b o (λm=>?_) e,f.kx.eq⟩,λa m=>f.new a (aZ _ m),g,⟨c.ok,c.live,c.eZ,λy u e=>?_⟩,λp m=>⟨I p m,(f.acc p (aZ _ m)).2.1,(f.acc p (aZ _ m)).2.2.less T⟩,(mj.mp f.nd).2⟩
 .refine bz (bD.mp m) (λm=>?_) λm=>?_;.exact n (bI _ m)
  .replace m:=f6▸m;refine bz (bB.mp m) (λq=>?_) λm=>?_;.replace e:=(show b=D from q)▸e;exact gone e R
   .exact n (cK _ m)
 .by_cases q:y=x;.subst q;replace e:=pJ ..▸e;cases e;refine aH (c.val y _ K) λv r n=>?_;obtain rfl:=r.cS;exact⟨_,(h.2.2.less T).rep i,n⟩
  .replace e:=eE _ _ q▸e;exact c.val y u e
end
section
open PySem.SeqAt
section
variable{A:aG}{G:aO}{X:List ah}{B:aB}
noncomputable def CF(A:aG)(X:List ah)(B:aB)(f:aj)(F:List T)(r:T):Prop:=∀(s:au)(E:aj->au->Prop)(K:List aj),Kp B s.heap->az X s.heap F K->av (aA PW w) A (dP f K []) (λv S=>Ks s S/\Rep X S.heap r v/\∃a,v=.ref a/\s.heap.get? a=ak) E s
theorem EF.cQ(l:EV A G X B (.Name x d) (.aJ f))(K:yU f=pure .machine)(V:EL A G X B b (e::D) h)(g:CF A X B f h r)(hs:autoParam (bq (e::D) G=(ay,aU e G)::bq D G) yAR)(p:autoParam ((cN b (bq D G)).any (·.1)=ay) yAR):EF A G X B (.Call (.Name x d) (e::D) [] b) r:=λs E k=>by show av _ _ (do mK b (<-aU (.Name x d) G) [] (cN b (bq (e::D) G)) (oj b (nZ [] G))) _ _ _;refine aq (aC (l s E k) (λv U x=>?_) λ_ _ e=>e);obtain rfl:=x.2.cS;have M:=V U E (k.trans x.1.kp);rw[hs]at M⊢;refine mh K (by show(ay||(cN b (bq D G)).any (·.1))=ay;refine O p ?_;rfl) (mW (aC M (λi J y=>?_) λ_ _ e=>e));exact aC (g J E i (k.trans (x.1.trans y.1).kp) y.2) (λc j z=>⟨(x.1.trans y.1).trans z.1,z.2.1,let⟨a,e,n⟩:=z.2.2;⟨a,e,g9 (x.1.trans y.1).kp n⟩⟩) λ_ _ e=>e
theorem CF.list{l:List T}(P:bJ X B)(I:l.length<=100000):CF A X B (.type "list") [.list l] (.list l):=λs E K k r=>by refine aE (az.ju r) λv q=>?_;subst q;refine cI r.1.d8 λa xs q n p R=>?_;subst q;have V:=R.length;rw[dw]at V;refine aE p λm g=>?_;refine call_list_seq (hsz:=by exact O dK (iV I V)) a (.inl rfl) g rfl rfl λh' M N d=>⟨⟨N,rfl⟩,?_,_,rfl,get?_none_of_le (cR _)⟩;exact⟨_,_,rfl,(P.kp k).new,⟨M,d⟩,Mine.az.kp (Kp.bN N X) _ _ R⟩
theorem NT{L:Type}[BEq L][LawfulBEq L]{l:List L}{x:L}(h:x∈l):∃Y:l.idxOf x<l.length,l[l.idxOf x]=x/\∀m(Q:m<l.length),m<l.idxOf x->l[m]≠x:=by have C:=List.idxOf_lt_length_of_mem h;refine⟨C,List.getElem_idxOf C,λm Q W e=>?_⟩;exact absurd (List.SR m Q e) (Nat.not_le.mpr W)where List.SR{l:List L}{x:L}(m:Nat)(Q:m<l.length)(e:l[m]=x):l.idxOf x<=m:=by induction l generalizing m with|nil=>simp at Q|cons y l b=>refine O List.idxOf_cons ?_;cases a:y==x with|true=>simp|false=>cases m with|zero=>simp only[List.getElem_cons_zero]at e;replace a:=e▸a;simp at a|succ m=>have:=b m (by simpa using Q) (by simpa using e);simpa using this
theorem CA.pQ{l:List Int}{x:Int}(h:x∈l)(I:l.length<=100000):CA A X B (.builtin "list.index") [LI l,.int x] (.int (l.idxOf x)):=λs E K k r=>by
 refine kZ (az.nF r) λv u q=>?_;subst q;refine cI r.1.d8 λa xs q n p R=>?_;subst q;refine aE r.2.1.cM λt q=>?_;subst q;have V:=R.length;replace V:=aI ..▸dw▸V;refine aE p λm g=>?_;obtain⟨C,J,b⟩:=NT h;have f:∀j(Y:j<xs.size),∃t,xs[j]=.int (l[j]'(V▸Y)) t:=λj Y=>by refine aH (R.at2 Y) λt c S=>?_;replace c:=cz (V▸Y)▸eS▸c;simp only[z0,zQ]at c;subst c;exact S.cM
 refine wj Dq ⟨_,g,rfl⟩ xaq (YX _ _) (list_indexAt a xs m ak #[] (.int x t) (λv=>match v with|.int i _=>i==x|_=>ay) (l.idxOf x) (jq V C) (sI (gR.mpr C) I) ?_ λj Y W=>?_) ⟨g,λy w=>?_,.tok ..,.fO _ _⟩;.refine aE (f (l.idxOf x) (jq V C)) λt e=>?_;refine O e (O J ?_);simp
 .refine aE (f j Y) λt e=>?_;refine O e ?_;simpa using b j (iz W (eB C)) W
 .obtain⟨j,Y,rfl⟩:=U4.mp w;refine aE (f j Y) λt e=>?_;exact O e (EqAt.int_int _ _ _ _)
theorem CA.yO{l:List ai}{x:ai}(h:x∈l)(I:l.length<=100000):CA A X B (.builtin "list.index") [.list (l.map .str),.str x] (.int (l.idxOf x)):=λs E K k r=>by
 refine kZ (az.nF r) λv u q=>?_;subst q;refine cI r.1.d8 λa xs q n p R=>?_;subst q;refine aE r.2.1.eV λt q=>?_;subst q;have V:=R.length;replace V:=aI ..▸dw▸V;refine aE p λm g=>?_;obtain⟨C,J,b⟩:=NT h;have f:∀j(Y:j<xs.size),∃t,xs[j]=.str (l[j]'(V▸Y)) t:=λj Y=>by refine aH (R.at2 Y) λt c S=>?_;replace c:=cz (V▸Y)▸eS▸c;simp only[z0,zQ]at c;subst c;exact S.eV
 refine wj Dq ⟨_,g,rfl⟩ xaq (YX _ _) (list_indexAt a xs m ak #[] (.str x t) (λv=>match v with|.str i _=>i==x|_=>ay) (l.idxOf x) (jq V C) (sI (gR.mpr C) I) ?_ λj Y W=>?_) ⟨g,λy w=>?_,.tok ..,.fO _ _⟩;.refine aE (f (l.idxOf x) (jq V C)) λt e=>?_;refine O e (O J ?_);simp
 .refine aE (f j Y) λt e=>?_;refine O e ?_;simpa using b j (iz W (eB C)) W
 .obtain⟨j,Y,rfl⟩:=U4.mp w;refine aE (f j Y) λt e=>?_;exact O e (EqAt.str_str _ _ _ _)
theorem EV.pQ{m R:aS}{l:List Int}(g:EV A G X B o (LI l))(L:EV A G X B e (.int x))(h:x∈l)(I:l.length<=100000)(P:autoParam (kG o "index" G (aU o G)=aU o G) yAR)(W:autoParam (bq [e] G=[(ay,aU e G)]) yAR)(u:autoParam ((m.endLine==R.line)=af) yAR):EV A G X B (.Call (.Attribute o "index" m) [e] [] R) (.int (l.idxOf x)):=EV.Bl (hbase:=P) (hs:=W) (hline:=u) g L (MT.list Dq xaz) (CA.pQ h I)
theorem EV.yO{m R:aS}{l:List ai}(g:EV A G X B o (.list (l.map .str)))(L:EV A G X B e (.str x))(h:x∈l)(I:l.length<=100000)(P:autoParam (kG o "index" G (aU o G)=aU o G) yAR)(W:autoParam (bq [e] G=[(ay,aU e G)]) yAR)(u:autoParam ((m.endLine==R.line)=af) yAR):EV A G X B (.Call (.Attribute o "index" m) [e] [] R) (.int (l.idxOf x)):=EV.Bl (hbase:=P) (hs:=W) (hline:=u) g L (MT.list Dq xaz) (CA.yO h I)
end
end
noncomputable def fQ(q:Int×Int):T:=.tup [.int q.1,.int q.2]
noncomputable def fc(p q:Int×Int):Bool:=if p.1=q.1 then decide (p.2<q.2)else decide (p.1<q.1)
noncomputable def l5(n:Nat):KasT (Array Nat)->Bool|.ret a=>a.toList.all λi=>decide (i<n)|.ask i j k=>decide (i<n)&&(decide (j<n)&&(l5 n (k af)&&l5 n (k ay)))
theorem AM(h:l5 n (.ask i j k)=af):i<n/\j<n/\∀b,l5 n (k b)=af:=by simp only[l5,dZ,decide_eq_true_eq]at h;exact⟨h.1,h.2.1,λb=>by cases b;exact h.2.2.2;exact h.2.2.1⟩
theorem DM{n:Nat}{lt:Nat->Nat->Bool}{I:au->Prop}{b:Nat->Nat->(Bool->au->Prop)->au->Prop}{Q:Array Nat->au->Prop}(Z:∀i j(C:Bool->au->Prop)s,i<n->j<n->I s->(∀S,I S->C (lt i j) S)->b i j C s):∀(t:KasT (Array Nat))(s:au),l5 n t=af->I s->(∀S,I S->(∀i∈(jT lt t).toList,i<n)->Q (jT lt t) S)->t.kasWp b Q s|.ret a,s,o,i,h=>h s i (by rw[l5,cj]at o;exact λi m=>of_decide_eq_true (o i m))|.ask x y k,s,o,i,h=>Z x y _ s (AM o).1 (AM o).2.1 i λS c=>DM Z (k (lt x y)) S ((AM o).2.2 _) c h
theorem BX:l5 4 (lH 4)=af:=by decide+kernel
section
variable{A:aG}{X:List ah}{B:aB}{s:au}{E:aj->au->Prop}
theorem Al{F:List T}{K:List aj}(r:az X h F K)(a:i<F.length):Rep X h (F.getD i d) (K.getD i fk):=by refine aH (r.at (cz a)) λv e q=>?_;exact O cA (O cA (O e (O (cz a) q)))
theorem EN{h:aB}(r:Rep X h (fQ p) v):∃a o xs n t u,v=.ref a/\a∉X/\h.get? a=aa o/\o.cls=.type "tuple"/\o.data=.seq xs n/\xs.toList=[.int p.1 t,.int p.2 u]:=by refine cI r.jQ λa xs e j I q=>?_;obtain⟨o,g,Z,n,U⟩:=I;refine kZ (az.nF q) λx y Y=>?_;replace q:=Y▸q;refine aE q.1.cM λt I=>?_;subst I;refine aE q.2.1.cM λu I=>?_;subst I;exact⟨a,o,xs,n,t,u,e,j,g,Z,U,Y⟩
theorem Qf{ps:List (Int×Int)}(r:az X s.heap (ps.map fQ) d)(F:i<ps.length)(c:j<ps.length)(h:C (fc (ps.getD i (0,0)) (ps.getD j (0,0))) s):kas_ask PW w A (tuples' af) d i j C s:=by
 have l:=Al (d:=fQ (0,0)) r (by exact O (aI ..) F);have f:=Al (d:=fQ (0,0)) r (by exact O (aI ..) c);rw[show(ps.map fQ).getD i (fQ (0,0))=fQ (ps.getD i (0,0))by simp[cA,cz F]]at l;rw[show(ps.map fQ).getD j (fQ (0,0))=fQ (ps.getD j (0,0))by simp[cA,cz c]]at f;obtain⟨a,o,xs,n,t,u,e,_,g,Z,k,Y⟩:=EN l;obtain⟨y,W,b,v,x,D,U,_,p,M,J,m⟩:=EN f;unfold kas_ask;refine O e (O U ?_);refine kat_lt g k p J ?_;refine O Y (O m ?_);have z:decide (xs.size<b.size)=ay:=by refine aR dw (aR dw (O Y (O m ?_)));rfl
 refine O z ?_;refine kat_cons (xdQ (kat_go (λq=>?_) λq=>?_))
 .have q:=eq_of_beq q;refine kat_yes (kat_cons (xdQ (kat_go (λR=>?_) λR=>?_)));.have R:=eq_of_beq R;refine kat_yes (kat_nil ?_);unfold fc at h;rw[if_pos q,R]at h;simpa using h
  .refine kat_no ?_;refine kat_one _ _ (TR ?_);unfold fc at h;rw[if_pos q]at h;exact h
 .refine kat_no (oneLt_int ?_);have q:=ne_of_beq_false q;unfold fc at h;rw[if_neg q]at h;exact h
theorem O4{K:List aj}{ps:List (Int×Int)}(r:az X s.heap (ps.map fQ) K)(J:2<=ps.length)(h:Q (tuples' af) s):av (aA PW w) A (keyKind' K.toArray) Q E s:=by
 have d:∀(ps:List (Int×Int))(K:List aj),az X s.heap (ps.map fQ) K->∃c:List aj,c.length=ps.length/\KatTups s.heap K c/\∀v∈c,Looks (aA PW w) s.heap (uM v) (.type "int"):=by intro ps;induction ps with
|nil=>intro K r;cases K with|nil=>exact⟨[],rfl,trivial,λv m=>by cases m⟩|cons _ _=>exact r.elim
|cons p ps G=>intro K r;cases K with|nil=>exact r.elim|cons v K=>
  refine dm (G K r.2) λc V I l=>?_;obtain⟨a,o,xs,n,t,u,rfl,_,g,Z,U,Y⟩:=EN r.1;refine⟨.int p.1 t::c,by simp[V],KatTups.cons g Z U ?_ I,λv m=>?_⟩;.refine aR gM (O Y ?_);rfl
  .refine bz (bB.mp m) (λN=>?_) λm=>?_;.subst N;exact Looks.of_pure rfl
   .exact l v m
 refine dm (d ps K r) λc V I l=>?_;exact kat_kind I (jq V (eB J)) l (by rfl) h
def lJ(y:List (Int×Int)):List Nat:=(jT (λi j=>fc (y.getD i (0,0)) (y.getD j (0,0))) (lH y.length)).toList
theorem Vm{a:ah}{K:List aj}{ps:List (Int×Int)}{n:Nat}{P:PySem.Fin->au->Prop}(l:s.heap.get? a=aa (cH "list" K.toArray n))(r:az [a] s.heap (ps.map fQ) K)(J:2<=ps.length)(f:ps.length<64)(N:l5 ps.length (lH ps.length)=af)(h:∀h' c,bg [a] s.heap h'->h'.get? a=aa (cH "list" ((lJ ps).map λi=>K.getD i fk).toArray c)->(∀i∈lJ ps,i<ps.length)->P (.done (.ret .none)) {s with heap:=h'}):av (aA PW w) A (Builtin.«list.sort» ⟨[.ref a],[]⟩) P E s:=by
 have k:K.length=ps.length:=by exact O r.length (O (aI ..) rfl)
 have ha:a<s.heap.objs.size:=dR l;have s1:=mU s.heap a (dc λ_=>(#[]:Array aj));obtain⟨H,D⟩:∃H,(s.heap.update a (dc λ_=>(#[]:Array aj))).get? a=aa (cH "list" #[] H):=⟨_,ye l λ_=>#[]⟩;have t:bg [a] s.heap (((s.heap.update a (dc λ_=>(#[]:Array aj))).push (cH "tuple" K.toArray 0)).push (cH "list" #[] 0)):=λb o x e=>bX _ (bX _ ((s1.2 b λq=>x (by exact O q (aQ ..))).trans e));have v:(((s.heap.update a (dc λ_=>(#[]:Array aj))).push (cH "tuple" K.toArray 0)).push (cH "list" #[] 0)).get? a=aa (cH "list" #[] H):=bX _ (bX _ D);refine O (list_sort_plain ..) ?_;refine aq (Oz l rfl ?_);refine aq (yj l rfl ?_ (by exact O iX (O dK (iV (eB f) k))) (jm _));refine aq (Fc D rfl ?_);refine aq (Ag ?_ (by show K.length<=_;exact O dK (iV (eB f) k)));refine aq (tY ?_ (jm _));refine dJ ?_;show av (aA PW w) A _ P E {s with heap:=((s.heap.update a (dc λ_=>(#[]:Array aj))).push (cH "tuple" K.toArray 0)).push (cH "list" #[] 0)};dsimp only;generalize hH:((s.heap.update a (dc λ_=>(#[]:Array aj))).push (cH "tuple" K.toArray 0)).push (cH "list" #[] 0)=R at t v;have u:az [a] ({s with heap:=R}:au).heap (ps.map fQ) K:=az.kp t _ _ r;have g:¬K.toArray.size<2:=by exact O iX (tM (jq k J))
 refine O (if_neg g) (O (if_neg g) ?_);refine aq (O4 u J ?_);refine aq (aC (kat_run (ks:=K) (vs:=K) (Q:=λst' S=>∃p:Array Nat,p.size=K.length/\arrOf st'=p.map (kas_item (K.toArray.zip K.toArray))/\failedOf st'=ak/\S={s with heap:=R}/\p.toList=lJ ps/\∀i∈p.toList,i<ps.length) (G:=λp S=>S={s with heap:=R}/\p.toList=lJ ps/\∀i∈p.toList,i<ps.length) rfl (jq k J) (gO (di k) f) (λp' st' S y Y U Z=>⟨p',y,Y,U,Z⟩) ?_) ?_ λ_ _ e=>e);.refine O k ?_;refine DM (n:=ps.length) (lt:=λi j=>fc (ps.getD i (0,0)) (ps.getD j (0,0))) (I:=λS=>S={s with heap:=R}) (λi j C S F hj W hC=>?_) _ _ N rfl λS W F=>⟨W,rfl,F⟩;subst W;exact Qf u F hj (hC _ rfl)
 rintro⟨⟨⟩,st'⟩S⟨p,Q,L,M,rfl,m,I⟩;dsimp only;have G:=kat_snds rfl L;have T:(kH (p.toList.map λi=>K.getD i fk)).size=K.length:=by exact O iX (O (aI ..) (O dw (O Q rfl)))
 refine O G ?_;have s2:=mU R a (dc λ_=>kH (p.toList.map λi=>K.getD i fk));obtain⟨V,d⟩:∃V,(R.update a (dc λ_=>kH (p.toList.map λi=>K.getD i fk))).get? a=aa (cH "list" (kH (p.toList.map λi=>K.getD i fk)) V):=⟨_,ye v λ_=>kH (p.toList.map λi=>K.getD i fk)⟩;refine aq (Fc v rfl ?_);refine aq (yj v rfl ?_ (jm _) (bf (di T) (by exact O dK (iV (eB f) k))));refine O M ?_;simp only[bne_self_eq_false,rE,if_false];rw[m]at d I;refine aN ?_;exact O m (h _ V (t.trans λb o x e=>(s2.2 b λq=>x (by rw[q];exact aQ ..)).trans e|>λz=>by rw[m]at z;exact z) d I)
def Bm(ps:List (Int×Int)):List (Int×Int):=(lJ ps).map λi=>ps.getD i (0,0)
theorem KC{N:Type}{h:aB}{ps:List N}{d:N}{K:List aj}{t:N->T}(r:az X h (ps.map t) K)(l:List Nat)(F:∀i∈l,i<ps.length):az X h ((l.map λi=>ps.getD i d).map t) (l.map λi=>K.getD i fk):=by induction l with|nil=>trivial|cons i l G=>refine⟨?_,G λj m=>F j (aZ _ m)⟩;have V:=F i (aQ ..);have q:=Al (d:=t d) r (i:=i) (by exact O (aI ..) V);rw[show(ps.map t).getD i (t d)=t (ps.getD i d)by simp[cA,cz V]]at q;exact q
end
section
variable{A:aG}{X:List ah}{B:aB}
theorem CF.Zq{ps:List (Int×Int)}(a:bJ X B)(J:2<=ps.length)(f:ps.length<64)(H:l5 ps.length (lH ps.length)=af):CF A X B (.builtin "sorted") [.list (ps.map fQ)] (.list ((Bm ps).map fQ)):=λs E K k r=>by
 refine aE (az.ju r) λv I=>?_;subst I;have r:=r.1;refine cI r.d8 λl xs I h V q=>?_;subst I;have P:xs.toList.length=ps.length:=by exact O q.length (O (aI ..) rfl)
 refine Calls.call_function_entry kind_sorted plain_sorted entry_sorted (args_sorted1 _) ?_;unfold Builtin.«sorted»;refine aq (m:=checkCount "sorted" 1 1 _) (aN ?_);have M:s.heap.IsList l xs.toList.toArray:=by refine aE V λn V=>?_;exact⟨_,V,rfl,n,by simp⟩
 refine aq (collect_list M ?_ (by refine O dK ?_;first|exact iV (eB f) P|(rw[iX];lia)));refine aq (tY ?_ (by exact O dK (iV (eB f) P)));have T:((s.heap.push (cH "list" #[] 0)).update s.heap.objs.size (dc (·++xs.toList.toArray))).objs.size=s.heap.objs.size+1:=by exact O (J1 ..) (O (Pw ..) rfl)
 have g:(((s.heap.push (cH "list" #[] 0)).update s.heap.objs.size (dc (·++xs.toList.toArray))).push (cH "list" xs.toList.toArray 0)).get? (s.heap.objs.size+1)=aa (cH "list" xs.toList.toArray 0):=by exact aR T (cF _ rfl)
 have x:Kp s.heap (((s.heap.push (cH "list" #[] 0)).update s.heap.objs.size (dc (·++xs.toList.toArray))).push (cH "list" xs.toList.toArray 0)):=λb o q=>by have W:b<s.heap.objs.size:=dR q;exact O (Dh _ _ _ (by rw[T];exact bS (vM W))) (O (C2 _ _ _ _ (bS W)) (O (Dh _ _ _ (bS W)) q))
 show av _ _ _ _ _ {s with heap:=((s.heap.push (cH "list" #[] 0)).update s.heap.objs.size (dc (·++xs.toList.toArray))).push (cH "list" xs.toList.toArray 0)};refine O T ?_;generalize y:((s.heap.push (cH "list" #[] 0)).update s.heap.objs.size (dc (·++xs.toList.toArray))).push (cH "list" xs.toList.toArray 0)=C at g x;have t:s.heap.get? (s.heap.objs.size+1)=ak:=get?_none_of_le (dN _);have S:az [s.heap.objs.size+1] C (ps.map fQ) xs.toList:=az.kp (x.bN _) _ _ (az.wide (one (.inl t)) _ _ q);refine aq (dJ (tN xgx ⟨_,g,rfl⟩ xeb (Vm (s:={s with heap:=C}) g S J f H λh' c U d F=>⟨_,rfl,?_⟩) (args_list_sort _)));refine aN ⟨_,rfl,?_⟩;have j:Kp s.heap h':=λb o e=>U b o (λm=>by rw[aX]at m;rw[m]at e;exact gone e t) (x b o e);refine⟨⟨j,rfl⟩,?_,_,rfl,t⟩;refine⟨_,_,rfl,(a.kp k).above (dN _),⟨c,d⟩,?_⟩;exact KC (az.kp (j.bN X) _ _ q) _ F
end
section
variable{A:aG}{X:List ah}{h₀:aB}{s:au}{E:aj->au->Prop}
theorem Wb{K:List aj}{Q:List Int}(L:s.heap.get? a=aa (cH "list" K.toArray n))(r:az X s.heap (Q.map .int) K)(kh:Kp h₀ s.heap)(ka:h₀.get? a=ak)(h2:2<=Q.length)(g:Q.length<64)(ok:l5 Q.length (lH Q.length)=af)(hk:∀i∈Q,CF A X h₀ f [.int i] (fQ (d i)))(h:∀h' tk c,bg [a] s.heap h'->h'.get? a=aa (cH "list" ((lJ (Q.map d)).map λi=>K.getD i fk).toArray c)->(∀i∈lJ (Q.map d),i<Q.length)->P (.done (.ret .none)) {s with heap:=h',toks:=tk}):av (aA PW w) A (ksk_tree a f ay) P E s:=by
 have k:K.length=Q.length:=by exact O r.length (O (aI ..) rfl)
 have ha:a<s.heap.objs.size:=dR L;have s1:=mU s.heap a (dc λ_=>(#[]:Array aj));obtain⟨Z,zu⟩:∃Z,(s.heap.update a (dc λ_=>(#[]:Array aj))).get? a=aa (cH "list" #[] Z):=⟨_,ye L λ_=>#[]⟩;have k3:bg [a] s.heap (((s.heap.update a (dc λ_=>(#[]:Array aj))).push (cH "tuple" K.toArray 0)).push (cH "list" #[] 0)):=λb o Y e=>bX _ (bX _ ((s1.2 b λq=>Y (by exact O q (aQ ..))).trans e));have RZ:(((s.heap.update a (dc λ_=>(#[]:Array aj))).push (cH "tuple" K.toArray 0)).push (cH "list" #[] 0)).get? a=aa (cH "list" #[] Z):=bX _ (bX _ zu);have R0:((s.heap.update a (dc λ_=>(#[]:Array aj))).push (cH "tuple" K.toArray 0)).objs.size=s.heap.objs.size+1:=by exact O (Pw ..) (O (J1 ..) rfl)
 have H:(((s.heap.update a (dc λ_=>(#[]:Array aj))).push (cH "tuple" K.toArray 0)).push (cH "list" #[] 0)).get? (s.heap.objs.size+1)=aa (cH "list" #[] 0):=by exact aR R0 (cF _ rfl)
 unfold ksk_tree;refine aq (Oz L rfl ?_);refine aq (yj L rfl ?_ (by exact O iX (O dK (iV (eB g) k))) (jm _));refine aq (Fc zu rfl ?_);refine aq (Ag ?_ (by show K.length<=_;exact O dK (iV (eB g) k)));refine aq (tY ?_ (jm _));refine dJ ?_;show av (aA PW w) A (ksk_rest a f ay K.toArray Z (.ref ((s.heap.update a (dc λ_=>(#[]:Array aj))).push (cH "tuple" K.toArray 0)).objs.size)) P E {s with heap:=((s.heap.update a (dc λ_=>(#[]:Array aj))).push (cH "tuple" K.toArray 0)).push (cH "list" #[] 0)};refine O R0 ?_;generalize hH:((s.heap.update a (dc λ_=>(#[]:Array aj))).push (cH "tuple" K.toArray 0)).push (cH "list" #[] 0)=h3 at k3 RZ H;generalize hK:s.heap.objs.size+1=kS at H;have J:s.heap.get? kS=ak:=get?_none_of_le (by exact aR hK (dN _));have hne:a≠kS:=λq=>by replace L:=q▸L;exact gone L J
 have old:∀{h'},bg [a,kS] h3 h'->Kp h₀ h':=λ{h'}U b o e=>by
  have n1:b≠a:=λq=>by replace e:=q▸e;exact gone e ka
  have n2:b≠kS:=λq=>by have:=kh b o e;replace this:=q▸this;exact gone this J
  exact U b o (by simp[n1,n2]) (k3 b o (by simp[n1]) (kh b o e))
 unfold ksk_rest;refine aq (qE ?_);first|refine O (List.forIn_toArray ..) ?_|(rw[<-WU];simp only[WV])|rw[<-WU]
 refine aq (ksk_fold (λj S=>bu [a,kS] {s with heap:=h3} S/\S.heap.get? a=aa (cH "list" #[] Z)/\∃l e,S.heap.get? kS=aa (cH "list" (kH l) e)/\az [a,kS] S.heap (((Q.take j).map d).map fQ) l) K 0 _ ⟨.refl _ _,RZ,[],0,H,trivial⟩ (λj x S hx W=>?_) λS W=>?_)
 .rw[jl]at W⊢;obtain⟨U,ga,l,e,gk,M⟩:=W;obtain⟨i,T,ri⟩:∃i,Q[j]?=aa i/\Rep X S.heap (.int i) x:=by
   have hj:j<Q.length:=by exact aR k (rC.mp hx).1
   refine⟨Q[j],cz hj,?_⟩;refine aH (r.at (i:=j) (t:=.int Q[j]) (by refine O eS (O (cz hj) ?_);rfl)) λv e' q=>?_;replace e':=hx▸e';cases e';refine aE q.cM λtt u=>?_;subst u;exact .fO _ _
  have hz:l.length<=64:=by exact O M.length (O (aI ..) (O (aI ..) (O jA (BN (eB g)))))
  refine aq (Nj (aC (hk i (eO T) S (λ_ _=>False) [x] (old U.kp) ⟨ri,trivial⟩) (λz D y=>?_) λ_ _ hF=>hF.elim));obtain⟨k2,r2,F,rfl,R⟩:=y;have ga2:=k2.kp _ _ ga;have R1:=k2.kp _ _ gk;have s4:=mU D.heap kS (dc (·.push (.ref F)));have ea:(kH l).push (.ref F)=kH (l++[.ref F]):=by simp
  obtain⟨V,G⟩:∃V,(D.heap.update kS (dc (·.push (.ref F)))).get? kS=aa (cH "list" (kH (l++[.ref F])) V):=⟨_,by exact aR ea (ye R1 (·.push (.ref F)))⟩;try dsimp only
  refine aq (yj R1 rfl ?_ (by exact O iX (O dK (cD hz))) (bf (di (YY ..)) (by exact O iX (O dK (zd hz)))));have kU:bg [a,kS] D.heap (D.heap.update kS (dc (·.push (.ref F)))):=λb o Y e=>(s4.2 b λq=>Y (by refine O q ?_;simp)).trans e;refine aN ⟨rfl,U.trans ((bu.of k2).trans ⟨kU,rfl⟩),(s4.2 a hne).trans ga2,_,V,G,?_⟩;have et:((Q.take (j+1)).map d).map fQ=((Q.take j).map d).map fQ++[fQ (d i)]:=by refine O List.take_succ (O T ?_);simp
  refine O et ?_;refine az.append (az.kp ((k2.kp.bN _).trans kU) _ _ M) ?_;refine⟨Rep.kp kU _ _ ?_,trivial⟩;refine cI r2.jQ λb xs e _ p q=>?_;cases e;refine⟨F,xs,rfl,λm=>?_,p,az.flat (λt m=>?_) q⟩
  .refine bz (bB.mp m) (λe=>?_) λm=>?_;.replace R:=ga▸e▸R;cases R
   .replace m:=aX.mp m;replace R:=gk▸m▸R;cases R
  .simp only[bB,cg,or_false]at m;rcases m with rfl|rfl<;>rfl
 .replace W:=jl ..▸W;obtain⟨U,ga,l,e,gk,M⟩:=W;replace M:=Dl▸k▸M;have N:l.length=Q.length:=by exact O M.length (O (aI ..) (O (aI ..) rfl))
  try dsimp only
  refine aq (Oz gk rfl ?_);unfold ksk_end;try dsimp only
  simp only[rE,if_false];have hn2:¬K.toArray.size<2:=by exact O iX (tM (jq k h2))
  refine O (if_neg hn2) (O (if_neg hn2) ?_);try refine aq (aN ?_)
  have B:(Q.map d).length=Q.length:=aI ..;refine aq (O4 M (jq B h2) ?_);refine aq (aC (kat_run (ks:=l) (vs:=K) (Q:=λst' s2=>∃p:Array Nat,p.size=K.length/\arrOf st'=p.map (kas_item ((kH l).zip K.toArray))/\failedOf st'=ak/\s2=S/\p.toList=lJ (Q.map d)/\∀i∈p.toList,i<Q.length) (G:=λp s2=>s2=S/\p.toList=lJ (Q.map d)/\∀i∈p.toList,i<Q.length) (jP N (i6 k)) (jq k h2) (gO (di k) g) (λp' st' S a1 a2 a3 a4=>⟨p',a1,a2,a3,a4⟩) ?_) ?_ λ_ _ e=>e)
  .refine O k ?_;refine DM (n:=Q.length) (lt:=λi j=>fc ((Q.map d).getD i (0,0)) ((Q.map d).getD j (0,0))) (I:=λs2=>s2=S) (λi j C s2 T hj hs hC=>?_) _ _ ok rfl λs2 hs T=>⟨hs,?_,T⟩;.subst hs;exact Qf M (jq B T) (jq B hj) (hC _ rfl)
   .unfold lJ;exact O B rfl
  rintro⟨⟨⟩,st'⟩s2⟨p,hp,har,hf,rfl,hpq,hpi⟩;dsimp only;have hout:=kat_snds (vs:=K) (ks:=l) (jP N (i6 k)) har;have hsz:(kH (p.toList.map λi=>K.getD i fk)).size=K.length:=by exact O iX (O (aI ..) (O dw (O hp rfl)))
  unfold ksk_tail;try dsimp only
  refine O hout ?_;have t1:=mU s2.heap kS (dc λ_=>(#[]:Array aj));have I:(s2.heap.update kS (dc λ_=>(#[]:Array aj))).get? a=aa (cH "list" #[] Z):=(t1.2 a hne).trans ga;have t2:=mU (s2.heap.update kS (dc λ_=>(#[]:Array aj))) a (dc λ_=>kH (p.toList.map λi=>K.getD i fk));obtain⟨V,G⟩:∃V,((s2.heap.update kS (dc λ_=>(#[]:Array aj))).update a (dc λ_=>kH (p.toList.map λi=>K.getD i fk))).get? a=aa (cH "list" (kH (p.toList.map λi=>K.getD i fk)) V):=⟨_,ye I λ_=>kH (p.toList.map λi=>K.getD i fk)⟩;refine aq (yj gk rfl ?_ (by exact O iX (O dK (iV (eB g) N))) (jm _));refine aq (AG ?_);refine aq (Fc I rfl ?_);refine aq (yj I rfl ?_ (jm _) (bf (di hsz) (by exact O dK (iV (eB g) k))));refine O hf ?_;simp only[bne_self_eq_false,rE,if_false];have xfh:=h ((s2.heap.update kS (dc λ_=>(#[]:Array aj))).update a (dc λ_=>kH (p.toList.map λi=>K.getD i fk))) s2.toks V (λb o Y e=>?_) (by exact aR hpq G) (by exact aR hpq hpi);.have e2:=U.eq;refine aN ?_;exact O e2 xfh
  .have na:b≠a:=λq=>Y (by exact O q (aQ ..));have nk:b≠kS:=λq=>by replace e:=q▸e;exact gone e J
   exact(t2.2 b na).trans ((t1.2 b nk).trans (U.kp b o (by simp[na,nk]) (k3 b o Y e)))
end
noncomputable def dF(V:List ah)(R:aS)(q:ai)(h:aB)(P:ah):Prop:=∃ps:Array aj,h.get? P=aa (tabObj ps)/\TriplesOk ps.toList/\(codeAmong R ps.toList=ak\/∃c,codeAmong R ps.toList=aa (.ref c)/\c∉V/\h.CodeRec (.ref c) q)
theorem dF.kp(k:Kp h h')(t:dF V f q h P):dF V f q h' P:=by refine dm t λps a b c=>?_;exact⟨ps,k _ _ a,b,c.imp id λ⟨g,d,n,e⟩=>⟨g,d,n,e.keeps k⟩⟩
theorem dF.less(t:dF V f q h P)(k:∀a∈U,a∈V):dF U f q h P:=by refine dm t λps a b c=>?_;exact⟨ps,a,b,c.imp id λ⟨g,d,n,e⟩=>⟨g,d,λm=>n (k _ m),e⟩⟩
theorem dF.O5{h:aB}(t:dF V f q h P)(k:∀a∈U,h.get? a=ak):dF (U++V) f q h P:=by refine dm t λps a b c=>?_;refine⟨ps,a,b,c.imp id λ⟨c,d,n,e⟩=>⟨c,d,λm=>(bD.mp m).elim (λm=>?_) n,e⟩⟩;refine Ko e λ_ o _ _ x y _=>?_;cases x;exact gone y (k _ m)
theorem dF.at{h h':aB}(k:bg V h h')(D:∀o,h.get? P=aa o->h'.get? P=aa o)(t:dF V f q h P):dF V f q h' P:=by refine dm t λps a b c=>?_;refine⟨ps,D _ a,b,c.imp id λ⟨g,d,n,e⟩=>⟨g,d,n,?_⟩⟩;refine DK e λM o w t l s i A=>?_;cases l;exact⟨g,o,w,t,rfl,k _ _ n s,i,A⟩
theorem dF.dM(X:P∉U)(k:bg U h h')(j:∀a∈U,a∈V)(t:dF V f q h P):dF V f q h' P:=by refine dm t λps a b c=>?_;refine⟨ps,k _ _ X a,b,c.imp id λ⟨i,d,n,e⟩=>⟨i,d,n,?_⟩⟩;refine DK e λM o K t H g r z=>?_;cases H;exact⟨i,o,K,t,rfl,k _ _ (λm=>n (j _ m)) g,r,z⟩
section
variable{A:aG}{E:aj->au->Prop}{s:au}{G:aO}
theorem Xo{j:dW}(F:G.globals=mF)(J:s.heap.Ns mF B)(R:s.heap.BuiltinsAt B P)(Z:G.code=.ref c)(C:CodeHd s.heap c P)(T:dF V t (G.qual++"<lambda>") s.heap P)(hV:∀a∈V,∃o,s.heap.get? a=aa o)(g:∀p∈j.names,p.2=.free->(G.cells.lookup p.1).isSome=af)(K:mF≠P)(y:defaultsOf d G=([],[]))(h:∀f u U pm v,bu [P] s v->dF V t (G.qual++"<lambda>") v.heap P->s.heap.get? f=ak->v.heap.get? f=aa {cls:=.type "function",data:=.func (zm "<lambda>" (G.qual++"<lambda>") d i j (dX j.names G) pm u U)}->v.heap.CodeRec u (G.qual++"<lambda>")->Q (.ref f) v):av (aA PW w) A (aU (.Lambda d i j t) G) Q E s:=by
 refine dm T λps X r l=>?_;refine kla_eval y ?_;refine bz l (λl=>?_) λS=>?_
 .refine kla_makeFunction (C7 g) F J Z C X r l K R λM U h' Y hx F W k H=>?_;have N:bg [P] s.heap (h'.push (kla_obj "<lambda>" (G.qual++"<lambda>") d i j (dX j.names G) ((B "__name__").getD .none) M U)):=λb o n e=>bX _ (hx b o (λq=>n (by exact O q (aQ ..))) e);refine h h'.objs.size (.ref M) U _ _ ⟨N,rfl⟩ ⟨_,bX _ H,?_,.inr ⟨M,?_,λm=>?_,k.keeps λb o e=>bX _ e⟩⟩ ?_ (cF _ rfl) (k.keeps λb o e=>bX _ e);.exact O tF (TriplesOk_snoc _ _ _ _ r)
  .exact O tF (codeAmong_snoc _ r l)
  .refine aE (hV _ m) λo e=>?_;exact absurd (dR e) (rS.mpr F)
  .exact get?_none_of_le (eB (gO F W))
 .obtain⟨x,l,D,z⟩:=S;refine kla_makeFunctionHit (C7 g) F J Z C X r l R λU h' Y N I=>?_;have L:Kp s.heap (h'.push {cls:=.type "function",data:=.func (zm "<lambda>" (G.qual++"<lambda>") d i j (dX j.names G) ((B "__name__").getD .none) (.ref x) U)}):=λb o e=>bX _ (N b o e);refine h h'.objs.size (.ref x) U _ _ ⟨L.bN _,rfl⟩ ⟨ps,L _ _ X,r,.inr ⟨x,l,D,z.keeps L⟩⟩ (get?_none_of_le I) (cF _ rfl) (z.keeps L)
end
noncomputable def pR(q:ai)(j:dW)(L f:ah)(Q:aj)(b:List (ai×ah)):aO:={scope:=j,locals:=L,globals:=mF,cells:=b,qual:=q++".<locals>.",func:=aa f,code:=Q,frame:=aa L,builtins:=yx}
def Gx(j:dW)(G:aO):Bool:=i8 j G&&j.names.all λp=>p.2==.free||p.2==.local
noncomputable def BY(j:dW)(P:Gm):Gm:=λx=>if j.names.lookup x=aa .free then P x else ak
theorem xaZ{h h':aB}{G:aO}{j:dW}(c:CX X h G s)(F:G.globals=mF)(a:G.builtins=yx)(H:Gx j G=af)(Y:j.names.lookup x=aa .local)(C:h.get? L=ak)(k:Kp h h')(n:h'.Ns L λy=>([(x,v)]:List (ai×aj)).reverse.lookup y)(r:Rep X h t v):CX (L::X) h' (pR q j L f cdv (dX j.names G)) (upd (BY j s) x t):=by
 refine aW ((dZ _ _).mp H) λH M=>?_;refine kR (v5 c.ok H) λT E i _=>?_;refine gW (EI c E λx m=>(i x m).1) λA K I=>?_;have d:∀p:ai×ah,p∈([]:List (ai×ah))->False:=λp m=>cg m;refine CX.frame (env:=pR q j L f cdv (dX j.names G)) (o:=[]) (cl:=dX j.names G) k c.live T rfl (one C) (λp m=>(d p m).elim) (F▸c.eZ.1:∃o,h.get? mF=aa o) (a▸c.eZ.2:∃o,h.get? yx=aa o) (F▸c.ok.eN:mF∉X) (a▸c.ok.blt:yx∉X) ⟨_,n⟩ (λp m=>(d p m).elim) .nil K I (λy e=>absurd (cj.mp M _ (mem_of_lookup e)) nofun) λy u e=>?_;by_cases g:y=x;.subst g;exact⟨v,nR ((pJ ..).symm.trans e)▸r,.inr (.inl ⟨Y,_,n,CS⟩)⟩
 .have e:=(eE _ _ g).symm.trans e;unfold BY at e;by_cases l:j.names.lookup y=aa .free;.replace e:=if_pos l▸e;exact(c.val y u e).imp λz q=>⟨q.1,.inr (.inr ⟨.inr l,(q.2.cellOf (i y (mem_of_lookup l)).2).imp λb z=>⟨((AL (P:=λq=>G.cells.lookup y=aa q) (La _ (mem_of_lookup l)) λq m=>(A _ m).2).elim λq z=>z.1.trans z.2.symm).trans z.1,z.2.keeps k⟩⟩)⟩
  .replace e:=if_neg l▸e;cases e
theorem CF.lam{A:aG}{B:aB}{G:aO}{j:dW}(c:CX X B G V)(K:G.globals=mF)(H:G.builtins=yx)(M:Gx j G=af)(Y:j.names.lookup x=aa .local)(fo:B.get? f=aa {cls:=.type "function",data:=.func (zm "<lambda>" q d g j (dX j.names G) N Q U)})(S:B.CodeRec Q q)(W:B.NoLimit)(P:cG A (n+1))(I:j.isCoroutine=ay)(l:j.isGenerator=ay)(C:∀fd:eU,fd.params=d->fd.qualname=q->∀v,GW (zm "<lambda>" q d g j (dX j.names G) N Q U) ⟨[v],[]⟩=pure [(x,v)])(i:∀L h,CX (L::X) h (pR q j L f Q (dX j.names G)) (upd (BY j V) x t)->Kp B h->cG (A.deeper (pR q j L f Q (dX j.names G))) n->EF (A.deeper (pR q j L f Q (dX j.names G))) (pR q j L f Q (dX j.names G)) (L::X) h g r):CF A X B (.ref f) [t] r:=λs E vs k u=>by refine aE (az.ju u) λv q3=>?_;subst q3;have u:=u.1;refine aW ((dZ _ _).mp M) λT q2=>?_;have o1:=(v5 c.ok T).1;have o4:∀p∈j.names,p.2≠.cell:=λp m e=>absurd (e▸cj.mp q2 p m:(mX==.free||mX==.local:Bool)=af) nofun;refine AZ (kla_callFunE (gO (e7 _ _) (cD P.dep)) (k _ _ fo) rfl I l rfl (S.keeps k) ?_);rw[C (zm "<lambda>" q d g j (dX j.names G) N Q U) rfl rfl];refine aN (wpAny_newFunctionEnv o4 (one Y) (λZ J F=>⟨(W.keeps k).fresh _ F,?_⟩) o1);show pU _ _ (.expr g (pR q j s.heap.objs.size f Q (dX j.names G))) _ _;have w:Kp s.heap Z:=λb o e=>F.extBut b o (bS (dR e)) (bX _ e);have cx:=xaZ (q:=q) (f:=f) (cdv:=Q) (c.kp k) K H M Y (get?_none_of_le (cR _)) w J u;have D:cG (A.deeper (pR q j s.heap.objs.size f Q (dX j.names G))) n:=P.deep _;refine kla_codeExpr (aC (i _ Z cx (k.trans w) D {s with heap:=Z,toks:=s.toks+1} _ λ_ _ e=>e) (λz s' y=>?_) λ_ _ y=>y);obtain⟨k2,r2,a,e,R⟩:=y;have ks:Ks s {s with heap:=Z,toks:=s.toks+1}:=⟨w,rfl⟩;exact⟨ks.trans k2,Rep.less (λb m=>aZ _ m) _ _ r2,a,e,g9 w R⟩
def AN(d:Int->Int×Int)(Q:List Int):List Int:=(lJ (Q.map d)).map λi=>Q.getD i 0
section
variable{A:aG}{X:List ah}{h₀:aB}
theorem Vn{Q:List Int}{s:au}(h:bJ X h₀)(k:Kp h₀ s.heap)(r:Rep X s.heap (.list (Q.map .int)) v)(J:2<=Q.length)(f:Q.length<64)(H:l5 Q.length (lH Q.length)=af)(N:∀i∈Q,CF A.in1.in1 X h₀ (.ref p) [.int i] (fQ (d i))):av (aA PW w) A (dP (.builtin "sorted") [v] [(nX "key",.ref p)]) (λz S=>Ks s S/\Rep X S.heap (.list ((AN d Q).map .int)) z/\∃a,z=.ref a/\s.heap.get? a=ak) E s:=by
 refine cI r.d8 λl xs u D V q=>?_;subst u;have P:xs.toList.length=Q.length:=by exact O q.length (O (aI ..) rfl)
 refine call_function_entry_kw kind_sorted plain_sorted entry_sorted (ksk_s1 _ _) ?_;unfold Builtin.«sorted»;refine aq (m:=checkCount "sorted" 1 1 _) (aN ?_);have M:s.heap.IsList l xs.toList.toArray:=by refine aE V λn V=>?_;exact⟨_,V,rfl,n,by simp⟩
 refine aq (collect_list M ?_ (by refine O dK ?_;first|exact iV (eB f) P|(rw[iX];lia)));refine aq (tY ?_ (by exact O dK (iV (eB f) P)));have T:((s.heap.push (cH "list" #[] 0)).update s.heap.objs.size (dc (·++xs.toList.toArray))).objs.size=s.heap.objs.size+1:=by exact O (J1 ..) (O (Pw ..) rfl)
 have g:(((s.heap.push (cH "list" #[] 0)).update s.heap.objs.size (dc (·++xs.toList.toArray))).push (cH "list" xs.toList.toArray 0)).get? (s.heap.objs.size+1)=aa (cH "list" xs.toList.toArray 0):=by exact aR T (cF _ rfl)
 have x:Kp s.heap (((s.heap.push (cH "list" #[] 0)).update s.heap.objs.size (dc (·++xs.toList.toArray))).push (cH "list" xs.toList.toArray 0)):=λb o q=>by have W:b<s.heap.objs.size:=dR q;exact O (Dh _ _ _ (by rw[T];exact bS (vM W))) (O (C2 _ _ _ _ (bS W)) (O (Dh _ _ _ (bS W)) q))
 show av _ _ _ _ _ {s with heap:=((s.heap.push (cH "list" #[] 0)).update s.heap.objs.size (dc (·++xs.toList.toArray))).push (cH "list" xs.toList.toArray 0)};refine O T ?_;generalize B:((s.heap.push (cH "list" #[] 0)).update s.heap.objs.size (dc (·++xs.toList.toArray))).push (cH "list" xs.toList.toArray 0)=C at g x;have t:s.heap.get? (s.heap.objs.size+1)=ak:=get?_none_of_le (dN _);refine aq (dJ (wpAny_call_entry_kw xgx ⟨_,g,rfl⟩ xeb ?body (ksk_l1 _ _)));case body=>show av (aA PW w) A.in1.in1 (Builtin.«list.sort» ⟨[.ref (s.heap.objs.size+1)],[(nX "key",.ref p)]⟩) _ _ _;refine O (ksk_t1 ..) ?_;refine Wb (s:={s with heap:=C}) (X:=X) (h₀:=h₀) g (az.kp (x.bN X) _ _ q) (k.trans x) (g9 k t) J f H N λh' G c U y F=>⟨_,rfl,?_⟩;refine aN ⟨_,rfl,?_⟩;have j:Kp s.heap h':=λb o e=>U b o (λm=>by rw[aX]at m;rw[m]at e;exact gone e t) (x b o e);refine⟨⟨j,rfl⟩,?_,_,rfl,t⟩;refine⟨_,_,rfl,(h.kp k).above (dN _),⟨c,y⟩,?_⟩;exact KC (az.kp (j.bN X) _ _ q) _ F
end
section
variable{A:aG}{H:List ah}{N B s S:au}{Z:List ah}{G:aO}{d g:Gm}{M:List (ah×T)}{E:aj->au->Prop}
theorem FS.fresh(f:FS H N B s Z G d M)(k:bu [P] s S)(X:P∈H)(D:∃o,N.heap.get? P=aa o)(i:∃o,S.heap.get? P=aa o):∃U,FS H U S S Z G d M/\(∃o,U.heap.get? P=aa o)/\∀J,Ks U J->bu [P] N J/\∀b o,b∉Z->S.heap.get? b=aa o->J.heap.get? b=aa o:=by
 refine aE i λo i=>?_;refine aE D λr D=>?_;have c:∀a∈Z,a≠P:=λa m q=>by have:=f.new a m;replace this:=D▸q▸this;cases this
 have j:∀a∈[P],a∈Z++H:=one (bD.mpr (.inr X));refine⟨{S with heap:=kQ S.heap Z},⟨⟨λb o e=>wm _ e,rfl⟩,.refl _ _,λa m=>vZ _ m,f.own,?_,λp m=>⟨(f.acc p m).1,(f.acc p m).2.1,?_⟩,f.nd⟩,⟨o,rR _ i λm=>c _ m rfl⟩,λJ h=>⟨⟨λb q n e=>?_,?_⟩,λb o n e=>h.kp b o (rR _ e n)⟩⟩;.exact f.cx.dM k.kp (λa m n=>c a (f.own a m) (aX.mp n)) j (f.cx.live.dM k.kp (one ⟨o,i⟩))
 .exact(f.acc p m).2.2.kp (k.kp.mono j) λo e=>k.kp _ _ (λn=>c _ (f.acc p m).1 (aX.mp n)) e
 .refine h.kp b q (rR _ (k.kp b q n (f.ks.kp b q e)) λm=>?_);exact gone e (f.new b m)
 .have e:=h.eq;have l:=f.ks.eq;have L:=k.eq;refine O e ?_;dsimp only;refine O L ?_;dsimp only;exact O l rfl
theorem FS.xcV(f:FS H N B s Z G d M)(Y:G.kindOf x=aa .local\/G.kindOf x=aa .cell)(C:dh G x∈aM G)(r:Rep (Z++H) s.heap t v)(h:∀S,bu [dh G x] s S->FS H N B S Z G (upd d x t) M->Q () S):av (aA PW w) A (kN G x v) Q E s:=zV f.cx Y r λS k c=>by have b:bu (aM G) s S:=k.mono (one C);have i:bu Z s S:=b.mono λa m=>f.own a m;refine h S k ⟨f.ks.qk i f.new,f.kx.trans (b.mono λa m=>bD.mpr (.inl m)),f.new,f.own,c,λp m=>⟨(f.acc p m).1,(f.acc p m).2.1,?_⟩,f.nd⟩;exact(f.acc p m).2.2.kp (b.kp.mono f.cx.ok.iW) λo e=>b.kp _ _ (f.acc p m).2.1 e
theorem FS.xfi{x:ai}{e:aT}{c R:aS}{t:T}{P:ah}{I:aB->Prop}{Q:ek->au->Prop}(f:FS H N B s Z G d M)(X:P∈H)(p:∃o,N.heap.get? P=aa o)(u:∀h,I h->∃o,h.get? P=aa o)(hx:G.kindOf x=aa .local\/G.kindOf x=aa .cell)(C:dh G x∈aM G)(W:∀E,av (aA PW w) A (aU e G) (λv S=>bu [P] s S/\I S.heap/\Rep (Z++H) S.heap t v) E s)(hQ:∀U S,FS H U S S Z G (upd d x t) M->(∃J,I J.heap/\bu [dh G x] J S/\lN (Z++H) J.heap G/\P∉aM G)->(∀J,Ks U J->bu [P] N J/\∀b o,b∉Z->S.heap.get? b=aa o->J.heap.get? b=aa o)->Q .next S)(hs:autoParam (lG e (aa (.Name x c)) R.line G=pure ay) yAR):av (aA PW w) A (dY (.Assign [.Name x c] e R) G) Q E s:=by
 refine O (z4 G x c e R hs) ?_;refine aq (cW (aq (aC (W E) (λv U y=>?_) λ_ _ e=>e)));refine gW y λk i r=>?_;refine dm (f.fresh k X p (u _ i)) λJ D z K=>?_;have l:P∉aM G:=λm=>by refine aE p λo0 p=>?_;have:=f.new P (f.own P m);replace this:=p▸this;cases this
 refine aq (cW (aq (D.xcV hx C r λS F Y=>aN ?_)));have q:∃o,S.heap.get? P=aa o:=by refine aE (u _ i) λo ho=>?_;exact⟨o,F.kp P o (λm=>l (by replace m:=aX.mp m;exact O m C)) ho⟩
 refine dm (Y.fresh (.refl _ S) X z q) λj a _ V=>?_;refine hQ j S a ⟨U,i,F,D.cx.ok,l⟩ λn h=>?_;refine aW (V n h) λb1 L=>?_;exact⟨(K J (.refl _)).1.trans b1,L⟩
end
section
variable{A:aG}{G:aO}{X:List ah}{b:Gm}
theorem Zr{j:dW}{its:List Int}{s:au}(N:CX X s.heap G b)(hf:b "sorted"=aa (.aJ (.builtin "sorted")))(hgl:mP G "sorted"=af)(he:EV A G X s.heap e (.list (its.map .int)))(F:G.globals=mF)(hbe:G.builtins=yx)(hg:s.heap.Ns mF mg)(hb:s.heap.BuiltinsAt mg P)(hc:G.code=.ref c)(C:CodeHd s.heap c P)(T:dF V l (G.qual++"<lambda>") s.heap P)(hV:∀a∈V,∃o,s.heap.get? a=aa o)(hP:P∈X)(Ii:P∉aM G)(nl:s.heap.NoLimit)(ok:Gx j G=af)(hx:j.names.lookup x=aa .local)(Y:j.isCoroutine=ay)(K:j.isGenerator=ay)(J:defaultsOf d G=([],[]))(rm:cG A (n+2))(h2:2<=its.length)(h64:its.length<64)(okS:l5 its.length (lH its.length)=af)(H:∀pm Q U v,GW (zm "<lambda>" (G.qual++"<lambda>") d r j (dX j.names G) pm Q U) ⟨[v],[]⟩=pure [(x,v)])(D:∀i∈its,∀A' L f Q h,cG A' n->CX (L::X) h (pR (G.qual++"<lambda>") j L f Q (dX j.names G)) (upd (BY j b) x (.int i))->EF A' (pR (G.qual++"<lambda>") j L f Q (dX j.names G)) (L::X) h r (fQ (key i)))(hs:autoParam (bq [e] G=[(ay,aU e G)]) yAR):av (aA PW w) A (aU (.Call (.Name "sorted" np) [e] [⟨aa "key",.Lambda d r j l,kp⟩] t) G) (λv W=>bu [P] s W/\dF V l (G.qual++"<lambda>") W.heap P/\Rep X W.heap (.list ((AN key its).map .int)) v) E s:=by
 show av _ _ (do mK t (<-aU (.Name "sorted" np) G) [] (cN t (bq [e] G)) (oj t (nZ [⟨aa "key",.Lambda d r j l,kp⟩] G))) _ _ _;refine aq (aC ((EV.glob N hf hgl) s E λ_ _ e=>e) (λv M y1=>?_) λ_ _ e=>e);refine aW y1 λk1 r1=>?_;obtain rfl:=r1.cS;refine callWith_kw ?_ (by refine O hs ?_;rfl) (by refine O hs ?_;rfl);have hl:=EL.cons he (EL.nil (pos:=t)) (by refine O hs ?_;rfl) M E k1.kp;refine aC hl (λvs R y2=>?_) λ_ _ e=>e;refine aW y2 λk2 Z=>?_;refine aE (az.ju Z) λlv u=>?_;subst u;have Z:=Z.1;refine kws_cons ?_;have B:=(k1.trans k2).kp;have hgP:mF≠P:=λq=>N.ok.eN (by exact O F (O q hP));have o4:∀p∈j.names,p.2=.free->(G.cells.lookup p.1).isSome=af:=λp m e=>CN.mpr ((v5 N.ok ((dZ _ _).mp ok).1).2.2.1 p.1 (e▸m)).1;refine jN hb λbm ob b1 b2 b3 b4 b5 b6=>?_;refine Xo F (hg.keeps B) ⟨bm,ob,b1,b2,b3,b4,B _ _ b5,b6⟩ hc (C.keeps B) (T.kp B) (λa m=>(hV a m).imp λo e=>B _ _ e) o4 hgP J λfa Q U pm g I T3 nf ho hcr=>?_;refine kws_nil ?_;show av (aA PW w) A (dP (.builtin "sorted") [lv] [(nX "key",.ref fa)]) _ _ g;have k3':bg X R.heap g.heap:=I.kp.mono (one hP);have c3:CX X g.heap G b:=(N.kp B).dM I.kp (λa m n=>Ii (aX.mp n▸m)) (one hP) ((N.kp B).live.dM I.kp λa m=>by replace m:=aX.mp m;refine O m ?_;refine aH T3 λps q _=>?_;exact⟨_,q⟩);have nl3:g.heap.NoLimit:=by refine aH (nl.keeps B) λmc q1 q2=>?_;refine oi q1 λo es ep S g2=>?_;refine⟨mc,⟨o,es,ep,I.kp _ _ (λm=>?_) S,g2⟩,q2⟩;replace m:=aX.mp m;refine aH (T.kp B) λps q _=>?_;replace S:=q▸m▸S;cases S;cases g2.1
 refine aC (Vn (h₀:=g.heap) (X:=X) c3.live (λ_ _ e=>e) (Rep.kp k3' _ _ Z) h2 h64 okS λi hi=>CF.lam (n:=n) c3 F hbe ok hx ho hcr nl3 ?_ Y K (λfd _ _ v=>H pm Q U v) λL h c k vz=>D i hi _ L fa Q h vz c) (λz W y=>?_) λ_ _ e=>e;.exact⟨rm.hd,by have:=rm.dep;show A.depth+(n+1)<660;exact rG this,by have:=rm.jH;show A.units+1+1+8*(n+1)<2000;exact GZ (a:=A.units) (c:=2) this⟩
 .refine gW y λk4 r4 _=>?_;refine⟨(bu.of (k1.trans k2)).trans (I.trans (.of k4)),T3.kp k4.kp,r4⟩
end
noncomputable def fJ(d:List (ai×T))(k:ai)(t:T):List (ai×T):=if d.any λp=>p.1=k then d.map λp=>if p.1=k then(p.1,t)else p else d++[(k,t)]
section
variable{X:List ah}
theorem UC{d:List (ai×T)}(r:az X h (d.map (·.2)) a)(q:Rep X h t v):∃x,Ca ((d.map (·.1)).zip a) k v=((fJ d k t).map (·.1)).zip x/\x.length=(fJ d k t).length/\az X h ((fJ d k t).map (·.2)) x:=by
 have b:∀{d:List (ai×T)}{a:List aj},a.length=d.length->((d.map (·.1)).zip a).any λi=>i.1=k=d.any λp=>p.1=k:=by intro d;induction d with|nil=>intro a _;rfl|cons p d G=>intro a e;cases a with|nil=>simp at e|cons u a=>simp only[f6,JI,K4];exact O (G (by simpa using e)) rfl
 have V:a.length=d.length:=by exact O r.length (O (aI ..) rfl)
 unfold Ca fJ;refine O (b V) ?_;by_cases c:d.any λp=>p.1=k=af;.refine O (if_pos c) (O (if_pos c) ?_);clear c b;induction d generalizing a with
|nil=>cases a with|nil=>exact⟨[],rfl,rfl,trivial⟩|cons=>simp at V
|cons p d G=>cases a with|nil=>simp at V|cons u a=>
  refine dm (G r.2 (by simpa using V)) λx H L g=>?_;by_cases Q:p.1=k
  .refine⟨v::x,?_,by simp[L],?_⟩;.simp only[f6,JI,Q,if_true,H]
   .rw[f6,if_pos Q];exact⟨q,g⟩
  .refine⟨u::x,?_,by simp[L],?_⟩;.simp only[f6,JI,Q,if_false,H]
   .rw[f6,if_neg Q];exact⟨r.1,g⟩
 .refine O (if_neg c) (O (if_neg c) ?_);refine⟨a++[v],?_,by simp[V],?_⟩;.refine O fY (O (Kg (by rw[aI,V])) ?_);rfl
  .exact O fY (az.append r ⟨q,trivial⟩)
variable{A:aG}{H:List ah}{N c s S:au}{Z:List ah}{G:aO}{P g:Gm}{M:List (ah×T)}{E:aj->au->Prop}{B:aB}
theorem EM.A7(z:∃o,B.get? eo=aa o):EM A G X B (.Dict [] [] b) (DS []):=λs E k=>by
 refine O (Nd ..) ?_;refine aq (cW ?_);show av _ _ (we []) _ _ _;have e:we []=BH:=by rfl
 refine O e ?_;refine aE z λo a=>?_;have W:=dR (k _ _ a);exact Dz _ _ _ ⟨.push ..,_,rfl,get?_none_of_le (cR _),beq_eq_false_iff_ne.mpr λe=>by rw[e]at W;exact vV _ W,[],by simpa using Dd s.heap,rfl,trivial⟩
theorem EF.xcW(l:bJ X B)(z:∃o,B.get? eo=aa o)(r:EV A G X B j (.str k))(Q:EV A G X B n t)(D:Mine.flat t=af)(d:autoParam ((E9 [aa j] G).zip ((kM [n] G).map λv=>do let x<-v;fL h;pure x)=([(aU j G,do let x<-aU n G;fL h;pure x)]:List (bh aj×bh aj)).map λp=>(aa p.1,p.2)) yAR):EF A G X B (.Dict [aa j] [n] h) (DS [(k,t)]):=λs E q=>by
 have i:Kp s.heap (s.heap.push {cls:=.type "dict",data:=.dict #[]}):=λ_ _ e=>bX _ e;obtain⟨o,I⟩:=z;have W:=dR (q _ _ I);have F:=l.kp q;refine wpAny_Dict_pairs (knd:=rJ PW w) d (by simp) (by simp) (evalPairs_cons ?_);refine aC (r _ E (q.trans i)) (λkv U x=>?_) λ_ _ e=>e;obtain⟨u,rfl⟩:=x.2.eV;refine aq (aC (Q U E (q.trans (i.trans x.1.kp))) (λv J y=>aq (cW (aN (evalPairs_nil ?_)))) λ_ _ e=>e);have V:Kp s.heap J.heap:=i.trans (x.1.trans y.1).kp;refine⟨[(k,v)],⟨F3 PW w k u,rfl,trivial⟩,(Dd s.heap).at λo e=>(x.1.trans y.1).kp _ _ e,λh' p f=>?_⟩;have R:merged [] [(k,v)]=[(k,v)]:=by simp[merged,Ca]
 rw[R]at p;have K:Kp s.heap h':=λb o e=>(f.2 b (bS (dR e))).trans (V b o e);have C:bg (s.heap.objs.size::X) J.heap h':=(qj f).mono (one (aQ ..));have Y:Ks {s with heap:=s.heap.push {cls:=.type "dict",data:=.dict #[]}} J:=x.1.trans y.1;refine⟨⟨K,?_⟩,?_,_,rfl,get?_none_of_le (cR _)⟩;.have L:=Y.eq;dsimp only;exact O L rfl
 .refine⟨_,[v],rfl,F.new,beq_eq_false_iff_ne.mpr λe=>by rw[e]at W;exact vV _ W,p,rfl,?_⟩;have T:Rep (s.heap.objs.size::X) J.heap t v:=y.2.flat D;exact⟨Rep.less (λa m=>aZ _ m) _ _ (Rep.kp C _ _ T),trivial⟩
theorem aY.inD:aY A X B .In (.str k) (DS d) (getD d k).isSome:=λs E a b j Y o=>by refine aE Y.eV λt I=>?_;subst I;refine jN o.qR λD W I n C p e r=>?_;subst I;have h:=z9 (k:=k) r;refine wpAny_in_of (F3 PW w k t) C p.mapOf ⟨.tok ..,?_⟩;cases f:getD d k with|none=>rw[h.1 f];rfl|some u=>refine aH (h.2 u f) λv a _=>?_;refine O a ?_;rfl
theorem FS.FE{d:List (ai×T)}(f:FS H N c s Z G P M)(h:M[i]?=aa (D,DS d))(I:d.length<=100000)(r:Rep (Z++H) s.heap t v)(l:∀S,FS H N c S Z G P (M.set i (D,DS (fJ d k t)))->Q () S):av (aA PW w) A (Ae (.ref D) (.str k j) v) Q E s:=by have b:=f.acc _ (eO h);obtain⟨C,W,p,e,R⟩:=b.2.2;rw[aI]at e;refine wpAny_setItem_pairs (hsz:=by exact O dK (O gP (O (aI ..) (BL (cD I))))) (F3 PW w k j) p λh' F a=>l _ ?_;have m:bu [D] s {s with heap:=h',toks:=s.toks+1}:=⟨qj a,rfl⟩;have z:bg (Z++H) s.heap h':=m.kp.mono (one (bD.mpr (.inl b.1)));refine dm (UC (k:=k) (t:=t) R r) λx o L n=>?_;rw[o]at F;exact f.write h m ⟨C,x,F,by exact O (aI ..) L,Mine.az.kp z _ _ n⟩
theorem FS.NU{r Y R:aS}{d:List (ai×T)}(f:FS H N c s Z G P M)(K:P x=aa (.aJ (.ref D)))(F:M[i]?=aa (D,DS d))(L:EV A G (Z++H) s.heap n t)(h:EV A G q s.heap a (.str k))(I:d.length<=100000)(b:∀S,FS H N c S Z G P (M.set i (D,DS (fJ d k t)))->Q .next S)(W:autoParam (lG n (aa (.Subscript (.Name x r) a Y)) R.line G=pure ay) yAR)(V:autoParam (isVar G x=af) yAK):av (aA PW w) A (dY (.Assign [.Subscript (.Name x r) a Y] n R) G) Q E s:=by refine Ju (aC (L s E λ_ _ e=>e) (λv U y=>?_) λ_ _ e=>e) W;refine aC (f.qX (X:=[]) K V U E y.1.kp) (λo J z=>?_) λ_ _ e=>e;obtain rfl:=z.2.cS;refine aC (h J E (y.1.trans z.1).kp) (λp j u=>?_) λ_ _ e=>e;refine aE u.2.eV λm l=>?_;subst l;exact((f.step y.1).step z.1).step u.1|>.FE F I (Rep.kp ((z.1.trans u.1).kp.bN _) _ _ y.2) b
theorem FS.xba{d:List (ai×T)}(f:FS H N c s Z G P M)(hv:P x=aa (.aJ (.ref D)))(F:M[i]?=aa (D,DS d))(j:EV A G X1 s.heap l (.str k))(L:EV A G X2 s.heap Y (.int b))(K:getD d k=aa (.int a))(v:d.length<=100000)(V:∀S,FS H N c S Z G P (M.set i (D,DS (fJ d k (.int (a+b)))))->Q .next S)(ha:∀h m q,augStore l h m q=(do ic [q,h,m] (Ae h m q);SA [q,h,m] [];pure .next):=by intros;rfl)(hl:autoParam (isVar G x=af) yAK):av (aA PW w) A (dY (.AugAssign (.Subscript (.Name x xp) l sp) .Add Y pos) G) Q E s:=by refine UY (aC (f.qX (X:=[]) hv hl s E λ_ _ e=>e) (λo U z=>?_) λ_ _ e=>e) ha;obtain rfl:=z.2.cS;refine aC (j U E z.1.kp) (λm J u=>?_) λ_ _ e=>e;refine aE u.2.eV λW I=>?_;subst I;have n:=(f.step z.1).step u.1;have C:=n.acc _ (eO F);obtain⟨sm,us,p,e,rl⟩:=C.2.2;refine aH ((z9 (k:=k) rl).2 _ K) λvv t rv=>?_;refine aE rv.cM λta I=>?_;subst I;refine xdR (F3 PW w k W) p.mapOf t ?_;have R:=n.step (.tok J (J.toks+1));refine aC (L _ E (z.1.trans (u.1.trans (.tok J (J.toks+1)))).kp) (λbv r y=>?_) λ_ _ e=>e;refine aE y.2.cM λtb I=>?_;subst I;refine Mq ?_;exact((R.step y.1).step (.tok ..)).FE F v (.fO _ _) V
theorem CA.Xp:CA A X B (.builtin "isinstance") [.int i,.aJ (.type "tuple")] (.bool ay):=λs E K k r=>by refine kZ (az.nF r) λv u I=>?_;subst I;refine aE r.1.cM λt I=>?_;subst I;obtain rfl:=r.2.1.cS;exact xgI ⟨.tok ..,.AK _⟩
end
section
variable{A:aG}{X:List ah}{B:aB}
noncomputable def uT(F W:List T):List T:=List.zipWith (λt u=>.tup [t,u]) F W
theorem IC.zip2(hh:A.handled=none)(l:bJ X B):IC A X B (.type "zip") [.list Q,.list us] (.Tuple es kk pp) (uT Q us):=λs E vs k r=>by
 refine kZ (az.nF r) λv u q=>?_;subst q;refine cI r.1.d8 λR xs q U p1 C=>?_;subst q;refine cI r.2.1.d8 λI Z q P p2 f=>?_;subst q;refine aE (PlainList.exact p1) λq1 F=>?_;refine aE (PlainList.exact p2) λq2 w=>?_;have M:=dR F;have fc:=dR w;have g:=l.kp k;refine call_zip_2 p1.isList p2.isList λh' J S G d n hsz V=>?_;refine KZ J ?_;have D:ZipApart (s.heap.objs.size+4) (s.heap.objs.size+2) (s.heap.objs.size+3) s.heap.objs.size (s.heap.objs.size+1) R I:=by have U:∀j:Nat,R≠s.heap.objs.size+j:=λj e=>absurd (e▸M:s.heap.objs.size+j<s.heap.objs.size) (tM (e7 _ _));have P:∀j:Nat,I≠s.heap.objs.size+j:=λj e=>absurd (e▸fc:s.heap.objs.size+j<s.heap.objs.size) (tM (e7 _ _));constructor<;>first|exact U _|exact P _|exact U 0|exact P 0|(show¬(_:Nat)=_;lia)
 have up:∀b∈[s.heap.objs.size+4,s.heap.objs.size+2,s.heap.objs.size+3,s.heap.objs.size,s.heap.objs.size+1,R,I],∃o,h'.get? b=some o:=λb m=>by
  simp only[bB,cg,or_false]at m;rcases m with rfl|rfl|rfl|rfl|rfl|rfl|rfl;.exact⟨_,J⟩
  .exact⟨_,S⟩
  .exact⟨_,G⟩
  .refine aH d λo K _=>?_;exact⟨o,K⟩
  .refine aH n λo K _=>?_;exact⟨o,K⟩
  .exact⟨_,V _ _ F⟩
  .exact⟨_,V _ _ w⟩
 have N:∀b∈[s.heap.objs.size+4,s.heap.objs.size+3,s.heap.objs.size,s.heap.objs.size+1],s.heap.get? b=none:=λb m=>by simp only[bB,cg,or_false]at m;rcases m with rfl|rfl|rfl|rfl<;>exact get?_none_of_le (by lia)
 refine⟨.mk' s h' s.toks V,_,[s.heap.objs.size+4,s.heap.objs.size+2,s.heap.objs.size+3,s.heap.objs.size,s.heap.objs.size+1,R,I],[s.heap.objs.size+4,s.heap.objs.size+3,s.heap.objs.size,s.heap.objs.size+1],rfl,up,?_,N,λb m=>?_,λY W hw=>⟨_,gz.Au (λh=>az Y h Q xs.toList/\az Y h us Z.toList) (WalksT.zip2 hh _ _ _ _ _ _ _ D xs Z) ?_ (λh h' r k=>⟨Mine.az.kp k _ _ r.1,Mine.az.kp k _ _ r.2⟩) (λi v t h T c r=>?_) (λi h st=>?_) hw,⟨⟨J,S,⟨_,_,G⟩,d,n,p1.isList.at λo e=>V _ _ e,p2.isList.at λo e=>V _ _ e⟩,?_⟩⟩⟩;.exact dQ (g.above (e7 _ _)) (dQ (g.above (e7 _ _)) (dQ (g.above (e7 _ _)) (dQ (g.above (cR _)) (dQ (g.above (dN _)) (dQ U (dQ P nA))))))
 .simp only[bB,cg,or_false]at m⊢;rcases m with rfl|rfl|rfl|rfl<;>simp
 .rw[uT,List.length_zipWith,<-C.length,<-f.length,dw,dw]
 .refine wu T λx y hx hy q=>?_;try clear T;subst q
  rw[uT,List.getElem?_zipWith]at c;cases H:Q[i]? with|none=>rw[H]at c;simp at c|some a=>cases L:us[i]? with|none=>rw[H,L]at c;simp at c|some b=>rw[H,L]at c;simp at c;refine⟨_,c.symm,?_⟩;exact⟨r.1.get H (by exact O gM hx),r.2.get L (by exact O gM hy),trivial⟩
 .refine Xb st λa1 a2 q z p _=>?_;refine kZ q λ_ _ a3=>?_;refine aH z λo4 a4 _=>?_;refine aH p λo5 a5 _=>?_;exact dQ ⟨_,a1⟩ (dQ ⟨_,a3⟩ (dQ ⟨_,a4⟩ (dQ ⟨_,a5⟩ nA)))
 .exact⟨oh V W N C,oh V W N f⟩
end
structure xr(h:aB)(C N:ah)(j:ai->Option aj):Prop where obj:∃(n q:ai)(z:List aj)(s:List ai)(T:List aj)(i:Bool)(a:Option Bool)(m:Option ah)(H V M r W:Option aj)(b:String),h.get? C=aa (Fd n q C N z [.type "object"] af s T i a m H V M r W b)ns:h.Ns N j
theorem xr.kp(k:Kp h h')(c:xr h C N j):xr h' C N j:=by obtain⟨n,q,z,s,T,d,a,m,H,V,M,r,W,i,e⟩:=c.obj;exact⟨⟨n,q,z,s,T,d,a,m,H,V,M,r,W,i,k _ _ e⟩,c.ns.keeps λb o=>k b o⟩
section
variable{A:aG}{X:List ah}{B:aB}{G:aO}{P:Gm}
theorem wA{h h':aB}(k:Kp h h')(I:h.Inst x C D):h'.Inst x C D:=by refine fU I λo a b c d=>?_;refine⟨o,k _ _ a,b,c,d.imp id λ⟨d,e,f,g⟩=>⟨d,e,f,?_⟩⟩;exact g.keeps λb o=>k b o
theorem EV.xcX{R:aS}(g:EV A G X B o (.aJ (.ref x)))(c:xr B C N j)(I:B.Inst x C D)(h:j "__getattribute__"=ak)(b:j p=ak)(f:jO (.type "object") p=pure ak)(K:D p=aa v)(d:wK v=pure v)(r:Rep X B t v)(L:∀G,aU (.Attribute o p R) G=(do let q<-aU o G;fL R.atName;let r<-ic [q] (HG q p af)Mr o q r;pure r):=by intro _;with_unfolding_all rfl):EV A G X B (.Attribute o p R) t:=λs E k=>by refine xgy (aC (g s E k) (λu U y=>?_) λ_ _ e=>e) (L G);obtain rfl:=y.2.cS;have V:=k.trans y.1.kp;obtain⟨J,q,z,n,sub,l,a,m,H,F,M,w,W,i,e⟩:=(c.kp V).obj;exact load_attr e (c.kp V).ns h b f (wA V I) K d ⟨y.1.trans (.tok ..),Rep.kp (V.bN X) _ _ r⟩
end
section
variable{A:aG}{X:List ah}{B:aB}{G:aO}{P:Gm}
theorem EV.xcY{o e:aT}{D:List aT}{name:ai}{m R:aS}{x C N fa:ah}{L:bR}{fd:eU}{mN l:ai->Option aj}{F:List T}{r:T}{y:Option aj}(W:EV A G X B o (.aJ (.ref x)))(c:xr B C N mN)(I:B.Inst x C l)(h:mN "__getattribute__"=ak)(Y:mN "__getattr__"=ak)(n:mN name=aa (.ref fa))(f:B.get? fa=aa L)(p:L.cls=.type "function")(Q:L.data=.func fd)(hB:jO (.type "object") name=pure y)(g:l name=ak)(S:EL A G X B R (e::D) F)(Z:CA A X B (.ref fa) (.aJ (.ref x)::F) r)(a:autoParam (kG o name G (aU o G)=aU o G) yAR)(hs:autoParam (bq (e::D) G=(ay,aU e G)::bq D G) yAR)(w:((cN R (bq (e::D) G)).all (λx=>!x.1)&&(oj R (nZ [] G)).all (λx=>x.1.isSome)&&decide ((e::D).length+([]:List SD).length+(if([]:List SD).isEmpty then 0 else 1)<30))=af:=by rfl)(d:autoParam ((m.endLine==R.line)=af) yAR):EV A G X B (.Call (.Attribute o name m) (e::D) [] R) r:=λs E k=>by
 refine O (arm_eval_Call ..) (O a ?_);refine aq (aC (W s E k) (λov U b=>?_) λ_ _ e=>e);obtain rfl:=b.2.cS;have V:=k.trans b.1.kp;refine aq (cW ?_);have v:methodCallForm ((e::D).length+([]:List SD).length) (cN R (bq (e::D) G)) (oj R (nZ [] G))=af:=w;have H:methodCallPos af o G m R=pure R:=by unfold methodCallPos;simp[d]
 unfold methodCall;refine O v ?_;obtain⟨nm,q,bs,sn,sub,ab,t,dd,q0,q1,q2,q3,q5,i,K⟩:=(c.kp V).obj;refine aq (dJ (method_of K (c.kp V).ns h Y n (V _ _ f) p hB (wA V I) g ?_));refine aq (wg H ?_);have M:=S U E V;rw[hs]at M⊢;refine Dv (o:=L) (fd:=fd) (mW (aC M (λvs J z=>?_) λ_ _ e=>e));refine⟨⟨V.trans z.1.kp _ _ f,Q⟩,?_⟩;exact aC (Z J E (.ref x::vs) (V.trans z.1.kp) ⟨rfl,z.2⟩) (λc j u=>⟨(b.1.trans z.1).trans u.1,u.2⟩) λ_ _ e=>e
end
section
open PySem.Sre(M)
noncomputable def fX:Nat->M->M|0,m=>m|n+1,m=>fX n m.step
theorem yr{m:M}(h:m.outcome.isSome=af):∀n,fX n m=m
|0=>rfl|n+1=>by
 have e:m.step=m:=by unfold M.step;exact O (if_pos h) rfl
 rw[fX,e,yr h n]
theorem wB(m:M):∀a b,fX (a+b) m=fX b (fX a m)|0,b=>by refine O (jl ..) ?_;rfl|a+1,b=>by rw[Mp,fX,wB _ a b];rfl
theorem KD:∀(n:Nat)(m:M),m.runFor n=fX n m
|0,m=>rfl|n+1,m=>by
 rw[M.runFor];split;.rename_i h;rw[yr h]
 .exact KD n m.step
theorem Xq(K:(fX a m).outcome.isSome=af)(R:(fX b m).outcome.isSome=af):fX a m=fX b m:=by
 refine bz (Nat.le_total a b) (λh=>?_) λh=>?_;.refine aE (Jc h) λc z=>?_;subst z;rw[wB,yr K]
 .refine aE (Jc h) λc z=>?_;subst z;rw[wB,yr R]
theorem xfj(m:M):fX 3 m=m.step.step.step:=rfl
theorem Qg(m:M):fX 4 m=m.step.step.step.step:=rfl
theorem xfk(m:M):fX 9 m=m.step.step.step.step.step.step.step.step.step:=rfl
noncomputable def c1:Array Nat:=#[14,4,0,1,1,6,1,16,46,1]
noncomputable def c2:Array Nat:=#[14,9,4,1,2,16,10,16,13,0,7,7,16,13,16,10,15,18,5,16,10,15,13,11,16,13,5,5,0,16,10,1,15,2,0,1]
def g5(t:Array Nat)(s:Nat)(c:Bool)(d:kJ)(U:Nat):M:={code:=c1,text:=t,lim:=t.size,start:=s,lastStart:=t.size,pc:=5,pos:=s,handed:=U,outermost:=c,marks:=#[],frames:=[{wait:=.nextStart,pc:=5,pos:=s,outermost:=c}],weight:=1,seen:=d}
theorem yt(t:Array Nat)(s:Nat)(c:Bool)(d:kJ)(U:Nat):(g5 t s c d U).step=if s==0||t.getD (s-1) 0==10then{g5 t s c ((d.add 6).add 44) U with pc:=7}else{g5 t s c ((d.add 6).add 44) U with answer:=aa ay}:=rfl
theorem Zs(t:Array Nat)(s:Nat)(c:Bool)(d:Sre.Seen)(U:Nat)(h:s<t.size)(Z:t.getD s 0=46):({g5 t s c d U with pc:=7}:M).step={g5 t s c (d.add 16) U with pc:=9,pos:=s+1}:=by
 have e:Sre.accepts c1 7 (t.getD s 0) (d.add 16)=.ok (af,d.add 16):=by refine O Z ?_;rfl
 show(if s>=t.size then _ else match Sre.accepts c1 7 (t.getD s 0) (d.add 16)with|.error i=>_|.ok (ay,d)=>_|.ok (af,d)=>_)=_;refine O (if_neg (zY h)) (O e ?_);rfl
theorem NV(t:Array Nat)(s:Nat)(c:Bool)(d:Sre.Seen)(U:Nat)(Z:s<t.size->t.getD s 0≠46):({g5 t s c d U with pc:=7}:M).step={g5 t s c (d.add 16) U with pc:=7,answer:=aa ay}:=by
 by_cases h:s<t.size
 .have e:Sre.accepts c1 7 (t.getD s 0) (d.add 16)=.ok (ay,d.add 16):=by show Except.ok (t.getD s 0==46,_)=_;exact O (beq_false_of_ne (Z h)) rfl
  show(if s>=t.size then _ else match Sre.accepts c1 7 (t.getD s 0) (d.add 16)with|.error i=>_|.ok (ay,d)=>_|.ok (af,d)=>_)=_;refine O (if_neg (zY h)) (O e ?_);rfl
 .show(if s>=t.size then _ else _)=_;refine O (if_pos (qw h)) ?_;rfl
theorem Zt(t:Array Nat)(s:Nat)(c:Bool)(d:kJ)(U:Nat):∃m,fX 3 ({g5 t s c d U with pc:=9,pos:=s+1}:M)=m/\m.outcome=aa .matched/\m.start=s/\m.handed=s+1:=by refine⟨_,rfl,?_,?_,?_⟩<;>cases c<;>rfl
theorem NW(t:Array Nat)(s:Nat)(c:Bool)(d:kJ)(U x:Nat)(h:s<t.size):({g5 t s c d U with pc:=x,answer:=aa ay}:M).step=g5 t (s+1) ay d (s+1):=by show(if s<t.size then _ else _)=_;refine O (if_pos h) ?_;rfl
theorem Lc(t:Array Nat)(s:Nat)(c:Bool)(d:kJ)(U x:Nat)(h:¬s<t.size):∃m,fX 2 ({g5 t s c d U with pc:=x,answer:=aa ay}:M)=m/\m.outcome=aa .failed:=by
 have e:({g5 t s c d U with pc:=x,answer:=aa ay}:M).step=({g5 t s c d U with frames:=[],weight:=0,answer:=aa ay}:M):=by show(if s<t.size then _ else _)=_;refine O (if_neg h) ?_;rfl
 refine⟨_,rfl,?_⟩;rw[fX,e];rfl
def sP(t:Array Nat)(s:Nat):Bool:=(s==0||t.getD (s-1) 0==10)&&t.getD s 0==46
section
variable{P:Nat->Bool}{en:Nat->Nat}{n s:Nat}
def w5(P:Nat->Bool)(en:Nat->Nat)(n:Nat):Nat->Option (Nat×Nat):=n.rec (λ_=>ak) λ_ i s=>if P s=af then aa (s,en s)else i (s+1)
theorem DZ(h:P s=af):w5 P en (n+1) s=aa (s,en s):=if_pos h
theorem Aw(h:P s=ay):w5 P en (n+1) s=w5 P en n (s+1):=if_neg (h▸qq)
theorem Ld(H:∀s,s<z->P s=true->s<en s/\en s<=z):∀s,n+s=z->w5 P en n s=aa (b,e)->s<=b/\b<e/\e<=z:=by induction n with|zero=>exact λs h q=>nomatch(q:ak=aa (b,e))|succ n G=>intro s h q;cases c:P s with|true=>have q:=L4 (nR ((DZ c).symm.trans q));have k:=H s (u5 h) c;exact⟨di q.1,q.1▸q.2▸k.1,q.2▸k.2⟩|false=>have k:=G (s+1) ((rD n s).symm.trans h) ((Aw c).symm.trans q);exact⟨nN k.1,k.2⟩
end
abbrev r9(t:Array Nat):=w5 (sP t) (·+1)
noncomputable def xbb(m:M)(r:Option (Nat×Nat)):Prop:=match r with|none=>m.outcome=aa .failed|aa (b,e)=>m.outcome=aa .matched/\m.start=b/\m.handed=e
noncomputable def Ends(m:M)(K:Nat)(r:Option (Nat×Nat)):Prop:=∃k,k<=K/\xbb (fX k m) r
theorem Ends.step{m m':M}{K j:Nat}{r:Option (Nat×Nat)}(h:fX j m=m')(e:Ends m' K r):Ends m (j+K) r:=by refine aH e λk N x=>?_;exact⟨j+k,iy N _,by exact O (wB ..) (O h x)⟩
theorem Ends.mono{m:M}{K L:Nat}{r:Option (Nat×Nat)}(e:Ends m K r)(h:K<=L):Ends m L r:=by refine aH e λk N x=>?_;exact⟨k,bf N h,x⟩
theorem Gy(t:Array Nat):∀(n s:Nat)(c:Bool)(d:kJ)(U:Nat),n+s=t.size->Ends (g5 t s c d U) (3*n+6) (r9 t n s)
|0,s,c,d,U,h=>by
 have W:¬s<t.size:=rS.mpr (di ((jl s).symm.trans h).symm);rcases e:s==0||t.getD (s-1) 0==10with _|_;.refine aH (Lc t s c ((d.add 6).add 44) U 5 W) λm C J=>?_;refine(Ends.step (j:=1) (K:=2) (m':={g5 t s c ((d.add 6).add 44) U with pc:=5,answer:=aa ay}) ?_ ⟨2,gA _,by exact O C J⟩).mono (gQ _ _);show(g5 t s c d U).step=_;refine O (yt ..) (O e ?_);rfl
 .refine aH (Lc t s c (((d.add 6).add 44).add 16) U 7 W) λm C J=>?_;refine(Ends.step (j:=2) (K:=2) (m':={g5 t s c (((d.add 6).add 44).add 16) U with pc:=7,answer:=aa ay}) ?_ ⟨2,gA _,by exact O C J⟩).mono (gQ _ _);show(g5 t s c d U).step.step=_;exact O (yt ..) (O e (NV t s c _ U λq=>absurd q W))|n+1,s,c,d,U,h=>by
 have W:s<t.size:=u5 h;rcases e:s==0||t.getD (s-1) 0==10with _|_;.have x:=Gy t n (s+1) ay ((d.add 6).add 44) (s+1) (i6 (jP (i6 h) (jJ _ _ _)));have a:r9 t (n+1) s=r9 t n (s+1):=Aw (by unfold sP;rw[e];rfl);refine O a ?_;refine(Ends.step (j:=2) ?_ x).mono (jv (jk _ _) (dN _));show(g5 t s c d U).step.step=_;exact O (yt ..) (O e (NW t s c _ U 5 W))
 .by_cases b:t.getD s 0=46;.refine fU (Zt t s c (((d.add 6).add 44).add 16) U) λm C J R Y=>?_;have a:r9 t (n+1) s=aa (s,s+1):=DZ (by unfold sP;rw[e,b];rfl);refine O a ?_;refine(Ends.step (j:=2) (K:=3) ?_ ⟨3,gA _,by exact O C ⟨J,R,Y⟩⟩).mono (gQ _ _);show(g5 t s c d U).step.step=_;exact O (yt ..) (O e (Zs t s c _ U W b))
  .have x:=Gy t n (s+1) ay (((d.add 6).add 44).add 16) (s+1) (i6 (jP (i6 h) (jJ _ _ _)));have a:r9 t (n+1) s=r9 t n (s+1):=Aw (by unfold sP;rw[beq_false_of_ne b,KY]);refine O a ?_;refine(Ends.step (j:=3) ?_ x).mono (di (jk _ _));show(g5 t s c d U).step.step.step=_;refine O (yt ..) (O e ?_);have:=NV t s c ((d.add 6).add 44) U λ_=>b;show({g5 t s c ((d.add 6).add 44) U with pc:=7}:M).step.step=_;exact O this (NW t s c _ U 7 W)
theorem Zu(t:Array Nat)(s:Nat)(h:s<=t.size):Ends (rM c1 t 0 s t.size ay) (3*(t.size-s)+6) (r9 t (t.size-s) s):=by
 by_cases e:s<t.size
 .have x:=Gy t (t.size-s) s af (({}:kJ).add 14) s (qt (eB e));have:rM c1 t 0 s t.size ay=g5 t s af (({}:kJ).add 14) s:=by show(if(decide (s>t.size)||decide (t.size-s<1))=af then _ else _)=_;refine O (if_neg (by simp;exact iR (eB e) (Jl e))) ?_;rfl
  exact O this x
 .have e:t.size-s=0:=zM (qw e);refine O e ?_;refine⟨1,gQ _ _,?_⟩;obtain⟨m,Q,g⟩:∃m,rM c1 t 0 s t.size ay=m/\m.step.outcome=aa .failed:=by refine⟨_,if_pos (by show(decide (s>t.size)||decide (t.size-s<1))=af;simp;exact Or.inr e),rfl⟩
  exact O Q g
def st2(t:Array Nat)(s x R U:Nat)(K:List OA)(b:Nat)(a:Bool)(c:Option Bool)(d:kJ):M:={code:=c2,text:=t,lim:=t.size,start:=s,lastStart:=t.size,pc:=x,pos:=R,handed:=U,outermost:=a,marks:=#[],frames:=K,weight:=b,answer:=c,seen:=d}
noncomputable abbrev lA(s b:Nat)(a:Bool):List OA:=[{wait:=.nextBranch,pc:=b,pos:=s,outermost:=a},{wait:=.nextStart,pc:=10,pos:=s,outermost:=a}]
noncomputable def lT(x f c:Nat):Prop:=∀t s a U d e b tB,(st2 t s x a U e d b ak tB).step=if t.size<=a then st2 t s x a U e d b (aa ay) (tB.add 16)else bif t.getD a 0==c then st2 t s f (a+1) U e d b ak (tB.add 16)else st2 t s x a U e d b (aa ay) (tB.add 16)
section
variable{x f c s R U b:Nat}{t:Array Nat}{K:List OA}{a:Bool}{d:kJ}
theorem lT.yes(l:lT x f c)(h:R<t.size)(Z:t.getD R 0=c):(st2 t s x R U K b a ak d).step=st2 t s f (R+1) U K b a ak (d.add 16):=(l ..).trans (O (if_neg (zY h)) (O Z (O (beq_self_eq_true c) rfl)))
theorem lT.no(l:lT x f c)(Z:R<t.size->t.getD R 0≠c):(st2 t s x R U K b a ak d).step=st2 t s x R U K b a (aa ay) (d.add 16):=(l ..).trans (ite_eq_left_iff.mpr λh=>O (beq_false_of_ne (Z (xar h))) rfl)
end
theorem Im:lT 12 14 13:=by unfold lT;intros;kernel_rfl
theorem R2:lT 14 16 10:=by unfold lT;intros;kernel_rfl
theorem R3:lT 19 21 10:=by unfold lT;intros;kernel_rfl
theorem l24:lT 24 26 13:=by unfold lT;intros;kernel_rfl
theorem iJ:lT 29 31 10:=by unfold lT;intros;kernel_rfl
noncomputable def qn(c:Nat):Bool:=c==10||c==13
theorem xfl(c:Nat)(d:kJ):∃a,Sre.inSet c2 c c2.size 5 af d=.ok (qn c,a):=by
 by_cases h:c=10;.subst h;exact⟨_,rfl⟩
 .by_cases h':c=13;.subst h';exact⟨_,rfl⟩
  .refine⟨((d.add 16).add 16).add 0,?_⟩;show(if(c==10)=af then _ else if(c==13)=af then _ else _)=_;rw[qn,beq_false_of_ne h,beq_false_of_ne h'];rfl
def endAt(t:Array Nat)(s:Nat):Nat:=if t.getD s 0==13&&decide (s+1<t.size)&&t.getD (s+1) 0==10 then s+2 else s+1
def xfm(t:Array Nat)(s:Nat):Bool:=qn (t.getD s 0)
abbrev se(t:Array Nat):=w5 (xfm t) (endAt t)
theorem Gz(t:Array Nat)(s p U b:Nat)(c:Bool)(d:kJ):Ends (st2 t s 35 p U (lA s b c) 2 c ak d) 4 (aa (s,p)):=by
 have H:(st2 t s 35 p U (lA s b c) 2 c ak d).step=st2 t s 35 p p (lA s b c) 2 c (aa af) (d.add 1):=by cases c<;>rfl
 have L:(st2 t s 35 p p (lA s b c) 2 c (aa af) (d.add 1)).step=st2 t s b s p [{wait:=.nextStart,pc:=10,pos:=s,outermost:=c}] 1 c (aa af) (d.add 1):=rfl;have g:(st2 t s b s p [{wait:=.nextStart,pc:=10,pos:=s,outermost:=c}] 1 c (aa af) (d.add 1)).step=st2 t s 10 s p [] 0 c (aa af) (d.add 1):=rfl;refine⟨4,gA _,?_⟩;exact O (Qg ..) (O H (O L (O g ⟨rfl,rfl,rfl⟩)))
theorem xfn(t:Array Nat)(s:Nat)(c:Bool)(d:kJ)(h:s<t.size)(Z:qn (t.getD s 0)=af):Ends (st2 t s 10 s s [{wait:=.nextStart,pc:=10,pos:=s,outermost:=c}] 1 c ak d) 20 (aa (s,endAt t s)):=by
 have i:(st2 t s 10 s s [{wait:=.nextStart,pc:=10,pos:=s,outermost:=c}] 1 c ak d).step=st2 t s 12 s s (lA s 11 c) 2 c ak (d.add 7):=rfl;by_cases f:t.getD s 0=13
 .by_cases g:s+1<t.size/\t.getD (s+1) 0=10
  .have e:endAt t s=s+2:=by rw[endAt,f,g.2,decide_eq_true g.1];rfl
   rw[e];refine(Ends.step (j:=3) (K:=5) (m':=st2 t s 16 (s+2) s (lA s 11 c) 2 c ak (((d.add 7).add 16).add 16)) ?_ (Ends.step (j:=1) (K:=4) (by rfl) (Gz t s (s+2) s 11 c _))).mono (gQ _ _);.rw[xfj,i,Im.yes h f,R2.yes g.1 g.2]
  .have e:endAt t s=s+1:=by rw[endAt,if_neg];simp only[dZ,decide_eq_true_eq,beq_iff_eq];exact λx=>g ⟨x.1.2,x.2⟩
   rw[e];have k:s+1<t.size->t.getD (s+1) 0≠10:=λa b=>g ⟨a,b⟩;have n:(st2 t s 14 (s+1) s (lA s 11 c) 2 c (aa ay) (((d.add 7).add 16).add 16)).step=st2 t s 19 s s (lA s 18 c) 2 c ak (((d.add 7).add 16).add 16):=rfl;have q:(st2 t s 19 s s (lA s 18 c) 2 c (aa ay) ((((d.add 7).add 16).add 16).add 16)).step=st2 t s 24 s s (lA s 23 c) 2 c ak ((((d.add 7).add 16).add 16).add 16):=rfl;have E:(st2 t s 26 (s+1) s (lA s 23 c) 2 c ak (((((d.add 7).add 16).add 16).add 16).add 16)).step=st2 t s 29 (s+1) (s+1) [{wait:=.lookNot,pc:=26,pos:=s+1,outermost:=c},{wait:=.nextBranch,pc:=23,pos:=s,outermost:=c},{wait:=.nextStart,pc:=10,pos:=s,outermost:=c}] 3 ay ak ((((((d.add 7).add 16).add 16).add 16).add 16).add 5):=rfl;refine(Ends.step (j:=9) (K:=6) (m':=st2 t s 29 (s+1) (s+1) [{wait:=.lookNot,pc:=26,pos:=s+1,outermost:=c},{wait:=.nextBranch,pc:=23,pos:=s,outermost:=c},{wait:=.nextStart,pc:=10,pos:=s,outermost:=c}] 3 ay (aa ay) (((((((d.add 7).add 16).add 16).add 16).add 16).add 5).add 16)) ?_ (Ends.step (j:=1) (K:=5) (m':=st2 t s 32 (s+1) (s+1) (lA s 23 c) 2 c ak _) (by rfl) (Ends.step (j:=1) (K:=4) (by rfl) (Gz t s (s+1) (s+1) 23 c _)))).mono (gQ _ _);.rw[xfk,i,Im.yes h f,R2.no k,n,R3.no λ_=>gb (u5 (i6 f)),q,l24.yes h f,E,iJ.no k]
 .have j:t.getD s 0=10:=by simp only[qn,yb,beq_iff_eq]at Z;exact Z.resolve_right f
  have e:endAt t s=s+1:=by rw[endAt,if_neg];simp only[dZ,decide_eq_true_eq,beq_iff_eq];exact λx=>f x.1.1
  rw[e];have n:(st2 t s 12 s s (lA s 11 c) 2 c (aa ay) ((d.add 7).add 16)).step=st2 t s 19 s s (lA s 18 c) 2 c ak ((d.add 7).add 16):=rfl;refine(Ends.step (j:=4) (K:=5) (m':=st2 t s 21 (s+1) s (lA s 18 c) 2 c ak (((d.add 7).add 16).add 16)) ?_ (Ends.step (j:=1) (K:=4) (by rfl) (Gz t s (s+1) s 18 c _))).mono (gQ _ _);.rw[Qg,i,Im.no λ_=>f,n,R3.yes h j]
theorem Qh{m:M}{t:Array Nat}(Z:m.code=c2)(c:m.text=t)(V:m.lim=t.size):∀(n s:Nat)(d:kJ),n+s=t.size->∃a,M.admitted m (n+1) s d=.ok ((se t n s).map (·.1),a)/\∀b e,se t n s=aa (b,e)->b<t.size/\qn (t.getD b 0)=true/\e=endAt t b|0,s,d,h=>⟨d,by rw[M.admitted,if_pos (di (V.trans ((jl s).symm.trans h).symm))];rfl,λb e q=>by cases q⟩|n+1,s,d,h=>by refine aE (xfl (t.getD s 0) d) λa e=>?_;rw[M.admitted,if_neg (zY (jq V (u5 h))),Z,c,e];cases q:qn (t.getD s 0)with|true=>have I:se t (n+1) s=aa (s,endAt t s):=DZ q;refine⟨a,by rw[I];rfl,λb e x=>?_⟩;have x:=L4 (nR (I.symm.trans x));exact⟨x.1▸u5 h,x.1▸q,x.1▸x.2.symm⟩|false=>refine aH (Qh Z c V n (s+1) a (i6 (jP (i6 h) (jJ _ _ _)))) λs2 L g=>?_;have I:se t (n+1) s=se t n (s+1):=Aw q;rw[I];exact⟨s2,L,g⟩
theorem Zv(t:Array Nat)(s:Nat)(h:s<=t.size):Ends (rM c2 t 0 s t.size ay) 20 (se t (t.size-s) s):=by
 by_cases e:s<t.size
 .obtain⟨m,Q,Z,g,V,W⟩:∃m:M,rM c2 t 0 s t.size ay=(match M.admitted m (t.size+1-s) s (({}:kJ).add 14)with|.ok (some b,tB)=>st2 t b 10 b b [{wait:=.nextStart,pc:=10,pos:=b,outermost:=af}] 1 af none tB|.ok (none,tB)=>{m with seen:=tB}.say ay|.error i=>m.stick i)/\m.code=c2/\m.text=t/\m.lim=t.size/\m.frames=[]/\m.outcome=none:=by refine⟨_,if_neg (by show¬(decide (s>t.size)||decide (t.size-s<1))=af;simp;exact iR (eB e) (Jl e)),rfl,rfl,rfl,rfl,rfl⟩
  refine aH (Qh Z g V (t.size-s) s (({}:kJ).add 14) (qt h)) λa H L=>?_;refine O Q (O (Nat.succ_sub h) (O H ?_));cases q:se t (t.size-s) s with|none=>refine⟨1,gQ _ _,?_⟩;show(M.step _).outcome=some .failed;unfold M.step;show(if m.outcome.isSome=af then _ else _:M).outcome=_;refine O W.2 ?_;show(match(some ay:Option Bool),m.frames with|some d,[]=>_|some d,f::u=>_|none,_=>_:M).outcome=_;refine O W.1 ?_;rfl|some p=>obtain⟨b,c⟩:=p;refine gW (L b c q) λC J R=>?_;rw[R];exact xfn t b af a C J
 .have e:t.size-s=0:=zM (qw e);refine O e ?_;refine⟨1,gQ _ _,?_⟩;obtain⟨m,Q,j⟩:∃m,rM c2 t 0 s t.size ay=m/\m.step.outcome=some .failed:=by refine⟨_,if_pos (by show(decide (s>t.size)||decide (t.size-s<1))=af;simp;exact Or.inr e),rfl⟩
  exact O Q j
end
noncomputable abbrev PL:ah:=238
abbrev h1:aB:=MineH.H1 w.params
def hH:aB:=kQ h1 [PL]
theorem kj(e:h1.get? a=aa o)(n:autoParam (a∉[PL]) yAD):hH.get? a=aa o:=rR _ e n
noncomputable def fdOf(o:bR):eU:=match o.data with|.func f=>f|_=>default
noncomputable def qd(o:bR):Array aj:=match o.data with|.fields f=>f|_=>#[]
def Qi(o:bR):Nat:=match((qd o)[1]?:Option aj)with|aa (.str _ t)=>t|_=>0
def Qj(M:c6)(ps:List ai):Bool:=ps.all (λx=>match(d9 M).names.lookup x with|aa .local=>af|aa .cell=>af|_=>ay)&&i7 ps&&i7 ((d9 M).names.map (·.1))&&(d9 M).kind==.function&&!(d9 M).isCoroutine&&!(d9 M).isGenerator
theorem R4:hH.NoLimit:=⟨_,.of_isNs (by kernel_rfl),by kernel_rfl⟩
def R5(a c:ah)(M:c6)(ps:List ai)(o r:bR):=(h1.get? a,h1.get? c,o.data,r.data,(qd r)[1]?,Qj M ps,QK a 238,QK c 238)
def R6(c:ah)(M:c6)(o r:bR):=(aa o,aa r,Data.func (ql M (fdOf o).name (fdOf o).qualname (fdOf o).pyModule (.ref c)),Data.fields (qd r),aa (Fe (fdOf o).qualname (Qi r)),af,ay,ay)
def qT(M:c6)(n q:ai)(D i:aj):=((ql M n q D i).qualname,(ql M n q D i).code,(ql M n q D i).body,(ql M n q D i).closure,(ql M n q D i).scope)
def qU(M:c6)(n q:ai)(D i:aj):=(q,i,FuncBody.stmts (bodyOf M),([]:List (ai×ah)),d9 M)
abbrev bT(M:c6)(n q:ai)(D i:aj)(l:List aj):=GW (ql M n q D i) ⟨l,[]⟩
noncomputable abbrev bU(ps:List ai)(l:List aj):bh (List (ai×aj)):=pure (ps.zip l)
noncomputable abbrev wQ(M:c6)(ps:List ai):Prop:=∀n q D code J,J.length=ps.length->bT M n q D code J=bU ps J
theorem yZ{l:List aj}(h:l.length=0):l=[]:=List.length_eq_zero_iff.mp h
section
variable{M:c6}{x y z u:ai}
theorem b0(h:autoParam ((λn q D i=>bT M n q D i [])=λ_ _ _ _=>bU [] []) yAK):wQ M []:=λn q D i J e=>by exact O (yZ e) (congrFun (congrFun (congrFun (congrFun h n) q) D) i)
theorem b1(h:autoParam ((λn q D i a=>bT M n q D i [a])=λ_ _ _ _ a=>bU [x] [a]) yAK):wQ M [x]:=λn q D i J e=>by refine eK (jW e) λa _ k H=>?_;subst k;exact O (yZ H) (congrFun (congrFun (congrFun (congrFun (congrFun h n) q) D) i) a)
theorem b2(h:autoParam ((λn q D i a b=>bT M n q D i [a,b])=λ_ _ _ _ a b=>bU [x,y] [a,b]) yAK):wQ M [x,y]:=λn q D i J e=>by refine eK (jW e) λa _ k H=>?_;subst k;refine eK (jW H) λb _ k L=>?_;subst k;exact O (yZ L) (congrFun (congrFun (congrFun (congrFun (congrFun (congrFun h n) q) D) i) a) b)
theorem b3(h:autoParam ((λn q D i a b c=>bT M n q D i [a,b,c])=λ_ _ _ _ a b c=>bU [x,y,z] [a,b,c]) yAK):wQ M [x,y,z]:=λn q D i J e=>by refine eK (jW e) λa _ k H=>?_;subst k;refine eK (jW H) λb _ k L=>?_;subst k;refine eK (jW L) λc _ k g=>?_;subst k;exact O (yZ g) (congrFun (congrFun (congrFun (congrFun (congrFun (congrFun (congrFun h n) q) D) i) a) b) c)
theorem b4(h:autoParam ((λn q D i a b c d=>bT M n q D i [a,b,c,d])=λ_ _ _ _ a b c d=>bU [x,y,z,u] [a,b,c,d]) yAK):wQ M [x,y,z,u]:=λn q D i J e=>by refine eK (jW e) λa _ k H=>?_;subst k;refine eK (jW H) λb _ k L=>?_;subst k;refine eK (jW L) λc _ k g=>?_;subst k;refine eK (jW g) λd _ k l=>?_;subst k;exact O (yZ l) (congrFun (congrFun (congrFun (congrFun (congrFun (congrFun (congrFun (congrFun h n) q) D) i) a) b) c) d)
end
theorem O6(h:QK a 238=ay):a∉[PL]:=λm=>Nat.ne_of_beq_eq_false h (aX.mp m)
def jj(M:c6)(o:bR)(c:ah):eU:=ql M (fdOf o).name (fdOf o).qualname (fdOf o).pyModule (.ref c)
theorem jC{a c:ah}{M:c6}{ps:List ai}(o r:bR)(R:wQ M ps)(h:autoParam (R5 a c M ps o r=R6 c M o r) yAK)(B:autoParam (qT M=qU M) yAK):FnAt hH a (jj M o c) (bodyOf M) ps:=by
 unfold jj;unfold R5 R6 at h;simp only[YZ]at h;refine U7 h λe X d i K D j f=>?_;have B:=congrFun (congrFun (congrFun (congrFun B (fdOf o).name) (fdOf o).qualname) (fdOf o).pyModule) (.ref c);unfold qT qU at B;simp only[YZ]at B;refine qH B λI N p g t=>?_;simp only[Qj,dZ,tH,beq_iff_eq]at D;refine aW D λk l=>?_;refine aW k λn Z=>?_;obtain⟨⟨⟨c1,c2⟩,b⟩,u⟩:=n;refine⟨⟨o,kj e (O6 j),d⟩,⟨c,r,qd r,Qi r,N,kj X (O6 f),i,by exact O I K⟩,R4,p,g,R _ _ _ _,λx m=>?_,c2,by exact O t b,by exact O t u,by exact O t Z,by exact O t l⟩;have:=cj.mp c1 x m;refine O t ?_;split at this;.rename_i e;exact .inl e
 .rename_i e;exact .inr e
 .cases this
def lK(p:dz)(i j:Nat):c6:=sN (bodyOf (aP p i)) j
abbrev fn3:eU:=jj (aP PW 3) (MineH.Gr PW) 65
abbrev zv:eU:=jj (aP PW 4) (MineH.Gs PW) 72
abbrev fn5:eU:=jj (aP PW 5) (MineH.Gu PW) 79
abbrev xfo:eU:=jj (aP PW 14) (MineH.Fl PW) 166
abbrev xfp:eU:=jj (aP PW 17) (MineH.Fo PW) 184
abbrev xfq:eU:=jj (aP PW 19) (MineH.Fp PW) 230
abbrev xfr:eU:=jj (aP PW 21) (MineH.Fq PW) 235
abbrev BZ:eU:=jj (aP PW 23) (MineH.Ft PW) 245
abbrev qe:eU:=jj (aP PW 24) (MineH.Fv PW) 250
abbrev Qk:eU:=jj (aP PW 25) (MineH.Fw PW) 255
abbrev B0:eU:=jj (aP PW 26) (MineH.Fx PW) 260
abbrev B3:eU:=jj (aP PW 27) (MineH.Fy PW) 265
abbrev xcZ:eU:=jj (lK PW 12 0) (MineH.A2 PW) 135
abbrev xda:eU:=jj (lK PW 13 0) (MineH.A3 PW) 154
abbrev xfs:eU:=jj (lK PW 2 0) (MineH.yW PW) 44
abbrev xft:eU:=jj (lK PW 2 1) (MineH.uA PW) 51
abbrev Hs:eU:=jj (aP PW 22) (MineH.A5 PW) 240
theorem GA:FnAt hH 66 fn3 (bodyOf (aP PW 3)) ["target","source"]:=jC (MineH.Gr PW) MineH.OI b2
theorem GC:FnAt hH 73 zv (bodyOf (aP PW 4)) ["target","source"]:=jC (MineH.Gs PW) MineH.OJ b2
theorem GD:FnAt hH 80 fn5 (bodyOf (aP PW 5)) ["callers"]:=jC (MineH.Gu PW) MineH.OL b1
theorem NX:FnAt hH 167 xfo (bodyOf (aP PW 14)) ["data"]:=jC (MineH.Fl PW) MineH.Nx b1
theorem NY:FnAt hH 185 xfp (bodyOf (aP PW 17)) ["code"]:=jC (MineH.Fo PW) MineH.Ny b1
theorem NZ:FnAt hH 231 xfq (bodyOf (aP PW 19)) ["code"]:=jC (MineH.Fp PW) MineH.Nz b1
theorem N1:FnAt hH 236 xfr (bodyOf (aP PW 21)) ["mail"]:=jC (MineH.Fq PW) MineH.NC b1
theorem N2:FnAt hH 246 BZ (bodyOf (aP PW 23)) ["wishes","typed","names","turn"]:=jC (MineH.Ft PW) MineH.ND b4
theorem N3:FnAt hH 251 qe (bodyOf (aP PW 24)) ["wishes"]:=jC (MineH.Fv PW) MineH.NF b1
theorem N4:FnAt hH 256 Qk (bodyOf (aP PW 25)) []:=jC (MineH.Fw PW) MineH.NG b0
theorem N5:FnAt hH 261 B0 (bodyOf (aP PW 26)) ["rank","cycles"]:=jC (MineH.Fx PW) MineH.NH b2
theorem xbc:FnAt hH 266 B3 (bodyOf (aP PW 27)) ["script"]:=jC (MineH.Fy PW) MineH.NI b1
theorem Zw:FnAt hH 136 xcZ (bodyOf (lK PW 12 0)) ["self","code","msg","sender"]:=jC (MineH.A2 PW) MineH.Nu b4
theorem Zx:FnAt hH 155 xda (bodyOf (lK PW 13 0)) ["self","recipients"]:=jC (MineH.A3 PW) MineH.Nv b2
theorem xbd:FnAt hH 45 xfs (bodyOf (lK PW 2 0)) ["self","comp_select_list"]:=jC (MineH.yW PW) MineH.OG b2
theorem xbe:FnAt hH 52 xft (bodyOf (lK PW 2 1)) ["self","left","right"]:=jC (MineH.uA PW) MineH.OH b3
theorem N6:FnAt hH 241 Hs (bodyOf (aP PW 22)) ["value","who","names"]:=jC (MineH.A5 PW) MineH.wL b3
noncomputable def gq(x:ai)(v:aj):ai×T:=(x,.aJ v)
def sZ(s:String):=gq s (.builtin s)
def xJ(s:String):=gq s (.type s)
def iM(s:String)(n:Nat):=gq s (.ref n)
def xfu:List (ai×T):=[sZ "isinstance",xJ "tuple",xJ "range",xJ "list",xJ "int",sZ "len"]
def xfv:List (ai×T):=[sZ "min",sZ "sum",sZ "chr",sZ "ord",sZ "abs",sZ "sorted"]
def xfw:List (ai×T):=[xJ "enumerate",xJ "zip",iM "TupleComp" 55,iM "add_func_stats" 66,iM "add_callers" 73,iM "count_calls" 80]
def xfx:List (ai×T):=[iM "_twin_re_1" 85,iM "_twin_re_2" 90,iM "SMTPException" 100,iM "SMTPResponseException" 120,iM "SMTPSenderRefused" 139,iM "SMTPRecipientsRefused" 158]
def xfy:List (ai×T):=[iM "quotedata" 167,iM "b1_set" 175,iM "in_table_b1" 185,iM "b3_exceptions" 186,iM "map_table_b3" 231,iM "_law_name" 236]
def xfz:List (ai×T):=[iM "_law_wishes" 241,iM "_law_run" 246,iM "_law_rounds" 251,iM "_law_cycles" 256,iM "_law_firm" 261]
def R7:List (ai×T):=("CRLF",.str "\r\n")::(xfu++xfv++xfw++xfx++xfy++xfz)
noncomputable def G0:Gm:=λx=>R7.lookup x
noncomputable abbrev GB(s:String):Prop:=G0 s=aa (.aJ (.builtin s))
noncomputable abbrev GT(s:String):Prop:=G0 s=aa (.aJ (.type s))
noncomputable abbrev GR(s:String)(n:Nat):Prop:=G0 s=aa (.aJ (.ref n))
noncomputable def R8(h:aB)(p:ai×T):Bool:=match p.2 with
|.aJ v=>decide (h.nsMap 3 p.1=aa v)||(h.nsMap 3 p.1).isNone&&decide (h.nsMap 0 p.1=aa v)|.str y=>match h.nsMap 3 p.1 with|aa (Fe z _)=>z==y|_=>ay
|_=>ay
theorem JO:∀{l:List (ai×T)},l.lookup x=aa t->(x,t)∈l
|[],h=>by cases h|(y,u)::r,h=>by
 rw[Dp]at h;split at h;.rename_i q;cases h;exact O (beq_iff_eq.mp q) (.head _)
 .exact .tail _ (JO h)
theorem Ck:hH.isNs 3=af:=by kernel_rfl
theorem R9:hH.isNs 0=af:=by kernel_rfl
theorem xfA:R7.all (R8 hH)=af:=by kernel_rfl
theorem rz:GX hH 3 0 G0:=by refine oi (JW Ck) λE _ _ g _=>?_;refine oi (JW R9) λd _ _ B _=>?_;refine⟨⟨E,g⟩,⟨d,B⟩,λx t e=>?_⟩;have c:=cj.mp xfA _ (JO e);unfold R8 at c;cases t with
|aJ v=>simp only[yb,dZ,decide_eq_true_eq,TX]at c;exact⟨v,λ_ _=>.ie _,_,.of_isNs Ck,c.imp id λ⟨c1,c2⟩=>⟨c1,_,.of_isNs R9,c2⟩⟩|str y=>
 dsimp only at c;split at c;.rename_i z u q;replace c:=beq_iff_eq.mp c;subst c;exact⟨_,λ_ _=>⟨_,rfl⟩,_,.of_isNs Ck,.inl q⟩
 .cases c|_=>cases c
theorem Dj:GB "isinstance":=by kernel_rfl
theorem Zy:GT "tuple":=by kernel_rfl
theorem iZ:GT "range":=by kernel_rfl
theorem N7:GT "list":=by kernel_rfl
theorem xha:GT "int":=by kernel_rfl
theorem GF:GB "len":=by kernel_rfl
theorem xhb:GB "min":=by kernel_rfl
theorem xhc:GB "sum":=by kernel_rfl
theorem xhd:GB "chr":=by kernel_rfl
theorem O7:GB "ord":=by kernel_rfl
theorem xdb:GB "abs":=by kernel_rfl
theorem Le:GB "sorted":=by kernel_rfl
theorem Aa:GT "enumerate":=by kernel_rfl
theorem xdc:GT "zip":=by kernel_rfl
theorem UD:GR "TupleComp" 55:=by kernel_rfl
theorem SS:GR "add_func_stats" 66:=by kernel_rfl
theorem TA:GR "add_callers" 73:=by kernel_rfl
theorem xgB:GR "count_calls" 80:=by kernel_rfl
theorem UE:GR "_twin_re_1" 85:=by kernel_rfl
theorem UG:GR "_twin_re_2" 90:=by kernel_rfl
theorem S4:GR "SMTPException" 100:=by kernel_rfl
theorem SG:GR "SMTPResponseException" 120:=by kernel_rfl
theorem CJ:GR "SMTPSenderRefused" 139:=by kernel_rfl
theorem IP:GR "SMTPRecipientsRefused" 158:=by kernel_rfl
theorem UH:GR "quotedata" 167:=by kernel_rfl
theorem Xr:GR "b1_set" 175:=by kernel_rfl
theorem TF:GR "in_table_b1" 185:=by kernel_rfl
theorem S5:GR "b3_exceptions" 186:=by kernel_rfl
theorem Tg:GR "map_table_b3" 231:=by kernel_rfl
theorem Vo:GR "_law_name" 236:=by kernel_rfl
theorem xgC:GR "_law_wishes" 241:=by kernel_rfl
theorem xgG:GR "_law_run" 246:=by kernel_rfl
theorem xgD:GR "_law_rounds" 251:=by kernel_rfl
theorem xgE:GR "_law_cycles" 256:=by kernel_rfl
theorem xgF:GR "_law_firm" 261:=by kernel_rfl
theorem xbf:G0 "CRLF"=aa (.str "\r\n"):=by kernel_rfl
structure Top(X:List ah)(h:aB):Prop where
K:Kp hH h
live:bJ X h
n3:3∉X
n0:0∉X
theorem Top.kp(t:Top X h)(k:Kp h h'):Top X h':=⟨t.K.trans k,t.live.kp k,t.n3,t.n0⟩
theorem Top.nil(k:Kp hH h):Top [] h:=⟨k,λ_ m=>absurd m cg,cg,cg⟩
theorem FF:∃o,hH.get? eo=aa o:=⟨_,kj (show h1.get? 1=aa (MineH.BP w.params)by kernel_rfl)⟩
theorem w6{h:aB}(K:Kp hH h):∃o,h.get? eo=aa o:=FF.imp λ_ e=>K _ _ e
theorem Top.sm{h:aB}(t:Top X h):∃o,h.get? eo=aa o:=FF.imp λ_ e=>t.K _ _ e
theorem CA.top{A:aG}{X:List ah}{B:aB}{a:ah}{fd:eU}{body:List c6}{M:List ai}{F:List T}{r:T}{n:Nat}(j:FnAt hH a fd body M)(t:Top X B)(u:cG A (n+1))(H:fd.globals=3)(R:fd.builtins=0)(V:M.length=F.length)(h:∀(s U:au)(E:aj->au->Prop)(Z:List ah)(L:ah),FS X s U U Z (cy fd L a) (bQ (eX fd.scope G0) M F) []->Kp B s.heap->cG (A.deeper (cy fd L a)) n->(∀x,fd.scope.names.lookup x=aa .local\/fd.scope.names.lookup x=aa .cell->((cy fd L a).kindOf x=aa .local\/(cy fd L a).kindOf x=aa .cell)/\dh (cy fd L a) x∈aM (cy fd L a))->av (aA PW w) (A.deeper (cy fd L a)) (b9 body (cy fd L a)) (λf S=>Ks s S/\Rep X S.heap r (match f with|.ret v=>v|_=>.none)) E U):CA A X B (.ref a) F r:=CA.body (j.kp t.K) (by exact O H (O R (rz.kp t.K))) u t.live (by exact O H t.n3) (by exact O R t.n0) V h
noncomputable abbrev Tab:=List (ai×Int)
noncomputable def eL(d:Tab):List (ai×T):=d.map λp=>(p.1,.int p.2)
def dg(d:Tab):T:=DS (eL d)
noncomputable def ir(d:Tab)(k:ai)(v:Int):Tab:=if d.any λp=>p.1=k then d.map λp=>if p.1=k then(p.1,v)else p else d++[(k,v)]
noncomputable def sQ(d:Tab)(k:ai):Option Int:=(d.find? λp=>p.1=k).map (·.2)
theorem En:getD (eL d) k=(sQ d k).map .int:=by unfold getD sQ eL;induction d with|nil=>rfl|cons p d G=>
by_cases h:p.1=k;.simp[h]
.simp[h];simpa using G
theorem DB:fJ (eL d) k (.int v)=eL (ir d k v):=by
 unfold fJ ir eL;have:((d.map λp=>(p.1,T.int p.2)).any λp=>decide (p.1=k))=d.any λp=>decide (p.1=k):=by refine O Mg ?_;rfl
 refine O this ?_;split;.refine O bO (O bO ?_);refine jI λp _=>?_;by_cases h:p.1=k<;>simp[h]
 .refine O fY ?_;rfl
def jS(d:Tab)(p:ai×Int):Tab:=ir d p.1 ((sQ d p.1).elim p.2 (·+p.2))
def jF(t s:Tab):Tab:=s.foldl jS (t.foldl (λd p=>ir d p.1 p.2) [])
theorem Ax(d:Tab)(k:ai)(v:Int):(ir d k v).length<=d.length+1:=by unfold ir;split<;>simp
theorem yl{L:Type}{f:Tab->L->Tab}(h:∀d a,(f d a).length<=d.length+1)(l:List L):∀d:Tab,(l.foldl f d).length<=d.length+l.length:=by induction l with|nil=>exact λ_=>cR _|cons a l G=>intro d;have h1:=G (f d a);have J:=h d a;exact O pH (O fC (bf h1 (bf (qp J _) (di (rD ..)))))
theorem JP(d:Tab)(p:ai×Int):(jS d p).length<=d.length+1:=Ax ..
theorem J5{d:Tab}:rW ((eL d).map (·.1)) ((eL d).map (·.2))=d.map λp=>.tup [.str p.1,.int p.2]:=by unfold rW eL;refine O bO (O bO (O List.zip_map' (O bO ?_)));rfl
theorem Jf{A:aG}{X:List ah}{B:aB}{t u:Tab}{n:Nat}(rm:cG A (n+1))(N:Top X B)(S:t.length<=1000)(Y:u.length<=1000):CA A X B (.ref 73) [dg t,dg u] (dg (jF t u)):=by
 refine CA.top GC N rm rfl rfl rfl λs U E Z L f k C F=>?_;have y:=F "new_callers" (.inl (by kernel_rfl));have I:=F "func" (.inl (by kernel_rfl));have H:=F "caller" (.inl (by kernel_rfl));have z:=C.hd;have w:∃o,U.heap.get? eo=some o:=N.sm.imp λo e=>f.ks.kp _ _ (k _ _ e);refine bY (FS.NO f y.1 y.2 (EM.A7 w) λD T f=>⟨rfl,?_⟩);have q:∀x∈(["func","caller"]:List ai),((cy zv L 73).kindOf x=some .local\/(cy zv L 73).kindOf x=some .cell)/\dh (cy zv L 73) x∈aM (cy zv L 73):=dQ I (dQ H nA);refine bY (FS.for (as:=t) (kf:=λp=>.tup [.str p.1,.int p.2]) (cV:=λ_=>upd (bQ (eX (d9 (aP PW 4)) G0) ["target","source"] [dg t,dg u]) "new_callers" (.aJ (.ref D))) (iw:=λ_ p=>bQ (upd (bQ (eX (d9 (aP PW 4)) G0) ["target","source"] [dg t,dg u]) "new_callers" (.aJ (.ref D))) ["func","caller"] [.str p.1,.int p.2]) (Mf:=λl=>[(D,dg (l.foldl (λd p=>ir d p.1 p.2) []))]) (λ_=>True) trivial f ?_ (λ_=>rfl) (λl p _=>AS.tup z (ps:=[_,_]) q rfl rfl rfl) (λl p V _ W j E f K=>?_) λj _ f=>⟨rfl,?_⟩);.exact aR J5 (IT.NQ z f.cx.live (EV.name f.cx) (by simp[eL]))
 .refine dj (FS.NU (i:=0) f (by rfl) (by rfl) (EV.name f.cx) (EV.name f.cx) ?_ λg f=>⟨trivial,?_⟩);.have h1:=yl (f:=λd(p:ai×Int)=>ir d p.1 p.2) (λd a=>Ax ..) l [];have J:l.length<=t.length:=Mv V;unfold eL;refine O (aI ..) ?_;exact bf h1 (bf (di (jl _)) (cD (bf J S)))
  .refine FS.conv (f.less ?_) ?_;.show br _ _;repeat(first|exact br.refl _|refine br.iK ?_ (by rfl)|refine br.out ?_ (by kernel_rfl))
   .show[(D,DS (fJ (eL _) p.1 (.int p.2)))]=_;refine O DB (O vL ?_);rfl
 refine bY (FS.for (as:=u) (kf:=λp=>.tup [.str p.1,.int p.2]) (cV:=λ_=>upd (bQ (eX (d9 (aP PW 4)) G0) ["target","source"] [dg t,dg u]) "new_callers" (.aJ (.ref D))) (iw:=λ_ p=>bQ (upd (bQ (eX (d9 (aP PW 4)) G0) ["target","source"] [dg t,dg u]) "new_callers" (.aJ (.ref D))) ["func","caller"] [.str p.1,.int p.2]) (Mf:=λl=>[(D,dg (l.foldl jS (t.foldl (λd p=>ir d p.1 p.2) [])))]) (λ_=>True) trivial f ?_ (λ_=>rfl) (λl p _=>AS.tup z (ps:=[_,_]) q rfl rfl rfl) (λl p V _ W g E f K=>?_) λg _ f=>⟨rfl,?_⟩);.exact aR J5 (IT.NQ z f.cx.live (EV.name f.cx) (by simp[eL]))
 .generalize m:l.foldl jS (t.foldl (λd p=>ir d p.1 p.2) [])=b at f;have Q:(eL b).length<=100000:=by have h1:=yl (f:=λd(p:ai×Int)=>ir d p.1 p.2) (λd a=>Ax ..) t [];have J:=yl JP l (t.foldl (λd p=>ir d p.1 p.2) []);have h3:l.length<=u.length:=Mv V;unfold eL;refine O (aI ..) (aR m ?_);exact bf J (sW (bf h1 (bf (di (jl _)) S)) (bf h3 Y))
  have M:=f.view (x:="new_callers") (i:=0) (by rfl) rfl;have v:l.foldl jS (t.foldl (λd p=>ir d p.1 p.2) [])=b->(l++[p]).foldl jS (t.foldl (λd p=>ir d p.1 p.2) [])=jS b p:=λe=>by refine O vL (O e ?_);rfl
  refine dj (FS.cond f (TV.cmp (EV.name M) (EV.name M) aY.inD) ?_ ?_)
  .intro R c f;replace R:=En▸R;obtain⟨o,i⟩:∃o,sQ b p.1=some o:=by cases h:sQ b p.1 with|some o=>exact⟨o,rfl⟩|none=>replace R:=h▸R;cases R
   refine dj (FS.cond (b:=ay) f (TV.of (EV.cQ (EV.glob f.cx (by exact Dj)) rfl (EL.cons (EV.name f.cx) (EL.cons (EV.glob f.cx (by exact Zy)) EL.nil)) CA.Xp)) (λh=>by cases h) λ_ G f=>?_);refine dj (FS.xba (i:=0) (a:=o) (b:=p.2) f (by rfl) (by rfl) (X1:=_) (EV.name f.cx) (X2:=_) (EV.name f.cx) (by refine O En (O i ?_);rfl) Q λP f=>⟨trivial,?_⟩);refine FS.conv (f.less ?_) ?_;.show br _ _;repeat(first|exact br.refl _|refine br.iK ?_ (by rfl)|refine br.out ?_ (by kernel_rfl))
   .show[(D,DS (fJ (eL _) p.1 (.int (o+p.2))))]=_;refine O DB (O (v m) ?_);unfold jS;refine O i ?_;rfl
  .intro R c f;replace R:=En▸R;have i:sQ b p.1=none:=by cases h:sQ b p.1 with|none=>rfl|some o=>replace R:=h▸R;cases R
   refine dj (FS.NU (i:=0) f (by rfl) (by rfl) (EV.name f.cx) (EV.name f.cx) Q λG f=>⟨trivial,?_⟩);refine FS.conv (f.less ?_) ?_;.show br _ _;repeat(first|exact br.refl _|refine br.iK ?_ (by rfl)|refine br.out ?_ (by kernel_rfl))
   .show[(D,DS (fJ (eL _) p.1 (.int p.2)))]=_;refine O DB (O (v m) ?_);unfold jS;refine O i ?_;rfl
 .exact dj (FS.Hr (i:=0) f (by rfl) (by rfl) (N.live.kp k) λs' k r=>⟨k,r⟩)
section
variable{A:aG}{G:aO}{X:List ah}{B:aB}{P:Gm}
theorem IT.kT(d:A.handled=ak)(c:CX X B G P)(g:P "range"=aa (.aJ (.type "range")))(f:autoParam (isNm a) yAR)(H:autoParam (mP G "range"=af) yAK):IT A G X B (.Call (.Name "range" e) [.Constant (.int 5) D k] [] b) a (r5.map .int):=IT.cQ (EV.glob c g H) rfl (EL.cons EV.int EL.nil) (IC.oB (n:=5) d f c.live dk)
theorem IT.EO(d:A.handled=ak)(c:CX X B G P)(g:P "range"=aa (.aJ (.type "range")))(f:autoParam (isNm a) yAR)(H:autoParam (mP G "range"=af) yAK):IT A G X B (.Call (.Name "range" h) [.Constant (.int 1) D k,.Constant (.int 5) n e] [] b) a (([1,2,3,4]:List Int).map .int):=IT.cQ (EV.glob c g H) rfl (EL.cons EV.int (EL.cons EV.int EL.nil)) (IC.xaT (n:=4) d f c.live dk dk dk dk dk)
theorem Xs{i:Int}(h:0<=i):pA 0 1 i.toNat=(upTo i).map .int:=by unfold pA upTo;refine O bO ?_;refine jI λk _=>?_;show T.int _=T.int _;simp
theorem IT.xbg(d:A.handled=ak)(c:CX X B G P)(g:P "range"=aa (.aJ (.type "range")))(L:EV A G X B e (.int i))(D:0<=i)(h1:i<2^60)(f:autoParam (isNm a) yAR)(H:autoParam (mP G "range"=af) yAK)(W:autoParam (bq [e] G=(ay,aU e G)::bq [] G) yAR):IT A G X B (.Call (.Name "range" j) [e] [] b) a ((upTo i).map .int):=by refine aR (Xs D) ?_;have h:=IC.oB (A:=A) (X:=X) (h₀:=B) (n:=i.toNat) d f c.live (o6 h1);rw[l9 D]at h;exact IT.cQ (hs:=W) (EV.glob c g H) rfl (EL.cons L EL.nil W) h
end
noncomputable def cX(one:Int):List Int:=r5.filter λI=>I !=one
noncomputable def AO(one i:Int):List Int:=r5.filter λI=>I !=one&&(I !=i&&af)
noncomputable def Bo:List (List (List Int)):=([1,2,3,4]:List Int).flatMap λa=>([1,2,3,4]:List Int).flatMap λb=>(([1,2,3,4]:List Int).filter λc=>a !=b&&(a !=c&&(b !=c&&af))).map λc=>[[0,a,b,c,10-a-b-c]]
def sf(one:Int):List (List (List Int)):=have o(n:Nat):Int:=(cX one).getD n 0
[[[one],[o 0,o 1],[o 2,o 3]],[[one],[o 0,o 2],[o 1,o 3]],[[one],[o 0,o 3],[o 1,o 2]]]
def qY(one i:Int):List (List (List Int)):=have o(n:Nat):Int:=(AO one i).getD n 0
[[[o 0,o 1,o 2],[one,i]],[[o 0,o 2,o 1],[one,i]]]
def e8(l:List Int):List (List (List Int)):=Bo++l.flatMap λone=>sf one++(upTo one).flatMap (qY one)
def WT(l:List (List (List Int))):T:=.list (l.map b7)
theorem JE:∀one∈r5,∃a b c d,cX one=[a,b,c,d]:=λone m=>xcN ((by decide:∀one∈r5,(cX one).length=4) one m)
theorem TH:∀one∈r5,∀i∈upTo one,∃a b c,AO one i=[a,b,c]:=λone m i k=>yX ((by decide:∀one∈r5,∀i∈upTo one,(AO one i).length=3) one m i k)
theorem KG(one:Int):(sf one).length<=3:=cR 3
theorem KH(one i:Int):(qY one i).length<=2:=cR 2
theorem Lf{one:Int}(m:one∈r5):(upTo one).length<=4:=by
 have:one=0\/one=1\/one=2\/one=3\/one=4:=by simpa[r5]using m
 unfold upTo;exact O (aI ..) (O x8 (jj4 this))
theorem KI(one:Int)(l:List Int):(l.flatMap (qY one)).length<=l.length*2:=yh λ_ _=>KH ..
theorem Vp{l:List Int}(h:∀x∈l,x∈r5):(e8 l).length<=24+l.length*11:=by
 unfold e8;refine O cL ?_;have D:Bo.length=24:=by decide+kernel
 have h1:=yh (f:=λone=>sf one++(upTo one).flatMap (qY one)) (n:=11) (l:=l) λa m=>by refine O cL ?_;have q:=KG a;have t:=KI a (upTo a);exact sW q (bf t (tE 2 (Lf (h a m))))
 exact mz (di D) h1
theorem KJ{a b:List (List (List Int))}:([(D,WT a)]:List (ah×T)).set 0 (D,.list (a.map b7++b.map b7))=[(D,WT (a++b))]:=by show[(D,T.list (a.map b7++b.map b7))]=_;unfold WT;exact O fY rfl
theorem TJ{A:aG}{X:List ah}{B:aB}{n:Nat}(rm:cG A (n+1))(tp:Top X B):CA A X B (.ref 256) [] (WT (e8 r5)):=by
 refine CA.top N4 tp rm rfl rfl rfl λs s₁ E Z L f k z q=>?_;have p:=q "ways" (.inl (by kernel_rfl));have v:=q "one" (.inr (by kernel_rfl));have t:=q "two" (.inr (by kernel_rfl));have ka:=q "a" (.inl (by kernel_rfl));have kb:=q "b" (.inl (by kernel_rfl));have kc:=q "c" (.inl (by kernel_rfl));have kd:=q "d" (.inl (by kernel_rfl));have g:=z.hd;refine bY (FS.Vl (t:=WT Bo) f p.1 p.2 ?_ λD s₂ f=>⟨rfl,?_⟩)
 .have e:WT Bo=.list (([1,2,3,4]:List Int).flatMap λa=>([1,2,3,4]:List Int).flatMap λb=>(([1,2,3,4]:List Int).filter λc=>a !=b&&(a !=c&&(b !=c&&af))).map λc=>b7 [[0,a,b,c,10-a-b-c]]):=by rfl
  refine O e ?_;refine CU.lll (kf:=.int) (qm:=.int) (Cj:=.int) f.cx ?_ ?_ ?_ ?_ ?_ dk dk dk;.exact IT.EO g f.cx (by exact iZ)
  .exact λa m C F Y h c k=>IT.EO g c (by exact iZ)
  .exact λa m b m' C F Y h c k=>IT.EO g c (by exact iZ)
  .intro a m b m' d md C F Y h c k;exact TS.one (TV.ry (AT.and (TV.cmp (X:=Y) (EV.name c) (EV.name c) aY.ne) λ_=>AT.and (TV.cmp (X:=Y) (EV.name c) (EV.name c) aY.ne) λ_=>AT.and (TV.cmp (X:=Y) (EV.name c) (EV.name c) aY.ne) λ_=>AT.yL))
  .intro a m b m' d md _ C F Y h c _ k;exact EV.list c.live (EL.cons (EV.list c.live (EL.cons EV.int (EL.cons (EV.name c) (EL.cons (EV.name c) (EL.cons (EV.name c) (EL.cons (EV.bin (EV.bin (EV.bin EV.int (EV.name c) bE.sub) (EV.name c) bE.sub) (EV.name c) bE.sub) EL.nil)))))) EL.nil)
 .refine bY (FS.for (as:=r5) (kf:=.int) (cV:=λl=>upd (eX (d9 (aP PW 25)) G0) "ways" (.aJ (.ref D))) (iw:=λl one=>upd (upd (eX (d9 (aP PW 25)) G0) "ways" (.aJ (.ref D))) "one" (.int one)) (Mf:=λl=>[(D,WT (e8 l))]) (λ_=>True) trivial (f.conv (by rfl)) ?_ (λ_=>rfl) (λl a _=>AS.name v.1 v.2) (λl one W _ wr o E f back=>?_) λo _ f=>⟨rfl,?_⟩);.exact IT.kT g f.cx (by exact iZ)
  .have Q:one∈r5:=qI W;have h5:0<=one/\one<5:=by simp[r5]at Q;exact G1 Q
   refine AH (JE one Q) λx1 K J x4 T=>?_;refine bY (FS.Mz ["a","b","c","d"] (ps:=[_,_,_,_]) f g (ts:=(cX one).map .int) (EF.ev (CU.ef ?_ f.cx.live)) ?_ (λy f=>⟨rfl,?_⟩) (by refine O T ?_;rfl))
   .refine CU.l1 (kf:=.int) (f:=.int) f.cx (IT.kT g f.cx (by exact iZ)) ?_ ?_ dk;.exact λa m C F Y h c k=>TS.one (TV.cmp (X:=Y) (EV.name c) (EV.name c) aY.ne)
    .exact λa m _ C F Y h c _ k=>EV.name c
   .exact dQ ka (dQ kb (dQ kc (dQ kd nA)))
   rw[T]at f;have ew1:sf one=[[[one],[x1,K],[J,x4]],[[one],[x1,J],[K,x4]],[[one],[x1,x4],[K,J]]]:=by unfold sf;refine O T ?_;rfl
   have u:l.length<=5:=by
    refine aE W λr e=>?_;have:l.length<=r5.length:=by refine O e ?_;simp
    exact this
   have H:∀x∈l,x∈r5:=λx m=>Mu W m;have R:=Vp H;have w:=KG one;refine bY (FS.iadd (i:=0) (l:=(e8 l).map b7) f p.1 p.2 (by rfl) (by rfl) (ts:=(sf one).map b7) ?_ (O (aI ..) (O (aI ..) (sW (bf R (iy (tE 11 u) 24)) w))) λj f=>⟨rfl,?_⟩);.refine O ew1 ?_;refine EV.list f.cx.live (EL.cons (EV.list f.cx.live (EL.cons (EV.list f.cx.live (EL.cons (EV.name f.cx) EL.nil)) (EL.cons (EV.list f.cx.live (EL.cons (EV.name f.cx) (EL.cons (EV.name f.cx) EL.nil))) (EL.cons (EV.list f.cx.live (EL.cons (EV.name f.cx) (EL.cons (EV.name f.cx) EL.nil))) EL.nil)))) (EL.cons (EV.list f.cx.live (EL.cons (EV.list f.cx.live (EL.cons (EV.name f.cx) EL.nil)) (EL.cons (EV.list f.cx.live (EL.cons (EV.name f.cx) (EL.cons (EV.name f.cx) EL.nil))) (EL.cons (EV.list f.cx.live (EL.cons (EV.name f.cx) (EL.cons (EV.name f.cx) EL.nil))) EL.nil)))) (EL.cons (EV.list f.cx.live (EL.cons (EV.list f.cx.live (EL.cons (EV.name f.cx) EL.nil)) (EL.cons (EV.list f.cx.live (EL.cons (EV.name f.cx) (EL.cons (EV.name f.cx) EL.nil))) (EL.cons (EV.list f.cx.live (EL.cons (EV.name f.cx) (EL.cons (EV.name f.cx) EL.nil))) EL.nil)))) EL.nil)))
   have f:=f.conv KJ;have f:FS X s o j (wr++D::Z) (cy Qk L 256) (upd (upd (eX (d9 (aP PW 25)) G0) "ways" (.aJ (.ref D))) "one" (.int one)) _:=f.less (by show br _ _;repeat(first|exact br.refl _|refine br.iK ?_ (by rfl)|refine br.out ?_ (by kernel_rfl)));refine dj (FS.for (as:=upTo one) (kf:=.int) (cV:=λ_=>upd (upd (eX (d9 (aP PW 25)) G0) "ways" (.aJ (.ref D))) "one" (.int one)) (iw:=λ_ i=>upd (upd (upd (eX (d9 (aP PW 25)) G0) "ways" (.aJ (.ref D))) "one" (.int one)) "two" (.int i)) (Mf:=λP=>[(D,WT (e8 l++sf one++P.flatMap (qY one)))]) (λ_=>True) trivial (f.conv (by simp)) ?_ (λ_=>rfl) (λl a _=>AS.name t.1 t.2) (λP i M _ wr' G E f V=>?_) λG _ f=>⟨trivial,?_⟩);.exact IT.xbg g f.cx (by exact iZ) (EV.name f.cx) h5.1 (eF h5.2)
   .have I:i∈upTo one:=qI M;refine iT (TH one Q i I) λy1 y2 y3 e3=>?_;refine bY (FS.Mz ["a","b","c"] (ps:=[_,_,_]) f g (ts:=(AO one i).map .int) (EF.ev (CU.ef ?_ f.cx.live)) ?_ (λy f=>⟨rfl,?_⟩) (by refine O e3 ?_;rfl))
    .refine CU.l1 (kf:=.int) (f:=.int) f.cx (IT.kT g f.cx (by exact iZ)) ?_ ?_ dk;.exact λa m C F Y h c k=>TS.one (TV.ry (AT.and (TV.cmp (X:=Y) (EV.name c) (EV.name c) aY.ne) λ_=>AT.and (TV.cmp (X:=Y) (EV.name c) (EV.name c) aY.ne) λ_=>AT.yL))
     .exact λa m _ C F Y h c _ k=>EV.name c
    .exact dQ ka (dQ kb (dQ kc nA))
    rw[e3]at f;have U:qY one i=[[[y1,y2,y3],[one,i]],[[y1,y3,y2],[one,i]]]:=by unfold qY;refine O e3 ?_;rfl
    have N:P.length<=4:=by
     have h1:=Lf Q;refine aE M λr e=>?_;have:P.length<=(upTo one).length:=by refine O e ?_;simp
     exact bf this h1
    have S:=KI one P;have hw2:=KH one i;refine dj (FS.iadd (i:=0) (l:=(e8 l++sf one++P.flatMap (qY one)).map b7) f p.1 p.2 (by rfl) (by rfl) (ts:=(qY one i).map b7) ?_ (O (aI ..) (O (aI ..) (O cL (O cL (sW (mz (mz (bf R (iy (tE 11 u) 24)) w) (bf S (tE 2 N))) hw2))))) λj f=>⟨trivial,?_⟩);.refine O U ?_;refine EV.list f.cx.live (EL.cons (EV.list f.cx.live (EL.cons (EV.list f.cx.live (EL.cons (EV.name f.cx) (EL.cons (EV.name f.cx) (EL.cons (EV.name f.cx) EL.nil)))) (EL.cons (EV.list f.cx.live (EL.cons (EV.name f.cx) (EL.cons (EV.name f.cx) EL.nil))) EL.nil))) (EL.cons (EV.list f.cx.live (EL.cons (EV.list f.cx.live (EL.cons (EV.name f.cx) (EL.cons (EV.name f.cx) (EL.cons (EV.name f.cx) EL.nil)))) (EL.cons (EV.list f.cx.live (EL.cons (EV.name f.cx) (EL.cons (EV.name f.cx) EL.nil))) EL.nil))) EL.nil))
    .have f:=f.conv KJ;refine FS.conv (f.less ?_) (by refine O Jx ?_;simp);show br _ _;repeat(first|exact br.refl _|refine br.iK ?_ (by rfl)|refine br.out ?_ (by kernel_rfl))
   .refine FS.conv (f.less ?_) (by unfold e8;refine O Jx ?_;simp);show br _ _;repeat(first|exact br.refl _|refine br.iK ?_ (by rfl)|refine br.out ?_ (by kernel_rfl))
  .exact dj (FS.Hr (i:=0) f (by rfl) (by rfl) (tp.live.kp k) λs' k r=>⟨k,r⟩)
def bA(W:List (List Int))(i:Int):List Int:=W.getD i.toNat []
def bw(W:List (List Int))(i k:Int):Int:=gi (bA W i) k
def eG(W:List (List Int))(i x:Int):Int:=(bA W i).idxOf x
structure fR(W:List (List Int)):Prop where
len:W.length=5
row:∀i,0<=i->i<5->(bA W i).length=4
el:∀i,0<=i->i<5->∀x∈bA W i,0<=x/\x<5/\x≠i
all:∀i,0<=i->i<5->∀x,0<=x->x<5->x≠i->x∈bA W i
theorem FG{l:List Int}{k:Int}(D:0<=k)(h1:k<l.length):gi l k∈l:=by unfold gi;exact O cA (O (cz (iu D h1)) (nQ _))
theorem fR.at{W:List (List Int)}(h:fR W){i k:Int}(D:0<=i)(h1:i<5)(J:0<=k)(R:k<4):0<=bw W i k/\bw W i k<5/\bw W i k≠i:=h.el i D h1 _ (FG J (by exact O (h.row i D h1) R))
def oE(W:List (List Int))(f:List Int)(g:Int):List Int:=r5.filter λo=>decide (gi f o<4)&&(bw W o (gi f o)==g&&af)
def gX(W:List (List Int))(f:List Int)(I:Int):List Int:=if !(((oE W f (bw W I (gi f I))).filter λo=>decide (eG W (bw W I (gi f I)) o<eG W (bw W I (gi f I)) I)).map T.int).isEmpty then f.set I.toNat (gi f I+1)else f
def oO(W:List (List Int))(f:List Int):List Int:=(r5.filter λI=>decide (gi f I<4)).foldl (gX W) f
def rq(W:List (List Int)):Nat->List Int->List Int->List Int|0,_,c=>c|n+1,b,c=>if c=b then c else rq W n c (oO W c)
def rounds(W:List (List Int)):List Int:=rq W 20 [] [0,0,0,0,0]
def stN(W:List (List Int)):Nat->List Int×List Int|0=>([],[0,0,0,0,0])|n+1=>((stN W n).2,oO W (stN W n).2)
structure fS(c:List Int):Prop where
len:c.length=5
el:∀i,0<=i->i<5->0<=gi c i/\gi c i<=4
theorem fS.mem(k:fS c):∀x∈c,0<=x/\x<=4:=λx m=>by refine aE (Js.mp m) λn q=>q.elim λK e=>?_;have t:=k.el n (iO n) (gR.mpr (iz K (di k.len)));exact(show c.getD n 0=x from O cA (O (cz K) e))▸t
theorem rY{c:List Int}{i j v:Int}(F:0<=i)(Y:0<=j)(h1:i<c.length):gi (c.set i.toNat v) j=if j=i then v else gi c j:=by
 unfold gi;refine O cA (O cA ?_);by_cases e:j=i;.subst e;refine O (zK (iu Y h1)) (O (if_pos rfl) ?_);rfl
 .exact O (CW (Ga F Y e)) (O (if_neg e) rfl)
theorem fS.step(h:fS c)(D:0<=I)(h1:I<5)(Y:gi c I<4):fS (gX W c I):=by
 unfold gX;split
 .refine⟨by exact O jL h.len,λi a b=>?_⟩;refine O (rY D a (by rw[h.len];exact h1)) ?_;split;.have:=h.el I D h1;exact iR (DQ this.1) Y
  .exact h.el i a b
 .exact h
theorem DC{c:List Int}(V:c.length=5)(D:0<=I)(h1:I<5)(Y:0<=j)(S:j≠I):gi (gX W c I) j=gi c j:=by
 unfold gX;split;.exact O (rY D Y (by rw[V];exact h1)) (O (if_neg S) rfl)
 .rfl
theorem Eo:∀{l:List Int}{c:List Int},fS c->(∀x∈l,0<=x/\x<5/\gi c x<4)->l.Nodup->fS (l.foldl (gX W) c)/\∀j,0<=j->j∉l->gi (l.foldl (gX W) c) j=gi c j|[],c,h,_,_=>⟨h,λ_ _ _=>rfl⟩|x::l,c,h,Q,K=>by have Y:=Q x (aQ ..);have h':=h.step (W:=W) Y.1 Y.2.1 Y.2.2;refine aW (mj.mp K) λU P=>?_;have G:=Eo (l:=l) (W:=W) h' (λy m=>by have w:=Q y (aZ _ m);refine⟨w.1,w.2.1,?_⟩;rw[DC h.len Y.1 Y.2.1 w.1 λe=>U (e▸m)];exact w.2.2) P;refine⟨G.1,λj b a=>?_⟩;rw[pH,G.2 j b λm=>a (aZ _ m),DC h.len Y.1 Y.2.1 b λe=>a (by exact O e (aQ ..))]
theorem aF:x∈r5↔0<=x/\x<5:=⟨(by decide:∀x∈r5,0<=x/\x<5) x,λh=>l9 h.1▸(by decide:∀n:Nat,n<5->(n:Int)∈r5) _ (o6 h.2)⟩
theorem qF:r5.Nodup:=dk
theorem EP:(∀x∈r5.filter λI=>decide (gi c I<4),0<=x/\x<5/\gi c x<4)/\(r5.filter λI=>decide (gi c I<4)).Nodup:=by refine⟨λx m=>?_,qF.filter _⟩;have:=d7.mp m;exact⟨(aF.mp this.1).1,(aF.mp this.1).2,of_decide_eq_true this.2⟩
theorem Xu(h:fS c):fS (oO W c):=(Eo h EP.1 EP.2).1
theorem Lg:fS [0,0,0,0,0]:=⟨rfl,λi a b=>by have:i=0\/i=1\/i=2\/i=3\/i=4:=lq a b;rcases this with rfl|rfl|rfl|rfl|rfl<;>decide⟩
theorem N8:∀n,fS (stN W n).2|0=>Lg|n+1=>Xu (N8 n)
section
variable{A:aG}{X:List ah}{B:aB}{G:aO}
theorem CU.flat(x:CU A G X B e (.list a))(f:∀t∈a,Mine.flat t=af):CU A G Y B e (.list a):=x.imp λj x=>⟨x.1,λs N Q E k o=>x.2 s N Q E k λD C S m y d J K n r=>o D C S m y d J K n (r.imp λxs z=>⟨z.1,az.flat f z.2⟩)⟩
theorem Ay{l:List Int}:∀t∈l.map T.int,Mine.flat t=af:=λt m=>by refine aH (bF.mp m) λi _ q=>?_;subst q;rfl
theorem EV.bA(h:fR W)(K:EV A G X B v (b7 W))(F:EV A G X B i (.int k))(D:0<=k)(h1:k<5)(hs:autoParam (jR i) yAW):EV A G X B (.Subscript v i a) (LI (Mine.bA W k)):=EV.sub K F (cU.list (hs:=hs) D (eF h1) (by
refine O eS ?_;have:W[k.toNat]?=aa (Mine.bA W k):=by unfold Mine.bA;rw[cA,cz (by have:=h.len;exact ji h1 this)];rfl
refine O this ?_;rfl))
theorem EV.bw(h:fR W)(K:EV A G X B v (b7 W))(F:EV A G X B i (.int a))(Y:EV A G X B j (.int b))(D:0<=a)(h1:a<5)(J:0<=b)(R:b<4)(c:autoParam (jR i) yAW)(I:autoParam (jR j) yAW):EV A G X B (.Subscript (.Subscript v i p1) j p2) (.int (Mine.bw W a b)):=EV.gi (hs:=I) (EV.bA (hs:=c) h K F D h1) Y J (by exact O (h.row a D h1) R) (by refine O (h.row a D h1) ?_;decide)
end
theorem TL(rm:cG A (n+1))(tp:Top X h₀)(wo:fR W):CA A X h₀ (.ref 251) [b7 W] (LI (rounds W)):=by
 refine CA.top N3 tp rm rfl rfl rfl λs U E Z L f k vz hw=>?_;have xdd:=hw "came" (.inr (by kernel_rfl));have z:=hw "before" (.inl (by kernel_rfl));have j:=hw "turn" (.inl (by kernel_rfl));have K:=hw "who" (.inr (by kernel_rfl));have Ql:=hw "asked" (.inr (by kernel_rfl));have N:=hw "rivals" (.inl (by kernel_rfl));have hh:=vz.hd;have hun:(A.deeper (cy qe L 251)).units+1<fy:=Pz 1 vz.jH;refine bY (FS.DY (γ:=bQ (eX (d9 (aP PW 24)) G0) ["wishes"] [b7 W]) (sb:=U) (X₀:=X) (s₀:=s) ["came","before"] (ps:=[_,_]) hh (FS.wO f ((EF.rU f.cx.live (EV.list f.cx.live (EL.cons EV.int EL.nil)) EV.int dk dk).em λt m=>by refine O (vD m) ?_;rfl) λD s₂ f=>FS.FD f (EV.list f.cx.live EL.nil) λv s₃ f r=>FS.yN ⟨D::Z,_,[.aJ (.ref D),.list []],f,⟨.ie _,r,trivial⟩,rfl,by simp,λs₄ f=>⟨rfl,?_⟩⟩) ?_)
 .have fin:∀(s':au)(E:aj->au->Prop)(γ:Gm),γ "came"=aa (.aJ (.ref D))->FS X s U s' (D::Z) (cy qe L 251) γ [(D,LI (rounds W))]->av (aA PW w) (A.deeper (cy qe L 251)) (b9 ((bodyOf (aP PW 24)).drop 2) (cy qe L 251)) (λf s'=>Ks s s'/\Rep X s'.heap (LI (rounds W)) (match f with|.ret v=>v|_=>.none)) E s':=λs' E γ hγ f=>dj (FS.Hr (i:=0) f hγ (by rfl) (tp.live.kp k) λs' k r=>⟨k,r⟩);refine bY (FS.for (as:=(gj 20).map lF) (kf:=.int) (cV:=λl=>upd (upd (bQ (eX (d9 (aP PW 24)) G0) ["wishes"] [b7 W]) "came" (.aJ (.ref D))) "before" (LI (stN W l.length).1)) (iw:=λl t=>upd (upd (upd (bQ (eX (d9 (aP PW 24)) G0) ["wishes"] [b7 W]) "came" (.aJ (.ref D))) "before" (LI (stN W l.length).1)) "turn" (.int t)) (Mf:=λl=>[(D,LI (stN W l.length).2)]) (λl=>l.length<=20/\rounds W=rq W (20-l.length) (stN W l.length).1 (stN W l.length).2) ⟨dk,rfl⟩ f ?_ (λ_=>rfl) (λl a _=>AS.name j.1 j.2) (λl t hl hP wr M E f back=>?_) λM hP f=>⟨rfl,?_⟩);.exact IT.cQ (its:=((gj 20).map lF).map .int) (EV.glob f.cx (by exact iZ)) rfl (EL.cons EV.int EL.nil) (IC.oB (n:=20) hh rfl f.cx.live dk)
  .obtain⟨hP1,Io⟩:=hP;have hlt:l.length<20:=by obtain⟨r,e⟩:=hl;have:=congrArg t8 e;simp only[aI,x8,cL,fC]at this;exact this▸vE (qz _)
   generalize G:stN W l.length=st at f Io;obtain⟨Sa,p⟩:=st;have y:fS p:=by have:=N8 (W:=W) l.length;rw[G]at this;exact this
   have F:=f.view (x:="came") (i:=0) (by rfl) rfl;have P:rq W (20-l.length) Sa p=if p=Sa then p else rq W (20-(l.length+1)) p (oO W p):=by refine O (Cb hlt) ?_;rfl
   refine nS (FS.cond f (TV.cmp (EV.name F) (EV.name F) (aY.xaX hun)) ?_ ?_)
   .intro R s₆ f;have R:=of_decide_eq_true R;refine dj (wpAny_Break ?_);have e:rounds W=p:=by exact O Io (O P (O (if_pos R) rfl))
    have fb:=(back (j4:=[(D,LI p)]) rfl f).conv (M':=[(D,LI (rounds W))]) (by exact O e rfl);exact⟨rfl,fin _ _ _ (by rfl) fb⟩
   .intro R s₆ f;have R:=of_decide_eq_false R;refine iA ?_;have F:=f.view (x:="came") (i:=0) (by rfl) rfl;refine bY (FS.set f z.1 z.2 (t:=LI p) (EF.ev (EF.flat (X:=aM (cy qe L 251)) (EF.cQ (EV.glob F (by exact N7)) rfl (EL.cons (EV.name F) EL.nil) (CF.list F.live (by refine O (aI ..) (O y.len ?_);decide))) f.cx.live Ay)) λs₇ _ f=>⟨rfl,?_⟩);have f:FS X s M s₇ (wr++D::Z) (cy qe L 251) (upd (upd (bQ (eX (d9 (aP PW 24)) G0) ["wishes"] [b7 W]) "came" (.aJ (.ref D))) "before" (LI p)) [(D,LI p)]:=f.less (by show br _ _;repeat(first|exact br.refl _|refine br.iK ?_ (by rfl)|refine br.out ?_ (by kernel_rfl)));have F:=f.view (x:="came") (i:=0) (by rfl) rfl;refine dj (FS.for (as:=r5.filter λI=>decide (gi p I<4)) (kf:=.int) (cV:=λ_=>upd (upd (bQ (eX (d9 (aP PW 24)) G0) ["wishes"] [b7 W]) "came" (.aJ (.ref D))) "before" (LI p)) (iw:=λ_ I=>upd (upd (upd (bQ (eX (d9 (aP PW 24)) G0) ["wishes"] [b7 W]) "came" (.aJ (.ref D))) "before" (LI p)) "who" (.int I)) (Mf:=λl'=>[(D,LI (l'.foldl (gX W) p))]) (λ_=>True) trivial f ?_ (λ_=>rfl) (λl a _=>AS.name K.1 K.2) (λl' I hl' _ wr' s₈ E f back'=>?_) λs₈ _ f=>?_)
    .refine IT.list hh (.inl rfl) f.cx.live (EF.ev (EF.flat (X:=aM (cy qe L 251)) (CU.ef ?_ F.live) f.cx.live Ay));refine CU.l1 (kf:=.int) (f:=.int) F (IT.kT hh F (by exact iZ)) ?_ ?_ dk;.exact λI m C cs Y h c k=>TS.one (TV.cmp (X:=Y) (EV.gi (EV.name c) (EV.name c) (aF.mp m).1 (by exact O y.len (aF.mp m).2) (by refine O y.len ?_;decide)) EV.int aY.lt)
     .exact λa m _ C cs Y h c _ k=>EV.name c
    .have hwm:I∈r5.filter λI=>decide (gi p I<4):=qI hl';have H:=EP (c:=p);have B:(∀x∈l',0<=x/\x<5/\gi p x<4)/\l'.Nodup/\I∉l':=by
      obtain⟨r,e⟩:=hl';refine⟨λx m=>H.1 x (by refine O e ?_;simp[m]),?_,?_⟩;.have:=H.2;rw[e]at this;exact(nM.mp this).1
      .have:=H.2;rw[e]at this;exact λm=>(nM.mp this).2.2 _ m _ (aQ ..) rfl
     have hfo:=Eo (W:=W) y B.1 B.2.1;generalize V:l'.foldl (gX W) p=b at f hfo;have q:=H.1 I hwm;have hgw:gi b I=gi p I:=hfo.2 I q.1 B.2.2;have i:=hfo.1;have J:0<=gi b I/\gi b I<4:=by exact O hgw ⟨(y.el I q.1 q.2.1).1,q.2.2⟩
     have d:=wo.at q.1 q.2.1 J.1 J.2;have F:=f.view (x:="came") (i:=0) (by rfl) rfl;have Q:b.length=5:=i.len;refine bY (FS.set f Ql.1 Ql.2 (t:=.int (bw W I (gi b I))) (EV.flat (X:=aM (cy qe L 251)) (EV.bw wo (EV.name F) (EV.name F) (EV.gi (EV.name F) (EV.name F) q.1 (by exact O Q q.2.1) (by refine O Q ?_;decide)) q.1 q.2.1 J.1 J.2) rfl) λHt _ f=>⟨rfl,?_⟩);have F:=f.view (x:="came") (i:=0) (by rfl) rfl;refine bY (FS.qJ f N.1 N.2 (t:=LI (oE W b (bw W I (gi b I)))) (CU.flat (X:=aM (cy qe L 251)) ?_ Ay) λxgM f=>⟨rfl,?_⟩)
     .refine CU.l1 (kf:=.int) (f:=.int) F (IT.kT hh F (by exact iZ)) ?_ ?_ dk;.intro o m C cs Y h c k;have g:=aF.mp m;refine TS.one (TV.ry (AT.and (TV.cmp (X:=Y) (EV.gi (EV.name c) (EV.name c) g.1 (by exact O Q g.2) (by refine O Q ?_;decide)) EV.int aY.lt) λR=>?_));have R:=of_decide_eq_true R;exact AT.and (TV.cmp (X:=Y) (EV.bw wo (EV.name c) (EV.name c) (EV.gi (EV.name c) (EV.name c) g.1 (by exact O Q g.2) (by refine O Q ?_;decide)) g.1 g.2 (i.el o g.1 g.2).1 R) (EV.name c) aY.eq) λ_=>AT.yL
      .exact λa m _ C cs Y h c _ k=>EV.name c
     have S:∀x,0<=x->x<5->x≠bw W I (gi b I)->x∈bA W (bw W I (gi b I)):=λx h0 h1 hn=>wo.all _ d.1 d.2.1 x h0 h1 hn;have hrl:(bA W (bw W I (gi b I))).length<=100000:=by refine O (wo.row _ d.1 d.2.1) ?_;decide
     refine dj (FS.cond (b:=!(((oE W b (bw W I (gi b I))).filter λo=>decide (eG W (bw W I (gi b I)) o<eG W (bw W I (gi b I)) I)).map T.int).isEmpty) f (TV.cmp (EF.ev (CU.ef ?_ f.cx.live)) (EV.list f.cx.live EL.nil) (aY.xcS hun)) ?_ ?_)
     .refine CU.l1 (kf:=.int) (f:=.int) f.cx (IT.list hh (.inl rfl) f.cx.live (EV.name f.cx)) ?_ ?_ ?_
      .intro o m C cs Y h c k;obtain⟨m1,m2⟩:=d7.mp m;have g:=aF.mp m1;simp only[dZ,decide_eq_true_eq,beq_iff_eq]at m2;have hne:o≠bw W I (gi b I):=λe=>by have:=(wo.at g.1 g.2 (i.el o g.1 g.2).1 m2.1).2.2;rw[m2.2.1]at this;exact this e.symm
       exact TS.one (TV.cmp (X:=Y) (EV.pQ (EV.bA wo (EV.name c) (EV.name c) d.1 d.2.1) (EV.name c) (S o g.1 g.2 hne) hrl) (EV.pQ (EV.bA wo (EV.name c) (EV.name c) d.1 d.2.1) (EV.name c) (S I q.1 q.2.1 λe=>d.2.2 e.symm) hrl) aY.lt)
      .exact λa m _ C cs Y h c _ k=>EV.name c
      .exact bf (nJ ..) dk
     .intro R u f;refine dj (FS.Zn (i:=0) (a:=gi b I) f (by rfl) (by rfl) (EV.name f.cx) (X2:=[]) EV.int q.1 ?_ (by refine O (aI ..) (O Q ?_);decide) λxgN f=>⟨trivial,?_⟩)
      .refine O eS ?_;have:b[I.toNat]?=aa (gi b I):=by unfold gi;refine O cA (O (cz (ji q.2.1 Q)) ?_);rfl
       refine O this ?_;rfl
      .have e:gX W b I=b.set I.toNat (gi b I+1):=by unfold gX;exact O (if_pos R) rfl
       refine FS.conv (f.less ?_) ?_;.show br _ _;repeat(first|exact br.refl _|refine br.iK ?_ (by rfl)|refine br.out ?_ (by kernel_rfl))
       .refine O vL (O V ?_);show[(D,T.list ((b.map T.int).set I.toNat (.int (gi b I+1))))]=[(D,LI (gX W b I))];refine O e ?_;unfold LI;exact O vX rfl
     .intro R u f;have e:gX W b I=b:=by unfold gX;exact O (if_neg (by rw[R];decide)) rfl
      refine iA ⟨trivial,FS.conv (f.less ?_) ?_⟩;.show br _ _;repeat(first|exact br.refl _|refine br.iK ?_ (by rfl)|refine br.out ?_ (by kernel_rfl))
      .refine O vL (O V ?_);show[(D,LI b)]=[(D,LI (gX W b I))];exact O e rfl
    .refine⟨⟨O cL hlt,?_⟩,?_⟩;.refine O Io (O P (O (if_neg R) (O cL ?_)));show _=rq W (20-(l.length+1)) (stN W l.length).2 (oO W (stN W l.length).2);exact O G rfl
     .have e1:(stN W (l++[t]).length).1=p:=by refine O cL ?_;show(stN W l.length).2=p;exact O G rfl
      have e2:(stN W (l++[t]).length).2=oO W p:=by refine O cL ?_;show oO W (stN W l.length).2=_;exact O G rfl
      exact O e1 (O e2 f)
  .have f:=f.conv (M':=[(D,LI (rounds W))]) (by refine O hP.2 ?_;rfl);exact fin _ _ _ (by rfl) f
 .exact dQ xdd (dQ z nA)
structure Stat where
a:Int
b:Int
c:Int
d:Int
t:Tab
def cB(x:Stat):T:=.tup [.int x.a,.int x.b,.int x.c,.int x.d,dg x.t]
def j5(t s:Stat):Stat:=⟨s.a+t.a,s.b+t.b,s.c+t.c,s.d+t.d,jF t.t s.t⟩
theorem I1{t u:Stat}(b:cG A (n+2))(N:Top X B)(c:t.t.length<=1000)(a:u.t.length<=1000):CA A X B (.ref 66) [cB t,cB u] (cB (j5 t u)):=by
 refine CA.top GA N b rfl rfl rfl λs U E Z L f k i C=>?_;have d:=i.hd;refine bY (FS.MA ["cc","nc","tt","ct","callers"] (ps:=[_,_,_,_,_]) f d (EV.name f.cx) (λx m=>?_) (λJ f=>⟨rfl,?_⟩) (by rfl));.simp only[bB,cg,or_false]at m;rcases m with rfl|rfl|rfl|rfl|rfl<;>exact C _ (.inl (by kernel_rfl))
 refine bY (FS.MA ["t_cc","t_nc","t_tt","t_ct","t_callers"] (ps:=[_,_,_,_,_]) f d (EV.name f.cx) (λx m=>?_) (λj f=>⟨rfl,?_⟩) (by rfl));.simp only[bB,cg,or_false]at m;rcases m with rfl|rfl|rfl|rfl|rfl<;>exact C _ (.inl (by kernel_rfl))
 have h:Kp B j.heap:=k.trans f.ks.kp;have G:=N.kp h;refine aH (GC.kp G.K).obj λo g e=>?_;refine dj (FS.ret f (EV.less (EV.tup f.cx.live (EL.cons (EV.bin (EV.name f.cx) (EV.name f.cx) bE.add) (EL.cons (EV.bin (EV.name f.cx) (EV.name f.cx) bE.add) (EL.cons (EV.bin (EV.name f.cx) (EV.name f.cx) bE.add) (EL.cons (EV.bin (EV.name f.cx) (EV.name f.cx) bE.add) (EL.cons (EV.uB (EV.glob f.cx (by exact TA)) g e (EL.cons (EV.name f.cx) (EL.cons (EV.name f.cx) EL.nil)) (Jf (t:=t.t) (u:=u.t) i ⟨G.K,f.cx.live,f.cx.ok.eN,f.cx.ok.blt⟩ c a)) EL.nil)))))) inR) λv S k r=>⟨k,r⟩)
section
variable{A:aG}{X:List ah}{B:aB}{G:aO}{j:Gm}
theorem CA.ord:CA A X B (.builtin "ord") [.str ⟨#[c]⟩] (.int c):=λs E K k r=>by obtain⟨v,rfl⟩:=az.ju r;obtain⟨t,rfl⟩:=r.1.eV;exact P.ord_of_char ⟨.tok ..,.fO _ _⟩
theorem CA.lower(l:CO (A0 x).length=ay):CA A X B (.builtin "str.lower") [.str x] (.str (A0 x)):=λs E K k r=>by obtain⟨v,rfl⟩:=az.ju r;obtain⟨t,rfl⟩:=r.1.eV;exact SC.lower l ⟨.tok ..,.m8 _ _⟩
theorem aY.inSet(R:B.SetOf (ow PW w) a S n):aY A X B .In (.int i) (.aJ (.ref a)) (S i):=λs E u v k J c=>by refine aE J.cM λt p=>?_;subst p;obtain rfl:=c.cS;have m:s.heap.SetOf (ow PW w) a S n:=let⟨o,D,b,t,g,r⟩:=R;⟨o,D,b,t,k _ _ g,r⟩;exact wpAny_inSet_of (Px PW w i t) rfl m ⟨.tok ..,rfl⟩
theorem EV.xbh{o e:aT}{name:ai}{m R:aS}{id:String}{t u r:T}(i:EV A G X B o t)(L:EV A G X B e u)(Q:∀(s:au)(v:aj),Kp B s.heap->Rep X s.heap t v->∃l:String,F2 l/\tw l name id/\uM (.builtin id)=pure (.type "method_descriptor")/\s.TypeIs v l/\∀a,v=.ref a->∃S,s.heap.get? a=aa S/\S.dict=ak)(Z:CA A X B (.builtin id) [t,u] r)(P:autoParam (kG o name G (aU o G)=aU o G) yAR)(W:autoParam (bq [e] G=[(ay,aU e G)]) yAR)(f:autoParam ((m.endLine==R.line)=af) yAR):EV A G X B (.Call (.Attribute o name m) [e] [] R) r:=λs E k=>by refine EA P W f (aC (i s E k) (λg U x=>?_) λ_ _ e=>e);refine n8 (Q U g (k.trans x.1.kp) x.2) λl a b c d e=>?_;refine⟨l,id,a,b,c,d,e,mh rfl rfl (mW (nY (aC (L U E (k.trans x.1.kp)) (λv J y=>rQ ?_) λ_ _ e=>e)))⟩;exact aC (Z J E [g,v] (k.trans (x.1.trans y.1).kp) ⟨Rep.kp (y.1.kp.bN X) _ _ x.2,y.2,trivial⟩) (λc h z=>⟨(x.1.trans y.1).trans z.1,z.2⟩) λ_ _ e=>e
theorem Ep{h h':aB}{K:Type}[DecidableEq K]{s:KeyKind PW w K}{d:ah}{f:K->Option aj}(k:Kp h h')(m:h.MapOf s d f):h'.MapOf s d f:=let⟨o,D,t,g,r⟩:=m;⟨o,D,t,k _ _ g,r⟩
noncomputable def Hu:Option ai->T|none=>.none|aa y=>.str y
noncomputable def Hv(f:Int->Option aj)(g:Int->Option ai):Prop:=∀i,f i=ak/\g i=ak\/∃y t,f i=aa (.str y t)/\g i=aa y
theorem CA.Hw{d:ah}{f:Int->Option aj}{g:Int->Option ai}{i:Int}(Q:B.MapOf (ow PW w) d f)(U:(d==eo)=ay)(H:Hv f g):CA A X B (.builtin "dict.get") [.aJ (.ref d),.int i] (Hu (g i)):=λs E K k r=>by
 refine kZ (az.nF r) λu v p=>?_;subst p;obtain rfl:=r.1.cS;refine aE r.2.1.cM λt p=>?_;subst p;have q:=Ep k Q;refine t7 xcB q.typeIs F.entry_dict_get (F.args_dict_get_2 _ _) (meets_dict_get (ow PW w) d (Px PW w i t) U) ⟨f,q,?_⟩;refine bz (H i) (λI=>?_) λN=>?_;.obtain⟨a,b⟩:=I;exact O a (O b ⟨.tok ..,rfl⟩)
 .obtain⟨y,c,a,b⟩:=N;exact O a (O b ⟨.tok ..,.m8 _ _⟩)
theorem EV.Hw{o e:aT}{m R:aS}{d:ah}{f:Int->Option aj}{g:Int->Option ai}{i:Int}(b:EV A G X B o (.aJ (.ref d)))(L:EV A G X B e (.int i))(Q:B.MapOf (ow PW w) d f)(U:(d==eo)=ay)(H:Hv f g)(P:autoParam (kG o "get" G (aU o G)=aU o G) yAR)(W:autoParam (bq [e] G=[(ay,aU e G)]) yAR)(u:autoParam ((m.endLine==R.line)=af) yAR):EV A G X B (.Call (.Attribute o "get" m) [e] [] R) (Hu (g i)):=EV.xbh b L (λs v k r=>by obtain rfl:=r.cS;have q:=Ep k Q;exact⟨"dict",xaw,xcB,F.type_dict_get,q.typeIs,λa e=>by injection e with e;subst e;exact let⟨o,_,_,g,x,_⟩:=q;⟨o,g,x.2.1⟩⟩) (CA.Hw Q U H) P W u
theorem aY.isNotNone{x:Option ai}:aY A X B .IsNot (Hu x) .none x.isSome:=λs E u v k J c=>by obtain rfl:v=.none:=c;refine isNot_none ⟨.refl _,?_⟩;cases x with|none=>obtain rfl:u=.none:=J;rfl|some y=>refine aE J.eV λt p=>?_;subst p;rfl
end
noncomputable def Hx(o:bR):Array (Int×aj)×Nat×SetTable:=match o.data with|.set e n t=>(e,n,t)|_=>(#[],0,default)
noncomputable def Qm(o:bR):Array gm×Nat:=match o.data with|.dict e n=>(e,n)|_=>(#[],0)
def Cm:Array (Int×aj):=(Hx (MineH.yJ w.params)).1
def setB(i:Int):Bool:=(Cm).toList.any λe=>Ms i e.2
theorem xfB:(Cm).toList.all (λe=>(match e.2 with|.int i _=>e.1==hashInt i|_=>ay)&&e.2.scannable)=af:=by kernel_rfl
theorem xfC:hH.SetOf (ow PW w) 175 setB (Cm).size:=by
 refine⟨MineH.yJ w.params,Cm,(Hx (MineH.yJ w.params)).2.1,(Hx (MineH.yJ w.params)).2.2,kj (by kernel_rfl),⟨by kernel_rfl,by kernel_rfl,by kernel_rfl⟩,by kernel_rfl,λe m=>?_,λk=>vN,of_decide_eq_true (by kernel_rfl),by kernel_rfl,rfl⟩;have c:=vJ.mp (cj.mp xfB e m);refine⟨?_,c.2⟩;have c:=c.1;split at c;.rename_i i t q;exact⟨i,by exact O q (beq_self_eq_true i),eq_of_beq c⟩
 .cases c
def Cn:Array gm:=(Qm (MineH.A4 PW)).1
def Co(k:Int):Option aj:=findBy Ms Cn k
def cC(k:Int):Option ai:=match Co k with|aa (Fe y _)=>aa y|_=>ak
theorem Qn:Cn.toList.all (λe=>(match e.key with|.int i _=>e.hash==hashInt i|_=>ay)&&match e.val with|.str _ _=>af|_=>ay)=af:=by kernel_rfl
theorem xfD:hH.MapOf (ow PW w) 186 Co:=by
 refine⟨MineH.A4 PW,Cn,(Qm (MineH.A4 PW)).2,kj (by kernel_rfl),⟨by kernel_rfl,by kernel_rfl,by kernel_rfl⟩,by kernel_rfl,λe m=>?_,λk=>rfl⟩;have c:=(vJ.mp (cj.mp Qn e (zO.mpr m))).1;split at c;.rename_i i t q;exact⟨i,by exact O q (beq_self_eq_true i),eq_of_beq c⟩
 .cases c
theorem xfE:Hv Co cC:=λi=>by unfold cC;cases h:Co i with|none=>exact .inl ⟨rfl,rfl⟩|some v=>
right;refine aH (vF.mp (show(Cn.find? λe=>Ms i e.key).map (·.val)=some v from h)) λe L p=>?_;subst p;have c:=(vJ.mp (cj.mp Qn e (zO.mpr (Array.mem_of_find?_eq_some L)))).2;split at c;.rename_i y t q;exact⟨y,t,by exact O q rfl,by exact O q rfl⟩
.cases c
theorem Th(u:cG A (n+1))(N:Top X B):CA A X B (.ref 185) [.str ⟨#[c]⟩] (.bool (setB c)):=by refine CA.top NY N u rfl rfl rfl λs U E Z L f k i C=>?_;have m:U.heap.SetOf (ow PW w) 175 setB _:=let⟨o,D,a,t,g,r⟩:=xfC;⟨o,D,a,t,(N.K.trans (k.trans f.ks.kp)) _ _ g,r⟩;exact dj (FS.ret f ((EV.cmp (EV.cQ (EV.glob f.cx (by exact O7)) rfl (.cons (EV.name f.cx) .nil) CA.ord) (EV.glob f.cx (by exact Xr)) (aY.inSet m)).less inR) λv S k r=>⟨k,r⟩)
def Bp(g:Int->Option ai)(c:Nat):ai:=(g c).getD (A0 ⟨#[c]⟩)
theorem MT.lower:MT (.str x) "lower" "str.lower":=λX s v r=>by obtain⟨t,rfl⟩:=r.eV;exact⟨"str",xcm,F.slot_str_lower,F.type_str_lower,typeIs_str ..,λa e=>by cases e⟩
theorem S6{A:aG}{X:List ah}{B:aB}{n:Nat}{c:Nat}(u:cG A (n+1))(N:Top X B)(l:CO (A0 ⟨#[c]⟩).length=ay):CA A X B (.ref 231) [.str ⟨#[c]⟩] (.str (Bp cC c)):=by
 refine CA.top NZ N u rfl rfl rfl λs U E Z L f k i C=>?_;have V:=C "r" (.inl (by kernel_rfl));have q:=Ep (N.K.trans (k.trans f.ks.kp)) xfD;refine bY (FS.set f V.1 V.2 (EV.Hw (EV.glob f.cx (by exact S5)) (EV.cQ (EV.glob f.cx (by exact O7)) rfl (.cons (EV.name f.cx) .nil) CA.ord) q dk xfE) λJ _ f=>⟨rfl,?_⟩);refine nS (FS.cond (b:=(cC c).isSome) f (TV.cmp (EV.name f.cx) EV.none aY.isNotNone) (λR j f=>?_) λR j f=>?_);.refine dj (FS.ret f ((EV.name f.cx).less inR) λv S k r=>?_);cases e:cC c with|none=>replace R:=e▸R;cases R|some y=>replace r:=e▸r;simp only[Bp,e];exact⟨k,r⟩
 .refine aN ?_;refine dj (FS.ret f ((EV.xcQ (EV.name f.cx) MT.lower (CA.lower l)).less inR) λv S k r=>?_);cases e:cC c with|none=>simp only[Bp,e];exact⟨k,r⟩|some y=>replace R:=e▸R;cases R
section
variable{A:aG}{X:List ah}{B:aB}{G:aO}{c:Gm}
theorem Vq{f:List ai}:∀{K:List aj},az X h (f.map .str) K->StrsAre K f:=by induction f with
|nil=>intro K r;cases K with|nil=>exact .nil|cons=>exact r.elim
|cons y f a=>intro K r;cases K with|nil=>exact r.elim|cons v K=>refine aE r.1.eV λt q=>?_;subst q;exact .cons _ _ (a r.2)
theorem CA.join{x:ai}{f:List ai}(W:x.length<=16)(I:(f.map (·.length)).sum+f.length<=1048576):CA A X B (.builtin "str.join") [.str x,.list (f.map .str)] (.str (yI x f)):=λs E K k r=>by refine kZ (az.nF r) λu v q=>?_;subst q;refine aE r.1.eV λt q=>?_;subst q;refine cI r.2.1.d8 λa xs q n p R=>?_;subst q;exact join_listW p.isList (Vq R) W I λg k=>⟨.tok ..,.m8 _ _⟩
theorem aY.Xv:aY A X B .NotIn (.str y) (.str x) !xdS x y:=λs E u v k J a=>by obtain⟨t,rfl⟩:=J.eV;obtain⟨g,rfl⟩:=a.eV;exact P.notIn_str ⟨.refl _,rfl⟩
theorem aY.isBool:aY A X B .Is (.bool a) (.bool b) (a==b):=λs E u v k J d=>by have H:u=.bool a:=J;have L:v=.bool b:=d;subst H L;refine wpAny_is_plain (by rfl) ⟨.refl _,?_⟩;cases a<;>cases b<;>rfl
end
noncomputable def yP(c:Nat):Bool:=!xdS ".\r\n" ⟨#[c]⟩
def sgn(S:Int->Bool)(b:Int->Option ai)(c:Nat):ai:=if S c then""else Bp b c
def m5(S:Int->Bool)(b:Int->Option ai)(a:ai):List ai:=(a.cps.toList.filter yP).map (sgn S b)
def nameOf(S:Int->Bool)(b:Int->Option ai)(a:ai):ai:=yI "" (m5 S b a)
theorem UI{a:ai}(u:cG A (n+2))(N:Top X B)(I:a.cps.toList.length<=100000)(t:((m5 setB cC a).map (·.length)).sum+(m5 setB cC a).length<=1048576):CA A X B (.ref 236) [.str a] (.str (nameOf setB cC a)):=by
 refine CA.top N1 N u rfl rfl rfl λs U E Z L f k i x=>?_;have p:=i.hd;have V:=x "judged" (.inl (by kernel_rfl));refine bY (FS.qJ f V.1 V.2 (t:=.list ((a.cps.toList.filter yP).map λc=>.tup [.str ⟨#[c]⟩,.bool (setB c)])) ?_ λq f=>⟨rfl,?_⟩)
 .refine CU.l1 (kf:=λc=>.str ⟨#[c]⟩) (f:=λc=>.tup [.str ⟨#[c]⟩,.bool (setB c)]) f.cx (IT.str p (by rfl) f.cx.live (EV.name f.cx)) ?_ ?_ I;.exact λc m C g Y h b j=>TS.one (TV.cmp (EV.name b) EV.str aY.Xv)
  .intro c m _ C g Y h b _ j;have H:=k.trans (f.ks.kp.trans j);have G:=N.kp H;refine aH (NY.kp G.K).obj λo l w=>?_;refine EV.tup b.live (EL.cons (EV.name b) (EL.cons (EV.uB (EV.glob b (by exact TF)) l w (EL.cons (EV.name b) EL.nil) (Th (c:=c) i ⟨G.K,b.live,b.ok.eN,b.ok.blt⟩)) EL.nil))
 .refine dj (FS.ret f (EV.less (EV.Bl EV.str (EF.ev (CU.ef (t:=.list ((m5 setB cC a).map .str)) ?_ f.cx.live)) (MT.str F.slot_str_join F.type_str_join) (CA.join dk t)) inR) λv S k r=>⟨k,r⟩);have e:T.list ((m5 setB cC a).map .str)=.list (((a.cps.toList.filter yP).filter λ_=>af).map λc=>.str (sgn setB cC c)):=by refine O (zP.mpr λ_ _=>rfl) ?_;simp only[m5,bO];rfl
  refine O e ?_;refine CU.l2 (kf:=λc=>.str ⟨#[c]⟩) (kg:=λc=>.bool (setB c)) p f.cx (IT.list p (.inr (by rfl)) f.cx.live (EV.name f.cx)) ?_ ?_ ?_;.exact λc m C g Y h b j=>TS.nil
  .intro c m _ C g Y h b _ j;have H:=k.trans (f.ks.kp.trans j);have G:=N.kp H;refine aH (NZ.kp G.K).obj λo l J=>?_;have d:CO (A0 ⟨#[c]⟩).length=ay:=fit_lower (by show 1<=5592405;decide);refine EV.ite (b:=setB c==ay) (TV.cmp (EV.name b) EV.bool aY.isBool) (λR=>?_) λR=>EV.ite (b:=setB c==af) (TV.cmp (EV.name b) EV.bool aY.isBool) (λy=>?_) λy=>?_
   .have R:setB c=ay:=by simpa using R
    rw[sgn,R,if_neg dk];refine EV.uB (EV.glob b (by exact Tg)) l J (EL.cons (EV.name b) EL.nil) (S6 (c:=c) i ⟨G.K,b.live,b.ok.eN,b.ok.blt⟩ d)
   .have y:setB c=af:=by simpa using y
    rw[sgn,if_pos y];exact EV.str
   .cases e:setB c<;>rw[e]at R y<;>first|(cases R;done)|(cases y;done)
  .exact bf (nJ _ _) I
section
open PySem.Sre(M)
open PySem.Builtin.Re
section
variable{A:aG}{E:aj->au->Prop}{s:au}
theorem Jq:∀(T k:Nat)(m:M),(fX k m).outcome.isSome=af->k<=4*T->1<=T->Q (fX k m) s->av (aA PW w) A (reDrive T m) Q E s
|0,k,m,h,_,h1,_=>absurd h1 dk|T+1,k,m,h,N,h1,X=>by
 show av _ _ (if(m.runFor 4).outcome.isSome=af then pure (m.runFor 4)else do rule "sre.turn";reDrive T (m.runFor 4)) _ _ _;refine O (KD ..) ?_;by_cases e:(fX 4 m).outcome.isSome=af;.refine O (if_pos e) ?_;refine aN ?_;exact O (Xq e h) X
 .refine O (if_neg e) ?_;have a:4<k:=by refine xar λq=>e ?_;refine aE (Jc q) λc Z=>?_;rw[Z,wB,yr h];exact h
  refine aE (Nat.exists_eq_add_of_lt a) λc z=>?_;subst z;rw[rL 4 c 1,wB]at h X;have Z:c+1<=4*T:=I2 (b:=4) (bf (di (jk (c+1) 4)) N);exact aq (qE (Jq T (c+1) _ h Z (Nat.pos_of_ne_zero λe=>absurd (e▸Z:c+1<=4*0) (Nat.not_succ_le_zero c)) X))
theorem wpAny_run{Q:Option M->au->Prop}{m:M}{K:Nat}{r:Option (Nat×Nat)}(e:Ends m K r)(T:K<=10^12)(D:r=none->Q none s)(h1:∀b e H,r=some (b,e)->H.start=b->H.handed=e->Q (some H) s):av (aA PW w) A (reRunToEnd m) Q E s:=by
 refine aH e λk N x=>?_;have g:(fX k m).outcome.isSome=af:=by cases r with|none=>rw[show(fX k m).outcome=_ from x];rfl|some p=>rw[x.1];rfl
 unfold reRunToEnd;have R:k<=4*2^64:=bf (bf N T) dk;refine aq (Jq _ k m g R dk ?_);refine aq (wpAny_forIn_list _ (λ_ _ S=>S=s) _ (λi u b S e=>?_) (λb S e=>?_) _ _ rfl)
 .subst e;by_cases c:(fX k m).seen.has i=af;.exact O (if_pos c) (aq (qE (aN rfl)))
  .exact O (if_neg c) (aN rfl)
 .subst e;cases r with|none=>rw[show(fX k m).outcome=_ from x];exact aN (D rfl)|some p=>rw[x.1];exact aN (h1 p.1 p.2 _ rfl x.2.1 x.2.2)
end
end
section
open PySem.Sre(M)
open PySem.Builtin.Re
noncomputable def mL(h:aB)(a:ah)(i:Array Nat):Prop:=∃(o r:bR)(c:Array aj)(e:ah)(f:Array aj)(n:Nat),h.get? a=aa o/\o.cls=.type "re.Pattern"/\o.dict=ak/\o.data=.fields c/\c.getD 5 .none=.ref e/\reRawNat (c.getD 6 .none)=0/\reRawNat (c.getD 2 .none)=0/\h.get? e=aa r/\r.data=.seq f n/\r.cls=.type "tuple"/\(f.map reRawOf).map (·.toNat)=i
theorem mL.kp{h h':aB}{a:ah}{i:Array Nat}(k:Kp h h')(p:mL h a i):mL h' a i:=by obtain⟨o,r,c,e,f,n,h1,J,R,Y,y,l,u,b,j⟩:=p;exact⟨o,r,c,e,f,n,k _ _ h1,J,R,Y,y,l,u,k _ _ b,j⟩
theorem mL.kpx{h h':aB}{a D:ah}{i:Array Nat}{o:bR}(d:h.get? D=aa o)(Z:o.cls=.type "list")(k:bg [D] h h')(p:mL h a i):mL h' a i:=by
 obtain⟨q,r,c,e,f,n,h1,J,R,Y,y,l,u,b,j,g,s⟩:=p;have U:a∉[D]:=λm=>by replace m:=aX.mp m;subst m;replace d:=h1▸d;cases d;replace Z:=J▸Z;exact absurd Z dk
 have P:e∉[D]:=λm=>by replace m:=aX.mp m;subst m;replace d:=b▸d;cases d;replace Z:=g▸Z;exact absurd Z dk
 exact⟨q,r,c,e,f,n,k _ _ U h1,J,R,Y,y,l,u,k _ _ P b,j,g,s⟩
section
variable{A:aG}{E:aj->au->Prop}{s:au}
theorem JQ{a:ah}{i:Array Nat}{x:ai}{t:l8}{Q:ReTarget->au->Prop}(p:mL s.heap a i)(X:Q ⟨.ref a,.str x t,i,x.cps,0,0,0,x.cps.size⟩ s):av (aA PW w) A (reWholeTarget (.ref a) (.str x t)) Q E s:=by obtain⟨o,r,c,e,f,n,h1,J,R,Y,y,l,u,b,j,_,g⟩:=p;unfold reWholeTarget;refine aq (wpAny_fieldsOf h1 Y ?_);unfold reTextOf;refine aq (aq (m:=asStr? (.str x t)) (aN ?_));refine aN ?_;dsimp only;refine O l ?_;unfold reNoCollectionInside reRawItems F6;refine O y ?_;dsimp only;refine aq (aN ?_);refine aq (aq (aq (A1 b ?_)));refine O j ?_;dsimp only;refine aN (aN (aN ?_));show Q {pattern:=.ref a,string:=.str x t,code:=(f.map reRawOf).map (·.toNat),text:=x.cps,kind:=0,groups:=reRawNat (c.getD 2 .none),pos:=0,lim:=x.cps.size} s;exact O g (O u X)
noncomputable def cut(t:Array Nat)(b e:Nat):List ai:=if b<e then[⟨t.extract b e⟩]else[]
def fH(fd:Nat->Option (Nat×Nat))(t:Array Nat)(r:ai)(n:Nat):Nat->List ai:=n.rec (λ_=>[]) λ_ i s=>(fd s).elim (cut t s t.size) λq=>cut t s q.1++r::i q.2
noncomputable def yQ(fd:Nat->Option (Nat×Nat))(n:Nat):Prop:=∀s b e,s<=n->fd s=aa (b,e)->s<=b/\b<e/\e<=n
theorem SW(a b:List (ai×l8)):jB (a++b)=jB a++jB b:=fY ..
theorem Lh{l:List (ai×l8)}(d:s.heap.get? D=aa {cls:=.type "list",data:=.seq (jB l).toArray m})(I:l.length<=2000000)(h:∀a H,bu [D] s a->a.heap.get? D=aa {cls:=.type "list",data:=.seq (jB (l++[(y,G)])).toArray H}->Q () a):av (aA PW w) A (F7 D (·.push (.str y G))) Q E s:=by
 have P:(jB l).toArray.size=l.length:=by exact O iX (aI ..)
 refine xec d rfl (h _ (if((jB l).toArray.push (.str y G)).size==(jB l).toArray.size then m else m+1) ?_ ?_) (by exact O P (O dK (cD I))) (by exact O (YY ..) (O P (O dK (zd I))));.exact⟨λb o n e=>Heap.get?_update_of_ne _ (λq=>n (by exact O q (aQ ..))) e,rfl⟩
 .refine O (qo _ d rfl) (O (SW ..) ?_);have:(jB l++jB [(y,G)]).toArray=(jB l).toArray.push (.str y G):=by refine O (List.push_toArray ..) ?_;rfl
  refine O this ?_;rfl
theorem Zz{l:List (ai×l8)}(d:s.heap.get? D=aa {cls:=.type "list",data:=.seq (jB l).toArray m})(j:((l.map (·.1)).map (·.length)).sum+(l.map (·.1)).length<=1048576)(T:∀S h,bu [D] s S->R (.ok (.ret (.str (yI "" (l.map (·.1))) h))) S):av (aA PW w) A (do let c<-reSlice t 0 0 0;let y<-F6 (.ref D)if(y.getD #[]).isEmpty=af then do let v<-pure c;ret v;else do let v<-dP (.builtin (if((0:Nat)==0)=af then"str.join"else"bytes.join")) [c,.ref D]ret v) (λI S=>match I with|.done f=>R (.ok f) S|.again g=>g.quiet=af/\pU (aA PW w) Q g R S) E s:=by
 have e:reSlice t 0 0 0=mkStr ⟨t.extract 0 0⟩:=rfl;have B:(⟨t.extract 0 0⟩:ai)="":=by
  have:t.extract 0 0=#[]:=by simp
  refine O this ?_;rfl
 refine O e (O B ?_);refine aq (wpAny_mkStr ?_ (by refine O dK ?_;decide));refine aq (aq (m:=load D) (A1 (o:={cls:=.type "list",data:=.seq (jB l).toArray m}) d (aN ?_)));cases l with|nil=>exact aN (T _ _ ⟨λb o n e=>e,rfl⟩)|cons p l=>
refine aq ?_;have F:∀q:List (ai×l8),StrsAre (jB q) (q.map (·.1)):=λq=>by induction q with|nil=>exact .nil|cons a q G=>exact .cons _ _ G
have P:({s with toks:=s.toks+1}:au).heap.PlainList D (jB (p::l)).toArray:=⟨m,d⟩;show av _ _ (dP (.builtin "str.join") [_,.ref D]) _ _ _;refine join_listW P.isList (by exact O WV (F (p::l))) dk j λh k=>?_;exact aN (T _ _ ⟨λb o n e=>e,rfl⟩)
theorem Li{D:ah}{l:List (ai×l8)}{m b e:Nat}{x:ai}{f:Unit->bh Fin}{Q:Fin->au->Prop}(g:s.heap.get? D=aa {cls:=.type "list",data:=.seq (jB l).toArray m})(I:l.length<=1048576)(Y:x.cps.size<=100000)(h:∀a d H,bu [D] s a->a.heap.get? D=aa {cls:=.type "list",data:=.seq (jB d).toArray H}->d.map (·.1)=l.map (·.1)++cut x.cps b e->d.length<=l.length+1->av (aA PW w) A (f ()) Q E a):av (aA PW w) A (if b<e then reSlice x.cps 0 b e>>=λv=>F7 D (·.push v)>>=λr=>f r else f ()) Q E s:=by
 unfold cut at h;by_cases c:b<e;.rw[if_pos c]at h⊢;refine aq (m:=mkStr ⟨x.cps.extract b e⟩) (wpAny_mkStr (aq (Lh (l:=l) g (cD I) λa H k B=>h a _ H (bu.trans (.of (.tok ..)) k) B (fY ..) (di (cL ..)))) ?_);show(x.cps.extract b e).size<=_;exact O WW (O dK (bf (yv ..) (BN (cD Y))))
 .rw[if_neg c]at h⊢;exact h s l m (.of (.refl _)) g (g8 _).symm (dN _)
theorem Xw{a D:ah}{i:Array Nat}{x r:ai}{t B:l8}{fd:Nat->Option (Nat×Nat)}{R:Result->au->Prop}(Y:x.cps.size<=100000)(K:yQ fd x.cps.size)(hs:∀M,M<=x.cps.size->Ends (rM i x.cps 0 M x.cps.size ay) 400000 (fd M))(c:Nat):∀(M n:Nat)(s:au)(l:List (ai×l8))(m:Nat),x.cps.size<c+M->M<=x.cps.size->mL s.heap a i->s.heap.get? D=aa {cls:=.type "list",data:=.seq (jB l).toArray m}->((l.map (·.1)++fH fd x.cps r c M).map (·.length)).sum+(l.map (·.1)++fH fd x.cps r c M).length<=1048576->(∀g Q,bu [D] s g->R (.ok (.ret (.str (yI "" (l.map (·.1)++fH fd x.cps r c M)) Q))) g)->pU (aA PW w) A (.builtin "re.Pattern.sub.loop" ⟨[.ref a,.str x t,.str r B,e9 0,e9 0,e9 n,e9 M,e9 M,.bool ay,.ref D,.bool ay],[]⟩) R s:=by induction c with|zero=>intro M n s l m h h';exact absurd h (tM ((jl M).symm▸h'))|succ c ih=>
intro M n s l m V y p o j T;refine tT (b:=Builtin.«re.Pattern.sub.loop») (z6 (by kernel_rfl)) ?_;refine O (xX (by decide+kernel) _) ?_;have I:l.length<=1048576:=by rw[cL,aI]at j;exact QY (HJ j)
refine aq (JQ p (aq (m:=pure ()) (aN ?_)));have hl:fH fd x.cps r (c+1) M=(fd M).elim (cut x.cps M x.cps.size) λq=>cut x.cps M q.1++r::fH fd x.cps r c q.2:=rfl;rw[hl]at j T;refine aq (m:=reNextFound _ M ay) (wpAny_run (hs M y) dk (λhn=>?_) λb e W P h1 h2=>?_);.rw[hn]at j T;refine Li o I Y λg l' W k G e _=>Zz G (e▸j) λs'' Q H=>?_;exact O e (T _ _ (k.trans H))
.have N:=K M b e y P;rw[P]at j T;dsimp only;refine O h1 (O h2 ?_);refine Li o I Y λU z S d F L Z=>?_;refine aq (aN ?_);refine aq (m:=F7 D (·.push (.str r B))) (Lh (l:=z) F (bf Z (zd I)) λJ X v f=>?_);have u:plainId "re.Pattern.sub.loop"=af:=by decide+kernel
 refine aN ⟨vW u _,?_⟩;have C:(z++[(r,B)]).map (·.1)++fH fd x.cps r c e=l.map (·.1)++(cut x.cps M b++r::fH fd x.cps r c e):=by refine O fY (O L (O (fT ..) (O (fT ..) ?_)));rfl
 exact O (show(n:Int)+1=((n+1:Nat):Int)from rfl) (O (beq_false_of_ne (gb N.2.1)) (ih e (n+1) J _ X (iz V (bf (di (rD c M)) (iy (gO N.1 N.2.1) c))) N.2.2 (p.kpx o rfl (d.trans v).kp) f (C▸j) λg Q H=>C▸T _ _ ((d.trans v).trans H)))
end
end
section
open PySem.Builtin.Re
theorem entry_sub:Be CB "re.Pattern.sub"=aa Builtin.«re.Pattern.sub»:=z6 (by kernel_rfl)
theorem Xx(a b c:aj):sG "re.Pattern.sub" ⟨[a,b,c],[]⟩:=by unfold sG;refine O (signature?_of (id:="re.Pattern.sub") (n:=['b','u','s']) (o:=['n','r','e','t','t','a','P','.','e','r']) (by kernel_rfl) (rows:=Manifest.sig_re_Pattern) (by kernel_rfl)) ?_;kernel_rfl
theorem Er:tw "re.Pattern" "sub" "re.Pattern.sub":=.of (owner:="re.Pattern") (n:="sub") (by refine O (iQ ..) (O iN ?_);kernel_rfl) (by decide+kernel) (by decide+kernel) (by decide+kernel) (by first|exact .inl (by decide+kernel)|exact .inr (by decide+kernel)) (by refine O (Ea ..) ?_;kernel_rfl)
theorem Xy:uM (.builtin "re.Pattern.sub")=pure (.type "method_descriptor"):=by show builtinType _=_;refine O builtinType_eq_fast ?_;kernel_rfl
theorem Wc(a b:aj):reNamed "re.Pattern.sub" "sub" ["repl","string","count"] 2 [a,b] []=pure [aa a,aa b,ak]:=by rfl
theorem Vr:jO (.type "str") "__call__"=pure ak:=by kernel_rfl
theorem Ti:F2 "re.Pattern":=⟨⟨"object.__getattribute__",by refine O (iQ ..) (O iN ?_);kernel_rfl,by decide+kernel⟩,by refine O (iQ ..) (O iN ?_);kernel_rfl⟩
end
section
open PySem.Builtin.Re
def xu(fd:Nat->Option (Nat×Nat))(x r:ai):ai:=yI "" (fH fd x.cps r (x.cps.size+1) 0)
theorem CA.sub{A:aG}{X:List ah}{B:aB}{a:ah}{i:Array Nat}{x r:ai}{fd:Nat->Option (Nat×Nat)}(p:mL B a i)(Y:x.cps.size<=100000)(Q:yQ fd x.cps.size)(W:∀st,st<=x.cps.size->Ends (rM i x.cps 0 st x.cps.size ay) 400000 (fd st))(D:r.cps.contains 92=ay)(j:((fH fd x.cps r (x.cps.size+1) 0).map (·.length)).sum+(fH fd x.cps r (x.cps.size+1) 0).length<=1048576):CA A X B (.builtin "re.Pattern.sub") [.aJ (.ref a),.str r,.str x] (.str (xu fd x r)):=λs E K k c=>by
 refine iT (az.zf c) λu v z I=>?_;subst I;obtain rfl:=c.1.cS;refine aE c.2.1.eV λf I=>?_;subst I;refine aE c.2.2.1.eV λt I=>?_;subst I;have F:=p.kp k;have g:s.TypeIs (.ref a) "re.Pattern":=let⟨o,_,_,_,_,_,h1,J,_⟩:=F;⟨o,h1,J⟩;refine AZ (zR Er.plain entry_sub (Er.check _ _ _ _ _ _ _ _ g (Xx _ _ _) ?_));show av _ _ (reSubstitute "re.Pattern.sub" "sub" ay ⟨[.ref a,.str r f,.str x t],[]⟩) _ _ _;unfold reSubstitute;dsimp only;refine O (Wc ..) ?_;refine aq (aN ?_);dsimp only;refine aq (aN ?_);refine aq (wpAny_specialOf_val (T:="str") (r:=ak) rfl Vr ?_);have d:¬(ak:Option aj).isSome=af:=dk;refine O (if_neg d) ?_;refine aq (m:=asStr? (.str r f)) (aN ?_);dsimp only;refine aq (aN ?_);rw[if_neg d,D,if_pos (by rfl)];refine aq (aN ?_);refine aq (dJ (JQ F ?_));have l:¬((Fe r f,(0:Int)).snd==1)=af:=by show¬((0:Int)==1)=af;decide
 refine O (if_neg (by show¬((0:Int)==1)=af;decide)) ?_;refine aq (tY ?_ (by show(0:Nat)<=_;exact jm _));refine aN ⟨vW (by decide+kernel) _,?_⟩;have n:Kp s.heap (s.heap.push {cls:=.type "list",data:=.seq #[]}):=λb o e=>bX _ e;have h:((([]:List (ai×l8)).map (·.1)++fH fd x.cps r (x.cps.size+1) 0).map (·.length)).sum+(([]:List (ai×l8)).map (·.1)++fH fd x.cps r (x.cps.size+1) 0).length<=1048576:=j;refine Xw (D:=s.heap.objs.size) (l:=[]) Y Q W (x.cps.size+1) 0 0 {s with heap:=s.heap.push {cls:=.type "list",data:=.seq #[]}} 0 (gA _) (jm _) (F.kp n) (cF _ (by rfl)) h λS q w=>?_;refine⟨?_,.m8 _ _⟩;refine Ks.qk (Ks.push s _) w λa m=>?_;replace m:=aX.mp m;exact O m (get?_none_of_le (cR _))
section
variable{A:aG}{X:List ah}{B:aB}{G:aO}{P:Gm}
theorem EV.xbi{o L h:aT}{name:ai}{m R:aS}{id:String}{t p i r:T}(D:EV A G X B o t)(w:EV A G X B L p)(n:EV A G X B h i)(Q:∀(s:au)(v:aj),Kp B s.heap->Rep X s.heap t v->∃l:String,F2 l/\tw l name id/\uM (.builtin id)=pure (.type "method_descriptor")/\s.TypeIs v l/\∀a,v=.ref a->∃S,s.heap.get? a=aa S/\S.dict=ak)(Z:CA A X B (.builtin id) [t,p,i] r)(f:autoParam (kG o name G (aU o G)=aU o G) yAR)(W:autoParam (bq [L,h] G=[(ay,aU L G),(ay,aU h G)]) yAR)(u:autoParam ((m.endLine==R.line)=af) yAR):EV A G X B (.Call (.Attribute o name m) [L,h] [] R) r:=λs E k=>by refine Call_method2 f W u (aC (D s E k) (λg U x=>?_) λ_ _ e=>e);refine n8 (Q U g (k.trans x.1.kp) x.2) λl a b c d e=>?_;refine⟨l,id,a,b,c,d,e,mh rfl rfl (mW (nY (aC (w U E (k.trans x.1.kp)) (λv J y=>nY (aC (n J E (k.trans (x.1.trans y.1).kp)) (λq j C=>rQ ?_) λ_ _ e=>e)) λ_ _ e=>e)))⟩;exact aC (Z j E [g,v,q] (k.trans ((x.1.trans y.1).trans C.1).kp) ⟨Rep.kp ((y.1.trans C.1).kp.bN X) _ _ x.2,Rep.kp (C.1.kp.bN X) _ _ y.2,C.2,trivial⟩) (λc j z=>⟨((x.1.trans y.1).trans C.1).trans z.1,z.2⟩) λ_ _ e=>e
theorem EV.O8{o L h:aT}{m R:aS}{a:ah}{i:Array Nat}{x r:ai}{fd:Nat->Option (Nat×Nat)}(g:EV A G X B o (.aJ (.ref a)))(w:EV A G X B L (.str r))(n:EV A G X B h (.str x))(p:mL B a i)(Y:x.cps.size<=100000)(Q:yQ fd x.cps.size)(I:∀st,st<=x.cps.size->Ends (rM i x.cps 0 st x.cps.size ay) 400000 (fd st))(D:r.cps.contains 92=ay)(j:((fH fd x.cps r (x.cps.size+1) 0).map (·.length)).sum+(fH fd x.cps r (x.cps.size+1) 0).length<=1048576)(b:autoParam (kG o "sub" G (aU o G)=aU o G) yAR)(W:autoParam (bq [L,h] G=[(ay,aU L G),(ay,aU h G)]) yAR)(u:autoParam ((m.endLine==R.line)=af) yAR):EV A G X B (.Call (.Attribute o "sub" m) [L,h] [] R) (.str (xu fd x r)):=EV.xbi g w n (λs v k r=>by obtain rfl:=r.cS;have F:=p.kp k;obtain⟨o,_,_,_,_,_,h1,J,c,_⟩:=F;exact⟨"re.Pattern",Ti,Er,Xy,⟨o,h1,J⟩,λa e=>by injection e with e;subst e;exact⟨o,h1,c⟩⟩) (CA.sub p Y Q I D j) b W u
end
def ko(t:Array Nat)(s:Nat):Option (Nat×Nat):=r9 t (t.size-s) s
def kr(t:Array Nat)(s:Nat):Option (Nat×Nat):=se t (t.size-s) s
theorem N9(t:Array Nat):yQ (ko t) t.size:=λs b e h=>Ld (λs h _=>⟨gA s,h⟩) s (qt h)
theorem Xz{t:Array Nat}(h:s<t.size):s<endAt t s/\endAt t s<=t.size:=by
 unfold endAt;by_cases c:(t.getD s 0==13&&decide (s+1<t.size)&&t.getD (s+1) 0==10)=af;.have c2:=(dZ _ _).mp ((dZ _ _).mp c).1;exact O (if_pos c) ⟨vE dk,of_decide_eq_true c2.2⟩
 .exact O (if_neg c) ⟨gA s,h⟩
theorem Oa(t:Array Nat):yQ (kr t) t.size:=λs b e h=>Ld (λs h _=>Xz h) s (qt h)
def qZ(x:ai):ai:=xu (kr x.cps) x "\r\n"
def Hy(x:ai):ai:=xu (ko x.cps) x ".."
def gc(x:ai):ai:=Hy (qZ x)
noncomputable def sj(fd:Nat->Option (Nat×Nat))(x r:ai):Prop:=x.cps.size<=100000/\((fH fd x.cps r (x.cps.size+1) 0).map (·.length)).sum+(fH fd x.cps r (x.cps.size+1) 0).length<=1048576
noncomputable def Qo(o:bR):Array aj:=match o.data with|.seq x _=>x|_=>#[]
theorem Qp{a ca:ah}{o oc:bR}{i:Array Nat}(e:h1.get? a=aa o)(X:h1.get? ca=aa oc)(n:a∉[PL])(f:ca∉[PL])(J:o.cls=.type "re.Pattern"/\o.dict=ak/\o.data=.fields (qd o)/\(qd o).getD 5 .none=.ref ca/\reRawNat ((qd o).getD 6 .none)=0/\reRawNat ((qd o).getD 2 .none)=0)(b:oc.data=.seq (Qo oc) 0/\oc.cls=.type "tuple"/\((Qo oc).map reRawOf).map (·.toNat)=i):mL hH a i:=⟨o,oc,_,ca,_,0,kj e n,J.1,J.2.1,J.2.2.1,J.2.2.2.1,J.2.2.2.2.1,J.2.2.2.2.2,kj X f,b.1,b.2.1,b.2.2⟩
theorem xfF:mL hH 85 c1:=Qp (o:=MineH.OP) (oc:=MineH.OO) (ca:=84) (by kernel_rfl) (by kernel_rfl) dk dk ⟨by kernel_rfl,by kernel_rfl,by kernel_rfl,by kernel_rfl,by kernel_rfl,by kernel_rfl⟩ ⟨by kernel_rfl,by kernel_rfl,by kernel_rfl⟩
theorem xfG:mL hH 90 c2:=Qp (o:=MineH.OR) (oc:=MineH.OQ) (ca:=89) (by kernel_rfl) (by kernel_rfl) dk dk ⟨by kernel_rfl,by kernel_rfl,by kernel_rfl,by kernel_rfl,by kernel_rfl,by kernel_rfl⟩ ⟨by kernel_rfl,by kernel_rfl,by kernel_rfl⟩
theorem Uc{A:aG}{X:List ah}{B:aB}{n:Nat}{x:ai}(u:cG A (n+1))(N:Top X B)(b:sj (kr x.cps) x "\r\n")(a:sj (ko (qZ x).cps) (qZ x) ".."):CA A X B (.ref 167) [.str x] (.str (gc x)):=by refine CA.top NX N u rfl rfl rfl λs U E Z L f k i C=>?_;have j:Kp B U.heap:=k.trans f.ks.kp;refine dj (FS.ret f ((EV.O8 (EV.glob f.cx (by exact UE)) EV.str (EV.O8 (EV.glob f.cx (by exact UG)) (EV.glob f.cx (by exact xbf)) (EV.name f.cx) (xfG.kp (N.K.trans j)) b.1 (Oa _) (λM h=>(Zv _ M h).mono dk) (by decide+kernel) b.2) (xfF.kp (N.K.trans j)) a.1 (N9 _) (λM h=>(Zu _ M h).mono ?_) (by decide+kernel) a.2).less inR) λv S k r=>⟨k,r⟩);exact cD (qp (mV 3 (bf (yv ..) a.1)) 6)
end
noncomputable def elt(p:Int×ai)(i:Int):T:=if i=0 then .int p.1 else .str p.2
noncomputable def l6(a b:Int×ai)(i:Int):Bool:=if i=0 then decide (a.1<b.1)else decide (a.2.cps.toList<b.2.cps.toList)
def j6(a b:Int×ai):List (Int×Int)->Int|[]=>0|(i,d)::r=>if l6 a b i then-d else if l6 b a i then d else j6 a b r
theorem Lj(h:∀q∈l,l6 a b q.1=ay/\l6 b a q.1=ay):j6 a b (l++r)=j6 a b r:=by induction l with|nil=>rfl|cons q l G=>obtain⟨i,d⟩:=q;have:=h (i,d) (aQ ..);rw[zW,j6,this.1,this.2];exact G λq m=>h q (aZ _ m)
section
variable{A:aG}{X:List ah}{B:aB}{G:aO}{c:Gm}
theorem aY.l6:aY A X B .Lt (elt a i) (elt b i) (l6 a b i):=λs E u v k J d=>by
 unfold elt at J d;unfold Mine.l6;split at J;.rename_i e;rw[if_pos e]at d⊢;exact aY.lt s E u v k J d
 .rename_i e;rw[if_neg e]at d⊢;refine aE J.eV λt z=>?_;subst z;refine aE d.eV λg z=>?_;subst z;exact P.lt_str ⟨.refl _,rfl⟩
theorem aY.gtE:aY A X B .Gt (elt a i) (elt b i) (Mine.l6 b a i):=λs E u v k J d=>by
 unfold elt at J d;unfold Mine.l6;split at J;.rename_i e;rw[if_pos e]at d⊢;exact aY.gt s E u v k J d
 .rename_i e;rw[if_neg e]at d⊢;refine aE J.eV λt z=>?_;subst z;refine aE d.eV λg z=>?_;subst z;exact P.gt_str ⟨.refl _,rfl⟩
end
noncomputable def l7(q:Int×Int):T:=.tup [.int q.1,.int q.2]
noncomputable def o7(p:Int×ai):T:=.tup [.int p.1,.str p.2]
theorem AP{i:Int}(h:i=0\/i=1):([T.int p.1,T.str p.2]:List T)[i.toNat]?=aa (elt p i):=by rcases h with rfl|rfl<;>rfl
theorem KL{h h':aB}(k:Kp h h')(I:h.InstFk x C D):h'.InstFk x C D:=by refine fU I λo a b c d=>?_;refine⟨o,k _ _ a,b,c,d.imp id λ⟨d,e,f,g,i⟩=>⟨d,e,f,g.keeps λb o=>k b o,i.keeps λb o=>k b o⟩⟩
theorem UJ{h:aB}(I:h.InstFk x C D):h.Inst x C D:=by refine fU I λo a b c d=>?_;exact⟨o,a,b,c,d.imp id λ⟨d,e,f,g,i⟩=>⟨d,e,f,g⟩⟩
structure xw(h:aB)(C N:ah)(j:ai->Option aj):Prop where obj:∃(n q:ai)(z:List aj)(s:List ai)(T:List aj)(a:Option Bool)(m:Option ah)(H V M r W:Option aj),h.get? C=aa (Fd n q C N z [.type "object"] af s T ay a m H V M r W "object.__new__")ns:h.Ns N j
theorem xw.kp(k:Kp h h')(c:xw h C N j):xw h' C N j:=by obtain⟨n,q,z,s,T,a,m,H,V,M,r,W,e⟩:=c.obj;exact⟨⟨n,q,z,s,T,a,m,H,V,M,r,W,k _ _ e⟩,c.ns.keeps λb o=>k b o⟩
theorem xw.t(c:xw h C N j):xr h C N j:=by obtain⟨n,q,z,s,T,a,m,H,V,M,r,W,e⟩:=c.obj;exact⟨⟨n,q,z,s,T,ay,a,m,H,V,M,r,W,_,e⟩,c.ns⟩
noncomputable def jY(o:bR):ClassData:=match o.data with|.cls c=>c|_=>default
def qf(o:bR)(i:Nat):Option aj:=o.slots.toList[i]?.getD ak
noncomputable def rA:ai->Option aj:=hH.nsMap 54
theorem uU:xw hH 55 54 rA:=⟨⟨(jY MineH.ni).name,(jY MineH.ni).qualname,(jY MineH.ni).bases,(jY MineH.ni).slotNames,(jY MineH.ni).subclasses,(jY MineH.ni).collection,ak,qf MineH.ni 0,qf MineH.ni 1,qf MineH.ni 2,qf MineH.ni 3,qf MineH.ni 5,kj (by kernel_rfl)⟩,.of_isNs (by kernel_rfl)⟩
theorem XA:rA "__init__"=aa (.ref 45):=by kernel_rfl
theorem UK:rA "compare"=aa (.ref 52):=by kernel_rfl
theorem Ob:rA "__getattribute__"=ak:=by kernel_rfl
theorem xbj:rA "__getattr__"=ak:=by kernel_rfl
theorem xbk:rA "__setattr__"=ak:=by kernel_rfl
theorem Oc:rA "comp_select_list"=ak:=by kernel_rfl
theorem xfH:hH.get? 45=aa (MineH.yW PW):=kj (by kernel_rfl)
theorem xde:(MineH.yW PW).cls=.type "function":=by kernel_rfl
theorem xfI:hH.get? 52=aa (MineH.uA PW):=kj (by kernel_rfl)
theorem xdf:(MineH.uA PW).cls=.type "function":=by kernel_rfl
theorem xdg:(MineH.uA PW).data=.func (fdOf (MineH.uA PW)):=by kernel_rfl
section
variable{A:aG}{E:aj->au->Prop}
theorem Wd{s:au}(K:Kp hH s.heap)(H:cG A (n+1))(I:s.heap.InstFk x 55 λ_=>ak)(p:x≠55)(X:∀h,h.heap.InstFk x 55 (λy=>if y="comp_select_list"then aa v else ak)->(∀b o,b≠x->(∀c d,s.heap.get? x=aa c->c.dict=aa d->b≠d)->s.heap.get? b=aa o->h.heap.get? b=aa o)->h={s with heap:=h.heap,toks:=h.toks}->(∀c,s.heap.get? x=aa c->∃k,h.heap.get? x=aa k/\∀d,c.dict=aa d->k.dict=aa d)->Q .none h):av (aA PW w) A (dP (.ref 45) [.ref x,v] []) Q E s:=by
 refine v8 (X:=[]) (ts:=[.aJ (.ref x),.aJ v]) (xbd.kp K) (rz.kp K) H (λa m=>absurd m cg) cg cg rfl ⟨.ie _,.ie _,trivial⟩ λU E Z L f q hw=>?_;have W:=KL f.ks.kp I;have c1:=(uU.kp K).kp f.ks.kp;refine dj (IW (aC ((EV.name f.cx) U E λ_ _ e=>e) (λv' J y=>?_) λ_ _ e=>e));refine aW y λM S=>?_;obtain rfl:=S.cS;refine aC ((EV.name f.cx) J E M.kp) (λo j y=>?_) λ_ _ e=>e;refine aW y λr r3=>?_;obtain rfl:=r3.cS;have l:=(M.trans r).kp;have i:Ks s j:=f.ks.trans (M.trans r);obtain⟨nm',q',bs,sn,T,z,dd,e0,e1,e2,e3,e5,C⟩:=(c1.kp l).obj;have t:=KL l W;refine store_attrFk PySem.F.store_object C (c1.kp l).ns xbk Oc (by refine O (iQ ..) (O iN ?_);kernel_rfl) p t λh' V G N g=>?_;refine X _ G (λb o R u e=>N b o R (λc d D h1=>?_) (i.kp b o e)) ?_ λc e=>let⟨k,a,_,_,_,b⟩:=g c (i.kp _ _ e);⟨k,a,b⟩;.refine aH I λox Y _=>?_;have:=i.kp _ _ Y;replace D:=this▸D;cases D;exact u _ d Y h1
 .have e:=i.eq;show({heap:=h',gens:=j.gens,drawn:=j.drawn,toks:=V,os:=j.os}:au)=_;have B:j.gens=s.gens:=by exact O e rfl
  have P:j.drawn=s.drawn:=by exact O e rfl
  have F:j.os=s.os:=by exact O e rfl
  exact O B (O P (O F rfl))
theorem We{s:au}(K:Kp hH s.heap)(u:cG A (n+2)):av (aA PW w) A (dP (.ref 55) [v] []) (λr S=>Ks s S/\∃x,r=.ref x/\s.heap.get? x=ak/\S.heap.Inst x 55 (λy=>if y="comp_select_list"then aa v else ak)/\∀o d,S.heap.get? x=aa o->o.dict=aa d->s.heap.get? d=ak) E s:=by
 obtain⟨l,R,B,C,T,g,m,M,H,L,U,X,a⟩:=(uU.kp K).obj;obtain⟨h,I,d,t,P⟩:=s;refine wpAny_call_obj_initFk PySem.F.objNew a (uU.kp K).ns XA (K _ _ xfH) xde λh' x F Q=>?_;have W:Kp h h':=Q.keeps;have p:x≠55:=λq=>by have:=Q.newX;replace this:=q▸this;replace this:=(show h.get? 55=aa _ from a)▸this;cases this
 have i:cG (A.under (.builtin "type.__call__" ⟨.ref 55::[v],[]⟩)) (n+1):=⟨u.hd,by
have:=u.dep;have e:(t6 "type.__call__" ⟨.ref 55::[v],[]⟩).weight=1:=by first|rfl|kernel_rfl|simp[xdT]
show A.depth+(t6 "type.__call__" ⟨.ref 55::[v],[]⟩).weight+(n+1)<660;exact PJ this e,by
have:=u.jH;have e:(t6 "type.__call__" ⟨.ref 55::[v],[]⟩).cUnits=1:=by first|rfl|kernel_rfl
show A.units+(t6 "type.__call__" ⟨.ref 55::[v],[]⟩).cUnits+8*(n+1)<2000;exact PI this e⟩;refine Wd (n:=n) (s:=⟨h',I,d,t,P⟩) (K.trans W) i Q.inst p λS G N f z=>⟨rfl,⟨λb o e=>?_,?_⟩,x,rfl,Q.newX,UJ G,λo V H L=>?_⟩
 .refine N b o (λq=>?_) (λc j D h1 q=>?_) (W b o e);.have:=Q.newX;replace e:=q▸e;exact gone e this
  .have J:=Q.dict c D;replace J:=h1▸J;cases J;have:=Q.newD;replace e:=q▸e;exact gone e this
 .exact O f rfl
 .refine aH Q.inst λc D _=>?_;refine aH (z c D) λk h1 J=>?_;replace H:=h1▸H;cases H;replace L:=J F (Q.dict c D)▸L;cases L;exact Q.newD
end
noncomputable def dG(S:List ah)(h h':aB):Prop:=∀b∈S,∀o,h.get? b=aa o->∃J,h'.get? b=aa {o with slots:=J}
theorem dG.refl(S:List ah)(h:aB):dG S h h:=λb _ o e=>⟨o.slots,e⟩
theorem dG.trans(x:dG S a b)(y:dG S b c):dG S a c:=λd m o e=>by refine aE (x d m o e) λJ H=>?_;refine aE (y d m _ H) λf L=>?_;exact⟨f,L⟩
theorem dG.of(k:bg V h h')(n:∀b∈S,b∉V):dG S h h':=λb m o e=>⟨o.slots,k b o (n b m) e⟩
section
variable{A:aG}{H:List ah}{N B s c:au}{Z:List ah}{G:aO}{g d:Gm}{M:List (ah×T)}{E:aj->au->Prop}
theorem FS.xfJ{L:Type}{V u:aT}{i:List c6}{X:aS}{as:List L}{kf:L->T}{cV:List L->Gm}{iw:List L->L->Gm}{Mf:List L->List (ah×T)}{Q:ek->au->Prop}(S:List ah)(hS:∀b∈S,b∈H)(C:∀b∈S,b∉Z)(P:List L->Prop)(hP:P [])(f:FS H N B s Z G (cV []) (Mf []))(hi:IT A G (Z++H) s.heap u V (as.map kf))(hM:∀l,(Mf l).map (·.1)=(Mf []).map (·.1))(Y:∀l a,(∃r,as=l++a::r)->AS A G (aM G) V (kf a) (cV l) (iw l a))(t:∀l a,(∃r,as=l++a::r)->P l->∀z U E,(∀b∈S,b∉z++Z)->FS H N U U (z++Z) G (iw l a) (Mf l)->(∀{J:au}{h:Gm}{j4:List (ah×T)},j4.map (·.1)=(Mf []).map (·.1)->FS H N J J (z++Z) G h j4->dG S U.heap J.heap->FS H N J J Z G h j4/\dG S s.heap J.heap)->av (aA PW w) A (b9 i G) (EJ (λJ=>P (l++[a])/\FS H N J J (z++Z) G (cV (l++[a])) (Mf (l++[a]))/\bg (aM G++(Mf []).map (·.1)++S) U.heap J.heap/\dG S U.heap J.heap) Q) E U)(F:∀c,P as->FS H N c c Z G (cV as) (Mf as)->dG S s.heap c.heap->Q .next c)(hs:autoParam (∀x,g7 u G x=pure x) yAI):av (aA PW w) A (dY (.For V u i [] X) G) Q E s:=by
 have R:∀z:List ah,(∀b∈z,s.heap.get? b=ak)->∀b∈S,b∉z:=λz n b m q=>(f.cx.live b (cK _ (hS b m))).elim λo e=>gone e (n b q);refine FS.Qa (aM G++(Mf []).map (·.1)++S) (λc=>dG S s.heap c.heap) P hP f (λb m=>?_) hi hM Y (λc k=>.of (k.kp.bN []) λ_ _=>cg) (λz U J n j k=>j.trans (.of k.kp (R z n))) (λU J j k=>j.trans (.of k.kp λb m n=>C b m (f.own b n))) (λl a hl W z U E hw j D K=>mono (t l a hl W z U E (λb m n=>(bD.mp n).elim (R z hw b m) (C b m)) D λe I so=>⟨K e I,j.trans so⟩) λfl J y=>?_) F hs
 .refine bz (bD.mp m) (λm=>?_) λm=>?_;.exact bI _ ((bD.mp m).elim (f.own b) (mem_keys rfl (λp m=>(f.acc p m).1) b))
  .exact cK _ (hS b m)
 .cases fl with|next=>exact⟨y.1,y.2.1,y.2.2.1,j.trans y.2.2.2⟩|cont=>exact⟨y.1,y.2.1,y.2.2.1,j.trans y.2.2.2⟩|brk=>exact y|ret v=>exact y
end
noncomputable def DI(d:List (Int×T)):T:=.dI (d.map (·.1)) (d.map (·.2))
noncomputable def O9(d:List (Int×T))(k:Int):Option T:=(d.find? λp=>p.1=k).map (·.2)
section
variable{A:aG}{X:List ah}{h₀:aB}{G:aO}
theorem cU.dI(H:O9 d k=aa t)(W:autoParam (jR h) yAW):cU A X h₀ f h (DI d) (.int k) t:=λs E a b j Y o=>by refine aE o.cM λu z=>?_;subst z;refine jN Y.xaW λD g z n C p e r=>?_;subst z;refine aH ((z9 (k:=k) r).2 t H) λv K c=>?_;exact GU p.typeIs slot_dict_getitem.lookup (xdR (Px PW w k u) p.mapOf K ⟨.tok ..,c⟩) (W _ _)
theorem CA.abs:CA A X h₀ (.builtin "abs") [.int i] (.int (if i<0 then-i else i)):=λs E K k r=>by refine aE (az.ju r) λv z=>?_;subst z;have r:=r.1;refine aE r.cM λt z=>?_;subst z;exact call_abs_int λu a=>⟨.tok ..,.fO _ _⟩
theorem bE.Qq{a b:List T}(c:bJ X h₀)(I:a.length+b.length<=100000):bE A X h₀ .Add (.list a) (.list b) (.list (a++b)):=λs E u v k J d=>by
 refine cI J.d8 λl xs z h V q=>?_;subst z;refine cI d.d8 λm f z i Q R=>?_;subst z;refine aE V λn g=>?_;refine aE Q λP t=>?_;have H:xs.size=a.length:=by exact aR dw (O q.length rfl)
 have L:f.size=b.length:=by exact aR dw (O R.length rfl)
 refine EC ⟨_,g,rfl⟩ ⟨_,t,rfl⟩ xdZ seq_list_add PySem.F.slot_list_add PySem.F.entry_list_add (PySem.F.args_list_add_2 _ _) (list_addW l m xs f n P ak ak #[] #[] (by exact O dK (G2 I H L))) ⟨g,t,?_⟩;have W:Kp s.heap (s.heap.push {cls:=.type "list",data:=.seq (xs++f)}):=λb o e=>bX _ e;refine⟨.push ..,?_⟩;refine⟨_,_,rfl,(c.kp k).new,⟨_,cF _ rfl⟩,?_⟩;exact O tF (az.append (az.kp (W.bN X) _ _ q) (az.kp (W.bN X) _ _ R))
theorem aY.neS{x y:ai}:aY A X h₀ .NotEq (.str x) (.str y) (x.cps.toList !=y.cps.toList):=λs E u v k J c=>by obtain⟨t,rfl⟩:=J.eV;obtain⟨g,rfl⟩:=c.eV;exact P.ne_str ⟨.refl _,rfl⟩
noncomputable def pB(a b:Int×ai)(i:Int):Bool:=if i=0 then a.1 !=b.1 else a.2.cps.toList !=b.2.cps.toList
theorem aY.pB:aY A X h₀ .NotEq (elt a i) (elt b i) (Mine.pB a b i):=λs E u v k J c=>by
 unfold elt at J c;unfold Mine.pB;split at J;.rename_i e;rw[if_pos e]at c⊢;exact aY.ne s E u v k J c
 .rename_i e;rw[if_neg e]at c⊢;exact aY.neS s E u v k J c
theorem noPylong{i j:Int}(h:j.natAbs<2^64):CH i j=ay:=by
 unfold CH;have:¬(if j==0 then 0 else j.natAbs.log2/30+1)>300:=by
  split;.exact Km _
  .rename_i Y;have K:j.natAbs≠0:=by intro e;apply Y;simp[JM.mp e]
   exact rS.mpr (cD (Nat.succ_le_of_lt (gO (Nat.div_le_self ..) ((Nk K).mpr h))))
 simp only[decide_eq_false this,Bool.false_and]
theorem bE.uD{i j:Int}(h:0<j)(J:j<1000000000000000000):bE A X h₀ .FloorDiv (.int i) (.int j) (.int (i.fdiv j)):=bE.fdiv (Ed h) (noPylong (BK (kI h) J))
theorem bE.uE{i j:Int}(h:0<j):bE A X h₀ .Mod (.int i) (.int j) (.int (i.fmod j)):=bE.fmod (Ed h)
theorem xdh{i j:Int}(h:i.natAbs<2^63):IntMulOk i j:=IntMulOk.of_left (by
unfold zL;split;.exact jm _
.rename_i F;have K:i.natAbs≠0:=by intro e;apply F;simp[JM.mp e]
 have:i.natAbs.log2<63:=(Nk K).mpr h;exact vM this)
theorem bE.zh{i j:Int}(h:i.natAbs<2^63):bE A X h₀ .Mult (.int i) (.int j) (.int (i*j)):=bE.mul (xdh h)
theorem bE.xfK{j:Int}(h:0<=j)(J:j<=100):bE A X h₀ .Pow (.int 4) (.int j) (.int (4^j.toNat)):=bE.pow h (by have:zL 4=3:=dk;exact O this (gG (IX J dk) dk))
end
theorem JF{n:Nat}{A lt':Nat->Nat->Bool}(h:∀i j,i<n->j<n->A i j=lt' i j)(t:KasT (Array Nat)):l5 n t=af->jT A t=jT lt' t:=by induction t with|ret a=>exact λ_=>rfl|ask i j k G=>intro o;refine gW (AM o) λa b c=>?_;show jT A (k (A i j))=jT lt' (k (lt' i j));exact O (h i j a b) (G _ (c _))
def bl(a b c d e f:Bool)(i j:Nat):Bool:=([[ay,a,b,c],[!a,ay,d,e],[!b,!d,ay,f],[!c,!e,!f,ay]].getD i []).getD j ay
noncomputable def trB(A:Nat->Nat->Bool):Bool:=(gj 4).all λi=>(gj 4).all λj=>(gj 4).all λk=>!(A i j&&A j k)||A i k
theorem Vs:∀a b c d e f:Bool,trB (bl a b c d e f)=af->(jT (bl a b c d e f) (lH 4)).toList.Perm [0,1,2,3]/\(jT (bl a b c d e f) (lH 4)).toList.Pairwise λi j=>bl a b c d e f i j=af:=by decide+kernel
theorem wC(p:Int×Int):fc p p=ay:=by simp[fc]
theorem KN(h:p≠q):fc p q=!fc q p:=by
 unfold fc;by_cases e:p.1=q.1
 .have:p.2≠q.2:=λL=>h (Prod.ext e L);refine O (if_pos e) (O (if_pos e.symm) ?_);by_cases g:p.2<q.2;.have:¬q.2<p.2:=Ef g;simp[g,this]
  .have:q.2<p.2:=jc (fD.mp g) (gu this);simp[g,this]
 .refine O (if_neg e) (O (if_neg (gu e)) ?_);by_cases g:p.1<q.1;.have:¬q.1<p.1:=Ef g;simp[g,this]
  .have:q.1<p.1:=jc (fD.mp g) (gu e);simp[g,this]
theorem AQ:fc p q=af↔p.1<q.1\/p.1=q.1/\p.2<q.2:=by
 unfold fc;by_cases e:p.1=q.1;.refine O (if_pos e) ?_;simp[e]
 .refine O (if_neg e) ?_;simp[e]
theorem Wf(h:fc p q=af)(g:fc q r=af):fc p r=af:=by exact AQ.mpr ((AQ.mp h).elim (λa=>.inl ((AQ.mp g).elim (mY a) λb=>b.1▸a)) λa=>(AQ.mp g).elim (λb=>.inl (a.1▸b)) λb=>.inr ⟨a.1.trans b.1,mY a.2 b.2⟩)
theorem o8{p:Nat->Prop}(D:p 0)(h1:p 1)(J:p 2)(R:p 3)(i:Nat)(h:i<4):p i:=by rcases PA h with e|e|e|e<;>exact e▸by assumption
theorem xdi{lt:Nat->Nat->Bool}(g:∀i,i<4->lt i i=false)(l:∀i j,i<4->j<4->i≠j->lt i j=!lt j i)(f:∀i j k,i<4->j<4->k<4->lt i j=true->lt j k=true->lt i k=true):(jT lt (lH 4)).toList.Perm [0,1,2,3]/\(jT lt (lH 4)).toList.Pairwise λi j=>lt i j=true:=by
 have e:∀i,i<4->∀j,j<4->lt i j=bl (lt 0 1) (lt 0 2) (lt 0 3) (lt 1 2) (lt 1 3) (lt 2 3) i j:=by have d:=λi=>g i;have t:=λi j(a:i<4)(b:j<4)(c:i≠j)=>l i j a b c;exact o8 (o8 (d 0 dk) rfl rfl rfl) (o8 (t _ _ dk dk dk) (d 1 dk) rfl rfl) (o8 (t _ _ dk dk dk) (t _ _ dk dk dk) (d 2 dk) rfl) (o8 (t _ _ dk dk dk) (t _ _ dk dk dk) (t _ _ dk dk dk) (d 3 dk))
 obtain⟨Q,Z⟩:=Vs (lt 0 1) (lt 0 2) (lt 0 3) (lt 1 2) (lt 1 3) (lt 2 3) (cj.mpr λi F=>cj.mpr λj Y=>cj.mpr λk N=>by have F:=rI.mp F;have Y:=rI.mp Y;have N:=rI.mp N;refine aR (e i F j Y) (aR (e j Y k N) (aR (e i F k N) ?_));cases h1:lt i j with|false=>rfl|true=>cases J:lt j k with|false=>rfl|true=>refine O (f i j k F Y N h1 J) ?_;rfl);rw[<-JF (λi j a b=>e i a j b) _ BX]at Q Z;have n:∀{i},i∈(jT lt (lH 4)).toList->i<4:=λm=>(by decide:∀i∈[0,1,2,3],i<4) _ (Q.mem_iff.mp m);exact⟨Q,Z.imp_of_mem λa b h=>(e _ (n a) _ (n b)).trans h⟩
noncomputable def mk(v p:Int):Int:=(v.fdiv (4^p.toNat)).fmod 4
def lU(v:Int):Int:=([1,-2]:List Int).getD ((v.fdiv 256).fmod 2).toNat 0
def lV(v:Int):Int:=([3,-4]:List Int).getD ((v.fdiv 512).fmod 2).toNat 0
noncomputable def gJ:List ai:=["fi","k","ss","st","tel"]
def bC(i:Int):ai:=gJ.getD i.toNat ""
def rowAt(v I o:Int):Int×ai:=(mk v ((cX I).idxOf o),bC o)
def keysOf(v:Int):List (Int×Int):=[(0,lU v),(1,lV v)]
def g4(v I o:Int):Int×Int:=((rowAt v I o).1*lU v,o*lV v)
def cY(v I:Int):List Int:=AN (g4 v I) (cX I)
def qK(v I one:Int):List Int:=(cY v I).map λi=>j6 (rowAt v I i) (rowAt v I one) (keysOf v)
def xx(a b:Int×ai)(l:List (Int×Int)):Int:=(((l.filter λ(q:Int×Int)=>pB a b q.1).map λ(q:Int×Int)=>if q.2<0 then-q.2 else q.2)++[0]).getD 0 0
def mO(v I one i:Int):Int:=xx (rowAt v I i) (rowAt v I one) (keysOf v)
def jU(v I a one:Int):List Int:=(en 0 (cY v I)).map λq=>mO v I one q.2*if a<q.1 then 1 else-1
def toldOf(v I:Int):List (List Int):=(en 0 (cY v I)).map λq=>qK v I q.2
def GG(v I:Int):List (List Int):=(en 0 (cY v I)).map λq=>jU v I q.1 q.2
def oH(v I:Int):List (Int×Int):=(Pp (toldOf v I) (cY v I)).map λq=>(((q.1.filter λn=>decide (n<0)).length:Int),q.2)
theorem sr(a:Int):a.fmod 2=0\/a.fmod 2=1:=O (Int.fmod_eq_emod_of_nonneg a dk) (Int.emod_two_eq a)
theorem MB(v:Int):lU v=1\/lU v=-2:=by unfold lU;rcases sr (v.fdiv 256)with e|e<;>rw[e]<;>simp
theorem ER(v:Int):lV v=3\/lV v=-4:=by unfold lV;rcases sr (v.fdiv 512)with e|e<;>rw[e]<;>simp
theorem xhe:∀a∈r5,∀b∈r5,decide ((bC a).cps.toList<(bC b).cps.toList)=decide (a<b):=by decide+kernel
theorem xhf:∀a∈r5,∀b∈r5,((bC a).cps.toList !=(bC b).cps.toList)=(a !=b):=by decide+kernel
theorem J6(h:o∈cX I):o∈r5/\o≠I:=by refine aW (d7.mp h) λa b=>?_;exact⟨a,by simpa using b⟩
theorem Od(v p:Int):mk v p∈([0,1,2,3]:List Int):=by have h1:=vH (v.fdiv (4^p.toNat)) (b:=4) dk;have J:=rF (v.fdiv (4^p.toNat)) (b:=4) dk;have h:=PD h1 J;unfold mk;rcases h with e|e|e|e<;>rw[e]<;>decide
theorem MC(v:Int):lU v∈([1,-2]:List Int)/\lV v∈([3,-4]:List Int):=⟨by rcases MB v with e|e<;>rw[e]<;>decide,by rcases ER v with e|e<;>rw[e]<;>decide⟩
noncomputable abbrev xfL(s j a b d e:Int):Prop:=(a=b->s=j)->j6 (s,bC a) (j,bC b) [(0,d),(1,e)]=(if a=b then 0 else if fc (s*d,a*e) (j*d,b*e)then-xx (s,bC a) (j,bC b) [(0,d),(1,e)]else xx (s,bC a) (j,bC b) [(0,d),(1,e)])/\(a≠b->0<xx (s,bC a) (j,bC b) [(0,d),(1,e)])
theorem ZA:∀s∈([0,1,2,3]:List Int),∀j∈([0,1,2,3]:List Int),∀a∈r5,∀b∈r5,∀d∈([1,-2]:List Int),∀e∈([3,-4]:List Int),xfL s j a b d e:=by decide+kernel
theorem xbl(K:a∈r5)(R:b∈r5):j6 (rowAt v who a) (rowAt v who b) (keysOf v)=(if a=b then 0 else if fc (g4 v who a) (g4 v who b)then-mO v who b a else mO v who b a)/\(a≠b->0<mO v who b a):=ZA _ (Od v _) _ (Od v _) a K b R _ (MC v).1 _ (MC v).2 λe=>e▸rfl
theorem XE:mO v I a a=0:=by unfold mO xx;simp[keysOf,pB]
theorem Lk(h:g4 v I a=g4 v I b):a=b:=Int.eq_of_mul_eq_mul_right (by rcases ER v with d|d<;>rw[d]<;>decide) (congrArg qG h)
theorem wD:∀I∈r5,(cX I).length=4/\(cX I).Nodup:=by decide+kernel
theorem yu{v I:Int}(C:I∈r5):(cY v I).Perm (cX I)/\(cY v I).Pairwise λa b=>fc (g4 v I a) (g4 v I b)=af:=by
 refine aW (wD I C) λV K=>?_;refine AH (JE I C) λa b c d e=>?_;have E:∀i,i<4->((cX I).map (g4 v I)).getD i (0,0)=g4 v I ((cX I).getD i 0):=by exact O e (o8 rfl rfl rfl rfl)
 have l:∀i j,i<4->j<4->((cX I).map (g4 v I)).getD i (0,0)=((cX I).map (g4 v I)).getD j (0,0)->i=j:=λi j F Y q=>by rw[E i F,E j Y]at q;have:=Lk q;rw[<-VU (h:=V▸F),<-VU (h:=V▸Y)]at this;exact(List.getElem_inj K).mp this
 refine aW (xdi (lt:=λi j=>fc (((cX I).map (g4 v I)).getD i (0,0)) (((cX I).map (g4 v I)).getD j (0,0))) (λi F=>wC _) (λi j F Y f=>KN λq=>f (l i j F Y q)) λi j k _ _ _ h g=>Wf h g) λQ W=>?_;have B:cY v I=((jT (λi j=>fc (((cX I).map (g4 v I)).getD i (0,0)) (((cX I).map (g4 v I)).getD j (0,0))) (lH 4)).toList).map λi=>(cX I).getD i 0:=by unfold cY AN lJ;exact O (aI ..) (O V rfl)
 refine O B ?_;have n:∀{i},i∈(jT (λi j=>fc (((cX I).map (g4 v I)).getD i (0,0)) (((cX I).map (g4 v I)).getD j (0,0))) (lH 4)).toList->i<4:=λm=>(by decide:∀i∈[0,1,2,3],i<4) _ (Q.mem_iff.mp m);refine⟨(Q.map _).trans (by exact O e (.refl _)),Df.mpr (W.imp_of_mem λm H h=>?_)⟩;exact aR (E _ (n m)) (aR (E _ (n H)) h)
theorem Oe(C:I∈r5):∃x y z u,cY v I=[x,y,z,u]:=by refine eK (jW ((yu (v:=v) C).1.length_eq.trans (wD I C).1)) λx q e h=>?_;refine iT (yX h) λy z u U=>?_;exact⟨x,y,z,u,U▸e⟩
theorem MD(C:I∈r5)(Q:p∈en 0 (cY v I))(B:q∈en 0 (cY v I)):j6 (rowAt v I q.2) (rowAt v I p.2) (keysOf v)=mO v I p.2 q.2*(if p.1<q.1 then 1 else-1)/\decide (mO v I p.2 q.2*(if p.1<q.1 then 1 else-1)<0)=decide (q.1<p.1):=by
 refine aW (yu (v:=v) C) λX W=>?_;refine aH (rX Q) λi H L=>?_;refine aH (rX B) λj m l=>?_;have c:∀{k:Nat}{a:Int},(cY v I)[k]?=aa a->a∈r5:=λe=>(J6 (X.mem_iff.mp (eO e))).1;refine aW (xbl (v:=v) (who:=I) (c l) (c L)) λc1 c2=>?_;have A:∀{i j:Nat}{a b:Int},i<j->(cY v I)[i]?=aa a->(cY v I)[j]?=aa b->fc (g4 v I a) (g4 v I b)=af:=λ{i j a b}h x y=>by obtain⟨F,x⟩:=rC.mp x;obtain⟨Y,y⟩:=rC.mp y;exact x▸y▸Uk.mp W i j F Y h
 have u:∀{a b:Int},fc (g4 v I a) (g4 v I b)=af->a≠b:=λh e=>by replace h:=wC ..▸e▸h;cases h
 refine O c1 (O H (O m ?_));rcases Y0 i j with h|h|h;.have g:=A h L l;have d:=c2 (u g).symm;have f:=W6 (gR.mpr h) 0;rw[if_neg (u g).symm,if_neg (by rw[KN λq=>u g (Lk q).symm,g];decide),if_pos f,Nl];exact⟨rfl,by exact O (decide_eq_false (fD.mpr (kI d))) (O (decide_eq_false (Ef f)) rfl)⟩
 .subst h;have g:=nR (l.symm.trans L);exact O g (O (if_pos rfl) (O XE (O (Int.zero_mul ..) ⟨rfl,(decide_eq_false (yg _)).trans (decide_eq_false (yg _)).symm⟩)))
 .have g:=A h l L;have d:=c2 (u g);have f:=W6 (gR.mpr h) 0;exact O (if_neg (u g)) (O (if_pos g) (O (if_neg (Ef f)) (O (Int.mul_neg ..) (O (Nl ..) ⟨rfl,by rw[decide_eq_true (Int.neg_neg_of_pos d),decide_eq_true f]⟩))))
theorem Ll(C:I∈r5):toldOf v I=GG v I:=by
 refine jI λp Q=>?_;have:qK v I p.2=(en 0 (cY v I)).map λq=>j6 (rowAt v I q.2) (rowAt v I p.2) (keysOf v):=by refine AH (Oe (v:=v) C) λx y z u e=>?_;unfold qK;refine O e ?_;rfl
 exact O this (jI λq B=>(MD C Q B).1)
theorem ZC{v I:Int}(C:I∈r5):Bm (oH v I)=en 0 (cY v I):=by
 have a:∀p∈en 0 (cY v I),((jU v I p.1 p.2).filter λn=>decide (n<0)).length=((en 0 (cY v I)).filter λq=>decide (q.1<p.1)).length:=λp Q=>by unfold jU;exact O List.filter_map (O (aI ..) (congrArg t8 (YL λq B=>(MD C Q B).2)))
 refine AH (Oe (v:=v) C) λx y z u e=>?_;replace a:=e▸a;have b:oH v I=[(0,x),(1,y),(2,z),(3,u)]:=by
  have d:((jU v I 0 x).filter λn=>decide (n<0)).length=0:=a (0,x) (.head _);have U:((jU v I 1 y).filter λn=>decide (n<0)).length=1:=a (1,y) (.tail _ (.head _));have P:((jU v I 2 z).filter λn=>decide (n<0)).length=2:=a (2,z) (.tail _ (.tail _ (.head _)));have h:((jU v I 3 u).filter λn=>decide (n<0)).length=3:=a (3,u) (.tail _ (.tail _ (.tail _ (.head _))));have:oH v I=[((((jU v I 0 x).filter λn=>decide (n<0)).length:Int),x),((((jU v I 1 y).filter λn=>decide (n<0)).length:Int),y),((((jU v I 2 z).filter λn=>decide (n<0)).length:Int),z),((((jU v I 3 u).filter λn=>decide (n<0)).length:Int),u)]:=by unfold oH;refine O (Ll C) ?_;unfold GG;refine O e ?_;rfl
  refine O this (O d (O U (O P (O h ?_))));rfl
 have c:lJ (oH v I)=[0,1,2,3]:=by
  unfold lJ;refine O b ?_;show(jT _ (lH 4)).toList=_;rewrite[JF (n:=4) (lt':=λi j=>decide (i<j)) (λi j F Y=>?_) _ BX];.decide+kernel
  .exact o8 (p:=λi=>∀j,j<4->fc (([(0,x),(1,y),(2,z),(3,u)]:List (Int×Int)).getD i (0,0)) (([(0,x),(1,y),(2,z),(3,u)]:List (Int×Int)).getD j (0,0))=decide (i<j)) (o8 (wC _) rfl rfl rfl) (o8 rfl (wC _) rfl rfl) (o8 rfl rfl (wC _) rfl) (o8 rfl rfl rfl (wC _)) i F j Y
 unfold Bm;refine O c (O b (O e ?_));rfl
section
variable{A:aG}{X₀:List ah}{s₀ B s S:au}{Z:List ah}{G:aO}{γ i:Gm}{M:List (ah×T)}{E:aj->au->Prop}
theorem FS.Vt(xs:List ai){ps:List aS}{l a R:aS}(d:A.handled=ak)(h:av (aA PW w) A (fN (cN l (bq D G))) (λK U=>∃(B:au)(u:List ah)(M':List (ah×T))(F:List T),FS X₀ s₀ B U u G γ M'/\az (u++X₀) U.heap F K/\xs.length=F.length/\F.length<=100000/\∀J,FS X₀ s₀ B J u G (bQ γ xs F) M'->Q .next J) E s)(Y:∀x∈xs,(G.kindOf x=aa .local\/G.kindOf x=aa .cell)/\dh G x∈aM G)(L:autoParam (ps.length=xs.length) yAR)(g:autoParam (pI b G=(xs.zip ps).map λy=>(ay,fV (.Name y.1 y.2) G)) yAR)(W:autoParam (rO [.Tuple b k a] (.Tuple D c l) R.line G=pure ay) yAR)(C:autoParam (rP [.Tuple b k a] (.Tuple D c l) G=pure ak) yAR):av (aA PW w) A (dY (.Assign [.Tuple b k a] (.Tuple D c l) R) G) Q E s:=by refine Ar ?_ W C;show av _ _ (do fL l;wW (<-fN (cN l (bq D G)))) _ _ _;refine aq (cW (aq (aC h (λK U y=>?_) λ_ _ e=>e)));refine vQ y λB u M' F f r H I X=>?_;refine aC (z7 f.cx.live r I) (λv J z=>?_) λ_ _ e=>e;have n:=f.step z.1;exact aC (AS.tup d Y H L g (u++X₀) J E v n.cx.ok.iW n.cx z.2) (λ_ j q=>X j (n.re q.1 q.2)) λ_ _ e=>e
theorem FS.FH{Φ:aj->au->Prop}{R:aS}{e:aT}{D:List aT}{Q:List aj->au->Prop}(f:FS X₀ s₀ B s Z G γ M)(L:∀E,av (aA PW w) A (aU e G) (λv S=>Ks s S/\Φ v S) E s)(k:∀v U,FS X₀ s₀ B U Z G γ M->Ks s U->Φ v U->av (aA PW w) A (fN (cN R (bq D G))) (λK J=>Q (v::K) J) E U)(W:autoParam (bq (e::D) G=(ay,aU e G)::bq D G) yAR):av (aA PW w) A (fN (cN R (bq (e::D) G))) Q E s:=by refine O W ?_;show av _ _ (fN ((ay,aU e G)::cN R (bq D G))) _ _ _;refine nY (aC (L E) (λv U y=>?_) λ_ _ e=>e);exact k v U (f.step y.1) y.1 y.2
structure uF(h:aB)(V:List ah)(x C:ah)(D:ai->Option aj):Prop where
inst:h.Inst x C D
ox:x∉V
od:∀o d,h.get? x=aa o->o.dict=aa d->d∉V
theorem uF.dM{h h':aB}(I:uF h V x C D)(k:bg V h h'):h'.Inst x C D:=by refine fU I.inst λo a b c d=>?_;refine⟨o,k _ _ I.ox a,b,c,d.imp id λ⟨d,e,f,g⟩=>⟨d,e,f,?_⟩⟩;have U:=I.od o d a e;exact g.at λo e=>k _ _ U e
theorem uF.more{h:aB}(I:uF h V x C D)(f:∀a∈U,a∈V\/h.get? a=ak):uF h U x C D:=by
 refine⟨I.inst,λm=>?_,λo d H L m=>?_⟩
 .refine bz (f _ m) (λq=>?_) λq=>?_;.exact I.ox q
  .refine aH I.inst λo a _=>?_;exact gone a q
 .refine bz (f _ m) (λq=>?_) λq=>?_;.exact I.od o d H L q
  .refine fU I.inst λW a _ _ j=>?_;replace a:=H▸a;cases a;refine bz j (λb=>?_) λc=>?_;.obtain⟨z,_⟩:=b;exact gone L z
   .obtain⟨k,z,_,g⟩:=c;replace z:=L▸z;cases z;refine oi g λe _ _ J _=>?_;exact gone J q
section
variable{X:List ah}{a:aB}
theorem EV.xdj(l:bJ X a)(L:EV A G X a e (.int v)):EV A G X a (.Subscript (.Tuple [.Constant (.int 1) k1 p1,.UnaryOp .USub (.Constant (.int 2) k2 p2) p3] kk p4) (.BinOp (.BinOp e .FloorDiv (.Constant (.int 256) k3 p5) p6) .Mod (.Constant (.int 2) k4 p7) p8) p9) (.int (lU v)):=by
 refine EV.sub (t:=.tup [.int 1,.int (-2)]) (u:=.int ((v.fdiv 256).fmod 2)) (EV.tup l (EL.cons EV.int (EL.cons (EV.neg EV.int) EL.nil))) (EV.bin (EV.bin L EV.int (bE.uD dk dk)) EV.int (bE.uE dk)) (cU.tup ?_ ?_ ?_);.rcases sr (v.fdiv 256)with e|e<;>rw[e]<;>decide
 .rcases sr (v.fdiv 256)with e|e<;>rw[e]<;>decide
 .unfold lU;rcases sr (v.fdiv 256)with e|e<;>rw[e]<;>rfl
theorem EV.xdk(l:bJ X a)(L:EV A G X a e (.int v)):EV A G X a (.Subscript (.Tuple [.Constant (.int 3) k1 p1,.UnaryOp .USub (.Constant (.int 4) k2 p2) p3] kk p4) (.BinOp (.BinOp e .FloorDiv (.Constant (.int 512) k3 p5) p6) .Mod (.Constant (.int 2) k4 p7) p8) p9) (.int (lV v)):=by
 refine EV.sub (t:=.tup [.int 3,.int (-4)]) (u:=.int ((v.fdiv 512).fmod 2)) (EV.tup l (EL.cons EV.int (EL.cons (EV.neg EV.int) EL.nil))) (EV.bin (EV.bin L EV.int (bE.uD dk dk)) EV.int (bE.uE dk)) (cU.tup ?_ ?_ ?_);.rcases sr (v.fdiv 512)with e|e<;>rw[e]<;>decide
 .rcases sr (v.fdiv 512)with e|e<;>rw[e]<;>decide
 .unfold lV;rcases sr (v.fdiv 512)with e|e<;>rw[e]<;>rfl
theorem EV.xdl{x y b C:aT}{v:Int}{q t b1 b2:Nat}{p F c d e o r5:aS}(l:bJ X a)(f:EV A G X a (.Subscript x y p) (.int (lU v)))(k:EV A G X a (.Subscript b C F) (.int (lV v))):EV A G X a (.List [.Tuple [.Constant (.int 0) q c,.Subscript x y p] t d,.Tuple [.Constant (.int 1) b1 e,.Subscript b C F] b2 o] r5) (.list ((keysOf v).map l7)):=by have s0:EV A G X a (.Tuple [.Constant (.int 0) q c,.Subscript x y p] t d) (.tup [.int 0,.int (lU v)]):=EV.tup l (EL.cons EV.int (EL.cons f EL.nil)) (by simp);have s1:EV A G X a (.Tuple [.Constant (.int 1) b1 e,.Subscript b C F] b2 o) (.tup [.int 1,.int (lV v)]):=EV.tup l (EL.cons EV.int (EL.cons k EL.nil)) (by simp);have h:EV A G X a (.List [.Tuple [.Constant (.int 0) q c,.Subscript x y p] t d,.Tuple [.Constant (.int 1) b1 e,.Subscript b C F] b2 o] r5) (.list [.tup [.int 0,.int (lU v)],.tup [.int 1,.int (lV v)]]):=EV.list l (EL.cons s0 (EL.cons s1 EL.nil)) (by simp);exact h
end
theorem CA.xdm(h:CA A [] b f c r)(D:Mine.flat r=af):CA A X b f c r:=λs E K k d=>aC (h s E K k (az.less (λa m=>absurd m cg) _ _ d)) (λv S y=>⟨y.1,y.2.flat D⟩) λ_ _ e=>e
theorem FS.Wg{v:Int}{a j c b e d m r z J L a2 b1 b2:Nat}{U P p1 p2 p3 l n F T h C I N q k t o p W H X r2 r3 r4 r5 R g:aS}{x y:ai}{u:List c6}{Q:ek->au->Prop}(f:FS X₀ s₀ B s Z G γ M)(hx:G.kindOf x=aa .local\/G.kindOf x=aa .cell)(hw:dh G x∈aM G)(K:γ y=aa (.int v))(V:isVar G y=af)(Y:∀S,FS X₀ s₀ B S Z G (upd γ x (.list ((keysOf v).map l7))) M->av (aA PW w) A (b9 u G) Q E S):av (aA PW w) A (b9 (.Assign [.Name x g] (.List [.Tuple [.Constant (.int 0) L X,.Subscript (.Tuple [.Constant (.int 1) a p1,.UnaryOp .USub (.Constant (.int 2) j p2) p3] e l) (.BinOp (.BinOp (.Name y U) .FloorDiv (.Constant (.int 256) c n) F) .Mod (.Constant (.int 2) b T) h) C] a2 r2,.Tuple [.Constant (.int 1) b1 r3,.Subscript (.Tuple [.Constant (.int 3) d I,.UnaryOp .USub (.Constant (.int 4) m N) q] J k) (.BinOp (.BinOp (.Name y P) .FloorDiv (.Constant (.int 512) r t) o) .Mod (.Constant (.int 2) z p) W) H] b2 r4] r5) R::u) G) Q E s:=by have D:=EV.xdj (k1:=a) (k2:=j) (k3:=c) (k4:=b) (kk:=e) (p1:=p1) (p2:=p2) (p3:=p3) (p4:=l) (p5:=n) (p6:=F) (p7:=T) (p8:=h) (p9:=C) (A:=A) f.cx.live (EV.name (pos:=U) f.cx K V);have h1:=EV.xdk (k1:=d) (k2:=m) (k3:=r) (k4:=z) (kk:=J) (p1:=I) (p2:=N) (p3:=q) (p4:=k) (p5:=t) (p6:=o) (p7:=p) (p8:=W) (p9:=H) (A:=A) f.cx.live (EV.name (pos:=P) f.cx K V);revert D h1;generalize(Expr.BinOp (.BinOp (.Name y U) .FloorDiv (.Constant (.int 256) c n) F) .Mod (.Constant (.int 2) b T) h:PySem.Expr)=e1;generalize(Expr.Tuple [.Constant (.int 1) a p1,.UnaryOp .USub (.Constant (.int 2) j p2) p3] e l:PySem.Expr)=e2;generalize(Expr.BinOp (.BinOp (.Name y P) .FloorDiv (.Constant (.int 512) r t) o) .Mod (.Constant (.int 2) z p) W:PySem.Expr)=e3;generalize(Expr.Tuple [.Constant (.int 3) d I,.UnaryOp .USub (.Constant (.int 4) m N) q] J k:PySem.Expr)=e4;intro D h1;exact bY (FS.set f hx hw (EV.xdl f.cx.live D h1) λS _ f=>⟨rfl,Y S f⟩)
end
section
variable{A:aG}{H:List ah}{N B s S:au}{Z:List ah}{G:aO}{P c:Gm}{M:List (ah×T)}{E:aj->au->Prop}
theorem Vu{F:List T}{K:List aj}(r:az X h F K):az X h (F.eraseIdx i) (K.eraseIdx i):=az.ind (P:=λF K=>∀i:Nat,az X h (F.eraseIdx i) (K.eraseIdx i)) (λ_=>trivial) (λ_ _ _ _ x r a i=>by cases i with|zero=>exact r|succ i=>exact⟨x,a i⟩) r i
theorem KO{L b:Type}(f:L->b):∀(l:List L)(i:Nat),(l.eraseIdx i).map f=(l.map f).eraseIdx i|[],_=>by simp|_::_,0=>rfl|a::l,i+1=>by simp[KO f l i]
theorem FS.setPop{Y g K I R:aS}{l:List Int}{k:Int}(f:FS H N B s Z G P M)(hx:G.kindOf x=aa .local\/G.kindOf x=aa .cell)(hw:dh G x∈aM G)(hv:P y=aa (.aJ (.ref D)))(hi:M[i]?=aa (D,LI l))(he:EV A G X1 s.heap e (.int k))(r:0<=k)(h1:k<l.length)(hz:l.length<=100000)(hQ:∀S,FS H N B S Z G (upd P x (.int (gi l k))) (M.set i (D,LI (l.eraseIdx k.toNat)))->Q .next S)(hs:autoParam (lG (.Call (.Attribute (.Name y g) "pop" K) [e] [] I) (aa (.Name x Y)) R.line G=pure ay) yAR)(d:autoParam (kG (.Name y g) "pop" G (aU (.Name y g) G)=aU (.Name y g) G) yAR)(X:autoParam (bq [e] G=[(ay,aU e G)]) yAR)(u:autoParam ((K.endLine==I.line)=af) yAR)(hl:autoParam (isVar G y=af) yAK):av (aA PW w) A (dY (.Assign [.Name x Y] (.Call (.Attribute (.Name y g) "pop" K) [e] [] I) R) G) Q E s:=by
 refine O (z4 G x Y _ R hs) ?_;refine aq (cW (aq (EA d X u (aC (f.qX (X:=[]) hv hl s E λ_ _ e=>e) (λo U z=>?_) λ_ _ e=>e))));obtain rfl:=z.2.cS;have f1:=f.step z.1;have hD:=f1.acc _ (eO hi);refine aH hD.2.2 λxs p rx=>?_;refine aE p λn W=>?_;refine⟨"list","list.pop",Ke,Ur,PySem.F.type_list_pop,⟨_,W,rfl⟩,λb hb=>by cases hb;exact⟨_,W,rfl⟩,mh rfl rfl (mW (nY (aC (he U E z.1.kp) (λv J y=>rQ ?_) λ_ _ e=>e)))⟩;refine aE y.2.cM λtk p=>?_;subst p;have f2:=f1.step y.1;have t:=y.1.kp _ _ W;have j:=Mine.az.kp (y.1.kp.bN _) _ _ rx;have C:xs.size=l.length:=by exact aR dw (O rx.length (O (aI ..) rfl))
 have h:k.toNat<xs.size:=BJ r h1 C;have m:QG k xs.size=aa k.toNat:=by unfold QG;have:¬k<0:=fD.mpr r;simp[this,r];exact Bf h1 C
 refine wj Ur ⟨_,t,rfl⟩ PySem.F.entry_list_pop (PySem.F.args_list_pop_2 _ _) (xgH D xs n k tk k.toNat xs[k.toNat] (by simp[SO];exact iR (fW r) (sI h1 hz)) m (kB h) (by exact O dK (iV hz C))) ⟨t,?_⟩;have V:=mU J.heap D (dc λa:Array aj=>a.eraseIdxIfInBounds k.toNat);have kD:bu [D] J {J with heap:=J.heap.update D (dc λa:Array aj=>a.eraseIdxIfInBounds k.toNat)}:=⟨qj V,rfl⟩;have kY:bg (Z++H) J.heap (J.heap.update D (dc λa:Array aj=>a.eraseIdxIfInBounds k.toNat)):=kD.kp.mono (one (bD.mpr (.inl hD.1)));have rv:Rep (Z++H) (J.heap.update D (dc λa:Array aj=>a.eraseIdxIfInBounds k.toNat)) (.int (gi l k)) xs[k.toNat]:=by
  have q:=Al (d:=T.int 0) j (i:=k.toNat) (by exact O (aI ..) (C▸h));have e1:xs.toList.getD k.toNat fk=xs[k.toNat]:=by refine O cA (O gM (O (kB h) ?_));rfl
  have e2:(l.map T.int).getD k.toNat (T.int 0)=.int (gi l k):=by unfold gi;refine O cA (O cA (O eS (O (cz (C▸h)) ?_)));rfl
  rw[e1,e2]at q;refine aE q.cM λtt e3=>?_;exact O e3 (.fO _ _)
 obtain⟨c2,L⟩:∃c2,(J.heap.update D (dc λa:Array aj=>a.eraseIdxIfInBounds k.toNat)).get? D=aa (cH "list" (xs.eraseIdxIfInBounds k.toNat) c2):=⟨_,ye t λa=>a.eraseIdxIfInBounds k.toNat⟩;have f3:=f2.write (t':=LI (l.eraseIdx k.toNat)) hi kD ⟨xs.eraseIdxIfInBounds k.toNat,⟨c2,L⟩,by
refine O (KO ..) ?_;have:(xs.eraseIdxIfInBounds k.toNat).toList=xs.toList.eraseIdx k.toNat:=by unfold Array.eraseIdxIfInBounds;exact O (dif_pos h) (O Array.toList_eraseIdx rfl)
refine O this ?_;exact Vu (Mine.az.kp kY _ _ j)⟩;exact aq (cW (aq (f3.bind hx hw rv λS _ f'=>aN (hQ S f'))))
end
section
variable{A:aG}{H:List ah}{N B s S:au}{Z:List ah}{G:aO}{P g:Gm}{M:List (ah×T)}{E:aj->au->Prop}
theorem xbm(h:av (aA PW w) A (aU o G) (λf J=>av (aA PW w) A (aU i G) (λm j=>av (aA PW w) A (Ae f m v) Q E j) E J) E s)(F:∀l u p,i≠.Slice l u none p):av (aA PW w) A (fV (.Subscript o i a) G v) Q E s:=by
 have e:fV (.Subscript o i a) G v=(do let f<-ic [v] (aU o G)let m<-ic [v,f] (aU i G)fL a;ic [v,f,m] (Ae f m v)SA [v,f,m] []):=by
  cases i<;>first|rfl|skip
  rename_i l u d p;cases d with|none=>exact absurd rfl (F l u p)|some d=>rfl
 refine O e ?_;refine aq (dJ (aC h (λf J C=>?_) λ_ _ e=>e));refine aq (dJ (aC C (λm j D=>?_) λ_ _ e=>e));refine aq (cW (aq (dJ (aC D (λu c b=>?_) λ_ _ e=>e))));intro k p W;simp only[Sem.wp_release];exact b
theorem FS.ME{l:List T}{k:Int}(f:FS H N B s Z G P M)(U:P x=aa (.aJ (.ref D)))(F:M[i]?=aa (D,.list l))(r:Rep (Z++H) s.heap t v)(h:EV A G X1 s.heap I (.int k))(W:0<=k)(h1:k<l.length)(L:l.length<=100000)(X:∀S,bu [D] s S->FS H N B S Z G P (M.set i (D,.list (l.set k.toNat t)))->Q () S)(n:∀a u p,I≠.Slice a u ak p)(V:isVar G x=af):av (aA PW w) A (fV (.Subscript (.Name x xp) I sp) G v) Q E s:=by
 refine xbm (aC (f.qX (X:=[]) U V s E λ_ _ e=>e) (λo J z=>?_) λ_ _ e=>e) n;obtain rfl:=z.2.cS;refine aC (h J E z.1.kp) (λiv j u=>?_) λ_ _ e=>e;refine aE u.2.cM λtk q=>?_;subst q;have y:=(f.step z.1).step u.1;have d:=y.acc _ (eO F);refine aH d.2.2 λxs px b=>?_;have C:xs.size=l.length:=by exact aR b.length (O dw rfl)
 have Y:Rep (Z++H) j.heap t v:=Rep.kp ((z.1.trans u.1).kp.bN _) _ _ r;refine Jp px W (sI h1 L) (Bf h1 C) λh' R c=>X _ ?_ ?_;.exact(bu.of (z.1.trans u.1)).trans ⟨qj c,rfl⟩
 .have K:bu [D] j {j with heap:=h'}:=⟨qj c,rfl⟩;have m:bg (Z++H) j.heap h':=K.kp.mono (one (bD.mpr (.inl d.1)));refine y.write F K ⟨_,R,?_⟩;exact O TU (az.set (Mine.az.kp m _ _ b) (Rep.kp m _ _ Y))
theorem FS.xfM{D z x F t i l R:aS}{lb lc:List T}{kb kc:Int}(f:FS H N B s Z G P M)(hh:A.handled=ak)(he:EL A G (Z++H) s.heap l es [ta,tb,tc])(ha:G.kindOf xa=aa .local\/G.kindOf xa=aa .cell)(X:dh G xa∈aM G)(hvb:(upd P xa ta) xb=aa (.aJ (.ref Db)))(hvc:(upd P xa ta) xc=aa (.aJ (.ref Dc)))(hib:M[nb]?=aa (Db,.list lb))(hic:(M.set nb (Db,.list (lb.set kb.toNat tb)))[nc]?=aa (Dc,.list lc))(eb:∀S,FS H N B S Z G (upd P xa ta) M->EV A G X1 S.heap h (.int kb))(ec:∀S,FS H N B S Z G (upd P xa ta) (M.set nb (Db,.list (lb.set kb.toNat tb)))->EV A G X2 S.heap d (.int kc))(hkb:0<=kb)(J:kb<lb.length)(hzb:lb.length<=100000)(hkc:0<=kc)(K:kc<lc.length)(hzc:lc.length<=100000)(hsb:∀a u p,h≠.Slice a u ak p)(hsc:∀a u p,d≠.Slice a u ak p)(hlb:isVar G xb=af)(hlc:isVar G xc=af)(Y:Db∈Z++H)(hQ:∀S,FS H N B S Z G (upd P xa ta) ((M.set nb (Db,.list (lb.set kb.toNat tb))).set nc (Dc,.list (lc.set kc.toNat tc)))->Q .next S)(C:autoParam (pI [.Name xa D,.Subscript (.Name xb z) h F,.Subscript (.Name xc x) d t] G=[(ay,fV (.Name xa D) G),(ay,fV (.Subscript (.Name xb z) h F) G),(ay,fV (.Subscript (.Name xc x) d t) G)]) yAR)(hs:autoParam (rO [.Tuple [.Name xa D,.Subscript (.Name xb z) h F,.Subscript (.Name xc x) d t] kk i] (.Tuple es c l) R.line G=pure ay) yAR)(hw:autoParam (rP [.Tuple [.Name xa D,.Subscript (.Name xb z) h F,.Subscript (.Name xc x) d t] kk i] (.Tuple es c l) G=pure ak) yAR):av (aA PW w) A (dY (.Assign [.Tuple [.Name xa D,.Subscript (.Name xb z) h F,.Subscript (.Name xc x) d t] kk i] (.Tuple es c l) R) G) Q E s:=by refine Ar ?_ hs hw;refine aC ((EV.tup f.cx.live he (by simp)) s E λ_ _ e=>e) (λv U y=>?_) λ_ _ e=>e;have f1:=f.step y.1;refine cI y.2.jQ λL vs q n p r=>?_;subst q;have hl:=r.length;rw[dw]at hl;refine xck hh p (by refine O C ?_;simpa using hl.symm) (by refine O C ?_;rfl) λh' hx'=>?_;have k:Kp U.heap h':=λb o e=>hx' b o (bS (dR e)) e;have f2:FS H N B {U with heap:=h'} Z G P M:=f1.step ⟨k,rfl⟩;have r2:=Mine.az.kp (k.bN _) _ _ r;refine O C ?_;match hv:vs.toList,r2 with|[v1,v2,V],r2=>refine kR r2 λra rb rc _=>?_;show av _ _ (do ic [v2,V] (fV (.Name xa D) G v1);yi [fV (.Subscript (.Name xb z) h F) G,fV (.Subscript (.Name xc x) d t) G] [v2,V]) _ _ _;refine aq (dJ ?_);show av _ _ (do fL D;kN G xa v1) _ _ _;refine aq (cW (f2.bind ha X ra λj k3 f3=>?_));have W:bg (Z++H) h' j.heap:=k3.kp.mono f.cx.ok.iW;show av _ _ (do ic [V] (fV (.Subscript (.Name xb z) h F) G v2);yi [fV (.Subscript (.Name xc x) d t) G] [V]) _ _ _;refine aq (dJ (f3.ME hvb hib (Rep.kp W _ _ rb) (eb j f3) hkb J hzb (λm k4 f4=>?_) hsb hlb));have kz4:bg (Z++H) j.heap m.heap:=k4.kp.mono (one Y);show av _ _ (do ic [] (fV (.Subscript (.Name xc x) d t) G V);yi [] []) _ _ _;refine aq (dJ (f4.ME hvc hic (Rep.kp (W.trans kz4) _ _ rc) (ec m f4) hkc K hzc (λI k5 f5=>?_) hsc hlc));exact aN (hQ I f5)
theorem FS.ZD{Y R:aS}{d:List (ai×T)}(f:FS H N B s Z G P M)(F:M[i]?=aa (D,DS d))(L:EV A G (Z++H) s.heap n t)(b:EV A G X2 s.heap o (.aJ (.ref D)))(h:EV A G X1 s.heap a (.str k))(I:d.length<=100000)(X:∀S,FS H N B S Z G P (M.set i (D,DS (fJ d k t)))->Q .next S)(W:autoParam (lG n (aa (.Subscript o a Y)) R.line G=pure ay) yAR):av (aA PW w) A (dY (.Assign [.Subscript o a Y] n R) G) Q E s:=by refine Ju (aC (L s E λ_ _ e=>e) (λv U y=>?_) λ_ _ e=>e) W;refine aC (b U E y.1.kp) (λl J z=>?_) λ_ _ e=>e;obtain rfl:=z.2.cS;refine aC (h J E (y.1.trans z.1).kp) (λm j u=>?_) λ_ _ e=>e;refine aE u.2.eV λc q=>?_;subst q;exact((f.step y.1).step z.1).step u.1|>.FE F I (Rep.kp ((z.1.trans u.1).kp.bN _) _ _ y.2) X
end
structure bG where
held:List Int
aK:List Int
bW:List ai
free:List Int
alone:List Int
refused:List (List (ai×T))book:List Stat
def bK(n:List ai)(i:Int):ai:=n.getD i.toNat ""
def cP(b:List Stat)(i:Int):Stat:=b.getD i.toNat ⟨0,0,0,0,[]⟩
noncomputable def je(g:Int):T:=.tup [.int (550+g),.bytes #[110,111],.bool af]
section
variable(W:List (List Int))(s:ai->ai)(B:Int)
noncomputable def iE(M:bG)(c:Int):Int:=(B.fdiv (2^c.toNat)).fmod M.free.length
def iF(M:bG)(c:Int):Int:=gi M.free (iE B M c)
def jZ(M:bG)(I g:Int):List Int:=if gi M.held g<0\/((bA W g).idxOf I:Int)<(bA W g).idxOf (gi M.held g)then M.held.set g.toNat I else M.held
def qW(M:bG)(I g:Int):Int:=I+gi M.held g-gi (jZ W M I g) g
def sy(M:bG)(I g:Int):List Stat:=M.book.set g.toNat (j5 (cP M.book g) ⟨if gi M.held g<0 then 1 else 0,1,gi M.aK I+1,(bA W g).idxOf I,[(s (gc (bK M.bW I)),gi M.aK I+1)]⟩)
def gp(M:bG)(c:Int):bG:=if M.free=[]then M else let I:=iF B M c
let b:=M.free.eraseIdx (iE B M c).toNat
if gi M.aK I=4 then{M with free:=b,alone:=M.alone++[I]}else let g:=bw W I (gi M.aK I)
let st':bG:={M with free:=b,bW:=M.bW.set I.toNat (gc (bK M.bW I)),aK:=M.aK.set I.toNat (gi M.aK I+1),book:=sy W s M I g,held:=jZ W M I g}
if gi M.held g<0 then st' else let l:=qW W M I g
{st' with free:=b++[l],refused:=M.refused.set l.toNat (fJ (M.refused.getD l.toNat []) (bC g) (je g))}
noncomputable def iG(u:List ai):bG:=⟨[-1,-1,-1,-1,-1],[0,0,0,0,0],u,[0,1,2,3,4],[],[[],[],[],[],[]],eH 5 ⟨0,0,0,0,[]⟩⟩
def gx(M:bG)(l:List Int):bG:=l.foldl (gp W s B) M
end
theorem KP{M:bG}(h:M.free=[]):∀l,gx W s B M l=M
|[]=>rfl|a::l=>by
 have e:gp W s B M a=M:=by unfold gp;exact O (if_pos h) rfl
 show gx W s B (gp W s B M a) l=M;exact O e (KP h l)
theorem Lm{W:List (List Int)}{s:ai->ai}{B:Int}{M:bG}(l r:List Int):gx W s B M (l++r)=gx W s B (gx W s B M l) r:=vL ..
structure fh(M:bG)(k:Nat):Prop where
held:M.held.length=5
pY:∀i,0<=i->i<5->-1<=gi M.held i/\gi M.held i<5/\gi M.held i≠i
aK:fS M.aK
bW:M.bW.length=5
free:M.free.length<=5
y9:∀x∈M.free,0<=x/\x<5
alone:M.alone.length<=k
ref:M.refused.length=5
sR:∀d∈M.refused,d.length<=k
book:M.book.length=5
uG:∀x∈M.book,x.t.length<=k
theorem Qs{u:List ai}(h:u.length=5):fh (iG u) 0 where
held:=rfl;pY i D h1:=by have:i=0\/i=1\/i=2\/i=3\/i=4:=lq D h1;show-1<=gi [-1,-1,-1,-1,-1] i/\gi [-1,-1,-1,-1,-1] i<5/\gi [-1,-1,-1,-1,-1] i≠i;rcases this with rfl|rfl|rfl|rfl|rfl<;>decide
aK:=⟨rfl,λi D h1=>by have:i=0\/i=1\/i=2\/i=3\/i=4:=lq D h1;show 0<=gi [0,0,0,0,0] i/\gi [0,0,0,0,0] i<=4;rcases this with rfl|rfl|rfl|rfl|rfl<;>decide⟩;bW:=h;free:=by show 5<=5;decide
y9:=by show∀x∈([0,1,2,3,4]:List Int),0<=x/\x<5;decide
alone:=by show 0<=0;decide
ref:=rfl;sR:=λd m=>by
 have:d=[]:=by simpa[iG]using m
 refine O this ?_;decide
book:=rfl;uG:=λx m=>by have:=vD m;refine O this ?_;decide
theorem yC{turn step:Int}{M:bG}(h:M.free≠[]):0<=iE turn M step/\iE turn M step<M.free.length:=by
 have:(0:Int)<M.free.length:=by have:=Jy.mpr h;exact gR.mpr this
 exact⟨vH _ this,rF _ this⟩
theorem FI{turn step:Int}{M:bG}{k:Nat}(r:fh M k)(h:M.free≠[]):0<=iF turn M step/\iF turn M step<5:=r.y9 _ (FG (yC h).1 (yC h).2)
section
variable{W:List (List Int)}{nf:ai->ai}{turn:Int}{M:bG}{k:Nat}
theorem D0(r:fh M k)(I g:Int):(jZ W M I g).length=5:=by
 unfold jZ;split;.exact O jL r.held
 .exact r.held
theorem Ln(r:fh M k)(D:0<=g)(h1:g<5):gi (jZ W M who g) g=if gi M.held g<0\/((bA W g).idxOf who:Int)<(bA W g).idxOf (gi M.held g)then who else gi M.held g:=by
 unfold jZ;split;.exact O (rY D D (by rw[r.held];exact h1)) (O (if_pos rfl) rfl)
 .rfl
theorem Es(r:fh M k)(D:0<=g)(h1:g<5)(h:¬gi M.held g<0):qW W M I g=if((bA W g).idxOf I:Int)<(bA W g).idxOf (gi M.held g)then gi M.held g else I:=by
 unfold qW;refine O (Ln r D h1) ?_;by_cases q:((bA W g).idxOf I:Int)<(bA W g).idxOf (gi M.held g);.exact O (if_pos (.inr q)) (O (if_pos q) (xeh (jM _ _)))
 .exact O (if_neg λz=>z.elim h q) (O (if_neg q) (x7 _ _))
theorem Lo(r:fh M k)(D:0<=g)(h1:g<5)(a:0<=who)(V:who<5)(h:¬gi M.held g<0):0<=qW W M who g/\qW W M who g<5:=by
 refine O (Es r D h1 h) ?_;have:=r.pY g D h1;split;.exact⟨fD.mp h,this.2.1⟩
 .exact⟨a,V⟩
theorem Et(a b:Stat):(j5 a b).t.length<=a.t.length+b.t.length:=by show(jF a.t b.t).length<=_;unfold jF;have h1:=yl (f:=jS) JP b.t (a.t.foldl (λd p=>ir d p.1 p.2) []);have J:=yl (f:=λd(p:ai×Int)=>ir d p.1 p.2) (λd p=>Ax d p.1 p.2) a.t [];exact bf h1 (qp (bf J (di (jl _))) _)
theorem Ud(d:List (ai×T))(x:ai)(t:T):(fJ d x t).length<=d.length+1:=by unfold fJ;split<;>simp
theorem Az(t:fR W)(r:fh M k)(c:Int):fh (gp W nf turn M c) (k+1):=by
 unfold gp;by_cases l:M.free=[];.exact O (if_pos l) ⟨r.held,r.pY,r.aK,r.bW,r.free,r.y9,by have:=r.alone;exact nO this,r.ref,λd m=>by have:=r.sR d m;exact nO this,r.book,λx m=>by have:=r.uG x m;exact nO this⟩
 refine O (if_neg l) ?_;have p:=yC (turn:=turn) (step:=c) l;have C:=FI (turn:=turn) (step:=c) r l;have h:(M.free.eraseIdx (iE turn M c).toNat).length+1=M.free.length:=by exact O VW (O (if_pos (iu p.1 p.2)) (qt (HJ (iu p.1 p.2))))
 have j:∀x∈M.free.eraseIdx (iE turn M c).toNat,0<=x/\x<5:=λx m=>r.y9 x (Us m);have F:=r.free;simp only;generalize s:iF turn M c=I at C⊢;by_cases Y:gi M.aK I=4;.exact O (if_pos Y) ⟨r.held,r.pY,r.aK,r.bW,by show(M.free.eraseIdx _).length<=5;exact bf (dN _) (jv h F),j,by have:=r.alone;simp;exact this,r.ref,λd m=>by have:=r.sR d m;exact nO this,r.book,λx m=>by have:=r.uG x m;exact nO this⟩
 refine O (if_neg Y) ?_;have Z:=r.aK.el I C.1 C.2;have K:=t.at C.1 C.2 Z.1 (jc Z.2 Y);generalize v:bw W I (gi M.aK I)=g at K⊢;have a:∀i,0<=i->i<5->-1<=gi (jZ W M I g) i/\gi (jZ W M I g) i<5/\gi (jZ W M I g) i≠i:=λi D h1=>by
  have:=r.pY i D h1;unfold jZ;split
  .refine O (rY K.1 D (by rw[r.held];exact K.2.1)) ?_;split;.rename_i q;subst q;exact⟨fW C.1,C.2,λz=>K.2.2 z.symm⟩
   .exact this
  .exact this
 have n:fS (M.aK.set I.toNat (gi M.aK I+1)):=⟨by exact O jL r.aK.len,λi D h1=>by
refine O (rY C.1 D (by rw[r.aK.len];exact C.2)) ?_;split;.exact iR (DQ Z.1) (jc Z.2 Y)
.exact r.aK.el i D h1⟩;have f:(M.bW.set I.toNat (gc (bK M.bW I))).length=5:=by exact O jL r.bW
 have o:(sy W nf M I g).length=5:=by unfold sy;exact O jL r.book
 have b:∀x∈sy W nf M I g,x.t.length<=k+1:=λx m=>by
  unfold sy at m;refine bz (I6 m) (λm=>?_) λy=>?_;.have:=r.uG x m;exact nO this
  .subst y;refine bf (Et _ _) ?_;have:cP M.book g∈M.book:=by unfold cP;exact O cA (O (cz (by rw[r.book];exact iu K.1 K.2.1)) (nQ _))
   have:=r.uG _ this;show(cP M.book g).t.length+1<=k+1;exact tK this
 by_cases e:gi M.held g<0;.exact O (if_pos e) ⟨D0 r I g,a,n,f,by show(M.free.eraseIdx _).length<=5;exact bf (dN _) (jv h F),j,by show M.alone.length<=k+1;have:=r.alone;exact nO this,r.ref,λd m=>by have:=r.sR d m;exact nO this,o,b⟩
 .refine O (if_neg e) ?_;have V:=Lo (W:=W) r (who:=I) K.1 K.2.1 C.1 C.2 e;refine⟨D0 r I g,a,n,f,?_,?_,by show M.alone.length<=k+1;have:=r.alone;exact nO this,?_,λd m=>?_,o,b⟩;.show(M.free.eraseIdx _++[_]).length<=5;exact O cL (O Jh (jv h F))
  .intro x m;refine bz (bD.mp m) (λm=>?_) λm=>?_;.exact j x m
   .exact O (aX.mp m) V
  .show(M.refused.set _ _).length=5;exact O jL r.ref
  .refine bz (I6 m) (λm=>?_) λy=>?_;.have:=r.sR d m;exact nO this
   .subst y;refine bf (Ud _ _ _) ?_;have:M.refused.getD (qW W M I g).toNat []∈M.refused:=by exact O cA (O (cz (by rw[r.ref];exact iu V.1 V.2)) (nQ _))
    have:=r.sR _ this;exact tK this
end
def g6:Nat->ai->ai|0,x=>x|n+1,x=>gc (g6 n x)
noncomputable def nH(u:List ai)(M:bG):Prop:=∀i,0<=i->i<5->bK M.bW i=g6 (gi M.aK i).toNat (bK u i)
theorem MG{c:List ai}{i j:Int}(F:0<=i)(Y:0<=j)(h1:i<c.length):bK (c.set i.toNat v) j=if j=i then v else bK c j:=by
 unfold bK;refine O cA (O cA ?_);by_cases e:j=i;.subst e;refine O (if_pos rfl) (O (zK (iu Y h1)) ?_);rfl
 .exact O (if_neg e) (O (CW (Ga F Y e)) rfl)
theorem Qt(u:List ai):nH u (iG u):=λi D h1=>by have:i=0\/i=1\/i=2\/i=3\/i=4:=lq D h1;rcases this with rfl|rfl|rfl|rfl|rfl<;>rfl
theorem Lp{W:List (List Int)}{nf:ai->ai}{turn:Int}{u:List ai}{M:bG}{k:Nat}(r:fh M k)(m:nH u M)(c:Int):nH u (gp W nf turn M c):=by
 unfold gp;by_cases l:M.free=[];.exact O (if_pos l) m
 refine O (if_neg l) ?_;have C:=FI (turn:=turn) (step:=c) r l;simp only;generalize iF turn M c=I at C⊢;by_cases Y:gi M.aK I=4;.exact O (if_pos Y) m
 refine O (if_neg Y) ?_;have Z:=r.aK.el I C.1 C.2;have d:∀i,0<=i->i<5->bK (M.bW.set I.toNat (gc (bK M.bW I))) i=g6 (gi (M.aK.set I.toNat (gi M.aK I+1)) i).toNat (bK u i):=λi D h1=>by
  refine O (MG C.1 D (O r.bW C.2)) (O (rY C.1 D (O r.aK.len C.2)) ?_);by_cases e:i=I;.subst e;rw[if_pos rfl,if_pos rfl,show(gi M.aK i+1).toNat=(gi M.aK i).toNat+1 from Int.toNat_add_nat Z.1 1,m i D h1];rfl
  .exact O (if_neg e) (O (if_neg e) (m i D h1))
 by_cases y:gi M.held (bw W I (gi M.aK I))<0;.exact O (if_pos y) d
 .exact O (if_neg y) d
structure rZ(S:Int->Bool)(b:Int->Option ai)(u:List ai):Prop where
s2:∀i c,0<=i->i<5->c<4->sj (kr (g6 c (bK u i)).cps) (g6 c (bK u i)) "\r\n"s1:∀i c,0<=i->i<5->c<4->sj (ko (qZ (g6 c (bK u i))).cps) (qZ (g6 c (bK u i))) ".."nz:∀i c,0<=i->i<5->c<4->(g6 (c+1) (bK u i)).cps.toList.length<=100000
nw:∀i c,0<=i->i<5->c<4->((m5 S b (g6 (c+1) (bK u i))).map (·.length)).sum+(m5 S b (g6 (c+1) (bK u i))).length<=1048576
noncomputable def lu(i:Int):T:=.tup [.int i,.bool af]
noncomputable def bZ(l:List ai):T:=.list (l.map .str)
noncomputable def uH(a:List ah):T:=.list (a.map λr=>.aJ (.ref r))
structure qg where
h:ah
c:ah
m:ah
f:ah
a:ah
b:ah
r:List ah
def runM(D:qg)(M:bG):List (ah×T):=[(D.h,LI M.held),(D.c,LI M.aK),(D.m,bZ M.bW),(D.f,LI M.free),(D.a,.list (M.alone.map lu)),(D.b,.list (M.book.map cB))]++(D.r.zip M.refused).map λp=>(p.1,DS p.2)
theorem rT(D:qg){M:bG}(h:M.refused.length=D.r.length):(runM D M).map (·.1)=[D.h,D.c,D.m,D.f,D.a,D.b]++D.r:=by
 unfold runM;refine O fY (O bO ?_);have:(D.r.zip M.refused).map ((λp=>p.1)∘λp:ah×List (ai×T)=>(p.1,DS p.2))=D.r:=by show(D.r.zip M.refused).map F5=D.r;rw[JZ];exact jq h (cR _)
 refine O this ?_;rfl
theorem Of{L N:Type}:∀{a:List L}{b:List N}{i:Nat}{x:L}{y:N},a[i]?=aa x->b[i]?=aa y->(a.zip b)[i]?=aa (x,y)|_::_,_::_,0,_,_,h1,J=>by cases h1;cases J;rfl|_::_,_::_,i+1,_,_,h1,J=>Of (i:=i) h1 J|[],_,_,_,_,h1,_=>by cases h1|_::_,[],_,_,_,_,J=>by cases J
theorem MH{L N:Type}:∀(a:List L)(b:List N)(i:Nat)(x:L)(y:N),a[i]?=aa x->a.zip (b.set i y)=(a.zip b).set i (x,y)|_::_,_::_,0,_,_,h1=>by cases h1;rfl|_::a,_::b,i+1,x,y,h1=>by show(_,_)::a.zip (b.set i y)=_::(a.zip b).set i (x,y);rw[MH a b i x y h1]|[],_,_,_,_,h1=>by cases h1|_::_,[],_,_,_,_=>rfl
theorem XF(D:qg){M:bG}(h:M.refused.length=D.r.length)(F:i<D.r.length):(runM D M)[6+i]?=aa (D.r[i],DS (M.refused.getD i [])):=by unfold runM;refine O (T7 (by simp)) (O eS ?_);simp only[fC,qx];refine O (show 6+i-(0+1+1+1+1+1+1)=i from pD ..) (O (Of (cz F) (cz (tG F h.symm))) ?_);simp only[z0];refine O cA (O (cz (tG F h.symm)) ?_);rfl
theorem UL(D:qg){st:bG}(h:st.refused.length=D.r.length)(F:i<D.r.length):(runM D st).set (6+i) (D.r[i],DS d)=runM D {st with refused:=st.refused.set i d}:=by unfold runM;refine O (List.set_append_right _ _ (by simp)) ?_;simp only[fC,qx];refine O (show 6+i-(0+1+1+1+1+1+1)=i from pD ..) ?_;congr 1;exact O (MH _ _ i _ d (cz F)) (O vX rfl)
section
open Sem(wp)
noncomputable def eY:List aj:=[.type "OSError",.type "Exception",.type "BaseException",.type "object"]
theorem xbn:mroOf (.type "OSError")=pure eY:=by kernel_rfl
noncomputable def ug(h:aB):List (ah×(ai->Option aj))->Prop|[]=>True|(C,m)::r=>(∃o s,h.get? C=aa o/\o.cls=.type "type"/\o.data=.cls s/\h.Ns s.ns m)/\ug h r
noncomputable def fm:List (ah×(ai->Option aj))->ai->Option aj|[],_=>none|(_,m)::r,n=>match m n with|aa v=>aa v|none=>fm r n
theorem ug.kp(k:Kp h h'):∀{l:List (ah×(ai->Option aj))},ug h l->ug h' l|[],_=>trivial|(C,m)::r,⟨⟨o,s,a,b,c,d⟩,e⟩=>⟨⟨o,s,k _ _ a,b,c,d.keeps k⟩,e.kp k⟩
structure XC(h:aB)(C:ah)(l:List (ah×(ai->Option aj))):Prop where
obj:∃(n q:ai)(N:ah)(z:List aj)(s:List ai)(T:List aj)(i:Bool)(a:Option Bool)(m:Option ah)(H V M r W:Option aj),h.get? C=aa (Fd n q C N z (l.tail.map (λp=>bV p.1)++eY) af s T i a m H V M r W "OSError.__new__")hd:l.head?.map (·.1)=aa C
ch:ug h l
theorem XC.kp(k:Kp h h')(x:XC h C l):XC h' C l:=by obtain⟨n,q,N,z,s,T,i,a,m,H,V,M,r,W,e⟩:=x.obj;exact⟨⟨n,q,N,z,s,T,i,a,m,H,V,M,r,W,k _ _ e⟩,x.hd,x.ch.kp k⟩
section
variable{M:uY}{A:aG}{E:aj->au->Prop}{h:aB}{g:Array mJ}{d:ny}{t:Nat}{P:b8}
theorem Tj{o:bR}{s:ClassData}(a:h.get? C=aa o)(U:o.data=.cls s)(K:h.Ns s.ns m)(B:Q (m i) ⟨h,g,d,t,P⟩):av M A (classOwn (.ref C) i) Q E ⟨h,g,d,t,P⟩:=by unfold classOwn;refine aq ?_;unfold classData;refine aq (A1 (s:=⟨h,g,d,t,P⟩) a ?_);exact O U (aN (wpAny_nsGet (s:=⟨h,g,d,t,P⟩) K B))
theorem JG(D:OB u i=pure y):∀(l:List (ah×(ai->Option aj))),ug h l->Q (match fm l i with|some v=>some v|none=>y) ⟨h,g,d,t,P⟩->av M A (OB (l.map (λp=>bV p.1)++u) i) Q E ⟨h,g,d,t,P⟩|[],_,B=>by exact O xcs (O (tQ ..) (O D (aN B)))|(C,m)::r,⟨⟨o,s,a,_,b,c⟩,e⟩,B=>by refine O f6 (O zW (O (lookupAlong_cons ..) ?_));refine aq (Tj a b c ?_);unfold fm at B;cases K:m i with|some v=>rw[K]at B;exact aN B|none=>rw[K]at B;exact JG D r e B
theorem q6(x:XC h C l)(w:jO (.type "OSError") name=pure y)(B:Q (match fm l name with|aa v=>aa v|none=>y) ⟨h,g,d,t,P⟩):av M A (jO (.ref C) name) Q E ⟨h,g,d,t,P⟩:=by
 have b:OB eY name=pure y:=by replace w:=xbn▸typeLookup_eq ..▸w;exact w
 obtain⟨n,q,N,z,s,T,i,a,m,H,c,j,f,W,e⟩:=x.obj;refine O (typeLookup_eq ..) ?_;refine aq (Mc e ?_);have V:bV C::(l.tail.map (λp=>bV p.1)++eY)=l.map (λp=>bV p.1)++eY:=by have:=x.hd;cases l with|nil=>cases this|cons p r=>simp only[List.head?_cons,z0,zQ]at this;refine aR this ?_;rfl
 exact O V (JG b l x.ch B)
end
theorem nT:StoreFacts "OSError" eY "object.__setattr__" "object"where
mro:=by kernel_rfl
slot:=.of (owner:="object") (n:="__setattr__") (by refine O (iQ ..) (O iN ?_);kernel_rfl) (by decide+kernel) (by decide+kernel) (by decide+kernel) (by first|exact .inl (by decide+kernel)|exact .inr (by decide+kernel)) (by refine O (Ea ..) ?_;kernel_rfl);entry:=PySem.F.entry_object_sa;kind:=by decide+kernel
split:=by decide+kernel
hasOwner:=by decide+kernel
args:=by intros;unfold sG;kernel_rfl
passes:=by intros;kernel_rfl
end
section
open Sem(wp)
open Builtin Builtin.ObjectAttr
theorem DE(b:aj)(a:ai)(l:List aj):∀(r:List (ah×(ai->Option aj))),F4 b a (r.map (λp=>bV p.1)++l)=F4 b a l|[]=>rfl|p::r=>by exact O f6 (O zW (O (Mt ..) (DE b a l r)))
theorem tX{C:ah}{r:List (ah×(ai->Option aj))}{T:String}(h:eY.contains (.type T)=af):(bV C::(r.map (λp=>bV p.1)++eY)).contains (.type T)=af:=by have:Value.type T∈eY:=jz.mp h;exact jz.mpr (aZ _ (cK _ this))
section
variable{j:dz}{A:aG}{E:aj->au->Prop}{h:aB}{g:Array mJ}{d:ny}{t:Nat}{P:b8}{C x:ah}{l:List (ah×(ai->Option aj))}{D:ai->Option aj}{i:ai}{v:aj}
theorem Og{o:bR}{b:aj}{Q:Unit->au->Prop}(X:XC h C l)(Y:h.get? x=aa o)(Z:o.cls=.ref C)(B:Q () ⟨h,g,d,t,P⟩):av (aA j w) A (tO "object.__setattr__" ⟨[.ref x,b,v],[]⟩) Q E ⟨h,g,d,t,P⟩:=by
 obtain⟨n,q,N,z,s,T,e,a,m,H,V,M,r,W,J⟩:=X.obj;have c:=nT;have k:(bV C::(l.tail.map (λp=>bV p.1)++eY)).contains (.type "object")=af:=tX dk;have K:=c.args (.ref x) b v;simp only[tO,c.kind,c.split];refine aq ?_
 .unfold wk;repeat(first|(with_reducible refine iP Y ?_;refine O Z ?_)|(with_reducible refine pG J ?_;refine O k ?_)|wp_step)
  exact B
noncomputable def FJ(h h':aB)(x C:ah)(D:ai->Option aj)(i:ai)(v:aj):Prop:=h'.Inst x C (λy=>if y=i then aa v else D y)/\(∀b o,b≠x->(∀c a,h.get? x=aa c->c.dict=aa a->b≠a)->h.get? b=aa o->h'.get? b=aa o)/\∀c,h.get? x=aa c->∃k,h'.get? x=aa k/\k.cls=c.cls/\k.data=c.data/\∀a,k.dict=aa a->c.dict=aa a\/h.get? a=ak
theorem Ue{ns:List ai}(X:XC h C l)(hna:fm l i=ak)(hB:jO (.type "OSError") i=pure ak)(I:h.Inst x C D)(hq:∀h' tk',FJ h h' x C D i v->Q (.done (.ret .none)) ⟨h',g,d,tk',P⟩)(hw:Within D ns)(U:ns.length<=1000):av (aA j w) A (Builtin.«object.__setattr__» ⟨[.ref x,.str i tk,v],[]⟩) Q E ⟨h,g,d,t,P⟩:=by
 obtain⟨nm,q,N,bs,sn,sub,ab,col,dd,k0,k1,k2,k3,k5,hC⟩:=X.obj;refine fU I λo Y hc u hd=>?_;have r:F4 (.ref x) "__setattr__" (l.tail.map (λp=>bV p.1)++eY)=pure ():=by exact O (DE ..) (nT.passes (.ref x))
 unfold Builtin.«object.__setattr__»;repeat(first|refine O (refuse_eq ..) ?_|(refine O (Mt ..) (O r ?_))|(with_reducible refine iP Y ?_;refine O hc ?_)|with_reducible refine Mc hC ?_|(with_reducible refine q6 X hB ?_;refine O hna ?_)|wp_step)
 rcases hd with⟨V,hmA⟩|⟨J,G,S,hns⟩
 .refine O V (O (if_neg (by simp[typeHasDict])) ?_);split;.rename_i z;cases z
  split;.rename_i c z;exact absurd z (u c)
  .have a:(h.push {cls:=.type "dict",data:=.dict #[]}).get? x=aa o:=bX _ Y;have F:x≠h.objs.size:=bS (dR Y);refine aq (wpAny_alloc' ?_);refine aq (wpAny_update' a ?_);refine aN ?_;have Z:((h.push {cls:=.type "dict",data:=.dict #[]}).update x λo=>{cls:=o.cls,dict:=aa h.objs.size,data:=o.data,slots:=o.slots}).get? h.objs.size=aa {cls:=.type "dict",data:=.dict #[]}:=(C2 _ _ _ _ F.symm).trans (Heap.get?_push_at rfl rfl);have M:((h.push {cls:=.type "dict",data:=.dict #[]}).update x λo=>{cls:=o.cls,dict:=aa h.objs.size,data:=o.data,slots:=o.slots}).Ns h.objs.size λ_=>ak:=⟨_,#[],_,Z,rfl,λe he=>absurd he (by simp),λ_=>rfl⟩;show av _ _ (storeInDict h.objs.size (.str i tk) i v) _ _ _;unfold storeInDict newKeyGuard;refine aq (aN (aq (wpAny_nsSet1 (Heap.Ns1.of_empty M) λh' k W=>?_)));refine As (k.count (Mh i v xcC)) λoD esD epD s m n=>?_;refine aq (xdU s (by exact O m (xdV (bf n (by rw[fC,qx,dK];exact gQ _ _)))) ?_);wp_walk;have H:h'.get? x=aa {cls:=o.cls,dict:=aa h.objs.size,data:=o.data,slots:=o.slots}:=by refine(W.2 x F).trans (qo _ a ?_);have L:=(Heap.get?_some_iff.mp Y).2;obtain⟨oc,od,T,osl⟩:=o;cases T<;>first|rfl|exact L
   refine hq h' _ ⟨⟨{cls:=o.cls,dict:=aa h.objs.size,data:=o.data,slots:=o.slots},H,hc,u,.inr ⟨h.objs.size,rfl,F.symm,?_⟩⟩,λb ob hbx _ R=>?_,λf B=>?_⟩;.refine DL k λo' es ep e1 e2 e3 eu e4=>?_;exact⟨o',es,ep,e1,e2,e3,eu,λy=>by refine O (e4 y) ?_;by_cases hy:y=i<;>simp[hy,hmA]⟩
   .exact(W.2 b (bS (dR R))).trans ((C2 _ _ _ _ hbx).trans (bX _ R))
   .obtain rfl:o=f:=nR (Y.symm.trans B);exact⟨_,H,rfl,rfl,λJ e=>.inr (by cases e;exact get?_none_of_le (cR _))⟩
 .refine O G ?_;refine aN ?_;show av _ _ (storeInDict J (.str i tk) i v) _ _ _;unfold storeInDict newKeyGuard;refine aq (aN (aq (wpAny_nsSet1 hns λh' k W=>?_)));refine As (k.count (Mh i v hw)) λoD esD epD s m n=>?_;refine aq (xdU s (by exact O m (xdV (bf n (by rw[fC,dK];exact zd U)))) ?_);wp_walk;refine hq h' _ ⟨⟨o,(W.2 x S.symm).trans Y,hc,u,.inr ⟨J,G,S,k⟩⟩,λb ob _ K R=>?_,λf B=>⟨f,(W.2 x S.symm).trans B,rfl,rfl,λ_ e=>.inl e⟩⟩;exact(W.2 b (K o J Y G)).trans R
theorem XG{s:List ai}(X:XC h C l)(n:fm l "__setattr__"=ak)(b:fm l i=ak)(f:jO (.type "OSError") i=pure ak)(I:h.Inst x C D)(B:∀h' V,FJ h h' x C D i v->Q () ⟨h',g,d,V,P⟩)(a:Within D s)(T:s.length<=1000):av (aA j w) A (HH (.ref x) i v) Q E ⟨h,g,d,t,P⟩:=by
 refine dm (id I) λo Y Z _=>?_;have y:=nT.slot.bind (.ref x);unfold HH callSpecial? specialOf;repeat(any_goals(first|assumption|(with_reducible refine iP Y ?_;refine O Z ?_)|(with_reducible refine q6 X nT.slot.lookup ?_;refine O n ?_)|wp_step))
 refine zR nT.slot.plain nT.entry (Og X Y Z (Ue X b f I (λh' V M=>?_) a T));repeat(any_goals(first|assumption|wp_step))
 exact B h' V M
end
end
section
open Sem(wp)
open Builtin Builtin.OSError
theorem Ug:Be CB "OSError.__new__"=aa Builtin.«OSError.__new__»:=z6 (by kernel_rfl)
theorem ZE:builtinKind "OSError.__new__"=aa .builtinFn:=by decide+kernel
theorem XH:splitId "OSError.__new__"=aa ("OSError","__new__"):=by decide+kernel
noncomputable abbrev w7:Manifest.Signature:=⟨.constructor,"*","OSError",.cls,[⟨"args",.varPos,ay⟩]⟩
theorem xbo:Manifest.signature? "OSError.__new__"=aa w7:=by kernel_rfl
section
variable{j:dz}{A:aG}{E:aj->au->Prop}{h:aB}{g:Array mJ}{d:ny}{t:Nat}{P:b8}{C x:ah}{l:List (ah×(ai->Option aj))}{D:ai->Option aj}{i:ai}{v:aj}
theorem Uh(X:XC h C l)(B:Q () ⟨h,g,d,t,P⟩):av M A (xaA "OSError.__new__" w7 ⟨.ref C::u,[]⟩) Q E ⟨h,g,d,t,P⟩:=by
 obtain⟨k,q,N,f,s,T,e,c,m,H,V,o,r,W,J⟩:=X.obj;unfold xaA;show av M A (Mi "*" af w7 (aa (.ref C))>>=λa=>Mi "OSError" ay w7 (aa (.ref C))>>=λb=>(Nr w7 a b (u.length+1-1) []).onRaise _) Q E ⟨h,g,d,t,P⟩;unfold Mi;refine O (if_neg dk) (O (if_pos dk) ?_);refine aq (aq (aN (aq ?_)));unfold typeNameWhole classData;refine aq (aq (A1 J (aN (aN (aN (aq (aN ?_)))))));refine Ai ?_;have Z:∀a n,Nr w7 a "OSError" n []=pure ():=λa n=>by unfold Nr Bind.checkCount;simp;exact λ_ z=>absurd z dk
 exact O (Z ..) (aN B)
theorem XJ(X:XC h C l)(B:Q () ⟨h,g,d,t,P⟩):av M A (tO "OSError.__new__" ⟨.ref C::u,[]⟩) Q E ⟨h,g,d,t,P⟩:=by obtain⟨n,q,N,z,s,T,c,a,m,H,V,e,r,W,J⟩:=id X.obj;have b:(bV C::(l.tail.map (λp=>bV p.1)++eY)).contains (.type "OSError")=af:=tX dk;simp only[tO,ZE,XH,xbo];repeat(first|with_reducible exact Uh X B|refine iP J ?_|(refine pG J ?_;refine O b ?_)|refine wpAny_staticBase_exc J ?_|refine K0 J ?_|simp only[bne_self_eq_false,rE,if_false]|wp_step)
theorem xbp(X:XC h C l)(F:fm l "__init__"=aa (.ref c))(B:R (.ok (.ret (.ref (h.objs.size+1)))) ⟨(h.push {cls:=.type "tuple",data:=.seq #[]}).push {cls:=.ref C,data:=.fields #[.ref h.objs.size,.none,.none,.none,.bool ay,.none,e9 0,e9 0,e9 0,e9 0,e9 (-1)]},g,d,t,P⟩):pU (aA j w) A (.builtin "OSError.__new__" ⟨.ref C::u,[]⟩) R ⟨h,g,d,t,P⟩:=by
 obtain⟨n,q,N,z,s,T,f,a,m,H,V,M,r,W,J⟩:=id X.obj;have b:(bV C::(l.tail.map (λp=>bV p.1)++eY)).contains (.type "OSError")=af:=tX (by decide);refine tT Ug ?_;unfold Builtin.«OSError.__new__»OSError.osReadsInInit;have k:(⟨h,g,d,t,P⟩:au).TypeIs (.ref C) "type":=⟨_,J,rfl⟩;repeat(first|with_reducible refine iP J ?_|(with_reducible refine pG J ?_;refine O b ?_)|(with_reducible refine q6 X (name:="__init__") (y:=aa (.builtin "OSError.__init__")) (by refine O (iQ ..) (O iN ?_);kernel_rfl) ?_;refine O F ?_)|with_reducible refine K0 J ?_|rw[e]|wp_step)
 show R _ _;exact O (mu ..) B
end
end
section
open Sem(wp)
open Builtin Builtin.OSError
section
variable{j:dz}{A:aG}{E:aj->au->Prop}{h:aB}{g:Array mJ}{d:ny}{t:Nat}{P:b8}{C x:ah}{l:List (ah×(ai->Option aj))}{D:ai->Option aj}{i:ai}{v:aj}
noncomputable def uI(C a:ah):bR:={cls:=.ref C,data:=.fields #[.ref a,.none,.none,.none,.bool ay,.none,e9 0,e9 0,e9 0,e9 0,e9 (-1)]}
theorem UM{oI:bR}(X:XC h C l)(F:fm l "__init__"=aa (.ref c))(y:h.get? c=aa oI)(a:oI.cls=.type "function")(H:∀h' e,Kp h h'->h.get? e=ak->(∃B,h'.get? e=aa (uI C B))->av (aA j w) A (dP (.ref c) (.ref e::u)) (λr S=>r=.none/\Q (.done (.ret (.ref e))) S) E ⟨h',g,d,t,P⟩):av (aA j w) A (Builtin.«type.__call__» ⟨.ref C::u,[]⟩) Q E ⟨h,g,d,t,P⟩:=by
 obtain⟨nm,q,N,Z,sn,T,Y,s,L,U,V,k2,k3,M,J⟩:=id X.obj;repeat(first|with_reducible refine iP J ?_|with_reducible refine K0 J ?_|wp_step)
 refine codeAny_call_builtin_code (JJ _ (by decide+kernel)) (XJ X ?_);refine xbp X F ?_;show av _ _ _ _ _ _;have W:Kp h ((h.push {cls:=.type "tuple",data:=.seq #[]}).push (uI C h.objs.size)):=λb o R=>bX _ (bX _ R);have I:=X.kp W;have f:=W _ _ J;have G:=W _ _ y;have k:((h.push {cls:=.type "tuple",data:=.seq #[]}).push (uI C h.objs.size)).get? (h.objs.size+1)=aa (uI C h.objs.size):=by unfold uI;heap_get
 have K:(bV C::(l.tail.map (λp=>bV p.1)++eY)).contains (.ref C)=af:=by simp
 unfold wk;repeat(first|with_reducible refine iP k ?_|(with_reducible refine pG f ?_;rw[K])|wp_step)
 show av _ _ (QF (.ref C) (.ref C)) _ _ _;refine pG f ?_;refine O K ?_;repeat(first|with_reducible refine iP k ?_|wp_step)
 show av _ _ (jO (.ref C) _) _ _ _;refine q6 I (name:="__init__") (y:=aa (.builtin "OSError.__init__")) (by refine O (iQ ..) (O iN ?_);kernel_rfl) ?_;refine O F ?_;refine dJ (aq ?_);unfold bindSpecial;refine aq (EB (T:="function") ⟨_,G,a⟩ ?_);refine O (if_pos dk) ?_;refine aN (aq (aC (H _ (h.objs.size+1) W (Heap.get?_none_of_le (dN _)) ⟨_,k⟩) (λr S m=>?_) λ_ _ x=>x));refine aW m λz n=>?_;try clear m;subst z
 wp_walk;exact n
theorem xdn{oI:bR}(X:XC h C l)(F:fm l "__init__"=aa (.ref c))(y:h.get? c=aa oI)(p:oI.cls=.type "function")(B:∀h' e,Kp h h'->h.get? e=ak->(∃b,h'.get? e=aa (uI C b))->av (aA j w) (A.under (.builtin "type.__call__" ⟨.ref C::u,[]⟩)) (dP (.ref c) (.ref e::u)) (λr S=>r=.none/\Q (.ref e) S) E ⟨h',g,d,t,P⟩):av (aA j w) A (dP (.ref C) u) Q E ⟨h,g,d,t,P⟩:=by
 obtain⟨M,q,N,G,I,T,s,a,m,H,V,R,L,o,J⟩:=id X.obj;have k:=tc_lookup;have n:=tc_bind (.ref C);have z:(⟨h,g,d,t,P⟩:au).TypeIs (.ref C) "type":=⟨_,J,rfl⟩;refine AZ (L7 ?_);show av _ _ (callAny (.ref C) _) _ _ _;repeat(any_goals(first|assumption|with_reducible refine iP J ?_|wp_step))
 refine⟨rfl,?_⟩;refine codeAny_call_builtin_at (JJ _ (by decide+kernel)) entry_typeCall (wpAny_check_type_call_sub J (UM X F y p λh' e W K f=>?_));exact B h' e W K f
end
end
section
open Sem(wp)
open Builtin Builtin.ObjectAttr Builtin.Getset_descriptor Builtin.BaseException
theorem Ui:Be CB "getset_descriptor.__set__"=aa Builtin.«getset_descriptor.__set__»:=z6 (by kernel_rfl)
theorem UN(a b c:aj):sG "getset_descriptor.__set__" ⟨[a,b,c],[]⟩:=by unfold sG;kernel_rfl
theorem Tn:Be CB "BaseException.args#set"=aa Builtin.«BaseException.args#set»:=z6 (by kernel_rfl)
section
variable{j:dz}{A:aG}{E:aj->au->Prop}{h:aB}{g:Array mJ}{d:ny}{t:Nat}{P:b8}{C x:ah}{l:List (ah×(ai->Option aj))}{D:ai->Option aj}{i:ai}{v:aj}
theorem xdo{o:bR}(X:XC h C l)(Y:h.get? x=aa o)(Z:o.cls=.ref C)(U:o.data=.fields b)(c:b[0]?=aa (.ref L))(e:h.IsTuple a f)(B:R (.ok (.ret .none)) ⟨h.update x (iY (·.setIfInBounds 0 (.ref a))),g,d,t,P⟩):pU (aA j w) A (.call (.builtin "getset_descriptor.__set__") ⟨[.builtin "BaseException.args",.ref x,.ref a],[]⟩) R ⟨h,g,d,t,P⟩:=by
 obtain⟨I,q,N,z,y,T,s,m,n,H,V,M,G,r,J⟩:=id X.obj;have u:(⟨h,g,d,t,P⟩:au).TypeIs (.builtin "BaseException.args") "getset_descriptor":=JX;have k:(bV C::(l.tail.map (λp=>bV p.1)++eY)).contains (.type (".".intercalate ("BaseException.args".cutAt '.').dropLast))=af:=by exact O F.owner_bexc_args (tX dk)
 have W:(0:Nat)<b.size:=(TY.mp c).1;refine zR Eb.plain Ui (Eb.check _ _ _ _ _ _ _ _ u (UN _ _ _) ?_);repeat(any_goals(first|assumption|(with_reducible refine iP Y ?_;refine O Z ?_)|(with_reducible refine pG J ?_;refine O k ?_)|wp_step))
 refine⟨JJ _ (by decide+kernel),?_⟩;show pU _ _ (.builtin "BaseException.args#set" ⟨[.ref x,.ref a],[]⟩) _ _;refine tT Tn ?_;unfold Builtin.«BaseException.args#set»bexcPut;refine aq (call_tuple_same e ?_);refine aq (aq (jn Y U c (aq (Ah Y U W (AG ?_)))));exact aN B
theorem TM{o:bR}(X:XC h C l)(b:fm l "args"=ak)(Y:h.get? x=aa o)(Z:o.cls=.ref C)(U:o.data=.fields m)(n:m[0]?=aa (.ref t0))(c:h.IsTuple a f)(B:Q (.done (.ret .none)) ⟨h.update x (iY (·.setIfInBounds 0 (.ref a))),g,d,t,P⟩):av (aA j w) A (Builtin.«object.__setattr__» ⟨[.ref x,.str "args" G,.ref a],[]⟩) Q E ⟨h,g,d,t,P⟩:=by
 obtain⟨M,q,N,z,K,T,y,k,r,H,V,R,L,W,J⟩:=id X.obj;have e:F4 (.ref x) "__setattr__" (l.tail.map (λp=>bV p.1)++eY)=pure ():=by exact O (DE ..) (nT.passes (.ref x))
 have I:=JX;have s:=Eb.lookup;have u:(⟨h,g,d,t,P⟩:au).TypeIs (.builtin "BaseException.args") "getset_descriptor":=JX;unfold Builtin.«object.__setattr__»;repeat(first|refine O (refuse_eq ..) ?_|(refine O (Mt ..) (O e ?_))|(with_reducible refine iP Y ?_;refine O Z ?_)|with_reducible refine Mc J ?_|(with_reducible refine q6 X (name:="args") (y:=aa (.builtin "BaseException.args")) (by refine O (iQ ..) (O iN ?_);kernel_rfl) ?_;refine O b ?_)|assumption|wp_step)
 refine wg (Eb.bind _) ?_;show av _ _ (dP _ _>>=_) _ _ _;refine aq (AZ (xdo X Y Z U n c ?_));wp_walk;exact B
theorem XK{o:bR}(X:XC h C l)(n:fm l "__setattr__"=ak)(b:fm l "args"=ak)(Y:h.get? x=aa o)(Z:o.cls=.ref C)(U:o.data=.fields a)(e:a[0]?=aa (.ref k))(c:h.IsTuple N f)(B:∀G,Q () ⟨h.update x (iY (·.setIfInBounds 0 (.ref N))),g,d,G,P⟩):av (aA j w) A (HH (.ref x) "args" (.ref N)) Q E ⟨h,g,d,t,P⟩:=by
 have y:=nT.slot.bind (.ref x);unfold HH callSpecial? specialOf;repeat(any_goals(first|assumption|(with_reducible refine iP Y ?_;refine O Z ?_)|(with_reducible refine q6 X nT.slot.lookup ?_;refine O n ?_)|wp_step))
 refine zR nT.slot.plain nT.entry (Og X Y Z (TM X b Y Z U e c ?_));repeat(any_goals(first|assumption|wp_step))
 exact B _
end
end
section
open Sem(wp)
open Builtin Builtin.ObjectAttr
theorem GH:tw "OSError" "__getattribute__" "BaseException.__getattribute__":=.of (owner:="BaseException") (n:="__getattribute__") (by refine O (iQ ..) (O iN ?_);kernel_rfl) (by decide+kernel) (by decide+kernel) (by decide+kernel) (by first|exact .inl (by decide+kernel)|exact .inr (by decide+kernel)) (by refine O (Ea ..) ?_;kernel_rfl)
theorem ZF:jO (.type "OSError") "__getattr__"=pure ak:=by refine O (iQ ..) (O iN ?_);kernel_rfl
section
variable{j:dz}{A:aG}{E:aj->au->Prop}{h:aB}{g:Array mJ}{d:ny}{t:Nat}{P:b8}{C x:ah}{l:List (ah×(ai->Option aj))}{D:ai->Option aj}{i:ai}{v:aj}
theorem XM{o:bR}(X:XC h C l)(Y:h.get? x=aa o)(Z:o.cls=.ref C)(B:Q () ⟨h,g,d,t,P⟩):av M A (tO "BaseException.__getattribute__" ⟨[.ref x,b],[]⟩) Q E ⟨h,g,d,t,P⟩:=by
 obtain⟨n,q,N,z,s,T,f,e,m,H,V,u,r,W,J⟩:=id X.obj;have a:builtinKind "BaseException.__getattribute__"=aa .slot:=by decide+kernel
 have c:splitId "BaseException.__getattribute__"=aa ("BaseException","__getattribute__"):=by decide+kernel
 have k:(bV C::(l.tail.map (λp=>bV p.1)++eY)).contains (.type "BaseException")=af:=tX dk;have K:=F.args_bexc_ga (.ref x) b;simp only[tO,a,c];refine aq ?_
 .unfold wk;repeat(first|(with_reducible refine iP Y ?_;refine O Z ?_)|(with_reducible refine pG J ?_;refine O k ?_)|wp_step)
  exact B
theorem UO(X:XC h C l)(b:fm l i=ak)(f:jO (.type "OSError") i=pure ak)(I:h.Inst x C D)(K:D i=aa v)(B:Q (.done (.ret v)) ⟨h,g,d,t,P⟩):av (aA j w) A (Builtin.«object.__getattribute__» ⟨[.ref x,.str i G],[]⟩) Q E ⟨h,g,d,t,P⟩:=by
 obtain⟨L,q,N,z,s,T,e,a,m,H,V,M,r,W,J⟩:=id X.obj;refine fU I λo Y Z p U=>?_;rcases U with⟨_,y⟩|⟨F,u,S,n⟩;.exact gone K (y i)
 unfold Builtin.«object.__getattribute__»;repeat(first|(with_reducible refine iP Y ?_;refine O Z ?_)|(with_reducible refine q6 X f ?_;refine O b ?_)|wp_step)
 split;.rename_i c k;exact absurd k (p c)
 unfold instanceDict;repeat(first|(with_reducible refine iP Y ?_;refine O Z ?_)|with_reducible refine iP J ?_|wp_step)
 refine O u ?_;repeat(first|(with_reducible refine wpAny_nsGet n.ns ?_;refine O K ?_)|wp_step)
 exact B
theorem xdp(X:XC h C l)(e:fm l "__getattribute__"=ak)(c:fm l "__getattr__"=ak)(b:fm l i=ak)(f:jO (.type "OSError") i=pure ak)(I:h.Inst x C D)(K:D i=aa v)(m:wK v=pure v)(B:Q v ⟨h,g,d,t+1,P⟩):av (aA j w) A (HG (.ref x) i a) Q E ⟨h,g,d,t,P⟩:=by
 refine dm (id I) λo Y Z _=>?_;have y:=GH.bind (.ref x);have n:(a&&onTheHeap (vP "BaseException.__getattribute__"))=ay:=by cases a<;>rfl
 have k:(vP "BaseException.__getattribute__"==vP "object.__getattribute__")=ay:=by decide+kernel
 have q:(onTheHeap (bV C)&&vP "BaseException.__getattribute__"==vP "object.__getattribute__")=ay:=by refine O k ?_;rfl
 unfold HG getAttrBy;repeat(any_goals(first|assumption|(with_reducible refine iP Y ?_;refine O Z ?_)|(with_reducible refine q6 X GH.lookup ?_;refine O e ?_)|(with_reducible refine q6 X ZF ?_;refine O c ?_)|wp_step))
 refine zR GH.plain F.entry_bexc_ga (XM X Y Z (UO X b f I K ?_));show av _ _ (wK v) _ _ _;exact O m (aN B)
end
end
section
open Sem(wp)
noncomputable def uV:List (ai×aj)->ai->Option aj|[]=>λ_=>ak|(n,v)::r=>λy=>if y=n then aa v else uV r y
theorem JR:∀l,Within (uV l) (l.map (·.1))|[]=>xcC|(n,v)::r=>Mh n v (JR r)
noncomputable def ku(P:Gm):Prop:=∀x t,P x=aa t->∃v,t=.aJ v
theorem CX.MI{G:aO}(c:CX (aM G) h G f)(b:ku f)(k:bg Y h h')(g:∀a∈aM G,a∉Y)(H:G.globals∉Y)(R:G.builtins∉Y):CX (aM G) h' G f:=by
 have d:lN (aM G++Y) h G:=⟨c.ok.fn,c.ok.ns,bI _ c.ok.loc,λm=>(bD.mp m).elim c.ok.eN H,λm=>(bD.mp m).elim c.ok.blt R,c.ok.cell,λx q m=>bI _ (c.ok.own x q m),c.ok.apart,c.ok.off⟩;refine⟨c.ok.dM k g,λa m=>?_,⟨c.eZ.1.imp λ_ e=>k _ _ H e,c.eZ.2.imp λ_ e=>k _ _ R e⟩,λx t e=>?_⟩;.refine aE (c.live a m) λo e=>?_;exact⟨o,k a o (g a m) e⟩
 .refine aH (c.val x t e) λv r n=>?_;refine aE (b x t e) λu z=>?_;subst z;obtain rfl:=r.cS;exact⟨_,.ie _,n.dM k d g λa m=>cK _ m⟩
structure XI(B s:au)(x C:ah)(l:List (ai×aj)):Prop where
eq:s={B with heap:=s.heap,toks:=s.toks}inst:s.heap.Inst x C (uV l)kp:bg [x] B.heap s.heap
was:∃o,B.heap.get? x=aa o
dict:∀o d,s.heap.get? x=aa o->o.dict=aa d->B.heap.get? d=ak
dat:∃o K v,s.heap.get? x=aa o/\o.cls=.ref C/\o.data=.fields K/\K.size=11/\K[0]?=aa (.ref v)/\K[1]?=aa .none
theorem XI.step(f:XI B s x C l)(k:Ks s a):XI B a x C l:=by
 refine aE f.was λc g=>?_;have W:∀o,a.heap.get? x=aa o->s.heap.get? x=aa o:=λo e=>by refine oi f.dat λT K v H _=>?_;have:=k.kp _ _ H;replace e:=this▸e;cases e;exact H
 refine⟨?_,wA k.kp f.inst,λb o m e=>k.kp _ _ (f.kp b o m e),f.was,λo d H L=>f.dict o d (W o H) L,?_⟩;.have H:=k.eq;have L:=f.eq;refine O H ?_;show({s with heap:=a.heap,toks:=a.toks}:au)=_;exact O L rfl
 .refine oi f.dat λT K v H r=>?_;exact⟨T,K,v,k.kp _ _ H,r⟩
theorem XI.Ip{B s:au}{D:aB}(f:XI B s x C l)(k:Kp D B.heap)(n:D.get? x=ak):Kp D s.heap:=λb o e=>f.kp b o (λm=>by replace e:=aX.mp m▸e;exact gone e n) (k b o e)
structure IB(D:aB)(B:au)(G:aO)(x C:ah)(Y:List (ah×(ai->Option aj))):Prop where
k0:Kp D B.heap
n0:D.get? x=ak
xc:XC D C Y
gl:∃o,D.get? G.globals=aa o
bl:∃o,D.get? G.builtins=aa o
own:∀a∈aM G,(∃o,B.heap.get? a=aa o)/\a≠x
section
variable{A:aG}{E:aj->au->Prop}{D:aB}{B s:au}{G:aO}{P:Gm}{x C:ah}{Y:List (ah×(ai->Option aj))}{l:List (ai×aj)}
theorem Wh(b:IB D B G x C Y)(f:XI B s x C l)(w:CX (aM G) s.heap G P)(z:ku P)(Z:FJ s.heap h' x C (uV l) p v):XI B {s with heap:=h',toks:=tk} x C ((p,v)::l)/\CX (aM G) h' G P:=by
 refine gW Z λI N U=>?_;refine vU f.dat λT K M H X V L J F=>?_;refine fU (U T H) λt h c1 Q u=>?_;have W:bg (x::T.dict.toList) s.heap h':=λa o m e=>N a o (λq=>m (q▸aQ ..)) (λk dx D h1 q=>m (by replace D:=H▸D;cases D;exact O h1 (O q (aZ _ (aX.mpr rfl))))) e;have i:∀a,(∃o,B.heap.get? a=some o)->a≠x->a∉x::T.dict.toList:=λa⟨o,e⟩n m=>by
  rcases bB.mp m with q|q;.exact n q
  .cases j:T.dict with|none=>replace q:=j▸q;cases q|some d=>replace q:=j▸q;replace e:=aX.mp q▸e;exact gone e (f.dict T d H j)
 have r:∀a,(∃o,D.get? a=some o)->a∉x::T.dict.toList:=λa⟨o,e⟩=>i a ⟨o,b.k0 _ _ e⟩ λq=>by replace e:=q▸e;exact gone e b.n0
 refine⟨⟨by have:=f.eq;exact O this rfl,I,λa o m e=>?_,f.was,λo d c y=>?_,t,K,M,h,c1.trans X,Q.trans V,L,J,F⟩,w.MI z W (λa m=>i a (b.own a m).1 (b.own a m).2) (r _ b.gl) (r _ b.bl)⟩;.exact W a o (i a ⟨o,e⟩ λq=>m (q▸aX.mpr rfl)) (f.kp a o m e)
 .have c:h'.get? x=some o:=c;replace c:=h▸c;cases c;rcases u d y with q|q;.exact f.dict T d H q
  .cases R:B.heap.get? d with|none=>rfl|some S=>
by_cases g:d=x;.replace q:=H▸g▸q;cases q
.rw[f.kp d S (λm=>g (aX.mp m)) R]at q;cases q
theorem ZG(b:IB D B G x C Y)(f:XI B s x C l)(k:CX (aM G) s.heap G P)(z:ku P):XI B {s with heap:=s.heap.update x (iY (·.setIfInBounds 0 (.ref tp))),toks:=tk} x C l/\CX (aM G) (s.heap.update x (iY (·.setIfInBounds 0 (.ref tp)))) G P:=by
 refine vU f.dat λT K S H X V L y p=>?_;have i:=vK V (·.setIfInBounds 0 (bV tp));have h:=qo (iY (·.setIfInBounds 0 (bV tp))) H (zN i);have W:bg [x] s.heap (s.heap.update x (iY (·.setIfInBounds 0 (.ref tp)))):=λa o m e=>(xW _ _ λq:x=a=>m (by exact O q (aX.mpr rfl))).trans e;have n:(iY (·.setIfInBounds 0 (bV tp)) T).cls=T.cls:=JY _ _;have j:(iY (·.setIfInBounds 0 (bV tp)) T).dict=T.dict:=by obtain⟨c,d,F,J⟩:=T;simp only at V;subst V;rfl
 have g:∀a,(∃o,D.get? a=aa o)->a∉[x]:=λa⟨o,e⟩m=>by replace e:=aX.mp m▸e;exact gone e b.n0
 refine⟨⟨by have:=f.eq;exact O this rfl,?_,f.kp.trans W,f.was,λo d I N=>?_,_,_,tp,h,n.trans X,i,by simp[L],by simp[L],by simp[p]⟩,k.MI z W (λa m q=>(b.own a m).2 (aX.mp q)) (g _ b.gl) (g _ b.bl)⟩;.refine fU f.inst λo Q R M Z=>?_;replace Q:=H▸Q;cases Q;refine⟨_,h,n.trans X,λc q=>(by replace q:=i▸q;cases q),?_⟩;exact O j (Z.imp id λ⟨d,v,r,w⟩=>⟨d,v,r,let⟨o,u,t,I,N⟩:=w;⟨o,u,t,W d o (λm=>r (aX.mp m)) I,N⟩⟩)
 .have I:(s.heap.update x (iY (·.setIfInBounds 0 (.ref tp)))).get? x=aa o:=I;replace I:=h▸I;cases I;replace N:=j▸N;exact f.dict T d H N
end
end
section
open Sem(wp)
section
variable{A:aG}{E:aj->au->Prop}{D:aB}{B s:au}{i:aO}{P:Gm}{x C:ah}{Y:List (ah×(ai->Option aj))}{l:List (ai×aj)}
theorem AR{p1 p2 p3 R:aS}(b:IB D B i x C Y)(f:XI B s x C l)(k:CX (aM i) s.heap i P)(z:ku P)(W:P c=aa (.aJ (.ref x)))(K:P n=aa (.aJ v))(U:isVar i c=af)(F:isVar i n=af)(q:fm Y "__setattr__"=ak)(m:fm Y p=ak)(I:jO (.type "OSError") p=pure ak)(T:l.length<=900)(h:∀g,XI B g x C ((p,v)::l)->CX (aM i) g.heap i P->av (aA PW w) A (b9 u i) Q E g)(a:autoParam (lG (.Name n p3) (aa (.Attribute (.Name c p1) p p2)) R.line i=pure ay) yAR):av (aA PW w) A (b9 (.Assign [.Attribute (.Name c p1) p p2] (.Name n p3) R::u) i) Q E s:=by refine@bY _ _ _ _ _ _ _ (IW (aC ((EV.name (pos:=p3) k K F) s _ λ_ _ e=>e) (λv' J y=>?_) λ_ _ e=>e) a);obtain⟨M,Z⟩:=y;obtain rfl:=Z.cS;refine aC ((EV.name (pos:=p1) k W U) J _ M.kp) (λo j y=>?_) λ_ _ e=>e;obtain⟨r,L⟩:=y;obtain rfl:=L.cS;have d:=f.step (M.trans r);have H:=k.kp (M.trans r).kp;have N:=b.xc.kp (d.Ip b.k0 b.n0);obtain⟨hh,gg,X,tt,oo⟩:=j;refine XG N q m I d.inst (λh' V S=>?_) (JR l) (by exact O (aI ..) (cD T));obtain⟨t,G⟩:=Wh (tk:=V) b d H z S;exact⟨rfl,h _ t G⟩
theorem Oh{p1 p2 a R:aS}{K:List T}(b:IB D B i x C Y)(f:XI B s x C l)(q:CX (aM i) s.heap i P)(z:ku P)(hs:P k=aa (.aJ (.ref x)))(m1:isVar i k=af)(n:EL A i (aM i) s.heap a I K)(hl:K.length<=1000)(F:fm Y "__setattr__"=ak)(v:fm Y "args"=ak)(h:∀G,XI B G x C l->CX (aM i) G.heap i P->av (aA PW w) A (b9 u i) Q E G)(g:autoParam (lG (.Tuple I c a) (aa (.Attribute (.Name k p1) "args" p2)) R.line i=pure ay) yAR):av (aA PW w) A (b9 (.Assign [.Attribute (.Name k p1) "args" p2] (.Tuple I c a) R::u) i) Q E s:=by
 refine@bY _ _ _ _ _ _ _ (IW (aC ((EV.tup (c:=c) q.live n (cD hl)) s _ λ_ _ e=>e) (λv' J y=>?_) λ_ _ e=>e) g);refine aW y λM Z=>?_;refine cI Z λN xs p _ W _=>?_;try clear Z;subst p
 refine aC ((EV.name (pos:=p1) q hs m1) J _ M.kp) (λo j y=>?_) λ_ _ e=>e;refine aW y λt r3=>?_;obtain rfl:=r3.cS;have m:=f.step (M.trans t);have H:=q.kp (M.trans t).kp;have S:=b.xc.kp (m.Ip b.k0 b.n0);refine vU m.dat λo1 vs t0 e1 X V e2 e3 e4=>?_;have d:j.heap.IsTuple N xs:=let⟨o,e,r⟩:=W;⟨o,t.kp _ _ e,r⟩;obtain⟨hh,gg,dd,tt,oo⟩:=j;refine XK S F v e1 X V e3 d λU=>?_;refine aW (ZG (tp:=N) (tk:=U) b m H z) λL a2=>?_;exact⟨rfl,h _ L a2⟩
theorem ku.upd(h:ku P)(y:ai)(v:aj):ku (upd P y (.aJ v)):=λz t e=>by
 unfold Mine.upd at e;split at e;.cases e;exact⟨v,rfl⟩
 .exact h z t e
theorem ku.bQ:∀{P:Gm}(h:ku P)(f:List ai)(K:List aj),ku (bQ P f (K.map .aJ))|P,h,[],K=>by cases K<;>exact h|P,h,y::f,[]=>h|P,h,y::f,v::K=>ku.bQ (h.upd y v) f K
theorem KQ:∀{P a:Gm}(h:∀x t,P x=aa t->a x=aa t)(f:List ai)(F:List T),∀x t,bQ P f F x=aa t->bQ a f F x=aa t
|P,a,h,[],F=>by cases F<;>exact h|P,a,h,y::f,[]=>h|P,a,h,y::f,t::F=>KQ (λz u e=>by
unfold Mine.upd at e⊢;split;.rename_i q;rw[if_pos q]at e;exact e
.rename_i q;rw[if_neg q]at e;exact h z u e) f F
structure oS(s S:au)(x C:ah)(l:List (ai×aj)):Prop where
ks:Ks s S
new:s.heap.get? x=ak
inst:S.heap.Inst x C (uV l)dict:∀o d,S.heap.get? x=aa o->o.dict=aa d->s.heap.get? d=ak
dat:∃o K v,S.heap.get? x=aa o/\o.cls=.ref C/\o.data=.fields K/\K.size=11/\K[0]?=aa (.ref v)/\K[1]?=aa .none
theorem x_call{oI:bR}{fd:eU}{M:List ai}{K:List aj}(X:XC s.heap C Y)(hi:fm Y "__init__"=some (.ref j))(N:s.heap.get? j=some oI)(Q:oI.cls=.type "function")(fn:FnAt s.heap j fd z M)(g:GX s.heap fd.globals fd.builtins G)(T:cG A (n+2))(hl:M.length=K.length+1)(hb:∀(A':aG)(B:au)(x L:ah)(E:aj->au->Prop),IB s.heap B (cy fd L j) x C Y->XI B B x C []->CX (aM (cy fd L j)) B.heap (cy fd L j) (bQ (λ_=>none) M (.aJ (.ref x)::K.map .aJ))->(∀x,fd.scope.names.lookup x=some .local\/fd.scope.names.lookup x=some .cell->(cy fd L j).kindOf x=some .local\/(cy fd L j).kindOf x=some .cell)->av (aA PW w) A' (b9 z (cy fd L j)) (λf S=>f=.next/\XI B S x C l) E B):av (aA PW w) A (dP (.ref C) K []) (λr S=>∃x,r=.ref x/\oS s S x C l) E s:=by
 obtain⟨h,gg,d,t,os⟩:=s;refine xdn X hi N Q λh' x R F v=>?_;obtain⟨t0,v⟩:=v;have k:cG (A.under (.builtin "type.__call__" ⟨.ref C::K,[]⟩)) (n+1):=⟨T.hd,by
have:=T.dep;have e:(t6 "type.__call__" ⟨.ref C::K,[]⟩).weight=1:=by first|rfl|kernel_rfl|simp[xdT]
show A.depth+(t6 "type.__call__" ⟨.ref C::K,[]⟩).weight+(n+1)<660;exact PJ this e,by
have:=T.jH;have e:(t6 "type.__call__" ⟨.ref C::K,[]⟩).cUnits=1:=by first|rfl|kernel_rfl
show A.units+(t6 "type.__call__" ⟨.ref C::K,[]⟩).cUnits+8*(n+1)<2000;exact PI this e⟩;have rl:∀W:List aj,az [x] h' (W.map .aJ) W:=λW=>by induction W with|nil=>trivial|cons u W ih=>exact⟨.ie _,ih⟩
 have g':=g.kp R;refine v8 (s:=⟨h',gg,d,t,os⟩) (X:=[x]) (ts:=.aJ (.ref x)::K.map .aJ) (fn.kp R) g' k (λa m=>⟨uI C t0,by exact O (aX.mp m) v⟩) (λm=>?_) (λm=>?_) (by exact O fC (O (aI ..) hl)) (rl (.ref x::K)) λU E Z L f k hw=>?_;.obtain⟨o,e⟩:=g.gU;replace e:=aX.mp m▸e;exact gone e F
 .obtain⟨o,e⟩:=g.bU;replace e:=aX.mp m▸e;exact gone e F
 have J:∀a∈aM (cy fd L j),(∃o,U.heap.get? a=some o)/\a≠x:=λa m=>⟨f.cx.live a (bI _ (f.own a m)),λq=>by have:=f.new a (f.own a m);replace this:=(show(⟨h',gg,d,t,os⟩:au).heap.get? x=_ from v)▸q▸this;cases this⟩;have V:IB h U (cy fd L j) x C Y:=⟨R.trans f.ks.kp,F,X,g.gU,g.bU,J⟩;have I:=f.ks.kp _ _ v;have xi:XI U U x C []:=⟨rfl,⟨_,I,rfl,λc q=>(by cases q),.inl ⟨rfl,λ_=>rfl⟩⟩,λb o _ e=>e,⟨_,I⟩,λo d H p=>(by replace H:=I▸H;cases H;cases p),_,_,t0,I,rfl,rfl,rfl,rfl,rfl⟩;refine aC (hb _ U x L E V xi ((f.cx.narrow (λa m=>bI _ (f.own a m)) (λa m=>m) λa m=>(J a m).1).less (KQ (λ_ _ e=>by cases e) _ _)) λy hy=>(hw y hy).1) (λfl S y=>?_) λ_ _ e=>e;obtain⟨rfl,q⟩:=y;refine⟨rfl,x,rfl,⟨q.Ip V.k0 F,?_⟩,F,q.inst,λo dd H p=>?_,q.dat⟩;.have H:=q.eq;have p:=f.ks.eq;exact O H (O p rfl)
 .have:=q.dict o dd H p;cases hh:h.get? dd with|none=>rfl|some ob=>rw[V.k0 _ _ hh]at this;cases this
end
end
section
open Sem(wp)
section
variable{A:aG}{E:aj->au->Prop}{s:au}{C:ah}{Y:List (ah×(ai->Option aj))}
noncomputable def Quiet(Y:List (ah×(ai->Option aj))):Prop:=∀n∈(["__setattr__","args","smtp_code","smtp_error","sender","recipients","__getattribute__","__getattr__"]:List ai),fm Y n=ak
theorem UP{c:ah}{oI:bR}{d q:ai}{D i I M J:aj}{G:Gm}{n:Nat}(X:XC s.heap C Y)(F:fm Y "__init__"=aa (.ref c))(a:Quiet Y)(y:s.heap.get? c=aa oI)(p:oI.cls=.type "function")(j:FnAt s.heap c (ql (lK PW 12 0) d q D i) (bodyOf (lK PW 12 0)) ["self","code","msg","sender"])(g:GX s.heap 3 0 G)(u:cG A (n+2)):av (aA PW w) A (dP (.ref C) [I,M,J] []) (λr S=>∃x,r=.ref x/\oS s S x C [("sender",J),("smtp_error",M),("smtp_code",I)]) E s:=by refine x_call (n:=n) X F y p j g u rfl λQ B x L E b f k N=>?_;have z:ku (bQ (λ_=>ak) ["self","code","msg","sender"] (.aJ (.ref x)::[I,M,J].map .aJ)):=ku.bQ (λ_ _ e=>by cases e) _ [.ref x,I,M,J];refine AR b f k z (by rfl) (by rfl) (by kernel_rfl) (by kernel_rfl) (a _ dk) (a _ dk) (by refine O (iQ ..) (O iN ?_);kernel_rfl) (by simp) λU f k=>?_;refine AR b f k z (by rfl) (by rfl) (by kernel_rfl) (by kernel_rfl) (a _ dk) (a _ dk) (by refine O (iQ ..) (O iN ?_);kernel_rfl) (by simp) λU f k=>?_;refine AR b f k z (by rfl) (by rfl) (by kernel_rfl) (by kernel_rfl) (a _ dk) (a _ dk) (by refine O (iQ ..) (O iN ?_);kernel_rfl) (by simp) λU f k=>?_;refine Oh b f k z (by rfl) (by kernel_rfl) (EL.cons (EV.name k) (EL.cons (EV.name k) (EL.cons (EV.name k) EL.nil))) (by simp) (a _ dk) (a _ dk) λU f k=>?_;exact iA ⟨rfl,f⟩
theorem Vv{c:ah}{oI:bR}{d q:ai}{D i I:aj}{G:Gm}{n:Nat}(X:XC s.heap C Y)(F:fm Y "__init__"=aa (.ref c))(a:Quiet Y)(y:s.heap.get? c=aa oI)(p:oI.cls=.type "function")(j:FnAt s.heap c (ql (lK PW 13 0) d q D i) (bodyOf (lK PW 13 0)) ["self","recipients"])(g:GX s.heap 3 0 G)(u:cG A (n+2)):av (aA PW w) A (dP (.ref C) [I] []) (λr S=>∃x,r=.ref x/\oS s S x C [("recipients",I)]) E s:=by refine x_call (n:=n) X F y p j g u rfl λQ B x L E b f k N=>?_;have z:ku (bQ (λ_=>ak) ["self","recipients"] (.aJ (.ref x)::[I].map .aJ)):=ku.bQ (λ_ _ e=>by cases e) _ [.ref x,I];refine AR b f k z (by rfl) (by rfl) (by kernel_rfl) (by kernel_rfl) (a _ dk) (a _ dk) (by refine O (iQ ..) (O iN ?_);kernel_rfl) (by simp) λU f k=>?_;refine Oh b f k z (by rfl) (by kernel_rfl) (EL.cons (EV.name k) EL.nil) (by simp) (a _ dk) (a _ dk) λU f k=>?_;exact iA ⟨rfl,f⟩
end
end
def q7(v I:Int):List (Int×T):=(en 0 (cX I)).map λq=>(q.2,o7 (mk v q.1,bC q.2))
theorem Lq(C:I∈r5)(g:o∈cX I):O9 (q7 v I) o=aa (o7 (rowAt v I o)):=by have q:=aF.mp C;have:I=0\/I=1\/I=2\/I=3\/I=4:=lq q.1 q.2;rcases this with rfl|rfl|rfl|rfl|rfl<;>.simp only[cX,r5]at g;have p:o∈([0,1,2,3,4]:List Int):=(d7.mp g).1;simp only[bB,cg,or_false]at p;rcases p with rfl|rfl|rfl|rfl|rfl<;>first|rfl|(exfalso;revert g;decide)
theorem Wi:∀I∈r5,∀q∈en 0 (cX I),(0<=q.1/\q.1<4)/\0<=q.2/\q.2<5:=by decide+kernel
theorem XN:∀I∈r5,((en 0 (cX I)).map (·.2)).Nodup:=by decide+kernel
theorem fE{L:Type}(l:List L):l.filter (λ_=>af)=l:=zP.mpr λ_ _=>rfl
section
variable{A:aG}{G:aO}{X:List ah}{B:aB}{P:Gm}
theorem EF.tup{D c R F}(l:bJ X B)(h:EL A G X B R D F)(n:F.length<=100000):EF A G X B (.Tuple D c R) (.tup F):=λs E k=>by show av _ _ (do fL R;wW (<-fN (cN R (bq D G)))) _ _ _;refine aq (cW (aq (aC (h s E k) (λK U x=>?_) λ_ _ e=>e)));have r:=x.2;refine Ag ⟨x.1.trans (.push ..),?_,_,rfl,g9 x.1.kp (get?_none_of_le (cR _))⟩ (by refine O dK ?_;have:=r.length;exact iV n this);exact⟨_,_,rfl,((l.kp k).kp x.1.kp).new,⟨_,cF _ rfl,rfl,0,rfl⟩,az.kp (λb o _ e=>bX _ e) _ _ r⟩
theorem XO(v p:Int):0<=mk v p/\mk v p<4:=⟨vH _ dk,rF _ dk⟩
theorem EF.xfN{c1 c2 x u Z r:Nat}{p1 p2 p3 a e F T h l I N p d t k n W m S:aS}{v who o:Int}{b i f:ai}(c:CX X B G P)(C:who∈r5)(g:o∈cX who)(gr:P b=aa (DI (q7 v who)))(E:P i=aa (.list ((keysOf v).map l7)))(U:P f=aa (.int o))(D:isVar G b=af)(j:isVar G i=af)(Y:isVar G f=af):EF A G X B (.Tuple [.BinOp (.Subscript (.Subscript (.Name b p1) (.Name f p2) p3) (.Constant (.int 0) c1 a) e) .Mult (.Subscript (.Subscript (.Name i F) (.Constant (.int 0) c2 T) h) (.Constant (.int 1) x l) I) N,.BinOp (.Name f p) .Mult (.Subscript (.Subscript (.Name i d) (.Constant (.int 1) u t) k) (.Constant (.int 1) Z n) W) m] r S) (fQ (g4 v who o)):=by have K:∀R,EV A G X B (.Name f R) (.int o):=λR=>EV.name c U Y;have J:∀R,EV A G X B (.Name i R) (.list ((keysOf v).map l7)):=λR=>EV.name c E j;have w:∀R,EV A G X B (.Name b R) (DI (q7 v who)):=λR=>EV.name c gr D;have q:EV A G X B (.Subscript (.Subscript (.Name b p1) (.Name f p2) p3) (.Constant (.int 0) c1 a) e) (.int (rowAt v who o).1):=EV.sub (EV.sub (w p1) (K p2) (cU.dI (Lq C g))) EV.int (cU.tup dk dk rfl);have H:EV A G X B (.Subscript (.Subscript (.Name i F) (.Constant (.int 0) c2 T) h) (.Constant (.int 1) x l) I) (.int (lU v)):=EV.sub (EV.sub (J F) EV.int (cU.list (t:=l7 (0,lU v)) dk dk rfl)) EV.int (cU.tup dk dk rfl);have V:EV A G X B (.Subscript (.Subscript (.Name i d) (.Constant (.int 1) u t) k) (.Constant (.int 1) Z n) W) (.int (lV v)):=EV.sub (EV.sub (J d) EV.int (cU.list (t:=l7 (1,lV v)) dk dk rfl)) EV.int (cU.tup dk dk rfl);have Q:=XO v ((cX who).idxOf o);have y:=aF.mp (J6 g).1;have b1:EV A G X B (.BinOp (.Subscript (.Subscript (.Name b p1) (.Name f p2) p3) (.Constant (.int 0) c1 a) e) .Mult (.Subscript (.Subscript (.Name i F) (.Constant (.int 0) c2 T) h) (.Constant (.int 1) x l) I) N) (.int ((rowAt v who o).1*lU v)):=EV.bin q H (bE.zh (by show(mk v _).natAbs<_;exact BK Q.1 Q.2));have b2:EV A G X B (.BinOp (.Name f p) .Mult (.Subscript (.Subscript (.Name i d) (.Constant (.int 1) u t) k) (.Constant (.int 1) Z n) W) m) (.int (o*lV v)):=EV.bin (K p) V (bE.zh (BK y.1 y.2));exact EF.tup c.live (EL.cons b1 (EL.cons b2 EL.nil)) (by simp)
end
noncomputable def NM:T:=.list (gJ.map .str)
def uJ(v I:Int):T:=.tup [LI (cY v I),.bool af]
section
variable{A:aG}{G:aO}{X:List ah}{P:Gm}{s:au}{E:aj->au->Prop}
theorem Wj(k:CX X s.heap G P)(Y:P x=aa (.aJ (.ref 55)))(C:P y=aa t)(h1:mP G x=af)(D:isVar G y=af)(K:Kp hH s.heap)(H:cG A (n+2))(i:∀a∈V,∃o,s.heap.get? a=aa o):av (aA PW w) A (aU (.Call (.Name x f) [.Name y Q] [] b) G) (λz S=>Ks s S/\∃v g,Rep X S.heap t v/\z=.ref g/\uF S.heap V g 55 λy=>if y="comp_select_list"then aa v else ak) E s:=by
 show av _ _ (do mK b (<-aU (.Name x f) G) [] (cN b (bq [.Name y Q] G)) (oj b (nZ [] G))) _ _ _;refine aq (aC ((EV.glob (pos:=f) k Y h1) s E λ_ _ e=>e) (λv U u=>?_) λ_ _ e=>e);refine aW u λc p=>?_;obtain rfl:=p.cS;refine callWith_cls (h₀:=s.heap) (C:=55) (N:=54) (mN:=rA) ⟨(uU.kp K).obj,(uU.kp K).ns⟩ (aC ((EL.cons (EV.name (pos:=Q) k C D) (EL.nil (pos:=b))) U E c.kp) (λvs J T=>?_) λ_ _ e=>e);refine aW T λN Z=>?_;have j:=c.trans N;refine⟨j.kp,?_⟩;refine aE (az.ju Z) λB q=>?_;subst q;have Z:=Z.1;refine aC (We (n:=n) (K.trans j.kp) H) (λz l F=>?_) λ_ _ e=>e;obtain⟨r,g,rfl,h,I,R⟩:=F;refine⟨j.trans r,B,g,Rep.kp (r.kp.bN _) _ _ Z,rfl,I,λm=>?_,λo d M L m=>?_⟩;.refine aE (i _ m) λo e=>?_;rw[j.kp _ _ e]at h;cases h
 .refine aE (i _ m) λW e=>?_;have:=R o d M L;rw[j.kp _ _ e]at this;cases this
end
section
open Sem(wp)
section
variable{M:uY}{A:aG}{E:aj->au->Prop}{G:aO}{C:ah}{lc:List (ah×(ai->Option aj))}
theorem UQ(c:A.handled=ak)(h:av M A x (λv U=>∃e o K,v=.ref e/\XC U.heap C lc/\U.heap.get? e=aa o/\o.cls=.ref C/\o.data=.fields K/\K[1]?=aa .none/\E (.ref e) U) E s):av M A (raiseStmt G (aa x) ak) Q E s:=by
 unfold raiseStmt;refine aq (aC h (λv U Z=>?_) λ_ _ x=>x);obtain⟨e,o,K,rfl,X,L,a,f,h1,u⟩:=Z;obtain⟨t,q,N,z,n,T,l,b,m,H,V,w,r,W,J⟩:=id X.obj;have k:(bV C::(lc.tail.map (λp=>bV p.1)++eY)).contains (.type "BaseException")=af:=tX dk;obtain⟨j,g,d,i,P⟩:=U;repeat(first|(with_reducible refine iP L ?_;rw[a])|with_reducible refine iP J ?_|(with_reducible refine pG J ?_;rw[k])|with_reducible refine jn L f h1 ?_|wp_step)
 exact wpAny_raiseNew_none c u
end
section
variable{A:aG}{E:aj->au->Prop}{s:au}{G:aO}{C:ah}{lc:List (ah×(ai->Option aj))}
theorem Vw(h:av (aA PW w) A (fN (cN a (bq (e::u) G))) (λK U=>XC U.heap C lc/\av (aA PW w) A (dP (.ref C) K) Q E U) E s)(L:autoParam (bq (e::u) G=(ay,aU e G)::bq u G) yAR)(p:autoParam ((cN a (bq u G)).any (·.1)=ay) yAR):av (aA PW w) A (mK a (.ref C) [] (cN a (bq (e::u) G)) []) Q E s:=by
 rw[L]at h⊢;have y:((cN a ((ay,aU e G)::bq u G)).any (λx=>x.fst)||([]:List (Option ai×bh aj)).any λx=>x.fst.isNone)=ay:=by show(ay||(cN a (bq u G)).any (·.1)||ay)=ay;refine O p ?_;rfl
 unfold mK;refine aq (dJ (mW (aC h (λK U Z=>?_) λ_ _ x=>x)));obtain⟨c,g,d,t,P⟩:=U;obtain⟨n,q,N,z,k,T,i,b,m,H,V,M,l,W,J⟩:=id Z.1.obj;have f:=tc_lookup;have j:(⟨c,g,d,t,P⟩:au).TypeIs (.ref C) "type":=⟨_,J,rfl⟩;refine aq (cW ?_);show av _ _ (yU (.ref C)>>=_) _ _ _;refine aq (wpAny_keeperOf_exc J ?_);refine O y ?_;show av _ _ (dP (.ref C) K []>>=λr=>do ic [r] point;pure r) _ _ _;exact aq (aC Z.2 (λr S D=>aq (dJ (wpAny_point (aN D)))) λ_ _ x=>x)
theorem x_raise{x:ai}{d a R:aS}{e:aT}{D:List aT}{ts:List T}{P:Gm}{X:List ah}{Q:ek->au->Prop}{lf:List aj->List (ai×aj)}(n:CX X s.heap G P)(Y:P x=aa (.aJ (.ref C)))(h1:mP G x=af)(t:A.handled=ak)(m:XC s.heap C lc)(h:EL A G X s.heap a (e::D) ts)(i:∀J b,Ks s J->az X J.heap ts b->av (aA PW w) A (dP (.ref C) b []) (λr S=>∃y,r=.ref y/\oS J S y C (lf b)) E J)(u:∀J S b y,Ks s J->az X J.heap ts b->oS J S y C (lf b)->E (.ref y) S)(L:autoParam (bq (e::D) G=(ay,aU e G)::bq D G) yAR)(p:autoParam ((cN a (bq D G)).any (·.1)=ay) yAR):av (aA PW w) A (dY (.Raise (aa (.Call (.Name x d) (e::D) [] a)) ak R) G) Q E s:=by
 refine O (arm_exec_Raise ..) ?_;refine aq (cW (UQ (C:=C) (lc:=lc) t ?_));show av _ _ ((do mK a (<-aU (.Name x d) G) [] (cN a (bq (e::D) G)) (oj a (nZ [] G)))>>=λv=>do fL R;pure v) _ _ _;refine aq (aq (aC ((EV.glob (pos:=d) n Y h1) s E λ_ _ e=>e) (λv U I=>?_) λ_ _ e=>e));refine aW I λV g=>?_;obtain rfl:=g.cS;refine Vw (C:=C) (lc:=lc) (aC (h U E V.kp) (λb J B=>?_) λ_ _ e=>e) L p;refine aW B λM Z=>?_;have c:=V.trans M;refine⟨m.kp c.kp,aC (i J b c Z) (λr j F=>?_) λ_ _ e=>e⟩;refine aH F λy z f=>?_;try clear F;subst z
 refine aq (cW (aN ?_));refine vU f.dat λo W N H k q K e5 l=>?_;exact⟨y,o,W,rfl,m.kp (c.trans f.ks).kp,H,k,q,l,u J j b y c Z f⟩
end
end
section
open Sem(wp)
structure Pa(F:List ah)(e:ah)(h h':aB):Prop where
kp:bg (e::F) h h'
soft:dG F h h'
exc:∀oe vs,h.get? e=aa oe->oe.data=.fields vs->1<vs.size->∃X T oT a,h'.get? e=aa X/\X.cls=oe.cls/\X.dict=oe.dict/\X.data=.fields (vs.setIfInBounds 1 (.ref T))/\h.get? T=ak/\T≠e/\h'.get? T=aa oT/\oT.data=.fields a/\3<a.size
section
variable{M:uY}{A:aG}{E:aj->au->Prop}{s:au}
theorem xbq{G:aO}{v:bR}(F:A.frames=aa (G::i))(V:s.heap.FunFrames J (G::i))(N:G.frame=aa L)(g:s.heap.get? e=aa v)(U:v.data=.fields D)(h1:D[1]?=aa .none)(h:∀h',Pa ((G::i).filterMap (·.frame)) e s.heap h'->Q () {s with heap:=h'}):av M A (yH (.ref e) G) (λ_ s'=>av M A (F8 (.ref e) ak) Q E s') E s:=by
 have T:1<D.size:=(TY.mp h1).1;unfold yH;simp only[N];refine aq (jn g U h1 ?_);refine O (if_neg dk) ?_;have y:e∉(G::i).filterMap (·.frame):=λhm=>by obtain⟨_,o,p,B⟩:=V.mem hm;rw[g]at p;injection p with p;subst p;exact B D U
 refine aq (wpAny_frameOf_fun F V N λZ l=>?_);refine aq (wpAny_entryPlaceOf λP u=>?_);unfold xhg newFields;refine aq (qu ?_ (u.sizeOk5 _ _ _ _ _));have w:Z.get? e=aa v:=(l.2.1 e y).trans g;have n:=bX (h:=Z) {cls:=.type "traceback",dict:=ak,data:=.fields ([fk,.ref L,.none,e9 L,.none]++if P.isEmpty then eH 6 fk else P).toArray} w;refine Ah n U T ?_;have z:Z.objs.size≠e:=gb (dR w);have a:=vK U (·.setIfInBounds 1 (bV Z.objs.size));have t:=qo (iY (·.setIfInBounds 1 (bV Z.objs.size))) n (zN a);have k:=(xW (Z.push {cls:=.type "traceback",dict:=ak,data:=.fields ([fk,.ref L,.none,e9 L,.none]++if P.isEmpty then eH 6 fk else P).toArray}) (iY (·.setIfInBounds 1 (bV Z.objs.size))) (gu z)).trans (cF Z rfl);unfold F8;refine aq (jn t a (x:=.ref Z.objs.size) (by simp[T]) ?_);refine O (if_pos (show(bV Z.objs.size !=fk)=af from by simp)) ?_;refine Ah k rfl (by simp only[iX,cL,fC,qx]<;>exact kC _ (dN _)) (h _ ?_);have x:∀b o,b≠e->Z.get? b=aa o->(((Z.push {cls:=.type "traceback",dict:=ak,data:=.fields ([fk,.ref L,.none,e9 L,.none]++if P.isEmpty then eH 6 fk else P).toArray}).update e (iY (·.setIfInBounds 1 (bV Z.objs.size)))).update Z.objs.size (iY (·.setIfInBounds 3 ((ak:Option ah).elim fk λf=>e9 f)))).get? b=aa o:=λb o r W=>by have I:Z.objs.size≠b:=gb (dR W);exact O (xW _ _ I) (O (xW _ _ (gu r)) (bX _ W))
 have j:(iY (·.setIfInBounds 1 (bV Z.objs.size)) v).dict=v.dict:=by obtain⟨c,d,dt,K⟩:=v;simp only at U;subst U;rfl
 have H:s.heap.get? Z.objs.size=ak:=by rw[l.1];exact get?_none_of_le (cR _)
 refine⟨λb o m C=>x b o (λq=>m (q▸aQ ..)) ((l.2.1 b λq=>m (aZ _ q)).trans C),λb m o C=>?_,λCp X R S q3=>?_⟩;.refine aE (l.2.2 b o C) λK Y=>?_;exact⟨K,x b _ (λq=>y (q▸m)) Y⟩
 .rw[g]at R;cases R;rw[U]at S;cases S;refine⟨_,Z.objs.size,_,_,(xW _ _ z).trans t,JY _ _,j,a,H,z,qo _ k (zN (vK rfl _)),vK rfl _,?_⟩;simp only[Array.size_setIfInBounds,iX,cL,fC,qx];exact kC _ (dN _)
end
end
section
open Sem(wp)
section
variable{A:aG}{H X Y F S:List ah}{h h':aB}{i B s j:au}{Z:List ah}{G:aO}{P l:Gm}{M:List (ah×T)}{E:aj->au->Prop}
theorem Lr(k:bg Y h h')(z:dG Y h h')(b:ah)(o:bR)(e:h.get? b=aa o):∃J,h'.get? b=aa {o with slots:=J}:=by
 by_cases m:b∈Y;.exact z b m o e
 .exact⟨o.slots,k b o m e⟩
theorem wF(a:∀b o,h.get? b=aa o->∃J,h'.get? b=aa {o with slots:=J})(n:h.Ns N m):h'.Ns N m:=by refine As n λo D t e d r=>?_;refine aE (a _ _ e) λJ U=>?_;exact⟨_,D,t,U,d,r⟩
theorem D3(a:∀b o,h.get? b=aa o->∃J,h'.get? b=aa {o with slots:=J})(n:h.IsCell N v):h'.IsCell N v:=by refine aH n λo e d=>?_;refine aE (a _ _ e) λJ U=>?_;exact⟨_,U,d⟩
theorem JS(a:∀b o,h.get? b=aa o->∃J,h'.get? b=aa {o with slots:=J})(n:iU h G x v):iU h' G x v:=by
 have g:uR h G x v->uR h' G x v:=λ⟨u,p,q⟩=>⟨u,wF a p,q.imp id λ⟨I,e,N,f⟩=>⟨I,e,wF a N,f⟩⟩;refine bz n (λd=>?_) λt=>bz t (λw=>?_) λk=>?_;.obtain⟨q,a⟩:=d;exact .inl ⟨q,g a⟩
 .obtain⟨q,m,p,r⟩:=w;exact .inr (.inl ⟨q,m,wF a p,r⟩)
 .obtain⟨q,c,p,r⟩:=k;exact .inr (.inr ⟨q,c,p,D3 a r⟩)
theorem CX.soft(c:CX X h G P)(k:bg Y h h')(z:dG Y h h')(w:∀a∈Y,a∈X):CX X h' G P:=by have a:=Lr k z;have d:∀b,(∃o,h.get? b=aa o)->∃o,h'.get? b=aa o:=λb⟨o,e⟩=>let⟨J,U⟩:=a b o e;⟨_,U⟩;exact⟨⟨c.ok.fn,c.ok.ns.imp λm p=>wF a p,c.ok.loc,c.ok.eN,c.ok.blt,λx e=>let⟨q,f,p,r⟩:=c.ok.cell x e;⟨q,f,p,D3 a r⟩,c.ok.own,c.ok.apart,c.ok.off⟩,λb m=>d b (c.live b m),⟨d _ c.eZ.1,d _ c.eZ.2⟩,λx t e=>let⟨v,r,n⟩:=c.val x t e;⟨v,Rep.kp (k.mono w) t v r,JS a n⟩⟩
theorem FS.soft(f:FS H i B s Z G P M)(k:bg F s.heap j.heap)(z:dG F s.heap j.heap)(L:j={s with heap:=j.heap,toks:=j.toks})(d:∀a∈F,a∈Z++H)(I:∀p∈M,p.1∉F)(D:∀a∈F,i.heap.get? a=ak)(R:∀a∈F,a∈aM G\/B.heap.get? a=ak):FS H i B j Z G P M:=by
 refine⟨⟨λb o e=>k b o (λm=>by exact gone e (D b m)) (f.ks.kp b o e),?_⟩,⟨λb o m e=>k b o (λq=>?_) (f.kx.kp b o m e),?_⟩,f.new,f.own,f.cx.soft k z d,λp m=>⟨(f.acc p m).1,(f.acc p m).2.1,(f.acc p m).2.2.kp (k.mono d) λo e=>k _ _ (I p m) e⟩,f.nd⟩;.have c:=f.ks.eq;exact O L (O c rfl)
 .refine bz (R b q) (λq=>?_) λq=>?_;.exact m (bI _ q)
  .exact gone e q
 .have c:=f.kx.eq;exact O L (O c rfl)
theorem FS.xdq(f:FS H i s s Z G P M)(S:List ah):FS H i {s with heap:=kQ s.heap S} s Z G P M:=⟨f.ks,⟨λb o _ e=>wm _ e,rfl⟩,f.new,f.own,f.cx,f.acc,f.nd⟩
theorem Ls(f:FS H i {s with heap:=kQ s.heap S} j Z G P M):bg (aM G++M.map (·.1)++S) s.heap j.heap:=λb o m e=>f.kx.kp b o (λq=>m (bI _ q)) (rR _ e λq=>m (cK _ q))
theorem Oi{M:uY}{n:ai}{R:aS}{Q:Unit->au->Prop}(c:CX X s.heap G P)(hl:G.kindOf n=aa .local)(h:∀j,bu [G.locals] s j->CX X j.heap G (λy=>if y=n then ak else P y)->Q () j):av M A (do kN G n .none;xas G n R) Q E s:=by
 refine aE c.ok.ns λm K=>?_;refine wpAny_nameGoes_keeps hl K (by refine O c.ok.fn ?_;rfl) λh' v k I=>?_;have U:bg [G.locals] s.heap h':=λb o t e=>(I.2 b λq=>t (by exact O q (aX.mpr rfl))).trans e;have T:∀a∈[G.locals],a∈X:=λa q=>by exact O (aX.mp q) c.ok.loc
 have C:∀d f,(∃y,(y,d)∈G.cells)->s.heap.IsCell d f->h'.IsCell d f:=λd f⟨y,hm⟩V=>V.sameBut I (c.ok.off y d hm);have w:∀o,s.heap.get? G.globals=aa o->h'.get? G.globals=aa o:=λo e=>U _ _ (λq=>c.ok.eN (T _ q)) e;have D:∀o,s.heap.get? G.builtins=aa o->h'.get? G.builtins=aa o:=λo e=>U _ _ (λq=>c.ok.blt (T _ q)) e;refine h _ ⟨U,rfl⟩ ⟨⟨c.ok.fn,⟨_,k⟩,c.ok.loc,c.ok.eN,c.ok.blt,λy e=>?_,c.ok.own,c.ok.apart,c.ok.off⟩,λb t=>?_,⟨c.eZ.1.imp w,c.eZ.2.imp D⟩,λy u e=>?_⟩;.refine eK (c.ok.cell y e) λd f a b=>?_;exact⟨d,f,a,C d f ⟨y,mem_of_lookup a⟩ b⟩
 .by_cases q:b=G.locals;.refine oi k λo _ _ g _=>?_;exact O q ⟨o,g⟩
  .refine aE (c.live b t) λo g=>?_;exact⟨o,(I.2 b q).trans g⟩
 .by_cases q:y=n;.exact gone e (if_pos q)
  .replace e:=if_neg q▸e;refine aH (c.val y u e) λx r' W=>?_;refine⟨x,Rep.kp (U.mono T) u x r',?_⟩;refine W.map w D (λm' a b=>⟨_,k,?_⟩) λd a b=>C d _ ⟨y,a⟩ b;have:m=m':=by funext z;refine uc K λo es ep g hd hk N=>?_;refine uc a λo' es' pn p J L r=>?_;replace p:=g▸p;cases p;replace J:=hd▸J;cases J;exact aR (N ..) (aR (r ..) rfl)
   subst this;exact(if_neg q).trans b
end
end
section
open Sem(wp)
structure jy(h:aB)(e C:ah)(l:List (ai×aj)):Prop where inst:h.Inst e C (uV l)dat:∃v K T oT F,h.get? e=aa v/\v.cls=.ref C/\v.data=.fields K/\K[1]?=aa (.ref T)/\T≠e/\(∀d,v.dict=aa d->d≠T)/\h.get? T=aa oT/\oT.data=.fields F/\3<F.size
theorem jy.kp(k:Kp h h')(x:jy h e C l):jy h' e C l:=by obtain⟨v,K,T,oT,F,a,b,c,d,H,L,f,g,i⟩:=x.dat;exact⟨wA k x.inst,v,K,T,oT,F,k _ _ a,b,c,d,H,L,k _ _ f,g,i⟩
noncomputable def nu(h:aB)(e:ah)(b:ah):Prop:=b=e\/∃v,h.get? e=aa v/\(v.dict=aa b\/∃K,v.data=.fields K/\K[1]?=aa (.ref b))
theorem jy.dM(k:bg X h h')(x:jy h e C l)(Y:∀b,nu h e b->b∉X):jy h' e C l:=by obtain⟨v,K,T,oT,F,a,b,c,d,H,L,f,g,i⟩:=x.dat;have S:=k _ _ (Y e (.inl rfl)) a;refine⟨?_,v,K,T,oT,F,S,b,c,d,H,L,k _ _ (Y T (.inr ⟨v,a,.inr ⟨K,c,d⟩⟩)) f,g,i⟩;refine fU x.inst λo Q R M Z=>?_;replace Q:=a▸Q;cases Q;refine⟨_,S,R,M,Z.imp id λ⟨m,j,r,u⟩=>⟨m,j,r,?_⟩⟩;refine oi u λW D t I N=>?_;exact⟨W,D,t,k _ _ (Y m (.inr ⟨v,a,.inl j⟩)) I,N⟩
section
variable{M:uY}{A:aG}{E:aj->au->Prop}{h:aB}{g:Array mJ}{d:ny}{t:Nat}{P:b8}{C D e:ah}{Y o:List (ah×(ai->Option aj))}
theorem MJ{v:bR}(X:XC h C Y)(c:XC h D o)(L:h.get? e=aa v)(Z:v.cls=.ref C)(B:Q ((bV C::(Y.tail.map (λp=>bV p.1)++eY)).contains (.ref D)) ⟨h,g,d,t,P⟩):av M A (excMatches (.ref e) (.ref D)) Q E ⟨h,g,d,t,P⟩:=by
 obtain⟨nm,q,N,z,sn,T,r,b,n,H,V,k2,k3,W,J⟩:=X.obj;obtain⟨l,R,S,G,K,u,x,y,j,I,F,U,w,m,a⟩:=c.obj;have k:(bV D::(o.tail.map (λp=>bV p.1)++eY)).contains (.type "BaseException")=af:=tX dk;have s:(⟨h,g,d,t,P⟩:au).TypeIs (.ref D) "type":=⟨_,a,rfl⟩;have f:=tc_notTuple;unfold excMatches;repeat(first|(with_reducible refine iP L ?_;refine O Z ?_)|(with_reducible refine pG a ?_;refine O k ?_)|with_reducible refine pG J ?_|wp_step)
 generalize(bV C::(Y.tail.map (λp=>bV p.1)++eY)).contains (.ref D)=i at B⊢;cases i<;>(wp_walk;exact B)
end
theorem jy.of{J j:au}(x:oS J j e C l)(n:Pa F e j.heap h')(v:∀b∈F,∃o,J.heap.get? b=some o):jy h' e C l/\bg F J.heap h'/\dG F J.heap h'/\∀b,nu h' e b->J.heap.get? b=none:=by
 refine vU x.dat λo K t0 H L P i e5 e6=>?_;obtain⟨X,T,oT,B,d,h,y,Y,g,k,A,w,s⟩:=n.exc o K H P (u5 (i6 i));have G:∀b S,J.heap.get? b=some S->b≠e:=λb S q z=>by replace q:=z▸q;exact gone q x.new
 have U:J.heap.get? T=none:=by cases q:J.heap.get? T with|none=>rfl|some ot=>rw[x.ks.kp _ _ q]at g;cases g
 have f:(K.setIfInBounds 1 (.ref T))[1]?=some (.ref T):=by exact O (Array.getElem?_setIfInBounds_self_of_lt (u5 (i6 i))) rfl
 refine⟨⟨?_,X,_,T,oT,B,d,h.trans L,Y,f,k,λa I N=>?_,A,w,s⟩,λb S m q=>n.kp b S (λz=>(bB.mp z).elim (G b S q) m) (x.ks.kp _ _ q),λb m S q=>n.soft b m S (x.ks.kp _ _ q),λb q=>?_⟩
 .refine fU x.inst λW Q R M Z=>?_;replace Q:=H▸Q;cases Q;refine⟨X,d,h.trans L,λc q=>(by replace q:=Y▸q;cases q),?_⟩;refine O y ?_;refine Z.imp id λ⟨a,E,r,W,D,t,I,N⟩=>⟨a,E,r,W,D,t,n.kp a W (λm=>?_) I,N⟩;rcases bB.mp m with m|m;.exact r m
  .refine aE (v a m) λS q=>?_;exact gone q (x.dict o a H E)
 .replace I:=y▸I;refine fU x.inst λW Q R M Z=>?_;replace Q:=H▸Q;cases Q;rcases Z with⟨u,_⟩|⟨d2,E,r,W,D,t,p,q4⟩;.exact gone I u
  .replace I:=E▸I;cases I;replace p:=g▸N▸p;cases p
 .rcases q with rfl|⟨oe,I,N⟩;.exact x.new
  .replace I:=d▸I;cases I;rcases N with N|⟨V,N,p⟩;.replace N:=y▸N;exact x.dict o b H N
   .replace N:=Y▸N;cases N;replace p:=f▸p;cases p;exact U
end
section
open Sem(wp)
section
variable{A:aG}{H X Y F S:List ah}{h h':aB}{N B s s':au}{Z:List ah}{G:aO}{P d:Gm}{M:List (ah×T)}{E:aj->au->Prop}
theorem CX.GI(c:CX X h G P)(k:bg F h h')(z:dG F h h')(w:∀a∈F,a∈X)(K:∀a∈Y,h.get? a=ak)(g:∀a∈Y,∃o,h'.get? a=aa o):CX (Y++X) h' G P:=by
 have a:=Lr k z;have i:∀b,(∃o,h.get? b=aa o)->∃o,h'.get? b=aa o:=λb⟨o,e⟩=>let⟨J,U⟩:=a b o e;⟨_,U⟩;have j:∀b,(∃o,h.get? b=aa o)->b∉Y:=λb⟨o,e⟩m=>by exact gone e (K b m)
 have f:∀{b},b∈X->b∈Y++X:=λm=>cK _ m;exact⟨⟨c.ok.fn,c.ok.ns.imp λm p=>wF a p,f c.ok.loc,λm=>(bD.mp m).elim (j _ c.eZ.1) c.ok.eN,λm=>(bD.mp m).elim (j _ c.eZ.2) c.ok.blt,λx e=>let⟨q,l,p,r⟩:=c.ok.cell x e;⟨q,l,p,D3 a r⟩,λx q m=>f (c.ok.own x q m),c.ok.apart,c.ok.off⟩,λb m=>(bD.mp m).elim (g b) λm=>i b (c.live b m),⟨i _ c.eZ.1,i _ c.eZ.2⟩,λx t e=>let⟨v,r,n⟩:=c.val x t e;⟨v,Rep.kp (k.mono λb m=>f (w b m)) t v (Rep.wide (λb m=>(bD.mp m).elim (λm=>.inl (K b m)) .inr) t v r),JS a n⟩⟩
theorem FS.GI(f:FS H N B s Z G P M)(k:bg F s.heap s'.heap)(z:dG F s.heap s'.heap)(L:s'={s with heap:=s'.heap,toks:=s'.toks})(i:∀a∈F,a∈Z++H)(I:∀p∈M,p.1∉F)(D:∀a∈F,N.heap.get? a=ak)(R:∀a∈F,a∈aM G\/B.heap.get? a=ak)(K:∀a∈Y,s.heap.get? a=ak)(j:∀a∈Y,∃o,s'.heap.get? a=aa o):FS H N B s' (Y++Z) G P M:=by
 have g:∀{b},b∈Z++H->b∈Y++Z++H:=λm=>by exact O (fT ..) (cK _ m)
 refine⟨⟨λb o e=>k b o (λm=>by exact gone e (D b m)) (f.ks.kp b o e),?_⟩,⟨λb o m e=>k b o (λq=>?_) (f.kx.kp b o m e),?_⟩,λa m=>(bD.mp m).elim (λm=>g9 f.ks.kp (K a m)) (f.new a),λa m=>cK _ (f.own a m),?_,λp m=>⟨cK _ (f.acc p m).1,(f.acc p m).2.1,?_⟩,f.nd⟩;.have c:=f.ks.eq;exact O L (O c rfl)
 .refine bz (R b q) (λq=>?_) λq=>?_;.exact m (bI _ q)
  .exact gone e q
 .have c:=f.kx.eq;exact O L (O c rfl)
 .exact O (fT ..) (f.cx.GI k z i K j)
 .have:=fz.NP (Y:=Y) (h':=s.heap) (λ_ _ e=>e) K (f.acc p m).2.2;rw[<-fT]at this;exact this.kp (k.mono λb m=>g (i b m)) λo e=>k _ _ (I p m) e
end
section
variable{A:aG}{H:List ah}{N B s S:au}{Z:List ah}{G:aO}{P r:Gm}{M:List (ah×T)}{E:aj->au->Prop}{C D e:ah}{Y g:List (ah×(ai->Option aj))}{l:List (ai×aj)}
theorem Pb(f:FS H N B s Z G P M)(hcn:P cn=aa (.aJ (.ref D)))(h1:mP G cn=af)(hn:G.kindOf n=aa .local)(hnw:dh G n∈aM G)(X:XC s.heap C Y)(XD:XC s.heap D g)(R:(bV C::(Y.tail.map (λp=>bV p.1)++eY)).contains (.ref D)=af)(er:jy s.heap e C l)(xfO:∀b,nu s.heap e b->b∈Z/\b∉aM G/\b∉M.map (·.1)/\B.heap.get? b=ak)(h:∀U E',FS H N B U Z G (upd P n (.aJ (.ref e))) M->jy U.heap e C l->(∀b o,b∉aM G->¬nu s.heap e b->s.heap.get? b=aa o->U.heap.get? b=aa o)->(∀b,nu U.heap e b->nu s.heap e b)->av (aA PW w) (A.mark (aa (.ref e))) (b9 (b₀::L) G) (λfl s₂=>av (aA PW w) A (do kN G n .none;xas G n pos) (λ_ s₃=>Q fl s₃) E s₂) E' U):av (aA PW w) A (GY (.ref e) G (.ExceptHandler (aa (.Name cn cp)) (aa n) (b₀::L) pos::rest)) Q E s:=by
 refine xaB (Y3 (aC ((EV.glob (pos:=cp) f.cx hcn h1) s _ λ_ _ e=>e) (λc U y=>?_) λ_ _ e=>e)) (by intro q;cases q);refine aW y λV r1=>?_;obtain rfl:=r1.cS;have f1:=f.step V;have Sb:=er.kp V.kp;have X1:=X.kp V.kp;have XD1:=XD.kp V.kp;refine Kn er.dat λx vs0 T0 oT0 ts0 W _=>?_;have u:∀b,nu U.heap e b->b∈Z/\b∉aM G/\b∉M.map (·.1)/\B.heap.get? b=ak:=λb q=>xfO b (q.imp id λ⟨v,I,J⟩=>⟨v,by rw[V.kp _ _ W]at I;cases I;exact W,J⟩);obtain⟨v,vs,T,oT,ts,a,b,c,d,e1,e2,g1,g2,g3⟩:=Sb.dat;obtain⟨K,gg,dd,tt,oo⟩:=U;refine MJ X1 XD1 a b ?_;refine O R ?_;refine codeAny_handlers_suite_as (wpAny_setFlight_none a c d g1 g2 g3 ?_);have i:=u T (.inr ⟨v,a,.inr ⟨vs,c,d⟩⟩);have j:=vK g2 (·.setIfInBounds 3 fk);have gT:=qo (iY (·.setIfInBounds 3 fk)) g1 (zN j);have F:bg [T] K (K.update T (iY (·.setIfInBounds 3 .none))):=λq o m eq=>(xW _ _ λz:T=q=>m (by exact O z (aX.mpr rfl))).trans eq;have f2:FS H N B ⟨K.update T (iY (·.setIfInBounds 3 .none)),gg,dd,tt,oo⟩ Z G P M:=f1.other (Y:=[T]) ⟨F,rfl⟩ (λq m=>by exact O (aX.mp m) i.1) (λq m z=>by replace m:=aX.mp z▸m;exact i.2.1 m) (λp m z=>i.2.2.1 (by exact aR (aX.mp z) (bF.mpr ⟨p,m,rfl⟩))) (λq m=>by exact O (aX.mp m) ⟨_,gT⟩) λq m=>by exact O (aX.mp m) i.2.2.2
 have er2:jy (K.update T (iY (·.setIfInBounds 3 .none))) e C l:=by refine⟨?_,v,vs,T,_,_,F _ _ (λm=>e1 (aX.mp m).symm) a,b,c,d,e1,e2,gT,j,by simpa using g3⟩;refine fU Sb.inst λo i1 i2 i3 i4=>?_;replace i1:=a▸i1;cases i1;refine⟨_,F _ _ (λm=>e1 (aX.mp m).symm) a,i2,i3,i4.imp id λ⟨dd,j1,j2,j3⟩=>⟨dd,j1,j2,?_⟩⟩;refine oi j3 λo' es ep I J=>?_;exact⟨o',es,ep,F _ _ (λm=>e2 dd j1 (aX.mp m)) I,J⟩
 have t:∀b,nu (K.update T (iY (·.setIfInBounds 3 .none))) e b->b∉aM G:=λb q=>(u b (q.imp id λ⟨Cp,I,J⟩=>⟨v,a,by rw[F _ _ (λm=>e1 (aX.mp m).symm) a]at I;cases I;exact J⟩)).2.1;refine Je f2.cx (.inl hn) (.ie (.ref e)) λS k' c'=>?_;have k:bu (aM G) _ S:=k'.mono λq m=>by exact O (aX.mp m) hnw
 have Sd:x=v:=by have:=V.kp _ _ W;replace this:=(show K.get? e=_ from a)▸this;cases this;rfl
 refine h S _ (f2.re k c') (er2.dM k.kp λb q=>t b q) (λb o m p eb=>k.kp b o m (F b o (λq=>p ?_) (V.kp b o eb))) λb q=>?_;.exact O (aX.mp q) (.inr ⟨x,W,.inr ⟨vs,Sd▸c,d⟩⟩)
 .refine q.imp id λ⟨Cp,I,J⟩=>⟨x,W,?_⟩;have he':S.heap.get? e=aa v:=k.kp e v (t e (.inl rfl)) (F e v (λm=>e1 (aX.mp m).symm) a);replace I:=he'▸I;cases I;exact O Sd J
end
end
section
open Sem(wp)
noncomputable def Se:aB:={objs:=#[]}
noncomputable def FO(h:aB)(i:List aO):Prop:=∀en∈i,en.scope.kind≠.module/\∃L m,en.frame=aa L/\h.Ns L m
theorem FO.soft{h h':aB}(f:FO h i)(a:∀b o,h.get? b=aa o->∃J,h'.get? b=aa {o with slots:=J}):FO h' i:=λen m=>let⟨k,L,H,e,n⟩:=f en m;⟨k,L,H,e,wF a n⟩
theorem FO.kp(f:FO h i)(k:Kp h h'):FO h' i:=f.soft λb o e=>⟨o.slots,k b o e⟩
theorem FO.fun{h:aB}(f:FO h i):h.FunFrames Se i:=by induction i with|nil=>trivial|cons en r G=>obtain⟨k,L,m,e,o,D,t,a,b,c⟩:=f en (aQ ..);exact⟨k,⟨L,o,e,rfl,a,λK q=>by replace q:=b▸q;cases q⟩,G λg H=>f g (aZ _ H)⟩
theorem FO.live{h:aB}{i:List aO}(f:FO h i):∀a∈i.filterMap (·.frame),∃o,h.get? a=aa o:=λa m=>by refine aH (W7.mp m) λen U s=>?_;obtain⟨k,L,H,e,o,D,t,q,_⟩:=f en U;replace s:=e▸s;cases s;exact⟨o,q⟩
section
variable{A:aG}{H:List ah}{N B s J S:au}{Z:List ah}{G:aO}{P r:Gm}{M:List (ah×T)}{E:aj->au->Prop}{C D e:ah}{Y g:List (ah×(ai->Option aj))}{l:List (ai×aj)}{i:List aO}
theorem xbr(f:FS H N B s Z G P M)(t:P k=aa (.aJ (.ref D)))(h1:mP G k=af)(X:XC s.heap C Y)(v:XC s.heap D g)(x:(bV C::(Y.tail.map (λp=>bV p.1)++eY)).contains (.ref D)=ay)(R:jy s.heap e C l)(h:∀U,Ks s U->av (aA PW w) A (GY (.ref e) G u) Q E U):av (aA PW w) A (GY (.ref e) G (.ExceptHandler (aa (.Name k o)) (aa n) (j::z) L::u)) Q E s:=by refine xaB (Y3 (aC ((EV.glob (pos:=o) f.cx t h1) s _ λ_ _ e=>e) (λc U y=>?_) λ_ _ e=>e)) (by intro q;cases q);obtain⟨V,m⟩:=y;obtain rfl:=m.cS;obtain⟨oe,vs,T,oT,ts,a,b,c,d,e1,e2,g1,g2,g3⟩:=(R.kp V.kp).dat;have W:=X.kp V.kp;have I:=v.kp V.kp;have K:=h U V;obtain⟨F,gg,dd,tt,oo⟩:=U;refine MJ W I a b ?_;exact O x K
theorem Lu(f:FS H N B s Z G P M)(k:Ks s J)(V:oS J S e C l)(hfr:A.frames=some (G::i))(hL:G.frame=some L)(hl:L=G.locals)(fo:FO s.heap i)(hS:∀a∈i.filterMap (·.frame),a∈H/\a∉Z/\N.heap.get? a=none/\B.heap.get? a=none)(hML:L∉M.map (·.1))(h:∀j Z',(∀a∈Z,a∈Z')->(∀a∈Z',a∈Z\/s.heap.get? a=none)->FS H N B j Z' G P M->jy j.heap e C l->(∀b,nu j.heap e b->b∈Z'/\b∉aM G/\b∉M.map (·.1)/\B.heap.get? b=none)->bg (L::i.filterMap (·.frame)) s.heap j.heap->dG (L::i.filterMap (·.frame)) s.heap j.heap->Q () j):av (aA PW w) A (yH (.ref e) G) (λ_ t=>av (aA PW w) A (F8 (.ref e) none) Q E t) E S:=by
 refine vU V.dat λo vs t0 e1 e2 e3 e4 e5 e6=>?_;have v:=f.step k;have W:=fo.kp k.kp;have Sf:=W.kp V.ks.kp;refine aE v.cx.ok.ns λm hn=>?_;have hn':=hn.keeps V.ks.kp;have hff:S.heap.FunFrames Se (G::i):=FO.fun (h:=S.heap) λen mm=>by
  rcases bB.mp mm with rfl|mm;.exact⟨by refine O v.cx.ok.fn ?_;decide,L,m,hL,by exact O hl hn'⟩
  .exact Sf en mm
 refine xbq hfr hff hL e1 e3 e6 λh' no=>?_;have hfm:(G::i).filterMap (·.frame)=L::i.filterMap (·.frame):=by exact O List.filterMap_cons (O hL rfl)
 replace no:=hfm▸no;have y:L∈aM G:=by exact O hl (aQ ..)
 have K:∀b∈L::i.filterMap (·.frame),∃o,J.heap.get? b=some o:=λb mb=>by
  rcases bB.mp mb with rfl|mb;.exact v.cx.live _ (bI _ (v.own _ y))
  .exact W.live b mb
 refine kR (jy.of V no K) λer kF sF x=>?_;obtain⟨R,us,T,oT,ts,a,b,c,d,q1,q2,g1,g2,g3⟩:=id er.dat;have hY:∀z,nu h' e z↔z∈e::T::R.dict.toList:=λz=>by
  constructor
  .rintro(rfl|⟨Cp,U,n⟩);.exact aQ ..
   .replace U:=a▸U;cases U;rcases n with n|⟨us',n,I⟩;.exact O n (aZ _ (aZ _ (aX.mpr rfl)))
    .replace n:=c▸n;cases n;replace I:=d▸I;cases I;exact aZ _ (aQ ..)
  .intro u;rcases bB.mp u with rfl|u;.exact .inl rfl
   .rcases bB.mp u with rfl|u;.exact .inr ⟨R,a,.inr ⟨us,c,d⟩⟩
    .refine .inr ⟨R,a,.inl ?_⟩;cases hd:R.dict with|none=>replace u:=hd▸u;cases u|some dd=>replace u:=hd▸u;exact congrArg some (aX.mp u).symm
 have eqs:({S with heap:=h'}:au)={J with heap:=h',toks:=S.toks}:=by have:=V.ks.eq;exact O this rfl
 have hup:∀z∈e::T::R.dict.toList,∃o,h'.get? z=some o:=λz u=>by
  rcases(hY z).mpr u with rfl|⟨Cp,U,n⟩;.exact⟨_,a⟩
  .replace U:=a▸U;cases U;rcases n with n|⟨us',n,I⟩
   .refine fU er.inst λo' i1 i2 i3 i4=>?_;replace i1:=a▸i1;cases i1;rcases i4 with⟨j0,_⟩|⟨d2,j1,j2,o',es,ep,q3,q4⟩;.exact gone n j0
    .replace n:=j1▸n;cases n;exact⟨_,q3⟩
   .replace n:=c▸n;cases n;replace I:=d▸I;cases I;exact⟨_,g1⟩
 have fZ:∀z∈e::T::R.dict.toList,J.heap.get? z=none:=λz u=>x z ((hY z).mpr u);have f4:=v.GI (s':=({S with heap:=h'}:au)) (Y:=e::T::R.dict.toList) kF sF eqs (λz u=>by
rcases bB.mp u with rfl|u;.exact bI _ (v.own _ y)
.exact cK _ (hS z u).1) (λp X u=>by
rcases bB.mp u with q|u;.exact hML (q▸bF.mpr ⟨p,X,rfl⟩)
.exact(hS _ u).2.1 (v.acc p X).1) (λz u=>by
rcases bB.mp u with rfl|u;.exact v.new _ (v.own _ y)
.exact(hS z u).2.2.1) (λz u=>by
rcases bB.mp u with rfl|u;.exact .inl y
.exact .inr (hS z u).2.2.2) fZ hup;have F:∀z,J.heap.get? z=none->s.heap.get? z=none:=λz q=>g9 k.kp q;refine h _ _ (λz u=>cK _ u) (λz u=>(bD.mp u).elim (λu=>.inr (F z (fZ z u))) .inl) f4 er (λz u=>?_) (λz o u q=>kF z o u (k.kp _ _ q)) λz u o q=>sF z u o (k.kp _ _ q);have hz:=x z u;refine⟨bI _ ((hY z).mp u),λmo=>?_,λmM=>?_,v.BV hz⟩;.refine aE (v.cx.live z (bI _ (v.own _ mo))) λo q=>?_;exact gone q hz
 .refine aH (bF.mp mM) λp X ep=>?_;have pn:p.1=z:=ep;refine aE (v.acc p X).2.2.up λo q=>?_;replace q:=pn▸q;exact gone q hz
end
end
section
open Sem(wp)
section
variable{j:dz}{w:bL}{A:aG}{E:aj->au->Prop}{h:aB}{g:Array mJ}{d:ny}{t:Nat}{P:b8}{C D e:ah}{Y o:List (ah×(ai->Option aj))}
theorem UR{v:bR}(b:k=.int i H)(X:XC h C Y)(n:XC h D o)(S:C≠D)(x:(bV C::(Y.tail.map (λp=>bV p.1)++eY)).contains (.ref D)=af)(L:h.get? e=aa v)(Z:v.cls=.ref C)(hq:Q (.done (.ret (.bool af))) ⟨h,g,d,t,P⟩):av (aA j w) A (Builtin.«isinstance.nested» ⟨[.ref e,.ref D,k],[]⟩) Q E ⟨h,g,d,t,P⟩:=by
 subst b;obtain⟨nm,q,N,bs,sn,T,ab,m,z,M,V,k2,k3,W,J⟩:=X.obj;obtain⟨r,R,B,G,K,u,l,y,f,I,F,U,c,s,a⟩:=n.obj;have hT:(⟨h,g,d,t,P⟩:au).TypeIs (.ref D) "type":=⟨_,a,rfl⟩;have hn:(bV C==bV D)=ay:=by simpa using S
 repeat(any_goals(first|assumption|(with_reducible refine iP L ?_;refine O Z ?_)|(with_reducible refine pG J ?_;refine O x ?_)|wp_step))
theorem B4{v:bR}(X:XC h C Y)(c:XC h D o)(S:C≠D)(x:(bV C::(Y.tail.map (λp=>bV p.1)++eY)).contains (.ref D)=af)(L:h.get? e=aa v)(Z:v.cls=.ref C)(B:Q (.bool af) ⟨h,g,d,t,P⟩):av (aA j w) A (dP (.builtin "isinstance") [.ref e,.ref D]) Q E ⟨h,g,d,t,P⟩:=call_isinstance (S:=λ_ R s=>s=⟨h,g,d,t,P⟩/\R (.ok (.ret (.bool af))) s) (λ_ _ _ _ s W=>by
refine aW W λI a=>?_;try clear W;subst I
exact isinstance_outer (UR rfl X c S x L Z a) (by intro q;cases q)) ⟨rfl,B⟩
end
section
variable{A:aG}{G:aO}{X:List ah}{B:aB}{C D e:ah}{Y c:List (ah×(ai->Option aj))}{l:List (ai×aj)}
theorem CA.B4(h:XC B C Y)(d:XC B D c)(S:C≠D)(x:(bV C::(Y.tail.map (λp=>bV p.1)++eY)).contains (.ref D)=af)(w:jy B e C l):CA A X B (.builtin "isinstance") [.aJ (.ref e),.aJ (.ref D)] (.bool af):=λs E K k r=>by refine kZ (az.nF r) λv u z=>?_;subst z;have r:=iR r.1 r.2.1;obtain rfl:=r.1.cS;obtain rfl:=r.2.cS;refine U6 (w.kp k).dat λj W T oT F a b _=>?_;have f:=h.kp k;have I:=d.kp k;obtain⟨n,i,m,g,L⟩:=s;exact Mine.B4 f I S x a b ⟨.refl _,.AK _⟩
theorem EV.Bq{R:aS}(g:EV A G X B o (.aJ (.ref e)))(h:XC B C Y)(a:Quiet Y)(b:fm Y p=ak)(f:jO (.type "OSError") p=pure ak)(w:jy B e C l)(K:uV l p=aa v)(d:wK v=pure v)(r:Rep X B t v)(L:∀G,aU (.Attribute o p R) G=(do let q<-aU o G;fL R.atName;let r<-ic [q] (HG q p af)Mr o q r;pure r):=by intro _;with_unfolding_all rfl):EV A G X B (.Attribute o p R) t:=λs E k=>by refine xgy (aC (g s E k) (λu U y=>?_) λ_ _ e=>e) (L G);obtain rfl:=y.2.cS;have V:=k.trans y.1.kp;exact xdp (h.kp V) (a _ (by decide)) (a _ (by decide)) b f (w.kp V).inst K d ⟨y.1.trans (.tok ..),Rep.kp (V.bN X) _ _ r⟩
end
end
section
variable{A:aG}{X:List ah}{B:aB}
theorem aY.isRef:aY A X B .Is (.aJ (.ref a)) (.aJ (.ref a)) af:=λs E u v k J c=>by obtain rfl:=J.cS;obtain rfl:=c.cS;show av _ A (do return Ni (<-isSame (.ref a) (.ref a))) _ E s;exact aq (wpAny_isSame_ref_self (aN ⟨.refl _,rfl⟩))
end
def qCk(l:List (ah×(ai->Option aj))):Bool:=(["__setattr__","args","smtp_code","smtp_error","sender","recipients","__getattribute__","__getattr__"]:List ai).all λn=>(fm l n).isNone
theorem Lv(h:qCk l=af):Quiet l:=λn m=>TX.mp (cj.mp h n m)
noncomputable abbrev zx(C N:ah):Prop:=∃o s,hH.get? C=aa o/\o.cls=.type "type"/\o.data=.cls s/\hH.Ns s.ns (hH.nsMap N)
theorem Cq{o:bR}(e:h1.get? C=aa o)(n:C∉[PL])(c:o.cls=.type "type")(d:o.data=.cls (jY o))(K:(jY o).ns=N)(i:hH.isNs N=af):zx C N:=⟨o,_,kj e n,c,d,by exact O K (.of_isNs i)⟩
theorem Cr{o:bR}{l:List (ah×(ai->Option aj))}(e:h1.get? C=aa (Fd (jY o).name (jY o).qualname C (jY o).ns (jY o).bases (l.tail.map (λp=>bV p.1)++eY) af (jY o).slotNames (jY o).subclasses (jY o).abstract (jY o).collection o.dict (qf o 0) (qf o 1) (qf o 2) (qf o 3) (qf o 5) "OSError.__new__"))(n:C∉[PL])(U:l.head?.map (·.1)=aa C)(a:ug hH l):XC hH C l:=⟨⟨_,_,_,_,_,_,_,_,_,_,_,_,_,_,kj e n⟩,U,a⟩
theorem B5:zx 100 99:=Cq (C:=100) (N:=99) (o:=MineH.Fi) (by kernel_rfl) (by decide) (by kernel_rfl) (by kernel_rfl) (by kernel_rfl) (by kernel_rfl)
theorem Qu:zx 120 119:=Cq (C:=120) (N:=119) (o:=MineH.Ff) (by kernel_rfl) dk (by kernel_rfl) (by kernel_rfl) (by kernel_rfl) (by kernel_rfl)
theorem xfP:zx 139 138:=Cq (C:=139) (N:=138) (o:=MineH.Fg) (by kernel_rfl) dk (by kernel_rfl) (by kernel_rfl) (by kernel_rfl) (by kernel_rfl)
theorem xfQ:zx 158 157:=Cq (C:=158) (N:=157) (o:=MineH.Fj) (by kernel_rfl) (by decide) (by kernel_rfl) (by kernel_rfl) (by kernel_rfl) (by kernel_rfl)
noncomputable abbrev lE:List (ah×(ai->Option aj)):=[(100,hH.nsMap 99)]
noncomputable abbrev lB:List (ah×(ai->Option aj)):=[(120,hH.nsMap 119),(100,hH.nsMap 99)]
noncomputable abbrev lS:List (ah×(ai->Option aj)):=[(139,hH.nsMap 138),(120,hH.nsMap 119),(100,hH.nsMap 99)]
noncomputable abbrev lR:List (ah×(ai->Option aj)):=[(158,hH.nsMap 157),(100,hH.nsMap 99)]
theorem xfR:XC hH 100 lE:=Cr (o:=MineH.Fi) (by kernel_rfl) dk rfl ⟨B5,trivial⟩
theorem xfS:XC hH 120 lB:=Cr (o:=MineH.Ff) (by kernel_rfl) (by decide) rfl ⟨Qu,B5,trivial⟩
theorem Qv:XC hH 139 lS:=Cr (o:=MineH.Fg) (by kernel_rfl) (by decide) rfl ⟨xfP,Qu,B5,trivial⟩
theorem Qw:XC hH 158 lR:=Cr (o:=MineH.Fj) (by kernel_rfl) dk rfl ⟨xfQ,B5,trivial⟩
structure iH(A:aG)(h:aB):Prop where
K:Kp hH h
rm:cG A 2
section
variable{A:aG}{h:aB}(x:iH A h)
include x
theorem iH.quote(h':aB)(k:Kp h h')(y:ai)(b:sj (kr y.cps) y "\r\n")(a:sj (ko (qZ y).cps) (qZ y) ".."):CA A [] h' (.ref 167) [.str y] (.str (gc y)):=Uc (n:=1) x.rm (.nil (x.K.trans k)) b a
theorem iH.name(h':aB)(k:Kp h h')(y:ai)(a:y.cps.toList.length<=100000)(b:((m5 setB cC y).map (·.length)).sum+(m5 setB cC y).length<=1048576):CA A [] h' (.ref 236) [.str y] (.str (nameOf setB cC y)):=UI (n:=0) x.rm (.nil (x.K.trans k)) a b
theorem iH.stats(h':aB)(X:List ah)(k:Kp h h')(P:bJ X h')(R:3∉X)(D:0∉X)(t u:Stat)(c:t.t.length<=1000)(Z:u.t.length<=1000):CA A X h' (.ref 66) [cB t,cB u] (cB (j5 t u)):=I1 (n:=0) x.rm ⟨x.K.trans k,P,R,D⟩ c Z
theorem iH.fq:∃o fd,h.get? 167=aa o/\o.data=.func fd:=let⟨o,e,d⟩:=(NX.kp x.K).obj;⟨o,_,e,d⟩
theorem iH.fn:∃o fd,h.get? 236=aa o/\o.data=.func fd:=let⟨o,e,d⟩:=(N1.kp x.K).obj;⟨o,_,e,d⟩
theorem iH.fu:∃o fd,h.get? 66=aa o/\o.data=.func fd:=let⟨o,e,d⟩:=(GA.kp x.K).obj;⟨o,_,e,d⟩
theorem iH.sm:∃o,h.get? eo=aa o:=FF.imp λ_ e=>x.K _ _ e
theorem iH.xE:XC h 100 lE:=xfR.kp x.K
theorem iH.xB:XC h 120 lB:=xfS.kp x.K
theorem iH.xS:XC h 139 lS:=Qv.kp x.K
theorem iH.xR:XC h 158 lR:=Qw.kp x.K
end
theorem uW:Quiet lS:=Lv (by kernel_rfl)
theorem Hz:Quiet lR:=Lv (by kernel_rfl)
theorem iH.mkS(x:iH A h)(s:au)(E:aj->au->Prop)(I M J:aj)(k:Kp h s.heap):av (aA PW w) A (dP (.ref 139) [I,M,J] []) (λr S=>∃y,r=.ref y/\oS s S y 139 [("sender",J),("smtp_error",M),("smtp_code",I)]) E s:=have K:=x.K.trans k
UP (n:=0) (Qv.kp K) (by kernel_rfl) uW ((x.K.trans k) _ _ (kj (o:=MineH.A2 PW) (by kernel_rfl))) (by kernel_rfl) (Zw.kp K) (rz.kp K) x.rm
theorem iH.mkR(x:iH A h)(s:au)(E:aj->au->Prop)(I:aj)(k:Kp h s.heap):av (aA PW w) A (dP (.ref 158) [I] []) (λr S=>∃y,r=.ref y/\oS s S y 158 [("recipients",I)]) E s:=have K:=x.K.trans k
Vv (n:=0) (Qw.kp K) (by kernel_rfl) Hz ((x.K.trans k) _ _ (kj (o:=MineH.A3 PW) (by kernel_rfl))) (by kernel_rfl) (Zx.kp K) (rz.kp K) x.rm
theorem xfT:(bV 139::(lS.tail.map (λp=>bV p.1)++eY)).contains (.ref 139)=af:=dk
theorem xfU:(bV 139::(lS.tail.map (λp=>bV p.1)++eY)).contains (.ref 120)=af:=dk
theorem xfV:(bV 158::(lR.tail.map (λp=>bV p.1)++eY)).contains (.ref 158)=af:=dk
theorem xfW:(bV 158::(lR.tail.map (λp=>bV p.1)++eY)).contains (.ref 100)=af:=dk
theorem xfX:(bV 158::(lR.tail.map (λp=>bV p.1)++eY)).contains (.ref 139)=ay:=dk
theorem xfY:(139:ah)≠120:=dk
theorem xfZ:(158:ah)≠100:=dk
def gY(W:List (List Int))(G:T)(B:Int)(D:qg):Gm:=upd (upd (upd (upd (upd (upd (upd (bQ (eX (d9 (aP PW 23)) G0) ["wishes","typed","names","turn"] [b7 W,G,bZ gJ,.int B]) "held" (.aJ (.ref D.h))) "came" (.aJ (.ref D.c))) "mails" (.aJ (.ref D.m))) "free" (.aJ (.ref D.f))) "alone" (.aJ (.ref D.a))) "refused" (uH D.r)) "book" (.aJ (.ref D.b))
def FL:List c6:=bodyOf (sN (bodyOf (aP PW 23)) 2)
def Br:c6:=sN FL 2
section
variable{A:aG}{H:List ah}{N B s:au}{Z:List ah}{E:aj->au->Prop}
abbrev bP(L:ah):aO:=cy BZ L 246
theorem EV.jD{b:List ah}{k:Int}(K:EV A G X a v (uH b))(F:EV A G X a i (.int k))(D:0<=k)(h1:k<b.length)(I:b.length<=1000)(W:autoParam (jR i) yAW):EV A G X a (.Subscript v i c) (.aJ (.ref (b.getD k.toNat 0))):=by refine EV.sub K F (cU.list D (sI h1 I) ?_ W);refine O eS (O (cz (iu D h1)) (O cA (O (cz (iu D h1)) ?_)));rfl
theorem FS.GJ(f:FS H N B s Z G g M)(h:TV A G s.heap c b)(h1:b=true->∀a,Ks s a->FS H N B a Z G g M->av (aA PW w) A (b9 d G) Q E a)(J:b=false->∀a,Ks s a->FS H N B a Z G g M->av (aA PW w) A (b9 i G) Q E a):av (aA PW w) A (dY (.If c d i j) G) Q E s:=by
 refine QW (aC (h s E λ_ _ e=>e) (λr a y=>?_) λ_ _ e=>e);refine aW y λk u=>?_;try clear y;subst u
 cases r with|true=>exact h1 rfl a k (f.step k)|false=>exact J rfl a k (f.step k)
theorem Lw(k:Kp h h')(w:jy h e C l)(p:nu h' e b):nu h e b:=by refine Kn w.dat λv K T oT F a _=>?_;exact p.imp id λ⟨c,I,d⟩=>⟨v,a,by rw[k _ _ a]at I;cases I;exact d⟩
theorem Wk{L:ah}{W:List (List Int)}{ty:T}{c h I:Int}{D:qg}{M:bG}{k:Nat}{i:List aO}{Q:ek->au->Prop}(hh:A.handled=ak)(hfr:A.frames=aa (bP L::i))(hun:A.units+1<fy)(r:iH A N.heap)(C:D.r.length=5)(l:fh M k)(hk:k<=25)(f:FS H N B s Z (bP L) (upd (upd (gY W ty c D) "step" (.int h)) "who" (.int I)) (runM D M))(w0:0<=I)(w1:I<5)(h4:gi M.aK I=4)(fo:FO s.heap i)(hS:∀a∈i.filterMap (·.frame),a∈H/\a∉Z/\N.heap.get? a=ak/\B.heap.get? a=ak)(hQ:∀Y,FS H N B Y Z (bP L) (gY W ty c D) (runM D {M with alone:=M.alone++[I]})->dG (i.filterMap (·.frame)) s.heap Y.heap->Q .next Y):av (aA PW w) A (dY Br (bP L)) Q E s:=by
 refine xdW ?_;have cv:=f.view (x:="came") (i:=1) (by rfl) rfl;refine nS (FS.GJ f (b:=gi M.aK I==4) ?_ ?_ ?_);.exact TV.cmp (EV.gi (EV.name cv) (EV.name cv) w0 (by exact O l.aK.len w1) (by refine O l.aK.len ?_;decide)) EV.int aY.eq
 .intro _ s₁ k1 f;have kS:=f.ks.kp;have Iq:=fo.kp k1.kp;refine dj (x_raise (lf:=λvs=>[("recipients",vs.headD .none)]) f.cx (by exact IP) (by kernel_rfl) hh (r.xR.kp kS) (EL.cons (EV.jD (EV.name f.cx) (EV.name f.cx) w0 (by exact O C w1) (by refine O C ?_;decide)) EL.nil) (λJ vs k2 K=>?_) λJ Y vs y k2 K xm=>?_);.refine aE (az.ju K) λv u=>?_;subst u;exact r.mkR J _ v (kS.trans k2.kp)
  .have hv:vs.headD .none=.ref (D.r.getD I.toNat 0):=by refine aE (az.ju K) λv u=>?_;subst u;have K:=K.1;exact K.cS
   have xm:oS J Y y 158 [("recipients",.ref (D.r.getD I.toNat 0))]:=by exact aR hv xm
   have F:L∈aM (bP L):=aQ ..;refine Lu (L:=L) f k2 xm hfr rfl rfl Iq hS (λm=>?_) λs₄ Z' hZ Ir f4 er j kL sL=>?_;.refine aH (bF.mp m) λp mp ep=>?_;have G:p.1=L:=ep;exact(f.acc p mp).2.1 (G▸F)
   .have k4:=f4.ks.kp;refine xbr f4 (by exact CJ) (by kernel_rfl) (r.xR.kp k4) (r.xS.kp k4) xfX er λs₅ k5=>?_;have f5:=f4.step k5;have er5:=er.kp k5.kp;have V:=f5.ks.kp;refine Pb f5 (by exact IP) (by kernel_rfl) (by kernel_rfl) F (r.xR.kp V) (r.xR.kp V) xfV er5 (λb p=>j b (Lw k5.kp er p)) λs₆ E' d Sg U _=>?_;have k6:=d.ks.kp;refine dj (FS.append (i:=4) (t:=lu I) d.rebase (by rfl) rfl ?_ (by refine O (aI ..) ?_;have:=l.alone;exact bf (bf this hk) (gQ _ _)) λP S=>?_)
    .refine EV.tup d.cx.live (EL.cons (EV.name d.cx) (EL.cons (EV.uS (b:=af) (c:=af) ?_ λ_=>?_) EL.nil)) (by simp);.exact EV.cmp (EV.Bq (v:=.ref (D.r.getD I.toNat 0)) (EV.name d.cx) (r.xR.kp k6) Hz (Hz _ dk) (by refine O (iQ ..) (O iN ?_);kernel_rfl) Sg (by rfl) rfl (.ie _)) (EV.jD (EV.name d.cx) (EV.name d.cx) w0 (by exact O C w1) (by refine O C ?_;decide)) aY.isRef
     .exact EV.cQ (EV.glob d.cx (by exact Dj)) rfl (EL.cons (EV.name d.cx) (EL.cons (EV.glob d.cx (by exact S4)) EL.nil)) (CA.B4 (r.xR.kp k6) (r.xE.kp k6) xfZ xfW Sg)
    .have eM:(runM D M).set 4 (D.a,.list (M.alone.map lu++[lu I]))=runM D {M with alone:=M.alone++[I]}:=by unfold runM;simp only[fY];rfl
     have fM:((runM D M).set 4 (D.a,.list (M.alone.map lu++[lu I]))).map (·.1)=(runM D M).map (·.1):=by exact O eM (O (rT D (by rw[l.ref,C])) (O (rT D (by rw[l.ref,C])) rfl))
     have f7:=d.BW S fM;refine Oi f7.cx (by kernel_rfl) λg k8 c8=>?_;have X:bu (aM (bP L)) P g:=k8.mono λq m=>by exact O (aX.mp m) F
     have f8:=f7.re X c8;have f9:=f8.less (δ:=gY W ty c D) λx t e=>by
      have n1:x≠"no":=λq=>by replace e:=q▸e;cases e
      have n2:x≠"step":=λq=>by replace e:=q▸e;cases e
      have n3:x≠"who":=λq=>by replace e:=q▸e;cases e
      show(if x="no"then ak else upd (upd (upd (gY W ty c D) "step" (.int h)) "who" (.int I)) "no" _ x)=aa t;refine O (if_neg n1) (O (eE _ _ n1) (O (eE _ _ n3) (O (eE _ _ n2) ?_)));exact e
     have Iu:=f9.Gw (Z':=Z) hZ f.own λp m=>by
      have:p.1∈(runM D M).map (·.1):=by exact aR fM (bF.mpr ⟨p,m,rfl⟩)
      refine aH (bF.mp this) λq mq eq=>?_;have n:q.1=p.1:=eq;exact aR n (f.acc q mq).1
     refine hQ g (Iu.conv eM) λb m o e=>?_;have R:=hS b m;have bo:b∉aM (bP L):=λq=>R.2.1 (f.own b q);refine aE (sL b (aZ _ m) o (k1.kp _ _ e)) λsl e4=>?_;refine⟨sl,X.kp b _ bo (S.kx.kp b _ (λq=>?_) (U b _ bo (λq=>?_) (k5.kp _ _ e4)))⟩
     .refine bz (bD.mp q) (λq=>?_) λq=>?_;.exact bo q
      .refine aH (bF.mp q) λp mp ep=>?_;have G:p.1=b:=ep;have:p.1∈(runM D M).map (·.1):=by exact aR fM (bF.mpr ⟨p,mp,rfl⟩)
       refine aH (bF.mp this) λq' mq eq=>?_;have n:q'.1=p.1:=eq;exact R.2.1 (by exact aR G (aR n (f.acc q' mq).1))
     .have:=(j b (Lw k5.kp er q)).1;refine bz (Ir b this) (λz=>?_) λz=>?_;.exact R.2.1 z
      .rw[k1.kp _ _ e]at z;cases z
 .intro R;replace R:=h4▸R;cases R
end
section
variable{A:aG}{H:List ah}{N B s:au}{Z:List ah}{G:aO}{P:Gm}{M:List (ah×T)}{E:aj->au->Prop}
theorem FS.getItem{x:ai}{g:aT}{y Y:aS}{D:ah}{l:List T}{i:Nat}{k:Int}{t:T}{X1:List ah}(f:FS H N B s Z G P M)(K:P x=aa (.aJ (.ref D)))(F:M[i]?=aa (D,.list l))(h:EV A G X1 s.heap g (.int k))(m:0<=k)(h1:k<2^63)(e:l[k.toNat]?=aa t)(W:autoParam (jR g) yAW)(V:autoParam (isVar G x=af) yAK):EV A G (Z++H) s.heap (.Subscript (.Name x y) g Y) t:=λS E q=>by refine Subscript_ (aC (f.qX (X:=[]) K V S E q) (λa U I=>aC (h U E (q.trans I.1.kp)) (λb J c=>?_) λ_ _ e=>e) λ_ _ e=>e);obtain rfl:=I.2.cS;refine aE c.2.cM λu z=>?_;subst z;have j:=q.trans (I.1.trans c.1).kp;refine aH (f.acc _ (eO F)).2.2 λxs p r=>?_;have p2:J.heap.PlainList D xs:=p.at λo e=>j _ _ e;have w:=Mine.az.kp (j.bN (Z++H)) _ _ r;refine aH (w.at e) λv n d=>?_;exact GU p2.isList.typeIs Kl.lookup (Kd p2.isList m h1 (by exact aR gM n) ⟨I.1.trans c.1,d⟩) (W _ _)
def ET:List c6:=bodyOf Br
theorem EU{l:List ai}{k:Int}(D:0<=k)(h1:k<l.length):(l.map T.str)[k.toNat]?=aa (.str (bK l k)):=by unfold bK;refine O eS (O (cz (iu D h1)) (O cA (O (cz (iu D h1)) ?_)));rfl
theorem XQ{l:List Stat}{k:Int}(D:0<=k)(h1:k<l.length):(l.map cB)[k.toNat]?=aa (cB (cP l k)):=by unfold cP;refine O eS (O (cz (iu D h1)) (O cA (O (cz (iu D h1)) ?_)));rfl
def w9(W:List (List Int))(b:ai->ai)(a:bG)(I:Int):bG:={a with bW:=a.bW.set I.toNat (gc (bK a.bW I)),aK:=a.aK.set I.toNat (gi a.aK I+1),book:=sy W b a I (bw W I (gi a.aK I)),held:=jZ W a I (bw W I (gi a.aK I))}
theorem ZH{L:ah}{W:List (List Int)}{ty:T}{d c I:Int}{D:qg}{a:bG}{k:Nat}{u:List ai}{Q:ek->au->Prop}(hh:A.handled=ak)(hun:A.units+1<fy)(r:iH A N.heap)(hDr:D.r.length=5)(t:fR W)(l:fh a k)(Iv:nH u a)(mo:rZ setB cC u)(hk:k<=25)(f:FS H N B s Z (bP L) (upd (upd (gY W ty d D) "step" (.int c)) "who" (.int I)) (runM D a))(b:0<=I)(V:I<5)(h4:gi a.aK I≠4)(hQ:∀s',FS H N B s' Z (bP L) (upd (upd (upd (upd (upd (gY W ty d D) "step" (.int c)) "who" (.int I)) "asked" (.int (bw W I (gi a.aK I)))) "last" (.int ((bA W (bw W I (gi a.aK I))).idxOf I))) "other" (.int (gi a.held (bw W I (gi a.aK I))))) (runM D (w9 W (nameOf setB cC) a I))->av (aA PW w) A (b9 (ET.drop 5) (bP L)) Q E s'):av (aA PW w) A (b9 ET (bP L)) Q E s:=by
 have Y:=l.aK.el I b V;have K:=t.at b V Y.1 (jc Y.2 h4);have F:=f.view (x:="came") (i:=1) (by rfl) rfl;refine nS (FS.cond f (b:=gi a.aK I==4) ?_ ?_ ?_);.exact TV.cmp (EV.gi (EV.name F) (EV.name F) b (by exact O l.aK.len V) (by refine O l.aK.len ?_;decide)) EV.int aY.eq
 .intro R;exact absurd (eq_of_beq R) h4
 intro _ s₁ f;refine iA ?_;show av _ _ (b9 _ _) _ _ _;have F:=f.view (x:="came") (i:=1) (by rfl) rfl;have C:=f.view (x:="mails") (i:=2) (by rfl) rfl;have kS:=f.ks.kp;have h:(gi a.aK I).toNat<4:=o6 (jc Y.2 h4);have hm:=Iv I b V;have S:=mo.s2 I _ b V h;have j:=mo.s1 I _ b V h;rw[<-hm]at j S;refine eK r.fq λoq fdq hoq hdq=>?_;refine@bY _ _ _ _ _ _ _ (FS.xfM (xa:="asked") (xb:="mails") (xc:="came") (nb:=2) (nc:=1) (kb:=I) (kc:=I) (Db:=D.m) (Dc:=D.c) (lb:=a.bW.map .str) (lc:=a.aK.map .int) (ta:=.int (bw W I (gi a.aK I))) (tb:=.str (gc (bK a.bW I))) (tc:=.int (gi a.aK I+1)) (X1:=[]) (X2:=[]) f hh ?_ (.inl (by kernel_rfl)) (aQ ..) (by rfl) (by rfl) rfl rfl (λs' f'=>?_) (λs' f'=>?_) b (by exact O (aI ..) (O l.bW V)) (by refine O (aI ..) (O l.bW ?_);decide) b (by exact O (aI ..) (O l.aK.len V)) (by refine O (aI ..) (O l.aK.len ?_);decide) (by intro _ _ _ q;cases q) (by intro _ _ _ q;cases q) (by kernel_rfl) (by kernel_rfl) ?_ λs₂ f=>⟨rfl,?_⟩)
 .refine EL.cons ?_ (EL.cons ?_ (EL.cons ?_ EL.nil));.exact(EV.bw (X:=aM (bP L)) t (EV.name F) (EV.name F) (EV.gi (EV.name F) (EV.name F) b (by exact O l.aK.len V) (by refine O l.aK.len ?_;decide)) b V Y.1 (jc Y.2 h4)).flat rfl
  .exact(EV.uB (X:=[]) (EV.glob (X:=Z++H) f.cx (by exact UH)|>.flat rfl) (kS _ _ hoq) hdq (EL.cons ((EV.sub (X:=aM (bP L)) (EV.name C) (EV.name C) (cU.list b (eF V) (EU b (by exact O l.bW V)))).flat rfl) EL.nil) (r.quote _ kS _ S j)).flat rfl
  .exact(EV.bin (X:=aM (bP L)) (EV.gi (EV.name F) (EV.name F) b (by exact O l.aK.len V) (by refine O l.aK.len ?_;decide)) EV.int bE.add).flat rfl
 .exact(EV.name f'.cx).flat rfl
 .exact(EV.name f'.cx).flat rfl
 .exact bI _ (f.acc _ (eO (i:=2) rfl)).1
 have i:=t.row _ K.1 K.2.1;have X:I∈bA W (bw W I (gi a.aK I)):=t.all _ K.1 K.2.1 I b V λq=>K.2.2 q.symm;generalize v:bw W I (gi a.aK I)=g at K i X f hQ⊢;have eM:((runM D a).set 2 (D.m,.list ((a.bW.map .str).set I.toNat (.str (gc (bK a.bW I)))))).set 1 (D.c,.list ((a.aK.map .int).set I.toNat (.int (gi a.aK I+1))))=runM D {a with bW:=a.bW.set I.toNat (gc (bK a.bW I)),aK:=a.aK.set I.toNat (gi a.aK I+1)}:=by unfold runM bZ LI;simp only[vX];rfl
 have f:=f.conv eM;have hv:=f.view (x:="held") (i:=0) (by rfl) rfl;have kS:=f.ks.kp;refine@bY _ _ _ _ _ _ _ (FS.Em (X₀:=H) (s₀:=N) (sb:=B) (γ:=upd (upd (upd (gY W ty d D) "step" (.int c)) "who" (.int I)) "asked" (.int g)) ["other","last"] hh (FS.FD (t:=.int (gi a.held g)) f ?_ λv1 s₃ f r1=>FS.FD (t:=.int ((bA W g).idxOf I)) f ?_ λv2 s₄ f r2=>FS.yN ?_) (λx m=>?_) (by rfl) (by rfl));.exact(EV.gi (X:=aM (bP L)) (EV.name hv) (EV.name hv) K.1 (by exact O l.held K.2.1) (by refine O l.held ?_;decide)).flat rfl
 .exact EV.pQ (EV.bA t (EV.name f.cx) (EV.name f.cx) K.1 K.2.1) (EV.name f.cx) X (by refine O i ?_;decide)
 .refine aE r1.cM λt1 z=>?_;subst z;refine⟨Z,runM D _,[.int (gi a.held g),.int ((bA W g).idxOf I)],f,⟨.fO _ _,r2,trivial⟩,rfl,by simp,λs₅ f=>⟨rfl,?_⟩⟩;have hv:=f.view (x:="held") (i:=0) (by rfl) rfl;have F:=f.view (x:="came") (i:=1) (by rfl) rfl;have C:=f.view (x:="mails") (i:=2) (by rfl) rfl;have kS:=f.ks.kp;have p:gi (a.aK.set I.toNat (gi a.aK I+1)) I=gi a.aK I+1:=by exact O (rY b b (by rw[l.aK.len];exact V)) (O (if_pos rfl) rfl)
  have hgm:bK (a.bW.set I.toNat (gc (bK a.bW I))) I=gc (bK a.bW I):=by exact O (MG b b (by rw[l.bW];exact V)) (O (if_pos rfl) rfl)
  have zn:=mo.nz I _ b V h;have zw:=mo.nw I _ b V h;have hit:g6 ((gi a.aK I).toNat+1) (bK u I)=gc (bK a.bW I):=by refine O hm ?_;rfl
  rw[hit]at zn zw;refine eK r.fu λou fdu hou hdu=>?_;refine eK r.fn λon fdn hon hdn=>?_;refine@bY _ _ _ _ _ _ _ (FS.setItem (i:=5) (l:=a.book.map cB) (k:=g) (t:=cB (j5 (cP a.book g) ⟨if gi a.held g<0 then 1 else 0,1,gi a.aK I+1,(bA W g).idxOf I,[(nameOf setB cC (gc (bK a.bW I)),gi a.aK I+1)]⟩)) (X1:=[]) f (by rfl) rfl ?_ ((EV.name f.cx).flat rfl) K.1 (by exact O (aI ..) (O l.book K.2.1)) (by refine O (aI ..) (O l.book ?_);decide) λs₆ f=>⟨rfl,?_⟩)
  .refine EV.uB (X:=Z++H) (EV.glob f.cx (by exact SS)) (kS _ _ hou) hdu (EL.cons (t:=cB (cP a.book g)) ?_ (EL.cons (t:=cB ⟨if gi a.held g<0 then 1 else 0,1,gi a.aK I+1,(bA W g).idxOf I,[(nameOf setB cC (gc (bK a.bW I)),gi a.aK I+1)]⟩) ?_ EL.nil)) (r.stats _ _ kS f.cx.live f.cx.ok.eN f.cx.ok.blt _ _ ?_ ?_);.exact f.getItem (i:=5) (X1:=[]) (by rfl) rfl ((EV.name f.cx).flat rfl) K.1 (eF K.2.1) (XQ K.1 (by exact O l.book K.2.1))
   .refine EV.tup f.cx.live (EL.cons (t:=.int (if gi a.held g<0 then 1 else 0)) ?_ (EL.cons EV.int (EL.cons (t:=.int (gi a.aK I+1)) ?_ (EL.cons (EV.name f.cx) (EL.cons (t:=DS [(nameOf setB cC (gc (bK a.bW I)),.int (gi a.aK I+1))]) (EF.ev (EF.xcW f.cx.live (r.sm.imp λo e=>kS _ _ e) ?_ ?_ (by rfl))) EL.nil))))) (by simp)
    .refine EV.ite (b:=decide (gi a.held g<0)) (TV.cmp (EV.name f.cx) EV.int aY.lt) (λR=>?_) λR=>?_;.exact O (if_pos (of_decide_eq_true R)) EV.int
     .exact O (if_neg (of_decide_eq_false R)) EV.int
    .exact aR p ((EV.gi (X:=aM (bP L)) (EV.name F) (EV.name F) b (by rw[jL,l.aK.len];exact V) (by rw[jL,l.aK.len];decide)).flat rfl)
    .refine(EV.uB (X:=[]) (EV.glob (X:=Z++H) f.cx (by exact Vo)|>.flat rfl) (kS _ _ hon) hdn (EL.cons (t:=.str (gc (bK a.bW I))) ?_ EL.nil) (r.name _ kS _ zn zw)).flat rfl;exact aR hgm ((EV.sub (X:=aM (bP L)) (EV.name C) (EV.name C) (cU.list b (eF V) (EU b (by rw[jL,l.bW];exact V)))).flat rfl)
    .exact aR p ((EV.gi (X:=aM (bP L)) (EV.name F) (EV.name F) b (by rw[jL,l.aK.len];exact V) (by rw[jL,l.aK.len];decide)).flat rfl)
   .have:cP a.book g∈a.book:=by unfold cP;exact O cA (O (cz (by rw[l.book];exact iu K.1 K.2.1)) (nQ _))
    have:=l.uG _ this;exact bf (bf this hk) (gQ _ _)
   .simp
  have eM:(runM D {a with bW:=a.bW.set I.toNat (gc (bK a.bW I)),aK:=a.aK.set I.toNat (gi a.aK I+1)}).set 5 (D.b,.list ((a.book.map cB).set g.toNat (cB (j5 (cP a.book g) ⟨if gi a.held g<0 then 1 else 0,1,gi a.aK I+1,(bA W g).idxOf I,[(nameOf setB cC (gc (bK a.bW I)),gi a.aK I+1)]⟩))))=runM D {a with bW:=a.bW.set I.toNat (gc (bK a.bW I)),aK:=a.aK.set I.toNat (gi a.aK I+1),book:=sy W (nameOf setB cC) a I g}:=by unfold runM sy;simp only[vX];rfl
  have f:=f.conv eM;have U:=l.pY g K.1 K.2.1;refine nS (FS.cond f (b:=decide (gi a.held g<0)||(decide (((bA W g).idxOf I:Int)<(bA W g).idxOf (gi a.held g))||ay)) (TV.ry (AT.or (TV.cmp (EV.name f.cx) EV.int aY.lt) λR=>AT.or (TV.cmp (EV.name f.cx) (EV.pQ (EV.bA t (EV.name f.cx) (EV.name f.cx) K.1 K.2.1) (EV.name f.cx) (t.all _ K.1 K.2.1 _ (fD.mp (of_decide_eq_false R)) U.2.1 U.2.2) (by refine O i ?_;decide)) aY.lt) λ_=>AT.Bj)) ?_ ?_)
  .intro R n f;have y:gi a.held g<0\/((bA W g).idxOf I:Int)<(bA W g).idxOf (gi a.held g):=by simpa using R
   refine dj (FS.setItem (i:=0) (l:=a.held.map .int) (k:=g) (t:=.int I) (X1:=[]) f (by rfl) rfl (EV.name f.cx) ((EV.name f.cx).flat rfl) K.1 (by exact O (aI ..) (O l.held K.2.1)) (by refine O (aI ..) (O l.held ?_);decide) λJ f=>?_);refine hQ J (f.conv ?_);unfold w9 jZ;refine O v (O (if_pos y) ?_);unfold runM LI;simp only[vX];rfl
  .intro R n f;have y:¬(gi a.held g<0\/((bA W g).idxOf I:Int)<(bA W g).idxOf (gi a.held g)):=by simpa using R
   refine iA (hQ n (f.conv ?_));unfold w9 jZ;exact O v (O (if_neg y) rfl)
 .simp only[bB,cg,or_false]at m;rcases m with rfl|rfl<;>exact⟨.inl (by kernel_rfl),aQ ..⟩
end
section
variable{A:aG}{H:List ah}{N B s:au}{Z:List ah}{E:aj->au->Prop}
def XR:List ExceptHandler:=(kS Br).2.2.1
theorem xbs:∀l:Nat,l<5->gJ.idxOf (bC l)=l/\bC l∈gJ:=dk
theorem ZI(D:0<=l)(h1:l<5):(gJ.idxOf (bC l):Int)=l/\bC l∈gJ:=by have t:=xbs l.toNat (o6 h1);have e:=l9 D;rw[e]at t;exact⟨(congrArg (λx:Nat=>(x:Int)) t.1).trans e,t.2⟩
theorem Lx{k:Int}(D:0<=k)(h1:k<5):(gJ.map T.str)[k.toNat]?=aa (.str (bC k)):=EU (l:=gJ) D h1
theorem EV.xbt{b:List ah}{j k:Int}(K:EV A G X a v (uH b))(F:EV A G X a i (.int j))(Y:j=k)(D:0<=k)(h1:k<b.length)(I:b.length<=1000)(T:b.getD k.toNat 0=R)(W:autoParam (jR i) yAW):EV A G X a (.Subscript v i c) (.aJ (.ref R)):=by subst Y;subst T;exact EV.jD K F D h1 I W
theorem EV.xdr(K:EV A G X a v (bZ gJ))(F:EV A G X a i (.int j))(Y:j=k)(D:0<=k)(h1:k<5)(W:autoParam (jR i) yAW):EV A G X a (.Subscript v i b) (.str (bC k)):=by subst Y;exact EV.sub K F (cU.list D (eF h1) (Lx D h1) W)
theorem EV.Qx{m R:aS}(g:EV A G X a o (bZ gJ))(L:EV A G X a e (.str x))(h:x∈gJ)(b:(gJ.idxOf x:Int)=k)(P:autoParam (kG o "index" G (aU o G)=aU o G) yAR)(W:autoParam (bq [e] G=[(ay,aU e G)]) yAR)(u:autoParam ((m.endLine==R.line)=af) yAR):EV A G X a (.Call (.Attribute o "index" m) [e] [] R) (.int k):=by subst b;exact EV.yO g L h (by decide) P W u
def uo(M:bG)(n g l:Int):bG:=if n<0 then M else{M with free:=M.free++[l],refused:=M.refused.set l.toNat (fJ (M.refused.getD l.toNat []) (bC g) (je g))}
theorem XS{L:ah}{W:List (List Int)}{ty:T}{r step I g last n:Int}{D:qg}{st:bG}{k:Nat}{i:List aO}{Q:ek->au->Prop}(hh:A.handled=ak)(hfr:A.frames=aa (bP L::i))(hun:A.units+1<fy)(rf:iH A N.heap)(C:D.r.length=5)(hk:k<=25)(hf5:st.free.length<=5)(V:st.refused.length=5)(hrE:∀d∈st.refused,d.length<=k)(hheld:st.held.length=5)(a0:0<=g)(a1:g<5)(l0:¬n<0->0<=I+n-gi st.held g/\I+n-gi st.held g<5)(f:FS H N B s Z (bP L) (upd (upd (upd (upd (upd (gY W ty r D) "step" (.int step)) "who" (.int I)) "asked" (.int g)) "last" (.int last)) "other" (.int n)) (runM D st))(fo:FO s.heap i)(hS:∀a∈i.filterMap (·.frame),a∈H/\a∉Z/\N.heap.get? a=ak/\B.heap.get? a=ak)(hQ:∀s',FS H N B s' Z (bP L) (gY W ty r D) (runM D (uo st n g (I+n-gi st.held g)))->dG (i.filterMap (·.frame)) s.heap s'.heap->Q .next s'):av (aA PW w) A (b9 (ET.drop 5) (bP L)) λfl U=>match fl with|.next=>av (aA PW w) A (b9 [] (bP L)) Q E U|fl=>Q fl U
 (λe U=>av (aA PW w) A (yH e (bP L)) (λ_ J=>av (aA PW w) A (F8 e ak) (λ_ s₃=>av (aA PW w) A (GY e (bP L) XR) Q E s₃) E J) E U) s:=by
 have Iw:L∈aM (bP L):=aQ ..;have less:∀{s':au}{M':List (ah×T)}{γ':Gm},FS H N B s' Z (bP L) γ' M'->(∀x t,gY W ty r D x=aa t->x≠"no"->x≠"step"->x≠"who"->x≠"asked"->x≠"last"->x≠"other"->γ' x=aa t)->FS H N B s' Z (bP L) (gY W ty r D) M':=λf' hx=>f'.less λx t e=>hx x t e (λq=>gone (q▸e) rfl) (λq=>gone (q▸e) rfl) (λq=>gone (q▸e) rfl) (λq=>gone (q▸e) rfl) (λq=>gone (q▸e) rfl) λq=>gone (q▸e) rfl;refine nS (FS.GJ f (b:=decide (0<=n)) (TV.cmp (EV.name f.cx) EV.int aY.ge) ?_ ?_)
 .intro R U k1 f;have R:=of_decide_eq_true R;have hl:=l0 (fD.mpr R);have eT:uo st n g (I+n-gi st.held g)={st with free:=st.free++[I+n-gi st.held g],refused:=st.refused.set (I+n-gi st.held g).toNat (fJ (st.refused.getD (I+n-gi st.held g).toNat []) (bC g) (je g))}:=by unfold uo;exact O (if_neg (fD.mpr R)) rfl
  replace hQ:=eT▸hQ;generalize xbu:I+n-gi st.held g=l at hl hQ;have kS:=f.ks.kp;have Iq:=fo.kp k1.kp;have hv:=f.view (x:="held") (i:=0) (by rfl) rfl;refine dj (x_raise (lf:=λvs=>[("sender",vs.getD 2 .none),("smtp_error",vs.getD 1 .none),("smtp_code",vs.getD 0 .none)]) (ts:=[.int (550+g),.bytes #[110,111],.str (bC l)]) f.cx (by exact CJ) (by kernel_rfl) hh (rf.xS.kp kS) (EL.cons (EV.bin EV.int (EV.name f.cx) bE.add) (EL.cons EV.bytes (EL.cons ?_ EL.nil))) (λJ vs k2 r2=>?_) λJ s' vs y k2 r2 xm=>?_);.refine EV.sub (EV.name f.cx) (EV.bin (EV.bin (EV.name f.cx) (EV.name f.cx) bE.add) ((EV.gi (X:=aM (bP L)) (EV.name hv) (EV.name hv) a0 (O hheld a1) (O hheld dk)).flat rfl) bE.sub) ?_;exact O xbu (cU.list hl.1 (eF hl.2) (Lx hl.1 hl.2))
  .refine iT (az.zf r2) λv1 v2 v3 u=>?_;subst u;exact rf.mkS J _ v1 v2 v3 (kS.trans k2.kp)
  .refine iT (az.zf r2) λv1 v2 v3 u=>?_;subst u;have r2:=iR r2.1 (iR r2.2.1 r2.2.2.1);refine gW r2 λrv1 rv2 rv3=>?_;refine aE rv1.cM λt1 u=>?_;subst u;obtain⟨t2,rfl⟩:∃t,v2=.bytes #[110,111] t:=rv2;refine aE rv3.eV λt3 u=>?_;subst u;have xm:oS J s' y 139 [("sender",.str (bC l) t3),("smtp_error",.bytes #[110,111] t2),("smtp_code",.int (550+g) t1)]:=xm;refine Lu (L:=L) f k2 xm hfr rfl rfl Iq hS (λm=>?_) λs₄ Z' hZ Ir f4 er v kL sL=>?_;.refine aH (bF.mp m) λp mp ep=>?_;have pn:p.1=L:=ep;exact(f.acc p mp).2.1 (pn▸Iw)
   .have k4:=f4.ks.kp;refine Pb f4 (by exact CJ) (by kernel_rfl) (by kernel_rfl) Iw (rf.xS.kp k4) (rf.xS.kp k4) xfT er v λM E' G S keep Pc=>?_;have k6:=G.ks.kp;have Y:l.toNat<D.r.length:=ji hl.2 C;have hri:D.r.getD l.toNat 0=D.r[l.toNat]:=by refine O cA (O (cz Y) ?_);rfl
    have j:=ZI hl.1 hl.2;have exS:fm lS "sender"=ak:=uW _ dk;have exC:fm lS "smtp_code"=ak:=uW _ dk;have exE:fm lS "smtp_error"=ak:=uW _ dk;have Qy:=G.rebase;have P:∀{X:List ah}{c:au}{γ':Gm}{M':List (ah×T)}{np ap:aS},FS H N M c Z' (bP L) γ' M'->γ' "no"=aa (.aJ (.ref y))->jy c.heap y 139 [("sender",.str (bC l) t3),("smtp_error",.bytes #[110,111] t2),("smtp_code",.int (550+g) t1)]->EV (A.mark (aa (.ref y))) (bP L) X c.heap (.Attribute (.Name "no" np) "sender" ap) (.str (bC l)):=λf7 hg Iz=>(EV.Bq (X:=Z'++H) (v:=.str (bC l) t3) (EV.name f7.cx hg) (rf.xS.kp f7.ks.kp) uW exS (by refine O (iQ ..) (O iN ?_);kernel_rfl) Iz (by rfl) rfl (.m8 _ _)).flat rfl;have K:∀{X:List ah}{np ap:aS},EV (A.mark (aa (.ref y))) (bP L) X M.heap (.Attribute (.Name "no" np) "smtp_code" ap) (.int (550+g)):=(EV.Bq (X:=Z'++H) (v:=.int (550+g) t1) (EV.name G.cx) (rf.xS.kp k6) uW exC (by refine O (iQ ..) (O iN ?_);kernel_rfl) S (by rfl) rfl (.fO _ _)).flat rfl;have xga:∀{X:List ah}{np ap:aS},EV (A.mark (aa (.ref y))) (bP L) X M.heap (.Attribute (.Name "no" np) "smtp_error" ap) (.bytes #[110,111]):=(EV.Bq (X:=Z'++H) (t:=.bytes #[110,111]) (v:=.bytes #[110,111] t2) (EV.name G.cx) (rf.xS.kp k6) uW exE (by refine O (iQ ..) (O iN ?_);kernel_rfl) S (by rfl) rfl ⟨_,rfl⟩).flat rfl;refine@bY _ _ _ _ _ _ _ (FS.ZD (i:=6+l.toNat) (D:=D.r[l.toNat]) (d:=st.refused.getD l.toNat []) (k:=bC g) (t:=je g) (X1:=Z'++H) (X2:=Z'++H) Qy (XF D (by exact O V (O C rfl)) Y) ?_ ?_ ?_ ?_ λc f7=>⟨rfl,?_⟩);.exact EV.tup G.cx.live (EL.cons K (EL.cons xga (EL.cons (EV.cQ (EV.glob G.cx (by exact Dj)) rfl (EL.cons (EV.name G.cx) (EL.cons (EV.glob G.cx (by exact SG)) EL.nil)) (CA.B4 (rf.xS.kp k6) (rf.xB.kp k6) xfY xfU S)) EL.nil))) (by simp)
    .exact EV.xbt (EV.name G.cx) (EV.yO (EV.name G.cx) (P Qy (by rfl) S) j.2 dk) j.1 hl.1 (O C hl.2) (O C dk) hri
    .exact EV.xdr (EV.name G.cx) (EV.bin K EV.int bE.sub) (O (jM 550 g) (x7 g 550)) a0 a1
    .have:st.refused.getD l.toNat []∈st.refused:=by exact O cA (O (cz (ji hl.2 V)) (nQ _))
     exact cD (bf (hrE _ this) hk)
    .have eM1:=UL D (st:=st) (i:=l.toNat) (d:=fJ (st.refused.getD l.toNat []) (bC g) (je g)) (by exact O V (O C rfl)) Y;have f7:=f7.conv eM1;have IA:∀{st':bG},st'.refused.length=5->(runM D st').map (·.1)=(runM D st).map (·.1):=λh=>by exact O (rT D (by rw[h,C])) (O (rT D (by rw[V,C])) rfl)
     have F:(st.refused.set l.toNat (fJ (st.refused.getD l.toNat []) (bC g) (je g))).length=5:=by exact O jL V
     have Qz:∀{st':bG}b,st'.refused.length=5->b∉aM (bP L)->b∉(runM D st).map (·.1)->b∉aM (bP L)++(runM D st').map (·.1):=λb h m1 m2 m=>(bD.mp m).elim m1 (by exact O (IA h) m2);have Iz:=S.dM f7.kx.kp λb p=>Qz b F (v b (Pc b p)).2.1 (v b (Pc b p)).2.2.1;refine dj (FS.append (i:=3) (l:=st.free.map .int) (t:=.int l) f7 (by rfl) rfl ?_ (O (aI ..) (cD hf5)) λs₈ f8=>?_);.exact EV.Qx (EV.name f7.cx) (P f7 (by rfl) Iz) j.2 j.1
     .have eM2:(runM D {st with refused:=st.refused.set l.toNat (fJ (st.refused.getD l.toNat []) (bC g) (je g))}).set 3 (D.f,.list (st.free.map .int++[.int l]))=runM D {st with free:=st.free++[l],refused:=st.refused.set l.toNat (fJ (st.refused.getD l.toNat []) (bC g) (je g))}:=by unfold runM LI;simp only[fY];rfl
      have f8:=f8.conv eM2;have f9:=G.BW f8 (IA F);refine Oi f9.cx (by kernel_rfl) λHt k9 c9=>?_;have Sh:bu (aM (bP L)) s₈ Ht:=k9.mono λq m=>by exact O (aX.mp m) Iw
      have Iu:=f9.re Sh c9;have f11:=Iu.Gw (Z':=Z) hZ f.own λp m=>by
       have:p.1∈(runM D st).map (·.1):=by exact aR (IA (st':={st with free:=st.free++[l],refused:=st.refused.set l.toNat (fJ (st.refused.getD l.toNat []) (bC g) (je g))}) F) (bF.mpr ⟨p,m,rfl⟩)
       refine aH (bF.mp this) λq mq eq=>?_;have eq':q.1=p.1:=eq;exact aR eq' (f.acc q mq).1
      refine hQ Ht (less f11 λx t e n1 n2 n3 n4 n5 n6=>?_) λb m o e=>?_;.show(if x="no"then ak else upd _ "no" _ x)=aa t;exact O (if_neg n1) (O (eE _ _ n1) (O (eE _ _ n6) (O (eE _ _ n5) (O (eE _ _ n4) (O (eE _ _ n3) (O (eE _ _ n2) e))))))
      .have R:=hS b m;have bo:b∉aM (bP L):=λq=>R.2.1 (f.own b q);have bM:b∉(runM D st).map (·.1):=λq=>by refine aH (bF.mp q) λp mp ep=>?_;have pn:p.1=b:=ep;exact R.2.1 (by exact aR pn (f.acc p mp).1)
       refine aE (sL b (aZ _ m) o (k1.kp _ _ e)) λsl e4=>?_;refine⟨sl,Sh.kp b _ bo (f8.kx.kp b _ (Qz b F bo bM) (keep b _ bo (λq=>?_) e4))⟩;have:=(v b q).1;refine bz (Ir b this) (λz=>?_) λz=>?_;.exact R.2.1 z
       .rw[k1.kp _ _ e]at z;cases z
 .intro R U k1 f;have R:=of_decide_eq_false R;refine iA (iA (iA ?_));have eT:uo st n g (I+n-gi st.held g)=st:=by unfold uo;exact O (if_pos (yw.mp R)) rfl
  replace hQ:=eT▸hQ;refine hQ U (less f λx t e n1 n2 n3 n4 n5 n6=>?_) (dG.of (k1.kp.bN []) λb m=>cg);exact O (eE _ _ n6) (O (eE _ _ n5) (O (eE _ _ n4) (O (eE _ _ n3) (O (eE _ _ n2) e))))
end
theorem FO.Bs{i:List aO}(f:FO h i)(z:dG (i.filterMap (·.frame)) h h'):FO h' i:=λen m=>by obtain⟨k,L,H,e,o,D,t,q,r⟩:=f en m;refine aE (z L (W7.mpr ⟨en,m,e⟩) o q) λJ U=>?_;exact⟨k,L,H,e,_,D,t,U,r⟩
section
variable{A:aG}{H:List ah}{N B s:au}{Z:List ah}{E:aj->au->Prop}
theorem TN{W:List (List Int)}{nf:ai->ai}{a c:Int}{M:bG}(h:M.free≠[])(Y:gi M.aK (iF a M c)=4):gp W nf a M c={M with free:=M.free.eraseIdx (iE a M c).toNat,alone:=M.alone++[iF a M c]}:=by unfold gp;refine O (if_neg h) ?_;simp only;exact O (if_pos Y) rfl
theorem US{W:List (List Int)}{nf:ai->ai}{a c:Int}{M:bG}(h:M.free≠[])(Y:gi M.aK (iF a M c)≠4):gp W nf a M c=uo (w9 W nf {M with free:=M.free.eraseIdx (iE a M c).toNat} (iF a M c)) (gi M.held (bw W (iF a M c) (gi M.aK (iF a M c)))) (bw W (iF a M c) (gi M.aK (iF a M c))) (qW W M (iF a M c) (bw W (iF a M c) (gi M.aK (iF a M c)))):=by unfold gp uo;refine O (if_neg h) ?_;simp only;refine O (if_neg Y) ?_;rfl
theorem XT{L:ah}{W:List (List Int)}{V:T}{c d:Int}{D:qg}{M:bG}{k:Nat}{u:List ai}{i:List aO}{Q:ek->au->Prop}(hh:A.handled=ak)(hfr:A.frames=aa (bP L::i))(n:A.units+1<fy)(rf:iH A N.heap)(C:D.r.length=5)(wo:fR W)(l:fh M k)(Iv:nH u M)(mo:rZ setB cC u)(hk:k<=25)(hs0:0<=d)(f:FS H N s s Z (bP L) (upd (gY W V c D) "step" (.int d)) (runM D M))(fo:FO s.heap i)(hS:∀a∈i.filterMap (·.frame),a∈H/\a∉Z/\N.heap.get? a=ak)(hB:M.free=[]->∀J,FS H N J J Z (bP L) (upd (gY W V c D) "step" (.int d)) (runM D M)->dG (i.filterMap (·.frame)) s.heap J.heap->Q .brk J)(hQ:∀J,FS H N J J Z (bP L) (gY W V c D) (runM D (gp W (nameOf setB cC) c M d))->bg (aM (bP L)++(runM D M).map (·.1)++i.filterMap (·.frame)) s.heap J.heap->dG (i.filterMap (·.frame)) s.heap J.heap->Q .next J):av (aA PW w) A (b9 FL (bP L)) Q E s:=by
 have K:=f.view (x:="free") (i:=3) (by rfl) rfl;have z:∀b∈i.filterMap (·.frame),b∉aM (bP L)/\b∉(runM D M).map (·.1):=λb m=>by have R:=hS b m;refine⟨λq=>R.2.1 (f.own b q),λq=>?_⟩;refine aH (bF.mp q) λp mp ep=>?_;have pn:p.1=b:=ep;exact R.2.1 (by exact aR pn (f.acc p mp).1)
 refine nS (FS.GJ f (b:=(M.free.map T.int).isEmpty) (TV.cmp (EV.name K) (EV.list K.live EL.nil) (aY.O2 n)) ?_ ?_)
 .intro R U k1 f1;have R:M.free=[]:=by simpa using R
  exact dj (wpAny_Break (hB R U f1.rebase (dG.of (k1.kp.bN []) λb m=>cg)))
 intro R U k1 f1;have R:M.free≠[]:=by simpa using R
 refine iA ?_;have pk:=yC (turn:=c) (step:=d) R;have g:=FI (turn:=c) (step:=d) l R;have K:=f1.view (x:="free") (i:=3) (by rfl) rfl;refine@bY _ _ _ _ _ _ _ (FS.setPop (x:="who") (y:="free") (i:=3) (l:=M.free) (k:=iE c M d) (X1:=aM (bP L)) f1.rebase (.inl (by kernel_rfl)) (aQ ..) (by rfl) rfl ?_ pk.1 pk.2 (by have:=l.free;exact cD this) λJ v=>⟨rfl,?_⟩)
 .have hlen:0<(M.free.length:Int):=by have:=Jy.mpr R;exact gR.mpr this
  exact EV.bin (EV.bin (EV.name K) (EV.name K) (bE.shr hs0)) (EV.cQ (EV.glob K (by exact GF)) rfl (EL.cons (EV.name K) EL.nil) (by have:=CA.zg (A:=A) (X:=aM (bP L)) (h₀:=U.heap) (l:=M.free.map T.int) (by refine O (aI ..) ?_;have:=l.free;exact cD this);rw[aI]at this;exact this)) (bE.uE hlen)
 have eM:(runM D M).set 3 (D.f,LI (M.free.eraseIdx (iE c M d).toNat))=runM D {M with free:=M.free.eraseIdx (iE c M d).toNat}:=rfl;have v:FS H N U J Z (bP L) (upd (upd (gY W V c D) "step" (.int d)) "who" (.int (iF c M d))) (runM D {M with free:=M.free.eraseIdx (iE c M d).toNat}):=v.conv eM;have P:∀{st':bG},st'.refused.length=5->(runM D st').map (·.1)=(runM D M).map (·.1):=λh=>by exact O (rT D (by rw[h,C])) (O (rT D (by rw[l.ref,C])) rfl)
 have f2:=((f.xdq (i.filterMap (·.frame))).step k1).BW v (P (st':={M with free:=M.free.eraseIdx (iE c M d).toNat}) l.ref);have off:∀{st':bG}b,st'.refused.length=5->b∈i.filterMap (·.frame)->b∉aM (bP L)++(runM D st').map (·.1):=λb h m q=>(bD.mp q).elim (z b m).1 (by exact O (P h) (z b m).2);have t:dG (i.filterMap (·.frame)) s.heap U.heap:=dG.of (k1.kp.bN []) λb m=>cg;have y:dG (i.filterMap (·.frame)) U.heap J.heap:=dG.of v.kx.kp λb m=>off (st':={M with free:=M.free.eraseIdx (iE c M d).toNat}) b l.ref m;have hfe:(M.free.eraseIdx (iE c M d).toNat).length+1=M.free.length:=by exact O VW (O (if_pos (iu pk.1 pk.2)) (qt (HJ (iu pk.1 pk.2))))
 have o:fh {M with free:=M.free.eraseIdx (iE c M d).toNat} k:=⟨l.held,l.pY,l.aK,l.bW,by have:=l.free;show(M.free.eraseIdx _).length<=5;exact bf (dN _) (jv hfe this),λx m=>l.y9 x (Us m),l.alone,l.ref,l.sR,l.book,l.uG⟩;have X:∀b∈i.filterMap (·.frame),b∈H/\b∉Z/\N.heap.get? b=ak/\({s with heap:=kQ s.heap (i.filterMap (·.frame))}:au).heap.get? b=ak:=λb m=>⟨(hS b m).1,(hS b m).2.1,(hS b m).2.2,vZ _ m⟩;have hne:M.free≠[]:=R;generalize e:iF c M d=I at g f2 v;refine dj ?_;show av _ _ (dY Br _) _ _ _;by_cases h4:gi M.aK I=4;.have S:=TN (W:=W) (nf:=nameOf setB cC) hne (by exact O e h4);rw[e]at S;refine Wk hh hfr n rf C o hk f2 g.1 g.2 h4 (fo.Bs (t.trans y)) X λj f3 r=>?_;have fM:(runM D (gp W (nameOf setB cC) c M d)).map (·.1)=(runM D M).map (·.1):=P (by exact O S l.ref);have Si:FS H N {s with heap:=kQ s.heap (i.filterMap (·.frame))} j Z (bP L) (gY W V c D) (runM D (gp W (nameOf setB cC) c M d)):=f3.conv (by exact O S rfl);refine hQ j Si.rebase ?_ ((t.trans y).trans r);have:=Ls Si;rw[fM]at this;exact this
 .have S:=US (W:=W) (nf:=nameOf setB cC) hne (by exact O e h4);rw[e]at S;have hc:=l.aK.el I g.1 g.2;have ha:=wo.at g.1 g.2 hc.1 (jc hc.2 h4);refine xdW ?_;refine ZH hh n rf C wo o Iv mo hk v.rebase g.1 g.2 h4 λj Sj=>?_;have G:(w9 W (nameOf setB cC) {M with free:=M.free.eraseIdx (iE c M d).toNat} I).refused.length=5:=l.ref;have f3:=f2.BW Sj ((P G).trans (P (st':={M with free:=M.free.eraseIdx (iE c M d).toNat}) l.ref).symm);have r:dG (i.filterMap (·.frame)) J.heap j.heap:=dG.of Sj.kx.kp λb m=>off b G m;refine XS (st:=w9 W (nameOf setB cC) {M with free:=M.free.eraseIdx (iE c M d).toNat} I) hh hfr n rf C hk o.free G l.sR (D0 o I _) ha.1 ha.2.1 (λhn=>?_) f3 (fo.Bs ((t.trans y).trans r)) X λF f4 so4=>?_;.exact Lo (W:=W) o ha.1 ha.2.1 g.1 g.2 hn
  .have fM:(runM D (gp W (nameOf setB cC) c M d)).map (·.1)=(runM D M).map (·.1):=P (Az (nf:=nameOf setB cC) (turn:=c) wo l d).ref;have Y:FS H N {s with heap:=kQ s.heap (i.filterMap (·.frame))} F Z (bP L) (gY W V c D) (runM D (gp W (nameOf setB cC) c M d)):=f4.conv (by refine O S ?_;rfl);refine hQ F Y.rebase ?_ (((t.trans y).trans r).trans so4);have:=Ls Y;rw[fM]at this;exact this
end
noncomputable def rV(B:aB)(D:ah)(n:Nat)(X:List ah)(h:aB):Prop:=∃i:List ah,i.length=n/\i.Nodup/\(∀r∈i,r∉X/\r≠D/\B.get? r=ak/\(r==eo)=ay/\h.DictOf (strKind PW w) r [])/\h.PlainList D (i.map bV).toArray
theorem rV.kp{h h':aB}(k:bg X h h')(T:∀o,h.get? D=aa o->h'.get? D=aa o)(d:rV B D n X h):rV B D n X h':=by refine fU d λi a b c p=>?_;exact⟨i,a,b,λr m=>let⟨c1,c2,x,u,Z⟩:=c r m;⟨c1,c2,x,u,DU Z λo e=>k r o c1 e⟩,p.at T⟩
theorem rV.less(y:∀a∈Y,a∈X)(d:rV B D n X h):rV B D n Y h:=by refine fU d λi a b c p=>?_;exact⟨i,a,b,λr m=>let⟨c1,c2⟩:=c r m;⟨λn=>c1 (y _ n),c2⟩,p⟩
section
variable{A:aG}{G:aO}{X:List ah}{P:Gm}{s:au}{E:aj->au->Prop}
theorem Wl{t:List T}(c:CX X s.heap G P)(Q:∃o,s.heap.get? eo=aa o)(hi:IT A G X s.heap iter (.Name x H) t)(hz:t.length<=1000)(ok:i8 j G=af)(h1:iD j x=af)(hs:autoParam (∀y,g7 iter G y=pure y) yAI):av (aA PW w) A (aU (.ListComp (.Dict [] [] dp) [⟨.Name x H,iter,[],0⟩] j z) G) (λv s'=>Ks s s'/\∃D,v=.ref D/\s.heap.get? D=ak/\rV s.heap D t.length X s'.heap) E s:=by
 show av (aA PW w) A (Eg (.ListComp (.Dict [] [] dp) [⟨.Name x H,iter,[],0⟩] j z) j G (Ox [⟨.Name x H,iter,[],0⟩] z) (uz []) (Pr [⟨.Name x H,iter,[],0⟩]) (QJ [⟨.Name x H,iter,[],0⟩] G)) _ E s;have p:t.map id=t:=xdP _;have i:(fl (λ_=>af) (λ_=>[()]) t).length=t.length:=by exact O EH (O (aI ..) rfl)
 refine Ak (PP:=[]) (AC:=λD l Y h=>rV s.heap D l.length Y h) (ok:=λl=>l.length<=1000) (as:=t) (kf:=id) (p:=λ_=>af) (g:=λ_=>[()]) (cV:=λa=>upd (dU j G P) x a) (λ_ m=>absurd m cg) (λ_ m=>absurd m cg) ⟨λk kd d=>d.kp k (kd _ (aQ ..)),λy d=>d.less y,λ{l m}h=>bf (by exact O cL (e7 ..)) h⟩ c ok .list (by exact O p hi) rfl (λ_ _ _=>DW) z8 (λh=>cF _ rfl) (λh X _ _=>⟨[],rfl,tU,λr m=>absurd m cg,⟨0,cF _ rfl⟩⟩) (λa m=>.name h1 (mZ h1)) (λa m C cs Y h M k'=>TS.nil) ?_ (by exact O i hz) (λD C s' m K hD hC hn Z I=>?_) hs
 .intro C cs V D S a ham _ l Y U E' k' Q' g hY M J I hk;have J:=J.nil;have R:=hY D (aQ ..);have L:=(S.off D (aQ ..)).2;have g:l.length<=1000:=bf (by exact O cL (e7 ..)) g;unfold pX;refine aq (aq ?_);refine O (Nd ..) ?_;refine aq (cW ?_);show av _ _ (we []) _ _ _;refine O (show we []=BH from rfl) ?_;refine Dz _ _ _ ?_;refine fU I λrs e1 e2 e3 e4=>?_;have kp:Kp U.heap (U.heap.push {cls:=.type "dict",data:=.dict #[]}):=λb o e=>bX _ e;have F:U.heap.get? U.heap.objs.size=ak:=get?_none_of_le (cR _);refine aq (Jk (hsz:=by refine O dK ?_;simp[e1];exact cD g) (e4.at λo e=>kp _ _ e) λh' p' B=>aN ?_);have kD:bg [D] (U.heap.push {cls:=.type "dict",data:=.dict #[]}) h':=qj B;have f:bg [D] U.heap h':=(kp.bN _).trans kD;have W:∃o,U.heap.get? D=aa o:=let⟨n,e⟩:=e4;⟨_,e⟩;have u:U.heap.objs.size≠D:=λq=>by refine aE W λo e=>?_;rw[<-q]at e;exact gone e F
  have N:U.heap.objs.size∉Y:=M.live.new;have up:∃o,h'.get? D=aa o:=let⟨n,e⟩:=p';⟨_,e⟩;refine hk {U with heap:=h'} ⟨f.mono (one (aQ ..)),rfl⟩ ?_ ⟨rs++[U.heap.objs.size],by simp[e1],?_,λr m=>?_,?_⟩;.exact M.dM f (λa m n=>L (aX.mp n▸m)) (one R) (M.live.dM f (one up))
  .refine nM.mpr ⟨e2,by simp,λr m r' m' q=>?_⟩;rw[aX]at m';refine qH (e3 r m) λ_ _ _ _ hd=>?_;refine oi hd λo _ _ ho _=>?_;rw[q,m']at ho;exact gone ho F
  .refine bz (bD.mp m) (λm=>?_) λm=>?_;.refine qH (e3 r m) λc1 c2 c3 c4 c5=>?_;exact⟨c1,c2,c3,c4,DU c5 λo e=>f r o (by simp[c2]) e⟩
   .rw[aX]at m;subst m;refine⟨N,u,g9 J F,beq_eq_false_iff_ne.mpr λq=>?_,?_⟩;.refine aE Q λo e=>?_;have:=J _ _ e;rw[<-q]at this;exact gone this F
    .exact DU (Dd U.heap) λo e=>kD _ o (by simp[u]) e
  .simpa using p'
 .rw[i]at I;have K:=K.nil;refine⟨m,Z,λh' B=>⟨?_,D,rfl,hD,?_⟩⟩;.have e:=K.eq;refine⟨λb o e=>(B.2 b λq=>by rw[q]at e;exact gone e hC).trans (K.kp b o e),?_⟩;dsimp only;exact O e rfl
  .exact(I.kp (λb o n e=>(B.2 b λq=>n (by exact O q (aZ _ (aQ ..)))).trans e) λo e=>(B.2 D hn).trans e).less λa m=>aZ _ (aZ _ m)
end
section
variable{A:aG}{X H:List ah}{B:aB}{G:aO}{P:Gm}{N g s S:au}{Z:List ah}{M M':List (ah×T)}{E:aj->au->Prop}
theorem EF.xds{D R F}(l:bJ X B)(h:EL A G X B R D F)(n:F.length<=100000):EF A G X B (.List D R) (.list F):=λs E k=>by show av _ _ (do fL R;uz (<-fN (cN R (bq D G)))) _ _ _;refine aq (cW (aq (aC (h s E k) (λK U x=>?_) λ_ _ e=>e)));have r:=x.2;refine tY ⟨x.1.trans (.push ..),?_,_,rfl,g9 x.1.kp (get?_none_of_le (cR _))⟩ (by refine O dK ?_;have:=r.length;exact iV n this);exact⟨_,_,rfl,((l.kp k).kp x.1.kp).new,⟨0,cF _ rfl⟩,az.kp (λb o _ e=>bX _ e) _ _ r⟩
theorem FS.perm(f:FS H N g s Z G P M)(p:M'.Perm M):FS H N g s Z G P M':=⟨f.ks,f.kx.mono λa m=>by
refine bz (bD.mp m) (λm=>?_) λm=>?_;.exact bI _ m
.exact cK _ ((p.map (·.1)).mem_iff.mpr m),f.new,f.own,f.cx,λq m=>f.acc q (p.mem_iff.mp m),(p.map (·.1)).nodup_iff.mpr f.nd⟩
theorem FS.Ly:∀(i:List ah){M:List (ah×T)},i.Nodup->(∀r∈i,r∈Z/\r∉aM G/\r∉M.map (·.1)/\(r==eo)=ay/\s.heap.DictOf (strKind PW w) r [])->FS H N g s Z G P M->FS H N g s Z G P (i.map (λr=>(r,DS []))++M)
|[],_,_,_,f=>f|r::i,M,l,h,f=>by
 have a:=FS.Ly i (mj.mp l).2 (λq m=>h q (aZ _ m)) f;refine qH (h r (aQ ..)) λh1 J R Y y=>?_;refine a.promote h1 J (λm=>?_) ⟨Y,[],by simpa using y,rfl,trivial⟩;rw[fY,bO]at m;refine bz (bD.mp m) (λm=>?_) λm=>?_;.refine aH (bF.mp m) λq j C=>?_;have e:q=r:=C;exact(mj.mp l).1 (e▸j)
 .exact R m
theorem CX.yR(c:CX X h G P)(K:P x=aa a)(r:∀v,Rep X h a v->Rep X h t v):CX X h G (upd P x t):=by
 refine⟨c.ok,c.live,c.eZ,λy u e=>?_⟩;by_cases q:y=x;.subst q;replace e:=pJ ..▸e;cases e;refine aH (c.val y _ K) λv b n=>?_;exact⟨v,r v b,n⟩
 .replace e:=eE _ _ q▸e;exact c.val y u e
theorem Wm(i:List ah):∀(a:List (List (ai×T)))(K:List aj),(∀p∈i.zip a,Rep X h (DS p.2) (.ref p.1))->i.length=a.length->az X h (i.map λr=>.aJ (.ref r)) K->az X h (a.map DS) K:=by induction i with
|nil=>intro a K _ V D;cases a with|cons=>cases V|nil=>exact D
|cons r i b=>intro a K Q V D;cases a with|nil=>cases V|cons d a=>cases K with|nil=>exact D.elim|cons v K=>exact⟨D.1.cS▸Q (r,d) (aQ ..),b a K (λp m=>Q p (aZ _ m)) (Af V) D.2⟩
end
section
variable{A:aG}{H:List ah}{N B s:au}{Z:List ah}{E:aj->au->Prop}
def yS(W:List (List Int))(u:List ai)(a:Int):Gm:=bQ (eX (d9 (aP PW 23)) G0) ["wishes","typed","names","turn"] [b7 W,bZ u,bZ gJ,.int a]
theorem Vx{u:List ai}(o:A.handled=ak)(i:u.length=5)(f:FS H N B s Z (bP L) (yS W u a) [])(X:∀(M v l b e:ah)d,FS H N B d (e::b::l::v::M::Z) (bP L) (upd (upd (upd (upd (upd (yS W u a) "held" (.aJ (.ref M))) "came" (.aJ (.ref v))) "mails" (.aJ (.ref l))) "free" (.aJ (.ref b))) "alone" (.aJ (.ref e))) [(e,.list []),(b,LI [0,1,2,3,4]),(l,bZ u),(v,LI [0,0,0,0,0]),(M,LI [-1,-1,-1,-1,-1])]->av (aA PW w) A (b9 ((bodyOf (aP PW 23)).drop 1) (bP L)) Q E d):av (aA PW w) A (b9 (bodyOf (aP PW 23)) (bP L)) Q E s:=by
 refine@bY _ _ _ _ _ _ _ (FS.DY (X₀:=H) (s₀:=N) (sb:=B) (γ:=yS W u a) ["held","came","mails","free","alone"] (ps:=[_,_,_,_,_]) o ?_ λx m=>?_);.refine FS.wO (t:=LI [-1,-1,-1,-1,-1]) f ((EF.rU f.cx.live (EV.list f.cx.live (EL.cons (EV.neg EV.int) EL.nil)) EV.int dk dk).em λt m=>by refine O (vD m) ?_;rfl) λM U c=>?_;refine FS.wO (t:=LI [0,0,0,0,0]) c ((EF.rU c.cx.live (EV.list c.cx.live (EL.cons EV.int EL.nil)) EV.int dk dk).em λt m=>by refine O (vD m) ?_;rfl) λv J n=>?_;refine FS.wO (t:=bZ u) n ((EF.cQ (EV.glob n.cx (by exact N7)) rfl (EL.cons (EV.name n.cx) EL.nil) (CF.list n.cx.live (by refine O (aI ..) (O i ?_);decide))).em λt m=>by refine aH (bF.mp m) λx _ q=>?_;subst q;rfl) λl j y=>?_;refine FS.wO (t:=LI [0,1,2,3,4]) y ((EF.xds y.cx.live (EL.cons EV.int (EL.cons EV.int (EL.cons EV.int (EL.cons EV.int (EL.cons EV.int EL.nil))))) dk).em (Ay (l:=[0,1,2,3,4]))) λb g Y=>?_;refine FS.wO (t:=.list []) Y EM.nil λe h I=>FS.yN ?_;refine⟨_,_,[.aJ (.ref M),.aJ (.ref v),.aJ (.ref l),.aJ (.ref b),.aJ (.ref e)],I,⟨.ie _,.ie _,.ie _,.ie _,.ie _,trivial⟩,rfl,by simp,λG k=>⟨rfl,?_⟩⟩;exact X M v l b e G k
 .simp only[bB,cg,or_false]at m;rcases m with rfl|rfl|rfl|rfl|rfl<;>exact⟨.inl (by kernel_rfl),aQ ..⟩
end
section
variable{A:aG}{H:List ah}{N B s:au}{Z:List ah}{E:aj->au->Prop}
theorem EV.HA(x:EM A G X a e t)(l:bJ X a):EV A G X a e t:=(x.ef l).ev
theorem Vy(hh:A.handled=ak)(rg:g "range"=aa (.aJ (.type "range")))(F:∃o,s.heap.get? eo=aa o)(f:FS H N B s Z (bP L) g M)(hQ:∀(b G:ah)(i:List ah)s',i.length=5->b∉G::(i++Z)++H->FS H N B s' (G::(i++Z)) (bP L) (upd (upd g "book" (.aJ (.ref G))) "refused" (uH i)) ((G,.list ((eH 5 (⟨0,0,0,0,[]⟩:Stat)).map cB))::(i.map (λr=>(r,DS []))++M))->av (aA PW w) A (b9 ((bodyOf (aP PW 23)).drop 2) (bP L)) Q E s'):av (aA PW w) A (b9 ((bodyOf (aP PW 23)).drop 1) (bP L)) Q E s:=by
 have j:∀{X:List ah}{d:aB}{wp:aS}{c:CX X d (bP L) g}{np p1 p2:aS}{k:Nat},IT A (bP L) X d (.Call (.Name "range" np) [.Constant (.int 5) k p1] [] p2) (.Name "who" wp) (((gj 5).map lF).map .int):=λ{X d wp c np p1 p2 k}=>IT.cQ (EV.glob c rg) rfl (EL.cons EV.int EL.nil) (IC.oB (n:=5) hh rfl c.live dk);refine@bY _ _ _ _ _ _ _ (FS.Em (X₀:=H) (s₀:=N) (sb:=B) (γ:=g) ["refused","book"] hh ?_ (λx m=>?_) (by rfl) (by rfl))
 .refine FS.FH f (λE=>Wl f.cx F (j (c:=f.cx)) dk (by kernel_rfl) (by kernel_rfl)) λv U f1 k1 h1=>?_;obtain⟨b,rfl,J,i,P,hnd,D,u⟩:=h1;have P:i.length=5:=by refine O P ?_;rfl
  have fw:FS H N B U (i++Z) (bP L) g M:=f.A6 k1 (λr m=>(D r m).2.2.1) λr m=>by refine oi (D r m).2.2.2.2 λo _ _ ho _=>?_;exact⟨o,ho⟩
  have I:∀r∈i,∀o,s.heap.get? r≠aa o:=λr m o q=>by exact gone q (D r m).2.2.1
  have W:=FS.Ly i hnd (λr m=>⟨bI _ m,λq=>by refine aE (f.cx.live r (bI _ (f.own r q))) λo e=>?_;exact I r m o e,λq=>by refine aH (bF.mp q) λp mp ep=>?_;refine aE (f.acc p mp).2.2.up λo e=>?_;have pn:p.1=r:=ep;rw[pn]at e;exact I r m o e,(D r m).2.2.2.1,(D r m).2.2.2.2⟩) fw;refine FS.FH W (Φ:=λv s'=>∃a,v=.ref a/\U.heap.get? a=ak/\fz (a::(i++Z++H)) a s'.heap (.list ((eH 5 (⟨0,0,0,0,[]⟩:Stat)).map cB))) (λE=>?_) λv V f2 k2 h2=>FS.yN ?_;.have S:∃o,U.heap.get? eo=aa o:=F.imp λo e=>k1.kp _ _ e;have eT:T.list ((((gj 5).map lF).filter λ_=>af).map λ_=>cB ⟨0,0,0,0,[]⟩)=.list ((eH 5 (⟨0,0,0,0,[]⟩:Stat)).map cB):=rfl;exact aR eT (CU.em (CU.l1 (kf:=.int) (as:=(gj 5).map lF) (p:=λ_=>af) (f:=λ_=>cB ⟨0,0,0,0,[]⟩) W.cx (j (c:=W.cx)) (λx m C cs Y h c k=>TS.nil) (λx m _ C cs Y h c hY k=>EV.tup c.live (EL.cons EV.int (EL.cons EV.int (EL.cons EV.int (EL.cons EV.int (EL.cons (EV.HA (EM.A7 (S.imp λo e=>k _ _ e)) c.live) EL.nil))))) (by simp)) dk) U E λ_ _ e=>e)
  .refine dm h2 λG z t ac=>?_;try clear h2;subst z
   have f3:=W.BU k2 t ac;have y:∃o,U.heap.get? b=aa o:=by refine aE u λn e=>?_;exact⟨_,e⟩
   have R:b∉G::(i++Z)++H:=λq=>by
    refine aE y λo e=>?_;have q:b=G\/(b∈i\/b∈Z)\/b∈H:=by simpa[or_assoc]using q
    rcases q with q|(q|q)|q;.rw[q]at e;exact gone e t
    .exact(D b q).2.1 rfl
    .refine aE (f.cx.live b (bI _ q)) λo' e'=>?_;exact gone e' J
    .refine aE (f.cx.live b (cK _ q)) λo' e'=>?_;exact gone e' J
   refine⟨_,_,[uH i,.aJ (.ref G)],f3,?_,rfl,by simp,λK f4=>⟨rfl,hQ b G i K P R f4⟩⟩;refine⟨?_,.ie _,trivial⟩;unfold uH;refine⟨b,_,rfl,R,u.at λo e=>k2.kp _ _ e,?_⟩;have:∀l:List ah,az (G::(i++Z)++H) V.heap (l.map λr=>T.aJ (.ref r)) (l.map bV):=λl=>by induction l with|nil=>trivial|cons r l ih=>exact⟨.ie _,ih⟩
   exact this i
 .simp only[bB,cg,or_false]at m;rcases m with rfl|rfl<;>exact⟨.inl (by kernel_rfl),aQ ..⟩
end
section
variable{A:aG}{H:List ah}{N B s:au}{Z:List ah}{E:aj->au->Prop}
def nG(M:bG):T:=.tup [LI M.held,bZ M.bW,.list (M.alone.map lu),.list (M.refused.map DS),.list (M.book.map cB)]
theorem ZJ{D:qg}{M:bG}(C:D.r.length=5)(z:M.refused.length=5)(f:FS H N B s Z (bP L) (gY W J l D) (runM D M))(I:∀b∈H,b∉Z)(P:bJ H s.heap)(X:∀v k,Ks s k->Rep H k.heap (nG M) v->Q (.ret v) k):av (aA PW w) A (b9 ((bodyOf (aP PW 23)).drop 3) (bP L)) Q E s:=by
 have a:∀b∈aM (bP L)++H,b∈Z++H:=λb m=>(bD.mp m).elim (λm=>bI _ (f.own b m)) λm=>cK _ m;have o:=f.cx.narrow (Y:=aM (bP L)++H) a (λb m=>bI _ m) λb m=>f.cx.live b (a b m);have g:∀{i:Nat}{d:ah}{t:T},(runM D M)[i]?=aa (d,t)->∀v,Rep (aM (bP L)++H) s.heap (.aJ (.ref d)) v->Rep (aM (bP L)++H) s.heap t v:=λ{i d t}F v h=>by obtain rfl:=h.cS;have j:=f.acc _ (eO F);exact(j.2.2.less a).rep λm=>(bD.mp m).elim j.2.1 λm=>I _ m j.1
 have c1:=o.yR (x:="held") (t:=LI M.held) (by rfl) (g (i:=0) rfl);have c2:=c1.yR (x:="mails") (t:=bZ M.bW) (by rfl) (g (i:=2) rfl);have x:=c2.yR (x:="alone") (t:=.list (M.alone.map lu)) (by rfl) (g (i:=4) rfl);have u:=x.yR (x:="book") (t:=.list (M.book.map cB)) (by rfl) (g (i:=5) rfl);have c:=u.yR (x:="refused") (t:=.list (M.refused.map DS)) (by rfl) λv h=>by unfold uH at h;refine cI h λd xs e n p r=>?_;refine⟨d,xs,e,n,p,Wm D.r M.refused _ (λq m=>?_) (by exact O C (O z rfl)) r⟩;obtain⟨i,F,G⟩:=Js.mp m;refine g (i:=6+i) (d:=q.1) (t:=DS q.2) ?_ _ (.ie _);unfold runM;refine O (T7 (by simp)) (O eS ?_);simp only[fC,qx];refine O (show 6+i-(0+1+1+1+1+1+1)=i from pD ..) (O (cz F) (O G ?_));rfl
 refine dj (Dw (aC ((EV.less (Y:=H) (EV.tup c.live (EL.cons (EV.name c) (EL.cons (EV.name c) (EL.cons (EV.name c) (EL.cons (EV.name c) (EL.cons (EV.name c) EL.nil))))) (by simp)) λb m=>cK _ m) s E λ_ _ e=>e) (λv U y=>X v U y.1 y.2) λ_ _ e=>e))
theorem XU{i:List ah}(V:i.length=5):(runM ⟨h,c,m,f,a,b,i⟩ (iG typed)).Perm ((b,.list ((eH 5 (⟨0,0,0,0,[]⟩:Stat)).map cB))::(i.map (λr=>(r,DS []))++[(a,.list []),(f,LI [0,1,2,3,4]),(m,bZ typed),(c,LI [0,0,0,0,0]),(h,LI [-1,-1,-1,-1,-1])])):=by
 have e:(i.zip (iG typed).refused).map (λp=>(p.1,DS p.2))=i.map λr=>(r,DS []):=by refine n7 (oM V) λg S d j o z=>?_;subst z;rfl
 unfold runM;show(_++(i.zip (iG typed).refused).map λp=>(p.1,DS p.2)).Perm _;refine O e ?_;refine(VN).trans ?_;refine Di ?_ (List.perm_append_singleton _ _);refine O (fT ..) ?_;refine List.Perm.append_left _ ?_;have:=(YM [(h,LI [-1,-1,-1,-1,-1]),(c,LI [0,0,0,0,0]),(m,bZ typed),(f,LI [0,1,2,3,4]),(a,T.list [])]).symm.append_right [(b,T.list ((eH 5 (⟨0,0,0,0,[]⟩:Stat)).map cB))];exact this
theorem FS.Pd(f:FS H N B s Z G c M)(S:List ah):FS H {N with heap:=kQ N.heap S} B s Z G c M:=⟨⟨λb o e=>f.ks.kp b o (wm _ e),by have:=f.ks.eq;exact O this rfl⟩,f.kx,λa m=>g9 (h:=kQ N.heap S) (h':=N.heap) (λb o e=>wm _ e) (f.new a m),f.own,f.cx,f.acc,f.nd⟩
theorem Lz(t:fR W):∀(l:List Int){M:bG}{k:Nat},fh M k->nH u M->fh (gx W nf turn M l) (k+l.length)/\nH u (gx W nf turn M l)|[],_,_,r,m=>⟨r,m⟩|x::l,M,k,r,m=>by have:=Lz (nf:=nf) (turn:=turn) t l (Az (nf:=nf) (turn:=turn) t r x) (Lp (W:=W) (nf:=nf) (turn:=turn) r m x);replace this:=(show k+1+l.length=k+(x::l).length by exact O fC (jJ _ _ _))▸this;exact this
theorem XW{C:au}{u:List ai}{i:List aO}(hh:A.handled=ak)(hfr:A.frames=aa (bP L::i))(hun:A.units+1<fy)(rf:iH A (kQ C.heap (i.filterMap (·.frame))))(wo:fR W)(ht:u.length=5)(mo:rZ setB cC u)(f:FS H C s s Z (bP L) (yS W u a) [])(fo:FO C.heap i)(lX:bJ H C.heap)(T:∀b∈i.filterMap (·.frame),b∈H)(hQ:∀v z,bu (i.filterMap (·.frame)) C z->dG (i.filterMap (·.frame)) C.heap z.heap->Rep H z.heap (nG (gx W (nameOf setB cC) a (iG u) ((gj 25).map lF))) v->Q (.ret v) z):av (aA PW w) A (b9 (bodyOf (aP PW 23)) (bP L)) Q E s:=by
 refine Vx hh ht f λM n g c d s₁ f1=>?_;refine Vy hh (by exact iZ) (rf.sm.imp λo e=>f1.ks.kp _ _ (wm _ e)) f1 λDr G j S D hDr f2=>?_;have J:∀b∈H,b∉G::(j++d::c::g::n::M::Z):=λb m q=>by obtain⟨o,e⟩:=lX b m;exact gone e (f2.new b q)
 have so2:dG (i.filterMap (·.frame)) C.heap S.heap:=dG.of (f2.ks.kp.bN []) λb m=>cg;have Sk:=fo.kp f2.ks.kp;have f3:=((f2.Pd (i.filterMap (·.frame))).rebase.perm (XU (h:=M) (c:=n) (m:=g) (f:=c) (a:=d) (b:=G) (typed:=u) D)).less (δ:=gY W (bZ u) a ⟨M,n,g,c,d,G,j⟩) (by show br _ _;unfold gY yS;repeat(first|exact br.refl _|refine br.iK ?_ (by rfl)|refine br.out ?_ (by kernel_rfl)));have F:∀st':bG,st'.refused.length=5->(runM ⟨M,n,g,c,d,G,j⟩ st').map (·.1)=(runM ⟨M,n,g,c,d,G,j⟩ (iG u)).map (·.1):=λst' h=>by rw[rT _ (by exact O h D.symm),rT _ (by show 5=j.length;exact O D rfl)]
 have p:∀l:List Int,fh (gx W (nameOf setB cC) a (iG u) l) l.length/\nH u (gx W (nameOf setB cC) a (iG u) l):=λl=>by have:=Lz (nf:=nameOf setB cC) (turn:=a) wo l (Qs ht) (Qt u);replace this:=jl ..▸this;exact this
 have fin:∀(z:au)(E:aj->au->Prop),FS H {C with heap:=kQ C.heap (i.filterMap (·.frame))} z z (G::(j++d::c::g::n::M::Z)) (bP L) (gY W (bZ u) a ⟨M,n,g,c,d,G,j⟩) (runM ⟨M,n,g,c,d,G,j⟩ (gx W (nameOf setB cC) a (iG u) ((gj 25).map lF)))->dG (i.filterMap (·.frame)) S.heap z.heap->av (aA PW w) A (b9 ((bodyOf (aP PW 23)).drop 3) (bP L)) Q E z:=λz E f' so'=>by have Sf:=Sk.Bs so';refine ZJ D (p _).1.ref f' J f'.OY λv s'' k r=>hQ v s'' ?_ ((so2.trans so').trans (dG.of (k.kp.bN []) λb m=>cg)) r;have kk:=f'.ks.trans k;refine⟨λb o m e=>kk.kp b o (rR _ e m),?_⟩;have:=kk.eq;exact O this rfl
 refine@bY _ _ _ _ _ _ _ (FS.xfJ (as:=(gj 25).map lF) (kf:=.int) (cV:=λ_=>gY W (bZ u) a ⟨M,n,g,c,d,G,j⟩) (iw:=λ_ t=>upd (gY W (bZ u) a ⟨M,n,g,c,d,G,j⟩) "step" (.int t)) (Mf:=λl=>runM ⟨M,n,g,c,d,G,j⟩ (gx W (nameOf setB cC) a (iG u) l)) (i.filterMap (·.frame)) (λb m=>T b m) (λb m=>J b (T b m)) (λl=>l.length<=25) dk f3 ?_ (λl=>F _ (p l).1.ref) (λl x _=>AS.name (.inl (by kernel_rfl)) (aQ ..)) (λl x hl hP wr R E' hSW f4 K=>?_) λR hP f4 so=>⟨rfl,fin R E f4 so⟩);.exact IT.cQ (EV.glob f3.cx (by exact iZ)) rfl (EL.cons EV.int EL.nil) (IC.oB (n:=25) hh rfl f3.cx.live dk)
 .obtain⟨r,hr⟩:=hl;have P:l.length+1<=25:=by have:=congrArg t8 hr;simp only[aI,x8,cL,fC]at this;exact this▸iy (gQ 1 _) _
  have hx:0<=x:=by
   have:x∈(gj 25).map lF:=by refine O hr ?_;simp
   obtain⟨y,_,rfl⟩:=bF.mp this;exact iO y
  have Y:=p l;have foT:=Sk.Bs (K (F _ Y.1.ref) f4 (.refl _ _)).2;show av _ _ (b9 FL _) _ _ _;refine XT (E:=E') hh hfr hun rf D wo Y.1 Y.2 mo (eB P) hx f4 foT (λb m=>⟨T b m,hSW b m,vZ _ m⟩) (λV I f5 X=>?_) λI f5 U X=>?_
  .have hb:=K (F _ Y.1.ref) f5 X;have eA:gx W (nameOf setB cC) a (iG u) ((gj 25).map lF)=gx W (nameOf setB cC) a (iG u) l:=by exact O hr (O (Lm ..) (KP V _))
   refine⟨rfl,fin I E ((hb.1.less λy t e=>?_).conv (by exact O eA rfl)) hb.2⟩;have n1:y≠"step":=λq=>by replace e:=q▸e;cases e
   exact O (eE _ _ n1) e
  .refine⟨by exact O cL P,?_,?_,X⟩
   .have e1:gx W (nameOf setB cC) a (iG u) (l++[x])=gp W (nameOf setB cC) a (gx W (nameOf setB cC) a (iG u) l) x:=by refine O (Lm ..) ?_;rfl
    exact f5.conv (by exact O e1 rfl)
   .have:=F _ Y.1.ref;replace U:=this▸U;exact U
end
section
variable{A:aG}{s:au}{E:aj->au->Prop}
theorem Vz{u:List ai}{outer:List aO}(N:Top X s.heap)(g:∀b∈X,hH.get? b=ak)(a:∀b∈outer.filterMap (·.frame),b∈X)(F:A.frames=aa outer)(k:cG A (n+3))(r:FO s.heap outer)(l:az X s.heap [b7 W,bZ u,bZ gJ,.int B] q)(t:fR W)(j:u.length=5)(T:rZ setB cC u)(h:∀v c,bu (outer.filterMap (·.frame)) s c->dG (outer.filterMap (·.frame)) s.heap c.heap->Rep X c.heap (nG (gx W (nameOf setB cC) B (iG u) ((gj 25).map lF))) v->Q v c):av (aA PW w) A (dP (.ref 246) q []) Q E s:=by
 refine v8 (X:=X) (n:=n+2) (N2.kp N.K) (rz.kp N.K) k N.live N.n3 N.n0 rfl l λU E Z L f i C=>?_;have p:(A.deeper (cy BZ L 246)).units+1<fy:=by have:=i.jH;show _<9900;exact q8 _ this
 have d:cG (A.deeper (cy BZ L 246)) 2:=⟨i.hd,by have:=i.dep;exact lP this,by have:=i.jH;exact lP this⟩;exact XW i.hd (U5 F) p ⟨λb o e=>rR _ (N.K b o e) λm=>by exact gone e (g b (a b m)),d⟩ t j T f r N.live a h
end
theorem VA{B:aB}{o:List (Int×Int)}(rm:cG A (n+1))(N:Top X B)(I:B.Inst x 55 mA)(hv:mA "comp_select_list"=aa v)(hh:wK v=pure v)(rv:Rep X B (.list (o.map l7)) v)(hk:∀p∈o,p.1=0\/p.1=1):CA A X B (.ref 52) [.aJ (.ref x),o7 l,o7 r] (.int (j6 l r o)):=by
 refine CA.top xbe N rm rfl rfl rfl λs U E Z L f k i C=>?_;have Q:=i.hd;have j:Kp B U.heap:=k.trans f.ks.kp;have F:Rep (Z++X) U.heap (.list (o.map l7)) v:=Rep.kp (f.ks.kp.bN _) _ _ (Rep.wide (λb m=>by
refine bz (bD.mp m) (λm=>?_) λm=>?_;.exact .inl (f.new b m)
.exact .inr m) _ _ (Rep.kp (k.bN X) _ _ rv));have Y:=C "index" (.inl (by kernel_rfl));have kd:=C "direction" (.inl (by kernel_rfl));have W:=C "l" (.inl (by kernel_rfl));have V:=C "r" (.inl (by kernel_rfl));refine nS (FS.for (as:=o) (kf:=l7) (cV:=λ_=>bQ (eX (d9 (lK PW 2 1)) G0) ["self","left","right"] [.aJ (.ref x),o7 l,o7 r]) (iw:=λ_ q=>bQ (bQ (eX (d9 (lK PW 2 1)) G0) ["self","left","right"] [.aJ (.ref x),o7 l,o7 r]) ["index","direction"] [.int q.1,.int q.2]) (Mf:=λ_=>[]) (λP=>∀q∈P,l6 l r q.1=ay/\l6 r l q.1=ay) (λq m=>by cases m) f ?_ (λ_=>rfl) (λl a _=>AS.tup Q (ps:=[_,_]) (λx m=>?_) rfl rfl rfl) (λP q M d wr J E f K=>?_) λJ d f=>?_);.refine IT.list Q (.inr (by rfl)) f.cx.live (EV.xcX (EV.name f.cx) (uU.kp (N.K.trans j)).t (wA j I) Ob Oc (by refine O (iQ ..) (O iN ?_);kernel_rfl) hv hh F)
 .refine bz (bB.mp m) (λz=>?_) λm=>?_;.subst z;exact Y
  .replace m:=aX.mp m;exact O m kd
 .have hq:q∈o:=qI M;have t:=hk q hq;have H:0<=q.1:=by rcases t with e|e<;>rw[e]<;>decide
  have T:q.1<2^63:=by rcases t with e|e<;>rw[e]<;>decide
  refine bY (FS.set f W.1 W.2 (EV.sub (EV.name f.cx) (EV.name f.cx) (cU.tup H T (AP t))) λD _ f=>⟨rfl,?_⟩);refine bY (FS.set f V.1 V.2 (EV.sub (EV.name f.cx) (EV.name f.cx) (cU.tup H T (AP t))) λw _ f=>⟨rfl,?_⟩);refine aE M λu er=>?_;have g:j6 l r o=j6 l r (q::u):=by exact O er (Lj d)
  refine nS (FS.cond (b:=l6 l r q.1) f (TV.cmp (EV.name f.cx) (EV.name f.cx) aY.l6) (λR h f=>?_) λR h f=>?_);.refine dj (FS.ret f ((EV.neg (EV.name f.cx)).less inR) λv S k c=>⟨k,?_⟩);rw[g,j6,if_pos R];exact c
  .refine iA ?_;refine dj (FS.cond (b:=l6 r l q.1) f (TV.cmp (EV.name f.cx) (EV.name f.cx) aY.gtE) (λy G f=>?_) λy G f=>?_);.refine dj (FS.ret f ((EV.name f.cx).less inR) λv S k c=>⟨k,?_⟩);rw[g,j6,if_neg (by refine O R ?_;decide),if_pos y];exact c
   .refine iA ⟨λp m=>?_,?_⟩
    .refine bz (bD.mp m) (λm=>?_) λm=>?_;.exact d p m
     .replace m:=aX.mp m;exact O m ⟨R,y⟩
    .refine f.less ?_;show br _ _;repeat(first|exact br.refl _|refine br.iK ?_ (by rfl)|refine br.out ?_ (by kernel_rfl))
 .refine dj (FS.ret f EV.int λv S k c=>⟨k,?_⟩);have:=Lj (r:=[]) d;replace this:=g8 ..▸this;exact O this c
section
variable{A:aG}{G:aO}{X:List ah}{B:aB}{P:Gm}
theorem AU(c:CX X B G P)(C:who∈r5)(g:o∈cX who)(gr:P b=aa (DI (q7 v who)))(U:P f=aa (.int o))(D:isVar G b=af)(Y:isVar G f=af):EV A G X B (.Subscript (.Name b p1) (.Name f p2) p3) (o7 (rowAt v who o)):=EV.sub (EV.name c gr D) (EV.name c U Y) (cU.dI (Lq C g))
theorem xbv{f b z o:ai}{p1 p2 p3 a e F T h R:aS}{v who one two:Int}{g:ah}{i:aj}{n:Nat}(c:CX X B G P)(C:who∈r5)(h1:one∈cX who)(J:two∈cX who)(w:P f=aa (.aJ (.ref g)))(gr:P b=aa (DI (q7 v who)))(d:P z=aa (.int one))(r:P o=aa (.int two))(Z:isVar G f=af)(D:isVar G b=af)(q:isVar G z=af)(k:isVar G o=af)(K:Kp hH B)(I:B.Inst g 55 λy=>if y="comp_select_list"then aa i else ak)(j:cG A (n+1))(s:wK i=pure i)(l:Rep [] B (.list ((keysOf v).map l7)) i)(u:(p2.endLine==R.line)=af):EV A G X B (.Call (.Attribute (.Name f p1) "compare" p2) [.Subscript (.Name b p3) (.Name o a) e,.Subscript (.Name b F) (.Name z T) h] [] R) (.int (j6 (rowAt v who two) (rowAt v who one) (keysOf v))):=by refine EV.xcY (C:=55) (N:=54) (fa:=52) (mN:=rA) (y:=ak) (EV.name c w Z) (uU.kp K).t I Ob xbj UK (K _ _ xfI) xdf xdg (by refine O (iQ ..) (O iN ?_);kernel_rfl) (if_neg dk) (EL.cons (AU c C J gr r D k) (EL.cons (AU c C h1 gr d D q) EL.nil)) (CA.xdm (VA j (.nil K) I (by simp) s l λp m=>?_) rfl) rfl rfl rfl u;simp only[keysOf,bB,cg,or_false]at m;rcases m with rfl|rfl<;>simp
end
abbrev ly(L:ah):aO:=cy Hs L 241
def wG0(v I:Int):Gm:=bQ (eX (d9 (aP PW 22)) G0) ["value","who","names"] [.int v,.int I,NM]
def ID(v I:Int):Gm:=upd (upd (upd (upd (wG0 v I) "others" (LI (cX I))) "rows" (DI (q7 v I))) "keys" (.list ((keysOf v).map l7))) "plain" (LI (cY v I))
theorem D4(C:I∈r5)(h:o∈cY v I):o∈cX I:=(yu C).1.mem_iff.mp h
theorem plain_len(C:I∈r5):(cY v I).length=4:=(yu C).1.length_eq.trans (wD I C).1
theorem m9{L:Type}:∀(i:Int)(l:List L),(en i l).length=l.length|_,[]=>rfl|i,a::l=>by simp[en,m9 (i+1) l]
theorem A8{L:Type}:∀(i:Int)(l:List L),(en i l).map (·.2)=l|_,[]=>rfl|i,a::l=>by simp[en,A8 (i+1) l]
theorem FS.MK{N B s:au}(f:FS H N B s Z G c M)(L:EM A G (Z++H) s.heap e t)(k:∀D U,FS H N B U (D::Z) G c ((D,t)::M)->s.heap.get? D=ak->av (aA PW w) A (fN (cN a (bq b G))) (λK J=>Q (.ref D::K) J) E U)(W:autoParam (bq (e::b) G=(ay,aU e G)::bq b G) yAR):av (aA PW w) A (fN (cN a (bq (e::b) G))) Q E s:=by refine O W ?_;show av _ _ (fN ((ay,aU e G)::cN a (bq b G))) _ _ _;refine nY (aC (L s E λ_ _ e=>e) (λv U y=>?_) λ_ _ e=>e);obtain⟨d,D,rfl,n,r⟩:=y;exact k D U (f.BU d n r) n
def Cs(v I:Int)(g a H:ah):Gm:=bQ (ID v I) ["comp","told","due"] [.aJ (.ref g),.aJ (.ref a),.aJ (.ref H)]
def wM(v I:Int)(a H:ah)(l:List (Int×Int)):List (ah×T):=[(H,.list (l.map λq=>LI (jU v I q.1 q.2))),(a,.list (l.map λq=>LI (qK v I q.2)))]
theorem xbw(r:List (List Int)):TE 3 (b7 r) (b7 r):=by
 have k:∀i:Int,TE 1 (.int i) (.int i):=λ_=>.flat rfl;have n:∀l:List Int,TE 2 (LI l) (LI l):=λl=>by unfold LI;refine .list rfl λi t u h1 J=>?_;replace J:=h1▸J;cases J;replace h1:=eS▸h1;refine aH (vF.mp h1) λx _ I=>?_;subst I;exact .flat rfl
 unfold b7;refine .list rfl λi t u h1 J=>?_;replace J:=h1▸J;cases J;replace h1:=eS▸h1;refine aH (vF.mp h1) λx _ I=>?_;subst I;exact n x
theorem XX(a:List (List Int))(b:List Int):uT (a.map LI) (b.map T.int)=(Pp a b).map λq=>.tup [LI q.1,.int q.2]:=by induction a generalizing b with|nil=>simp[uT]|cons x a G=>cases b with|nil=>simp[uT]|cons y b=>simpa[uT]using G b
theorem pairs_len(C:I∈r5):(oH v I).length=4:=by unfold oH toldOf;refine O (aI ..) (O gP (O (aI ..) (O (m9 ..) (O (plain_len C) ?_))));rfl
theorem first_is:∀(l:List Int),(l.map T.int++[T.int 0])[(0:Int).toNat]?=aa (.int ((l++[0]).getD 0 0))|[]=>rfl|a::l=>rfl
theorem Wn(v I one i:Int):0<=mO v I one i/\mO v I one i<=100:=by unfold mO xx keysOf;rcases MB v with d|d<;>rcases ER v with j|j<;>rw[d,j]<;>cases h1:pB (rowAt v I i) (rowAt v I one) 0<;>cases J:pB (rowAt v I i) (rowAt v I one) 1<;>simp[h1,J]
theorem XY{A:aG}{N sb s:au}(f:FS X N sb s Z (ly L) (ID v I) [])(K:Kp hH N.heap)(rm:cG (A.deeper (ly L)) (n+5))(lX:bJ X N.heap)(B:I∈r5)(t:∀x,(d9 (aP PW 22)).names.lookup x=aa .local\/(d9 (aP PW 22)).names.lookup x=aa .cell->((ly L).kindOf x=aa .local\/(ly L).kindOf x=aa .cell)/\dh (ly L) x∈aM (ly L)):av (aA PW w) (A.deeper (ly L)) (b9 ((bodyOf (aP PW 22)).drop 4) (ly L)) (λf s'=>Ks N s'/\Rep X s'.heap (uJ v I) (match f with|.ret v=>v|_=>.none)) E s:=by
 have k5:=t "comp" (.inr (by kernel_rfl));have k6:=t "told" (.inl (by kernel_rfl));have k7:=t "due" (.inl (by kernel_rfl));have k8:=t "place" (.inr (by kernel_rfl));have k9:=t "one" (.inr (by kernel_rfl));have IE:=t "line" (.inl (by kernel_rfl));have j:=rm.hd;have hun:(A.deeper (ly L)).units+3<fy:=by have:=rm.jH;show _<9900;exact q8 _ this
 have u:=plain_len (v:=v) B;refine@bY _ _ _ _ _ _ _ (FS.Vt (X₀:=X) (s₀:=N) (γ:=ID v I) ["comp","told","due"] (ps:=[_,_,_]) j (FS.FH f (λE=>Wj (n:=n+3) (V:=aM (ly L)) (t:=.list ((keysOf v).map l7)) f.cx (by exact UD) (by rfl) (by kernel_rfl) (by kernel_rfl) (K.trans f.ks.kp) rm λb m=>f.cx.live b (f.cx.ok.iW b m)) λcv U i k₁ Sl=>?_) ?_)
 .refine wu Sl λkv V rk q1 IK=>?_;try clear Sl;subst q1
  refine FS.MK i.rebase EM.nil λd s₂ D n1=>FS.MK D EM.nil λH s₃ xgb S=>FS.yN ⟨U,_,_,[.aJ (.ref V),.aJ (.ref d),.aJ (.ref H)],xgb,⟨.ie _,.ie _,.ie _,trivial⟩,rfl,by simp,λs₄ a=>⟨rfl,?_⟩⟩;have n2':=S;have S:U.heap.get? H=ak:=D.BV S;have a:FS X N U s₄ (H::d::Z) (ly L) (Cs v I V d H) (wM v I d H []):=a;have IKV:uF U.heap (aM (ly L)++[H,d]) V 55 λy=>if y="comp_select_list"then aa kv else ak:=IK.more λb m=>by
   rcases bD.mp m with m|m;.exact .inl m
   .simp only[bB,cg,or_false]at m;rcases m with rfl|rfl;.exact .inr S
    .exact .inr n1
  have rk':Rep (H::d::(Z++X)) U.heap (.list ((keysOf v).map l7)) kv:=Rep.wide (λb m=>by
rcases bB.mp m with rfl|m;.exact .inl S
.rcases bB.mp m with rfl|m;.exact .inl n1
 .exact .inr m) _ _ rk;have hkv:wK kv=pure kv:=by refine eK rk.d8 λb xs q1 _=>?_;subst q1;rfl
  have kk1:Kp s.heap U.heap:=k₁.kp;refine@bY _ _ _ _ _ _ _ (FS.for (as:=en 0 (cY v I)) (kf:=λq=>.tup [.int q.1,.int q.2]) (cV:=λ_=>Cs v I V d H) (iw:=λ_ q=>bQ (Cs v I V d H) ["place","one"] [.int q.1,.int q.2]) (Mf:=wM v I d H) (λ_=>True) trivial a ?_ (λ_=>rfl) (λl q _=>AS.tup j (ps:=[_,_]) (λx m=>?_) rfl rfl rfl) (λl q hl _ wr g E f back=>?_) λg _ f=>⟨rfl,?_⟩);.exact aR uf (IT.cQ (EV.glob a.cx (by exact Aa)) rfl (EL.cons (EV.name a.cx) EL.nil) (IC.enumerate j a.cx.live))
  .rcases bB.mp m with rfl|m;.exact k8
   .rw[aX]at m;exact O m k9
  .have hq:q∈en 0 (cY v I):=qI hl;have zu:q.2∈cX I:=D4 (v:=v) B (by exact aR (A8 0 (cY v I)) (bF.mpr ⟨q,hq,rfl⟩));have Sm:bg (aM (ly L)++[H,d]) U.heap g.heap:=(back (j4:=wM v I d H l) rfl f).kx.kp;have I5:=IKV.dM Sm;have rk5:Rep [] g.heap (.list ((keysOf v).map l7)) kv:=Rep.less (λb m=>absurd m cg) _ _ (Rep.kp (Sm.mono λb m=>by
rcases bD.mp m with m|m;.exact aZ _ (aZ _ (bI _ (i.own b m)))
.simp only[bB,cg,or_false]at m;rcases m with rfl|rfl;.exact aQ ..
 .exact aZ _ (aQ ..)) _ _ rk');have kk5:=f.ks.kp;have Sn:l.length<=4:=by refine aE hl λr e=>?_;have:=congrArg t8 e;rw[m9,u,cL,fC]at this;exact jq this (e7 _ _)
   refine@bY _ _ _ _ _ _ _ (FS.append (x:="told") (i:=1) (t:=LI (qK v I q.2)) f (by rfl) (by rfl) ?_ (by exact O (aI ..) (cD Sn)) λW f=>⟨rfl,?_⟩)
   .have et:T.list (((cY v I).filter λ_=>af).map λF=>T.int (j6 (rowAt v I F) (rowAt v I q.2) (keysOf v)))=LI (qK v I q.2):=by refine O (fE ..) ?_;unfold LI qK;rw[bO];rfl
    refine aR et ?_;exact EF.ev (CU.ef (CU.l1 (kf:=.int) f.cx (IT.list j (.inl rfl) f.cx.live (EV.name f.cx)) (λF m C Q Y h c k=>TS.nil) (λF m _ C Q Y h c hY k=>xbv (v:=v) (who:=I) (one:=q.2) (two:=F) (n:=n+4) c B zu (D4 B m) (by rfl) (by rfl) (by rfl) (by rfl) (by kernel_rfl) (by kernel_rfl) (by kernel_rfl) (by kernel_rfl) (K.trans (kk5.trans k)) (wA k I5) rm hkv (Rep.kp (k.bN _) _ _ rk5) (by rfl)) (by refine O u ?_;decide)) f.cx.live)
   refine@dj _ _ _ _ _ _ (FS.append (x:="due") (i:=0) (t:=LI (jU v I q.1 q.2)) f (by rfl) (by rfl) ?_ (by exact O (aI ..) (cD Sn)) λs₇ f=>?_)
   .have et:T.list (((en 0 (cY v I)).filter λ_=>af).map λR=>T.int (mO v I q.2 R.2*if q.1<R.1 then 1 else-1))=LI (jU v I q.1 q.2):=by refine O (fE ..) ?_;unfold LI jU;refine O bO ?_;rfl
    refine aR et ?_;refine EF.ev (CU.ef (CU.l2 (kf:=λR:Int×Int=>.int R.1) (kg:=λR:Int×Int=>.int R.2) j f.cx ?_ (λR m C Q Y h c k=>TS.nil) (λR m _ C Q Y h c hY k=>?_) (by refine O (m9 ..) (O u ?_);decide)) f.cx.live);.exact aR uf (IT.cQ (EV.glob f.cx (by exact Aa)) rfl (EL.cons (EV.name f.cx) EL.nil) (IC.enumerate j f.cx.live))
    .have ho2:R.2∈cX I:=D4 (v:=v) B (by exact aR (A8 0 (cY v I)) (bF.mpr ⟨R,m,rfl⟩));have hsm:=Wn v I q.2 R.2;refine EV.bin (t:=.int (mO v I q.2 R.2)) (EV.sub (t:=.list ((((keysOf v).filter λr=>pB (rowAt v I R.2) (rowAt v I q.2) r.1).map λr=>T.int (if r.2<0 then-r.2 else r.2))++[T.int 0])) (EV.bin (EF.ev (CU.ef (CU.l2 (as:=keysOf v) (kf:=λr:Int×Int=>.int r.1) (kg:=λr:Int×Int=>.int r.2) j c (IT.list j (.inr (by rfl)) c.live (EV.name c)) (λr mr C' J Y' h' M k'=>?_) (λr mr _ C' J Y' h' M hY' k'=>EV.cQ (EV.glob M (by exact xdb)) rfl (EL.cons (EV.name M) EL.nil) CA.abs) (by simp[keysOf]) (ok:=by kernel_rfl)) c.live)) (EV.list c.live (EL.cons EV.int EL.nil)) (bE.Qq c.live ?_)) EV.int (cU.list dk dk ?_)) (EV.ite (b:=decide (q.1<R.1)) (TV.cmp (EV.name c) (EV.name c) aY.gt) (λhb=>?_) λhb=>?_) (bE.zh (OD hsm.1 hsm.2))
     .have G:r.1=0\/r.1=1:=by simp only[keysOf,bB,cg,or_false]at mr;rcases mr with rfl|rfl<;>simp
      have i0:0<=r.1:=G.elim (λe=>O e dk) λe=>O e dk;have i1:r.1<2^63:=G.elim (λe=>O e dk) λe=>O e dk;exact TS.one (TV.cmp (X:=Y') (EV.sub (AU (v:=v) (who:=I) (o:=R.2) M B ho2 (by rfl) (by rfl) (by kernel_rfl) (by kernel_rfl)) (EV.name M) (cU.tup i0 i1 (AP G))) (EV.sub (AU (v:=v) (who:=I) (o:=q.2) M B zu (by rfl) (by rfl) (by kernel_rfl) (by kernel_rfl)) (EV.name M) (cU.tup i0 i1 (AP G))) aY.pB)
     .have:=nJ (λr:Int×Int=>pB (rowAt v I R.2) (rowAt v I q.2) r.1) (keysOf v);simp only[aI,fC,qx];exact cD (qv this)
     .have:=first_is (((keysOf v).filter λr=>pB (rowAt v I R.2) (rowAt v I q.2) r.1).map λr=>if r.2<0 then-r.2 else r.2);rw[bO]at this;exact this
     .exact O (if_pos (of_decide_eq_true hb)) EV.int
     .exact O (if_neg (of_decide_eq_false hb)) (EV.neg EV.int)
   .refine⟨trivial,FS.conv (f.less ?_) ?_⟩;.show br _ _;repeat(first|exact br.refl _|refine br.iK ?_ (by rfl)|refine br.out ?_ (by kernel_rfl))
    .simp[wM]
  .have hD2:H∉d::Z++X:=λm=>by refine aE (D.cx.live H m) λo e=>?_;exact gone e n2'
   have hD1:d∉Z++X:=λm=>by refine aE (i.cx.live d m) λo e=>?_;exact gone e n1
   have ed:T.list ((en 0 (cY v I)).map λq=>LI (jU v I q.1 q.2))=b7 (toldOf v I):=by refine O (Ll B) ?_;unfold b7 GG;refine O bO ?_;rfl
   have et:T.list ((en 0 (cY v I)).map λq=>LI (qK v I q.2))=b7 (toldOf v I):=by unfold b7 toldOf;refine O bO ?_;rfl
   have f:FS X N U g (H::d::Z) (ly L) (Cs v I V d H) [(H,b7 (toldOf v I)),(d,b7 (toldOf v I))]:=f.conv (by unfold wM;exact O ed (O et rfl));have f:=f.freeze (x:="due") (by rfl) S (λb m=>aZ _ (i.own b m)) (one (aQ ..)) hD2;have f:=f.freeze (x:="told") (by rfl) n1 (λb m=>i.own b m) (λp m=>absurd m cg) hD1;refine@bY _ _ _ _ _ _ _ (FS.set f IE.1 IE.2 (t:=.list ((Bm (oH v I)).map fQ)) (EF.ev (EF.cQ (EV.glob f.cx (by exact Le)) rfl (EL.cons ?_ EL.nil) (CF.Zq (ps:=oH v I) f.cx.live (by refine O (pairs_len B) ?_;decide) (by refine O (pairs_len B) ?_;decide) (by exact O (pairs_len B) BX)))) λW _ f=>⟨rfl,?_⟩)
   .have e:T.list (((Pp (toldOf v I) (cY v I)).filter λ_=>af).map λq=>fQ (((q.1.filter λn=>decide (n<0)).length:Int),q.2))=.list ((oH v I).map fQ):=by refine O (fE ..) ?_;unfold oH;refine O bO ?_;rfl
    refine aR e ?_;refine EF.ev (CU.ef (CU.l2 (kf:=λq:List Int×Int=>LI q.1) (kg:=λq:List Int×Int=>.int q.2) j f.cx ?_ (λq m C Q Y h c k=>TS.nil) (λq m _ C Q Y h c hY k=>?_) ?_) f.cx.live);.exact aR (XX ..) (IT.cQ (EV.glob f.cx (by exact xdc)) rfl (EL.cons (EV.name f.cx) (EL.cons (EV.name f.cx) EL.nil)) (IC.zip2 j f.cx.live))
    .have So:q.1.length<=4:=by have:=(z3 m).1;unfold toldOf at this;refine aH (bF.mp this) λz _ ez=>?_;refine aR ez ?_;simp only[qK,aI];exact di u
     have P:=CA.zg (A:=A.deeper (ly L)) (X:=Y) (h₀:=h) (l:=(q.1.filter λn=>decide (n<0)).map T.int) (by refine O (aI ..) ?_;have:=nJ (λn:Int=>decide (n<0)) q.1;exact bf (bf this So) (gQ _ _));rw[aI]at P;exact EV.tup c.live (EL.cons (EV.cQ (EV.glob c (by exact GF)) rfl (EL.cons (EF.ev (CU.ef (CU.l1 (kf:=.int) (f:=.int) c (IT.list j (.inl rfl) c.live (EV.name c)) (λx mx C' J Y' h' M k'=>TS.one (TV.cmp (X:=Y') (EV.name M) EV.int aY.lt)) (λx mx _ C' J Y' h' M hY' k'=>EV.name M) (cD So)) c.live)) EL.nil) P) (EL.cons (EV.name c) EL.nil)) (by simp)
    .refine O gP ?_;exact O u (bf (tL _ _) dk)
   rw[ZC B]at f;refine@dj _ _ _ _ _ _ (FS.ret (t:=uJ v I) f (EV.less (EV.tup f.cx.live (EL.cons (t:=LI (cY v I)) ?_ (EL.cons (EV.cmp (EV.name f.cx) (EV.name f.cx) (aY.same (xbw _) hun (.inl ⟨_,rfl⟩))) EL.nil)) (by simp)) inR) λv s' k r=>⟨k,r⟩);have e:T.list (((en 0 (cY v I)).filter λ_=>af).map λq=>T.int q.2)=LI (cY v I):=by refine O (fE ..) ?_;unfold LI;rw[show((en 0 (cY v I)).map λq=>T.int q.2)=((en 0 (cY v I)).map (·.2)).map T.int by refine O bO ?_;rfl,A8]
   refine aR e ?_;exact EF.ev (CU.ef (CU.l2 (kf:=λq:Int×Int=>.int q.1) (kg:=λq:Int×Int=>.int q.2) j f.cx (IT.list j (.inr (by rfl)) f.cx.live (EV.name f.cx)) (λq m C Q Y h c k=>TS.nil) (λq m _ C Q Y h c hY k=>EV.name c) (by refine O (m9 ..) (O u ?_);decide)) f.cx.live)
 .exact dQ k5 (dQ k6 (dQ k7 nA))
abbrev j7:ai:=(fdOf (MineH.A5 PW)).qualname++".<locals>."++"<lambda>"
noncomputable abbrev jG:aS:=⟨83,31,83,94⟩
theorem xgc:CodeHd hH 240 PL:=⟨MineH.wL,qd MineH.wL,_,_,_,_,_,_,_,kj (by kernel_rfl),rfl,rfl,rfl,rfl,rfl,rfl,rfl,rfl,dk⟩
theorem xgd:hH.Ns mF (hH.nsMap 3):=.of_isNs Ck
theorem xge:hH.BuiltinsAt (hH.nsMap 3) PL:=⟨4,GS w.params,by kernel_rfl,dk,dk,dk,kj (by kernel_rfl),rfl,rfl,rfl⟩
theorem xgf(K:Kp hH h)(k:bg [PL] h h'):Kp hH h':=λb o e=>k b o (λm=>by rw[hH]at e;exact gone e (vZ _ m)) (K b o e)
theorem TP{s:au}(rm:cG A (n+6))(N:Top X s.heap)(j:PL∈X)(B:dF X jG j7 s.heap PL)(h0:0<=v)(h1:v<2^60)(g:I∈r5)(rv:az X s.heap [.int v,.int I,NM] vs):av (aA PW w) A (dP (.ref 241) vs []) (λz S=>bu [PL] s S/\dF X jG j7 S.heap PL/\Rep X S.heap (uJ v I) z) E s:=by
 refine v8 (N6.kp N.K) (rz.kp N.K) rm N.live N.n3 N.n0 rfl rv λs₁ E Z L f i x=>?_;have f0:=f;have k1:=x "others" (.inl (by kernel_rfl));have k2:=x "rows" (.inr (by kernel_rfl));have k3:=x "keys" (.inr (by kernel_rfl));have H:=x "plain" (.inl (by kernel_rfl));have k5:=x "comp" (.inr (by kernel_rfl));have k6:=x "told" (.inl (by kernel_rfl));have k7:=x "due" (.inl (by kernel_rfl));have k8:=x "place" (.inr (by kernel_rfl));have k9:=x "one" (.inr (by kernel_rfl));have IE:=x "line" (.inl (by kernel_rfl));have U:=i.hd;have hw5:=aF.mp g;refine aW (wD I g) λR xhk=>?_;refine bY (FS.qJ f k1.1 k1.2 (t:=LI (cX I)) (CU.l1 (kf:=.int) (f:=.int) f.cx (IT.kT U f.cx (by exact iZ)) (λo m C M Y h c k=>TS.one (TV.cmp (X:=Y) (EV.name c) (EV.name c) aY.ne)) (λo m _ C M Y h c _ k=>EV.name c) dk) λJ f=>⟨rfl,?_⟩);have p:∃o,J.heap.get? eo=aa o:=N.sm.imp λ_ e=>f.ks.kp _ _ e;refine bY (FS.set f k2.1 k2.2 (t:=DI (q7 v I)) ?_ λs₃ _ f=>⟨rfl,?_⟩)
 .have e:T.dI (((en 0 (cX I)).filter λ_=>af).map λq=>q.2) (((en 0 (cX I)).filter λ_=>af).map λq=>o7 (mk v q.1,bC q.2))=DI (q7 v I):=by unfold DI q7;refine O (fE ..) (O bO (O bO ?_));rfl
  refine aR e ?_;refine EF.ev (CU.ef (CU.dI2 (kf:=λq:Int×Int=>.int q.1) (kg:=λq:Int×Int=>.int q.2) (as:=en 0 (cX I)) (p:=λ_=>af) (g:=λq=>q.2) (f:=λq=>o7 (mk v q.1,bC q.2)) U f.cx p ?_ (λa m C M Y h c k=>TS.nil) (λq m _ C M Y h c k=>EV.name c) (λq m _ C M Y h c hY k=>?_) ?_ ?_) f.cx.live);.exact aR uf (IT.cQ (EV.glob f.cx (by exact Aa)) rfl (EL.cons (EV.name f.cx) EL.nil) (IC.enumerate U f.cx.live))
  .refine gW (Wi I g q m) λu q2 q3=>?_;refine aW u λq0 q1=>?_;refine EV.tup c.live (EL.cons (EV.bin (EV.bin (EV.name c) (EV.bin EV.int (EV.name c) (bE.xfK q0 (eF (kI q1)))) (bE.uD (Int.pow_pos dk) ?_)) EV.int (bE.uE dk)) (EL.cons (EV.sub (EV.name c) (EV.name c) (cU.list q2 (eF q3) ?_)) EL.nil));.have:q.1=0\/q.1=1\/q.1=2\/q.1=3:=PD q0 q1;rcases this with e|e|e|e<;>rw[e]<;>decide
   .have:q.2=0\/q.2=1\/q.2=2\/q.2=3\/q.2=4:=lq q2 q3;rcases this with e|e|e|e|e<;>rw[e]<;>rfl
  .exact O (fE ..) (XN I g)
  .have:∀I∈r5,(en 0 (cX I)).length<=100000:=by decide+kernel
   exact this I g
 refine@FS.Wg _ _ _ _ _ _ _ _ _ _ _ _ _ _ _ _ _ _ _ _ _ _ _ _ _ _ _ _ _ _ _ _ _ _ _ _ _ _ _ _ _ _ _ _ _ _ _ _ _ _ _ _ _ _ _ _ f k3.1 k3.2 (by rfl) (by kernel_rfl) λs₄ f=>?_;have P:=f.ks.kp;refine bY (FS.xfi (P:=PL) (I:=λh=>dF (Z++X) jG j7 h PL) (t:=LI (cY v I)) f j (N.live PL j) (λh t=>let⟨ps,a,_⟩:=t;⟨_,a⟩) H.1 H.2 (λE=>?_) λd G f h1 K=>⟨rfl,?_⟩)
 .have l:PL∉aM (cy Hs L 241):=λm=>by refine aE (N.live PL j) λo e=>?_;have:=f.new PL (f.own PL m);replace this:=e▸this;cases this
  refine jN xge λbm ob b1 b2 b3 b4 b5 b6=>?_;refine Zr (n:=n+3) (key:=g4 v I) (its:=cX I) (x:="other") f.cx (by exact Le) (by kernel_rfl) (EV.name f.cx) rfl rfl (xgd.keeps (N.K.trans P)) ⟨bm,ob,b1,b2,b3,b4,(N.K.trans P) _ _ b5,b6⟩ rfl (xgc.keeps (N.K.trans P)) ((B.O5 f.new).kp P) f.cx.live (cK _ j) l (R4.keeps (N.K.trans P)) (by kernel_rfl) (by kernel_rfl) rfl rfl rfl i (jq R (gQ _ _)) (O R dk) (by exact O R BX) (λpm W ctv v=>rfl) λo D A' L' f' W h rm2 c=>?_;exact EF.xfN (v:=v) (who:=I) (o:=o) c g D (by rfl) (by rfl) (by rfl) (by kernel_rfl) (by kernel_rfl) (by kernel_rfl)
 .refine fU h1 λs₇ hT hkx hok l=>?_;have Q:dF (Z++X) jG j7 G.heap PL:=by exact dF.dM (λm=>by replace m:=aX.mp m;replace l:=m▸l;exact l H.2) hkx.kp (one (bD.mpr (.inl (f.own _ H.2)))) hT
  have V:PL∉Z:=λm=>by refine aE (N.live PL j) λo e=>?_;have:=f0.new PL m;replace this:=e▸this;cases this
  have F:=(K d (.refl _)).1.kp;refine aC (XY (n:=n) f (xgf N.K F) i ?_ g x) (λfl S y=>?_) λ_ _ e=>e
  .intro b m;by_cases q:b=PL;.refine O q ?_;refine aE (f.OY PL j) λo D=>?_;exact⟨o,(K d (.refl _)).2 _ _ V D⟩
   .refine aE (N.live b m) λo D=>?_;exact⟨o,F b o (by simp[q]) D⟩
  .refine aW y λks r=>?_;refine aW (K S ks) λb1 b2=>?_;refine⟨b1,?_,r⟩;refine dm Q λps e1 e2 e3=>?_;refine⟨ps,b2 _ _ V e1,e2,e3.imp id λ⟨cv,d1,dn,d2⟩=>⟨cv,d1,λm=>dn (cK _ m),?_⟩⟩;refine DK d2 λc' o vs' t e4 g' r' z'=>?_;cases e4;exact⟨cv,o,vs',t,rfl,b2 _ _ (λm=>dn (bI _ m)) g',r',z'⟩
theorem Jg{y:List ai}{K:List Int}(u:cG A (n+1))(N:Top X B)(b:y.length=K.length):CA A X B (.ref 80) [.dS y (K.map .int)] (.int (jd K)):=by
 refine CA.top GD N u rfl rfl rfl λs U E Z L f k i C=>?_;have V:=C "nc" (.inl (by kernel_rfl));have M:=C "calls" (.inl (by kernel_rfl));refine bY (FS.set f V.1 V.2 EV.int λJ _ f=>⟨rfl,?_⟩);refine bY (FS.for (as:=K) (kf:=.int) (cV:=λl=>upd (bQ (eX (d9 (aP PW 5)) G0) ["callers"] [.dS y (K.map .int)]) "nc" (.int (jd l))) (iw:=λl a=>upd (upd (bQ (eX (d9 (aP PW 5)) G0) ["callers"] [.dS y (K.map .int)]) "nc" (.int (jd l))) "calls" (.int a)) (Mf:=λ_=>[]) (λ_=>True) trivial f ?_ (λ_=>rfl) (λl a _=>AS.name M.1 M.2) (λl a _ _ z j E f _=>?_) λj _ f=>⟨rfl,?_⟩);.exact IT.Zm i.hd rfl f.cx.live (EV.name f.cx) (by simp[b])
 .refine dj (FS.xaY f V.1 V.2 (by rfl) (EV.name f.cx) λS h=>⟨trivial,?_⟩);refine O (Uz ..) ?_;refine h.less ?_;show br _ _;repeat(first|exact br.refl _|refine br.iK ?_ (by rfl)|refine br.out ?_ (by kernel_rfl))
 .exact dj (FS.ret f ((EV.name f.cx).less inR) λv S k r=>⟨k,r⟩)
theorem JT{L b:Type}{F:b->L->Option b}{l:List L}{a:L}{r:List L}{i o:b}(h:l.foldlM F i=aa o)(J:F o a=ak):(l++a::r).foldlM F i=ak:=by refine O JK (O h ?_);show(a::r).foldlM F o=ak;refine O Ds (O J ?_);rfl
theorem Ab{L b:Type}{F:b->L->Option b}{l:List L}{a:L}{i o w:b}(h:l.foldlM F i=aa o)(J:F o a=aa w):(l++[a]).foldlM F i=aa w:=by refine O JK (O h ?_);show[a].foldlM F o=aa w;refine O Ds (O J ?_);rfl
structure Bt(c:List Int):Prop where
ne:c≠[]le:c.length<=5
el:∀x∈c,0<=x/\x<5
theorem Bt.gi{c:List Int}(h:Bt c){k:Int}(D:0<=k)(h1:k<c.length):0<=Mine.gi c k/\Mine.gi c k<5:=by unfold Mine.gi;exact O cA (O (cz (iu D h1)) (h.el _ (nQ _)))
theorem UT{A:aG}{X:List ah}{V:aB}{e p:List (List Int)}{n:Nat}(rm:cG A (n+1))(tp:Top X V)(sq:Sq e)(hc:∀c∈p,Bt c):CA A X V (.ref 261) [b7 e,b7 p] (.bool (nj e p)):=by
 refine CA.top N5 tp rm rfl rfl rfl λs s₁ E Z L f k vz hw=>?_;have kf:=hw "far" (.inr (by kernel_rfl));have kc:=hw "cycle" (.inl (by kernel_rfl));have kp:=hw "place" (.inl (by kernel_rfl));have kw:=hw "who" (.inl (by kernel_rfl));have M:=vz.hd;refine bY (FS.NO f kf.1 kf.2 ((EF.rU f.cx.live (EV.list f.cx.live (EL.cons EV.int EL.nil)) EV.int dk dk).em λt m=>by refine O (vD m) ?_;rfl) λD s₂ f=>⟨rfl,?_⟩);refine nS (FS.for (as:=p) (kf:=LI) (cV:=λl=>upd (bQ (eX (d9 (aP PW 26)) G0) ["rank","cycles"] [b7 e,b7 p]) "far" (.aJ (.ref D))) (iw:=λl c=>upd (upd (bQ (eX (d9 (aP PW 26)) G0) ["rank","cycles"] [b7 e,b7 p]) "far" (.aJ (.ref D))) "cycle" (LI c)) (Mf:=λl=>[(D,LI ((l.foldlM (pO e) [4,4,4,4,4]).getD []))]) (λl=>∃o,l.foldlM (pO e) [4,4,4,4,4]=aa o/\o.length=5) ⟨_,rfl,rfl⟩ f ?_ (λ_=>rfl) (λl a _=>AS.name kc.1 kc.2) (λl c hl hP wr U E f back=>?_) λU hP f=>?_);.exact IT.list M (.inl rfl) f.cx.live (EV.name f.cx)
 .refine aH hP λo j d=>?_;have hcm:c∈p:=qI hl;have co:=hc c hcm;have J:(l.foldlM (pO e) [4,4,4,4,4]).getD []=o:=by refine O j ?_;rfl
  rw[J]at f;refine dj (FS.for (as:=en 0 c) (kf:=λq=>.tup [.int q.1,.int q.2]) (cV:=λ_=>upd (upd (bQ (eX (d9 (aP PW 26)) G0) ["rank","cycles"] [b7 e,b7 p]) "far" (.aJ (.ref D))) "cycle" (LI c)) (iw:=λ_ q=>bQ (upd (upd (bQ (eX (d9 (aP PW 26)) G0) ["rank","cycles"] [b7 e,b7 p]) "far" (.aJ (.ref D))) "cycle" (LI c)) ["place","who"] [.int q.1,.int q.2]) (Mf:=λl'=>[(D,LI ((l'.foldlM (pK e c) o).getD []))]) (λl'=>∃w,l'.foldlM (pK e c) o=aa w/\w.length=5) ⟨o,rfl,d⟩ f ?_ (λ_=>rfl) (λl a _=>AS.tup M (ps:=[_,_]) (λx m=>?_) rfl rfl rfl) (λl' q hl' IF wr' s₄ E f back'=>?_) λs₄ IF f=>?_);.refine aR (uf (f:=T.int)) ?_;refine IT.cQ (EV.glob f.cx (by exact Aa)) rfl (EL.cons (EV.name f.cx) EL.nil) (IC.enumerate M f.cx.live)
  .rcases bB.mp m with rfl|m;.exact kp
   .rw[aX]at m;exact O m kw
  .refine aH IF λw F g=>?_;have G:(l'.foldlM (pK e c) o).getD []=w:=by refine O F ?_;rfl
   rw[G]at f;have hqm:q∈en 0 c:=qI hl';refine aH (rX hqm) λkq W e2=>?_;have u:=co.el q.2 (eO e2);have I:kq<c.length:=(rC.mp e2).1;have Q:0<c.length:=gO (jm _) I;have K:=co.le;obtain⟨P,B⟩:=q;dsimp only at W e2 u;have epl:P=kq:=W.trans (mD _);have Sp:0<=i9 c P/\i9 c P<5:=by
    unfold i9;split;.exact co.gi (O (jM ..) (Jt (gR.mpr Q))) (O (jM ..) (WX (t9 _)))
    .exact co.gi (Q4 W ‹¬P=0›) (Q3 I W)
   have N:0<=(P+1).fmod c.length/\(P+1).fmod c.length<c.length:=⟨vH _ (gR.mpr Q),rF _ (gR.mpr Q)⟩;have Ss:0<=wN c P/\wN c P<5:=co.gi N.1 N.2;refine bY (FS.setItem (i:=0) f (by rfl) (by rfl) (t:=.int (gr e B (i9 c P))) (EV.gr sq (EV.name f.cx) (EV.name f.cx) ?_ u.1 u.2 Sp.1 Sp.2) (EV.name f.cx) u.1 (by exact O (aI ..) (O g u.2)) (by refine O (aI ..) (O g ?_);decide) λs₅ f=>⟨rfl,?_⟩)
   .by_cases H:P=0;.rw[show i9 c P=gi c (P-1+c.length)by unfold i9;refine O (if_pos H) (O H ?_);rfl];exact EV.xcT (EV.name f.cx) (EV.bin (EV.name f.cx) EV.int bE.sub) (O H dk) (O H (xci (nV.mpr Q))) (gO K dk)
    .exact O (show i9 c P=gi c (P-1)by unfold i9;rw[if_neg H]) (EV.gi (EV.name f.cx) (EV.bin (EV.name f.cx) EV.int bE.sub) (Q4 W H) (Q3 I W) (cD K))
   have f:=f.conv (M':=[(D,LI (w.set B.toNat (gr e B (i9 c P))))]) (by show[(D,T.list ((w.map T.int).set B.toNat (.int (gr e B (i9 c P)))))]=_;unfold LI;exact O vX rfl);have S:=f.view (x:="far") (i:=0) (by rfl) rfl;have Su:gi (w.set B.toNat (gr e B (i9 c P))) B=gr e B (i9 c P):=by unfold gi;refine O cA (O (zK (BJ u.1 u.2 g)) ?_);rfl
   refine dj (FS.cond f (TV.cmp (EV.gr sq (EV.name f.cx) (EV.name f.cx) (EV.gi (EV.name f.cx) (EV.bin (EV.bin (EV.name f.cx) EV.int bE.add) (EV.cQ (EV.glob f.cx (by exact GF)) rfl (EL.cons (EV.name f.cx) EL.nil) (CA.zg (by exact O (aI ..) (cD K)))) (bE.fmod (by exact O (aI ..) (Ed (gR.mpr Q))))) ?_ ?_ ?_) u.1 u.2 ?_ ?_) ((EV.gi (EV.name S) (EV.name S) u.1 ?_ ?_).flat rfl) aY.gt) ?_ ?_);.exact O (aI ..) N.1
   .exact O (aI ..) N.2
   .exact cD K
   .exact O (aI ..) Ss.1
   .exact O (aI ..) Ss.2
   .exact O jL (Bf u.2 g)
   .exact O jL (jv g (gQ _ _))
   .intro R s₆ f;rw[Su,aI]at R;have R:gr e B (i9 c P)<gr e B (wN c P):=of_decide_eq_true R;refine dj (FS.ret f EV.bool λv s' k r=>⟨k,?_⟩);have W:nj e p=ay:=by
     refine aE hl λr er=>?_;refine aE hl' λr' er'=>?_;have h1:pK e c w (P,B)=ak:=by unfold pK;exact if_pos R
     have h2:pO e o c=ak:=by unfold pO;exact O er' (JT F h1)
     have h3:yz e p=ak:=by unfold yz;exact O er (JT j h2)
     unfold nj;exact O h3 rfl
    exact O W r
   .intro R s₆ f;rw[Su,aI]at R;have R:¬gr e B (i9 c P)<gr e B (wN c P):=of_decide_eq_false R;have h1:pK e c w (P,B)=aa (w.set B.toNat (gr e B (i9 c P))):=by unfold pK;exact if_neg R
    refine iA ⟨⟨_,Ab F h1,by exact O jL g⟩,?_⟩;rw[show((l'++[(P,B)]).foldlM (pK e c) o).getD []=w.set B.toNat (gr e B (i9 c P))by refine O (Ab F h1) ?_;rfl];refine f.less ?_;show br _ _;repeat(first|exact br.refl _|refine br.iK ?_ (by rfl)|refine br.out ?_ (by kernel_rfl))
  .refine aH IF λw F g=>?_;have G:((en 0 c).foldlM (pK e c) o).getD []=w:=by refine O F ?_;rfl
   rw[G]at f;refine⟨⟨w,Ab j F,g⟩,?_⟩;have e3:((l++[c]).foldlM (pO e) [4,4,4,4,4]).getD []=w:=by rw[Ab j F];rfl
   refine O e3 ?_;refine f.less ?_;show br _ _;repeat(first|exact br.refl _|refine br.iK ?_ (by rfl)|refine br.out ?_ (by kernel_rfl))
 .refine aH hP λo j d=>?_;have J:(p.foldlM (pO e) [4,4,4,4,4]).getD []=o:=by refine O j ?_;rfl
  rw[J]at f;have S:=f.view (x:="far") (i:=0) (by rfl) rfl;have hfi:∀k:Int,0<=k->k<5->0<=k/\k<o.length:=λk a b=>⟨a,by exact O d b⟩;refine dj (FS.ret f (EV.flat (X:=aM (cy B0 L 261)) (EV.cmp (b:=nj e p) (t:=.list (ud e o)) (u:=.list []) (EF.ev (CU.ef ?_ S.live)) (EV.list S.live EL.nil) ?_) rfl) λv s' k r=>⟨k,r⟩)
  .refine CU.ll (as:=r5) (kf:=.int) (p:=λ_=>af) (bs:=λone=>upTo one) (qm:=λ_=>.int) (p2:=λone i=>decide (gr e one i<gi o one)&&decide (gr e i one<gi o i)) (f:=λ_ _=>.int 1) S ?_ ?_ ?_ ?_ ?_ dk ?_;.exact IT.cQ (its:=r5.map .int) (EV.glob S (by exact iZ)) rfl (EL.cons EV.int EL.nil) (IC.oB (n:=5) M rfl S.live dk)
   .exact λa m C cs Y h c k=>TS.nil
   .intro one m _ C cs Y h c k;have h5:one=0\/one=1\/one=2\/one=3\/one=4:=by simpa[r5]using m
    rcases h5 with rfl|rfl|rfl|rfl|rfl;.exact IT.cQ (its:=(upTo 0).map .int) (EV.glob c (by exact iZ)) rfl (EL.cons (EV.name c) EL.nil) (IC.oB (n:=0) M rfl c.live dk)
    .exact IT.cQ (its:=(upTo 1).map .int) (EV.glob c (by exact iZ)) rfl (EL.cons (EV.name c) EL.nil) (IC.oB (n:=1) M rfl c.live dk)
    .exact IT.cQ (its:=(upTo 2).map .int) (EV.glob c (by exact iZ)) rfl (EL.cons (EV.name c) EL.nil) (IC.oB (n:=2) M rfl c.live dk)
    .exact IT.cQ (its:=(upTo 3).map .int) (EV.glob c (by exact iZ)) rfl (EL.cons (EV.name c) EL.nil) (IC.oB (n:=3) M rfl c.live dk)
    .exact IT.cQ (its:=(upTo 4).map .int) (EV.glob c (by exact iZ)) rfl (EL.cons (EV.name c) EL.nil) (IC.oB (n:=4) M rfl c.live dk)
   .intro one m i m' C cs Y h c k;have b1:0<=one/\one<5:=by simp[r5]at m;exact G1 m
    have b2:0<=i/\i<5:=by
     unfold upTo at m';refine aH (bF.mp m') λz hz y=>?_;subst y;have:=rI.mp hz;constructor;.exact iO z
     .show(z:Int)<5;exact jj2 this b1.2
    refine O (show(decide (gr e one i<gi o one)&&decide (gr e i one<gi o i))=(decide (gr e one i<gi o one)&&(decide (gr e i one<gi o i)&&af))by rw[tW]) ?_;refine TS.one (TV.ry (AT.and (TV.cmp (X:=Y) (EV.gr sq (EV.name c) (EV.name c) (EV.name c) b1.1 b1.2 b2.1 b2.2) (EV.gi (EV.name c) (EV.name c) b1.1 (by exact O d b1.2) (by refine O d ?_;decide)) aY.lt) λ_=>AT.and (TV.cmp (X:=Y) (EV.gr sq (EV.name c) (EV.name c) (EV.name c) b2.1 b2.2 b1.1 b1.2) (EV.gi (EV.name c) (EV.name c) b2.1 (by exact O d b2.2) (by refine O d ?_;decide)) aY.lt) λ_=>AT.yL))
   .exact λ_ _ _ _ _ C cs Y h c _ k=>EV.int
   .intro a m;have h5:a=0\/a=1\/a=2\/a=3\/a=4:=by simpa[r5]using m
    rcases h5 with rfl|rfl|rfl|rfl|rfl<;>decide
  .have:=aY.O2 (X:=aM (cy B0 L 261)) (A:=A.deeper (cy B0 L 261)) (h₀:=U.heap) (l:=ud e o) (by have:=vz.jH;show _<9900;exact Pz _ this);exact O (show nj e p=(ud e o).isEmpty by unfold nj yz;rw[j]) this
section
section
variable{j:dz}{A:aG}{E:aj->au->Prop}{s:au}
theorem SM{f}(P:s.heap.IsTupleIter a t i)(c:s.heap.IsTuple t f)(Y:f[i]?=aa x)(X:∀h',h'.IsTupleIter a t (i+1)->tZ a s.heap h'->Q x {s with heap:=h'}):av (aA j w) A (tD (.ref a)) Q E s:=by refine dm (id P) λo g Z U=>?_;obtain⟨l,b,_,h,k⟩:=c;unfold tD;refine aq (xV (name:=nX "__next__") P.typeIs CM (tN CM P.typeIs Ut ?_ (Ul _)));show av _ _ (uZ (.ref a) 0>>=_) _ _ s;refine aq (jn g U (x:=.ref t) rfl ?_);show av _ _ (if(bV t==fk)=af then _ else _) _ _ s;rw[if_neg (show¬(bV t==fk)=af from qq)];show av _ _ (uZ (.ref a) 1>>=_) _ _ s;refine aq (jn g U (x:=.int i 0) rfl ?_);show av _ _ (F6 (.ref t)>>=_) _ _ s;refine aq (tV b k ?_);simp only[rH,Y];refine aq (Ah g U (by simp) (aN ⟨x,rfl,aN (X _ ?_ (mU ..))⟩));exact⟨_,qo _ g (zN (vK U _)),(JY ..).trans Z,by rw[vK U];simp[e9]⟩
theorem SX{f}(d:A.handled=ak)(P:s.heap.IsTupleIter a t i)(c:s.heap.IsTuple t f)(Y:f[i]?=ak)(u:∀h' e,xdO a s.heap h'->(∃o,h'.get? e=aa o/\o.cls=.type "StopIteration")->E (.ref e) {s with heap:=h'}):av (aA j w) A (tD (.ref a)) Q E s:=by
 refine dm (id P) λo g Z U=>?_;obtain⟨l,b,_,h,k⟩:=c;unfold tD;refine aq (xV (name:=nX "__next__") P.typeIs CM (tN CM P.typeIs Ut ?_ (Ul _)));show av _ _ (uZ (.ref a) 0>>=_) _ _ s;refine aq (jn g U (x:=.ref t) rfl ?_);show av _ _ (if(bV t==fk)=af then _ else _) _ _ s;rw[if_neg (show¬(bV t==fk)=af from qq)];show av _ _ (uZ (.ref a) 1>>=_) _ _ s;refine aq (jn g U (x:=.int i 0) rfl ?_);show av _ _ (F6 (.ref t)>>=_) _ _ s;refine aq (tV b k ?_);simp only[rH,Y];refine aq (qE (aq (Ah g U (by simp) ?_)));show av _ _ (newExc (.type "StopIteration") []>>=_) _ _ _;refine aq ?_;simp only[newExc,wW];refine aq (qu ?_ (by size_fits));refine aq (m:=xgz _ _) (wg (a:=fk) (by first|rfl|(simp only[xgz];rfl)) ?_);refine qu ?_ (by size_fits);simp only[raiseNew];refine aq (wpAny_handled ?_);first|refine O (show A.in1.handled=ak from d) ?_|rw[d]
 refine aq (aN (wpAny_throw ?_));exact u _ _ (((mU ..).extBut.push _).push _) ⟨_,cF _ rfl,rfl⟩
end
theorem VB{A:aG}(d:A.handled=ak)(a l:ah)(S:l≠a)(f:Array aj):Draws prog w A a [a,l] f.size (λi v=>f[i]?=aa v) λi h=>h.IsTupleIter a l i/\h.IsTuple l f where
live:=λ_ _ M=>let⟨o,g,_⟩:=M.1;⟨o,g⟩;frame:=λ_ _ _ M N=>⟨let⟨o,g,r⟩:=M.1;⟨o,N a (by simp) o g,r⟩,let⟨o,g,r⟩:=M.2;⟨o,N l (by simp) o g,r⟩⟩;item:=λi s Q E F M X=>by refine SM M.1 M.2 (x:=f[i]) (by simp[F]) λh' x I=>?_;exact X _ h' s.toks (by simp[F]) ⟨x,M.2.extBut I.extBut S⟩ I
done:=λs Q E M u=>SX d M.1 M.2 (by simp) u
theorem VC{j:dz}{w:bL}{A:aG}{E F:aj->au->Prop}{s:au}{k:List (Code×aS)->Bool}{Q:Bool->au->Prop}(h:∀b,Q b s):av (aA j w) A stack (λa S=>av (aA j w) A (pure (k a)) Q F S) E s:=wpAny_stack_any λM=>aN (h _)
theorem SH(l:ah)(f:Array aj):Meets (Builtin.«enumerate.__new__» ⟨[.type "enumerate",.ref l],[]⟩) λ_ R s=>s.heap.IsTuple l f/\R (.ok (.ret (.ref (s.heap.push {cls:=.type "tuple_iterator",data:=.fields #[.ref l,.int 0 0]}).objs.size))) {s with heap:=(s.heap.push {cls:=.type "tuple_iterator",data:=.fields #[.ref l,.int 0 0]}).push {cls:=.type "enumerate",data:=.fields #[.none,.bool ay,.ref s.heap.objs.size,e9 0,.none,.none]}}:=.of_wp λj w A R s h=>by obtain⟨Q,g,d,G,P⟩:=s;refine aW h λC h=>?_;have k:=sub_enumerate;obtain⟨⟨c,a,r,J⟩,V,Z,n,U⟩:=id C;simp only at Z U;subst Z U;wp_walk using xed V;refine VC λb=>?_;cases b<;>wp_walk using xed V,xcp C<;>exact⟨_,rfl,h⟩
end
section
variable{j:dz}{A:aG}{E:aj->au->Prop}{s:au}
theorem SY{l:ah}{f:Array aj}{Q:aj->au->Prop}(V:s.heap.IsTuple l f)(h:∀h',IM h' (s.heap.objs.size+1) s.heap.objs.size 0 .none->h'.IsTupleIter s.heap.objs.size l 0->(∀b o,s.heap.get? b=aa o->h'.get? b=aa o)->Q (.ref (s.heap.objs.size+1)) {s with heap:=h'}):av (aA j w) A (dP (.type "enumerate") [.ref l]) Q E s:=by
 refine callType_new F.called_enumerate dk (F.typeCall_enumerate_1 _) (F.newCall_enumerate_1 _) (λa=>YN a _) F.entry_enumerate_new (SH l f) ⟨V,?_⟩;have I:(s.heap.push {cls:=.type "tuple_iterator",data:=.fields #[.ref l,.int 0 0]}).objs.size=s.heap.objs.size+1:=mu ..;show _/\_;refine O I ?_;have L:IM ((s.heap.push {cls:=.type "tuple_iterator",data:=.fields #[.ref l,.int 0 0]}).push {cls:=.type "enumerate",data:=.fields #[.none,.bool ay,.ref s.heap.objs.size,e9 0,.none,.none]}) (s.heap.objs.size+1) s.heap.objs.size 0 .none:=by have:=cF (s.heap.push {cls:=.type "tuple_iterator",data:=.fields #[.ref l,.int 0 0]}) (o:={cls:=.type "enumerate",data:=.fields #[.none,.bool ay,.ref s.heap.objs.size,e9 0,.none,.none]}) rfl;rw[I]at this;exact this
 exact⟨⟨_,L,rfl⟩,h _ L ⟨_,bX _ (cF _ rfl),rfl,rfl⟩ λb o x=>bX _ (bX _ x)⟩
end
section
variable{A:aG}{X:List ah}{B:aB}
theorem Wo(j:A.handled=ak){xs:Array aj}{F:List T}(h1:e≠a)(J:l≠e)(R:l≠a)(V:xs.size=F.length)(C:∀b∈[e,a],b∈Y):gz A e [e,a,l] [e,a] Y (.Tuple p s n) (jX 0 F) λi h=>((∃c,IM h e a i c)/\h.IsTupleIter a l i/\h.IsTuple l xs)/\az Y h F xs.toList:=by
 have D:=VB (prog:=PW) (A:=A.in1) (by exact j) a l R xs;have W:=WalksT.enumerateD D e h1 (by simp[h1,J.symm]) (by simp);refine gz.Au (λh=>az Y h F xs.toList) W (by exact O v7 (O V rfl)) (λh h' r k=>Mine.az.kp k _ _ r) (λi v t h Q f r=>?_) (λi h M b m=>?_) C
 .refine eK Q λG x d q=>?_;try clear Q;subst q
  refine aH (Kz f) λu Z q=>?_;subst q;refine⟨_,rfl,?_⟩;refine⟨?_,r.get Z (by exact O gM d),trivial⟩;exact O (mD ..) (.fO _ _)
 .refine gW M λq z _=>?_;refine aE q λc x=>?_;refine aH z λo g _=>?_;refine bz (bB.mp m) (λy=>?_) λm=>?_;.subst y;exact⟨_,x⟩
  .replace m:=aX.mp m;exact O m ⟨o,g⟩
end
section
variable{A:aG}{X:List ah}{B:aB}
theorem XZ(f:A.handled=ak){s:au}{xs:Array aj}{h':aB}(l:bJ X s.heap)(n:y∉X)(p:s.heap.IsTuple y xs)(R:az X s.heap c xs.toList)(L:IM h' (s.heap.objs.size+1) s.heap.objs.size 0 .none)(P:h'.IsTupleIter s.heap.objs.size y 0)(V:Kp s.heap h'):jE A X s.heap h' (s.heap.objs.size+1) [s.heap.objs.size+1,s.heap.objs.size,y] [s.heap.objs.size+1,s.heap.objs.size] (.Tuple j k i) (jX 0 c):=by
 refine aH (id p) λh a D=>?_;have W:=dR a;have H:s.heap.get? s.heap.objs.size=ak:=get?_none_of_le (cR _);have d:s.heap.get? (s.heap.objs.size+1)=ak:=get?_none_of_le (dN _);have N:∀b∈[s.heap.objs.size+1,s.heap.objs.size],s.heap.get? b=ak:=λb m=>by
  refine bz (bB.mp m) (λz=>?_) λm=>?_;.subst z;exact d
  .replace m:=aX.mp m;exact O m H
 have I:xs.size=c.length:=by exact aR R.length (O dw rfl)
 have e:h'.IsTuple y xs:=⟨h,V _ _ a,D⟩;refine⟨λb m=>?_,λb m=>?_,N,λb m=>?_,λY J C=>⟨_,Wo f (Dt _) (bS (vM W)) (bS W) I C,⟨⟨_,L⟩,P,e⟩,oh V J N R⟩⟩
 .refine bz (bB.mp m) (λz=>?_) λm=>?_;.subst z;exact⟨_,L⟩
  .refine bz (bB.mp m) (λz=>?_) λm=>?_;.subst z;refine aH P λo g _=>?_;exact⟨o,g⟩
   .replace m:=aX.mp m;exact O m ⟨_,V _ _ a⟩
 .refine bz (bB.mp m) (λz=>?_) λm=>?_;.subst z;exact l.above (dN _)
  .refine bz (bB.mp m) (λz=>?_) λm=>?_;.subst z;exact l.above (cR _)
   .replace m:=aX.mp m;exact O m n
 .refine bz (bB.mp m) (λz=>?_) λm=>?_;.subst z;exact aQ ..
  .replace m:=aX.mp m;exact O m (aZ _ (aQ ..))
theorem VD(d:A.handled=ak){s:au}{xs:Array aj}(l:bJ X s.heap)(n:y∉X)(p:s.heap.IsTuple y xs)(R:az X s.heap a xs.toList):av (aA PW w) A (dP (.type "enumerate") [.ref y] []) (λx U=>av (aA PW w) A (sE x) (λv J=>Ks s J/\∃I S z,v=.ref I/\jE A X s.heap J.heap I S z (.Tuple D j m) (jX 0 a)) E U) E s:=by refine@SY PW A E s y xs _ p λh' L P V=>?_;exact@xct PW w A E _ _ _ _ _ _ L ⟨.mk' s h' s.toks V,_,_,_,rfl,XZ d l n p R L P V⟩
theorem az.inv1(r:az Y h [t] a):∃v,a=[v]/\Rep Y h t v:=by refine aE (az.ju r) λv q=>?_;subst q;exact⟨v,rfl,r.1⟩
theorem IC.VE(d:A.handled=ak)(l:bJ X B):IC A X B (.type "enumerate") [.tup a] (.Tuple D j m) (jX 0 a):=λs E K k r=>by refine aH r.inv1 λv q S=>?_;subst q;refine cI S.jQ λy xs q n p R=>?_;subst q;exact VD d (l.kp k) n p R
end
theorem To(a b c:aj):checkTypeCall "zip" ⟨[a,b,c],[]⟩=pure ():=by kernel_rfl
theorem TQ(a b c:aj):tO "zip.__new__" ⟨[.type "zip",a,b,c],[]⟩=pure ():=by kernel_rfl
theorem SJ(a b c d:aj):sG "object.__init__" ⟨[a,b,c,d],[]⟩:=by unfold sG;refine O (signature?_of (id:="object.__init__") (n:=['_','_','t','i','n','i','_','_']) (o:=['t','c','e','j','b','o']) (by kernel_rfl) F.owner_object) ?_;kernel_rfl
theorem nq(h:¬a=b):a≠b:=h
noncomputable abbrev oV(h:aB)(T:ah)(a b c:aj):Prop:=h.get? T=aa {cls:=.type "tuple",data:=.seq #[a,b,c]}
structure Z3(h:aB)(n k:Nat)(l1 l2 l3:ah)(xs d t:Array aj)(f:aj)(a b c:aj):Prop where
z:u0 h (n+5) (n+3) (n+4) f
ti:oV h (n+3) (.ref n) (.ref (n+1)) (.ref (n+2))to:oV h (n+4) a b c
i1:h.IsListIter n l1 k
i2:h.IsListIter (n+1) l2 k
i3:h.IsListIter (n+2) l3 k
l1:h.IsList l1 xs
l2:h.IsList l2 d
l3:h.IsList l3 t
noncomputable def mT(n:Nat):List ah:=[n+5,n+4,n,n+1,n+2]
def Ct(n:Nat)(R G l3:ah):List ah:=[n+5,n+3,n+4,n,n+1,n+2,R,G,l3]
theorem zy(h:autoParam ((d==3)=ay) yAR):n+d<n\/n+d=n+3->False:=λq=>q.elim (λa=>rS.mpr (e7 ..) a) λe=>ne_of_beq_false h (Nat.add_left_cancel e)
theorem yD{n:Nat}{P:ah->Prop}(a:P (n+5))(b:P (n+4))(c:P n)(d:P (n+1))(e:P (n+2)):∀x∈mT n,P x:=both a (both b (both c (both d (one e))))
theorem ML{n R G l3:Nat}{P:ah->Prop}(a:P (n+5))(y:P (n+3))(b:P (n+4))(c:P n)(d:P (n+1))(e:P (n+2))(f:P R)(g:P G)(h:P l3):∀x∈Ct n R G l3,P x:=both a (both y (both b (both c (both d (both e (both f (both g (one h))))))))
theorem A9(h:c∉mT n):c≠n+5/\c≠n+4/\c≠n/\c≠n+1/\c≠n+2:=have t:=λ(a:ah)(m:a∈mT n)(e:c=a)=>h (e▸m)
⟨t _ (.head _),t _ (.tail _ (.head _)),t _ (.tail _ (.tail _ (.head _))),t _ (.tail _ (.tail _ (.tail _ (.head _)))),t _ (.tail _ (.tail _ (.tail _ (.tail _ (.head _)))))⟩
section
variable{prog:dz}{A:aG}{E:aj->au->Prop}{s:au}
theorem C9{T:ah}{a b c x:aj}{k:Nat}{Q:Unit->au->Prop}(f:oV s.heap T a b c)(h:∀h',h'.get? T=aa {cls:=.type "tuple",data:=.seq ((#[a,b,c]:Array aj).setIfInBounds k x)}->tZ T s.heap h'->Q () {s with heap:=h'}):av (aA prog w) A (F7 T (·.setIfInBounds k x)) Q E s:=by refine xec f rfl (h _ ?_ (mU ..));refine O (qo _ f rfl) ?_;simp[dc]
theorem Wq{n k l1 l2 l3:Nat}{xs ys zs:Array aj}{x y u a b c:aj}{Q:aj->au->Prop}(H:Z3 s.heap n k l1 l2 l3 xs ys zs .none a b c)(hl1:l1<n)(D:l2<n)(V:l3<n)(hx:xs[k]?=aa x)(hy:ys[k]?=aa y)(hu:zs[k]?=aa u)(hQ:∀h',Z3 h' n (k+1) l1 l2 l3 xs ys zs (e9 s.heap.objs.size) x y u->oV h' s.heap.objs.size x y u->(∀d o,d∉mT n->s.heap.get? d=aa o->h'.get? d=aa o)->Q (.ref s.heap.objs.size) {s with heap:=h'}):av (aA prog w) A (Builtin.«zip.__next__» ⟨[.ref (n+5)],[]⟩) (λfin s'=>∃v,fin=.done (.ret v)/\Q v s') E s:=by
 show av _ _ (uZ (.ref (n+5)) 2>>=_) _ _ _;refine aq (jn H.z rfl (x:=.bool ay) rfl ?_);show av _ _ (uZ (.ref (n+5)) 3>>=_) _ _ _;refine aq (jn H.z rfl (x:=.ref (n+3)) rfl ?_);refine aq (tV H.ti rfl ?_);show av _ _ (CD (.ref (n+5))>>=_) _ _ _;refine aq ?_;unfold CD;refine aq (jn H.z rfl (x:=.none) rfl (aN ?_));simp only[if_true];refine aq (qE ?_);refine aq (jn H.z rfl (x:=.ref (n+4)) rfl ?_);refine aq (zU H.z (by simp) λh₁ z l=>?_);replace z:u0 h₁ (n+5) (n+3) (n+4) .ellipsis:=z;refine aq ?_;simp only[Y4,xat,tP,KX];refine aq (aq (Ai ?_));show av _ _ (tD (.ref n)>>=_) _ _ _;refine aq (Jv (H.i1.extBut l.extBut (nq (bS (sH (pD _ _))))) (H.l1.extBut l.extBut (nq (bS (kC _ hl1)))) hx λh₂ X g=>aN ?_);have p:oV h₂ (n+4) a b c:=g.extBut _ _ (nq (gb (sH (pD _ _)))) (l.extBut _ _ (nq (bS (gA _))) H.to);refine aq (tV p rfl ?_);refine aq (C9 p λh₃ L h=>?_);replace L:oV h₃ (n+4) x b c:=L;refine aq (AG (aN ?_));refine aq (aq (Ai ?_));show av _ _ (tD (.ref (n+1))>>=_) _ _ _;refine aq (Jv (((H.i2.extBut l.extBut (nq (bS (lP (gA _))))).extBut g.extBut (nq (gb (gA _)))).extBut h.extBut (nq (bS (eB (dN _))))) (((H.l2.extBut l.extBut (nq (bS (kC _ D)))).extBut g.extBut (nq (bS D))).extBut h.extBut (nq (bS (kC _ D)))) hy λh₄ xdt r=>aN ?_);have t:oV h₄ (n+4) x b c:=r.extBut _ _ (nq (gb (eB (dN _)))) L;refine aq (tV t rfl ?_);refine aq (C9 t λh₅ M q=>?_);replace M:oV h₅ (n+4) x y c:=M;refine aq (AG (aN ?_));refine aq (aq (Ai ?_));show av _ _ (tD (.ref (n+2))>>=_) _ _ _;refine aq (Jv (((((H.i3.extBut l.extBut (nq (bS (eB (dN _))))).extBut g.extBut (nq (gb (dN _)))).extBut h.extBut (nq (bS (dN _)))).extBut r.extBut (nq (gb (gA _)))).extBut q.extBut (nq (bS (dN _)))) (((((H.l3.extBut l.extBut (nq (bS (kC _ V)))).extBut g.extBut (nq (bS V))).extBut h.extBut (nq (bS (kC _ V)))).extBut r.extBut (nq (bS (vM V)))).extBut q.extBut (nq (bS (kC _ V)))) hu λh₆ U J=>aN ?_);have j:oV h₆ (n+4) x y c:=J.extBut _ _ (nq (gb (dN _))) M;refine aq (tV j rfl ?_);refine aq (C9 j λi K F=>?_);replace K:oV i (n+4) x y u:=K;refine aq (AG (aN (aN ?_)));refine aq (tV K rfl ?_);refine aq (Ag ?_);have hsz:i.objs.size=s.heap.objs.size:=by rw[F.1,J.1,q.1,r.1,h.1,g.1,l.1]
 have I:u0 i (n+5) (n+3) (n+4) .ellipsis:=F.extBut _ _ (nq (gb (gA _))) (J.extBut _ _ (nq (gb (eB (dN _)))) (q.extBut _ _ (nq (gb (gA _))) (r.extBut _ _ (nq (gb (lP (gA _)))) (h.extBut _ _ (nq (gb (gA _))) (g.extBut _ _ (nq (gb (sH (pD _ _)))) z)))));have hk:∀d o,d∉mT n->s.heap.get? d=aa o->i.get? d=aa o:=λd o hd e=>by refine qH (A9 hd) λd1 d2 d3 d4 d5=>?_;exact F.extBut _ _ d2 (J.extBut _ _ d5 (q.extBut _ _ d2 (r.extBut _ _ d4 (h.extBut _ _ d2 (g.extBut _ _ d3 (l.extBut _ _ d1 e))))))
 have R:∀d:Nat,d<n\/d=n+3->d∉mT n:=λd hd m=>yD (P:=λx=>x<n\/x=n+3->False) (zy (d:=5)) (zy (d:=4)) (zy (d:=0)) (zy (d:=1)) (zy (d:=2)) d m hd;have T:i.IsListIter n l1 (k+1):=((((X.extBut h.extBut (nq (bS (sH (pD _ _))))).extBut r.extBut (nq (bS (gA _)))).extBut q.extBut (nq (bS (sH (pD _ _))))).extBut J.extBut (nq (bS (dN _)))).extBut F.extBut (nq (bS (sH (pD _ _))));have xdu:i.IsListIter (n+1) l2 (k+1):=((xdt.extBut q.extBut (nq (bS (eB (dN _))))).extBut J.extBut (nq (bS (gA _)))).extBut F.extBut (nq (bS (eB (dN _))));have Y:i.IsListIter (n+2) l3 (k+1):=U.extBut F.extBut (nq (bS (dN _)));have S:n+5<i.objs.size:=dR I;show av _ _ (SE (.ref (n+5)) (.ref i.objs.size)>>=_) _ _ _;refine aq ?_;unfold SE;have Z:u0 (i.push {cls:=.type "tuple",data:=.seq #[x,y,u]}) (n+5) (n+3) (n+4) .ellipsis:=bX _ I;refine aq (zU Z (by simp) λxgg f C=>?_);replace f:u0 xgg (n+5) (n+3) (n+4) (e9 i.objs.size):=f;refine zU f (by simp) λB W G=>?_;replace W:u0 B (n+5) (n+3) (n+4) (e9 i.objs.size):=W;have P:∀d o,d≠n+5->i.get? d=aa o->B.get? d=aa o:=λd o d1 e=>G.extBut _ _ d1 (C.extBut _ _ d1 (bX _ e));have N:oV B i.objs.size x y u:=G.extBut _ _ (gb S) (C.extBut _ _ (gb S) (cF _ rfl));rw[hsz]at W N;refine aN ⟨_,rfl,?_⟩;show Q (.ref i.objs.size) _;refine O hsz ?_;exact hQ B ⟨W,P _ _ (nq (bS (dN _))) (hk _ _ (R _ (.inr rfl)) H.ti),P _ _ (nq (bS (gA _))) K,T.at λo e=>P _ o (nq (bS (tK (e7 _ _)))) e,xdu.at λo e=>P _ o (nq (bS (lP (gA _)))) e,Y.at λo e=>P _ o (nq (bS (lP (gA _)))) e,H.l1.at λo e=>P _ o (nq (bS (kC _ hl1))) (hk _ _ (R _ (.inl hl1)) e),H.l2.at λo e=>P _ o (nq (bS (kC _ D))) (hk _ _ (R _ (.inl D)) e),H.l3.at λo e=>P _ o (nq (bS (kC _ V))) (hk _ _ (R _ (.inl V)) e)⟩ N λd o hd e=>P d o (A9 hd).1 (hk d o hd e)
theorem X0(j:A.handled=ak)(H:Z3 s.heap n k f G l3 xs I t .none a b c)(p:f<n)(Y:xs[k]?=ak)(u:∀h' e,(∀d o,d∉mT n->s.heap.get? d=aa o->h'.get? d=aa o)->(∃o,h'.get? e=aa o/\o.cls=.type "StopIteration")->E (.ref e) {s with heap:=h'}):av (aA prog w) A (Builtin.«zip.__next__» ⟨[.ref (n+5)],[]⟩) Q E s:=by
 show av _ _ (uZ (.ref (n+5)) 2>>=_) _ _ _;refine aq (jn H.z rfl (x:=.bool ay) rfl ?_);show av _ _ (uZ (.ref (n+5)) 3>>=_) _ _ _;refine aq (jn H.z rfl (x:=.ref (n+3)) rfl ?_);refine aq (tV H.ti rfl ?_);show av _ _ (CD (.ref (n+5))>>=_) _ _ _;refine aq ?_;unfold CD;refine aq (jn H.z rfl (x:=.none) rfl (aN ?_));simp only[if_true];refine aq (qE ?_);refine aq (jn H.z rfl (x:=.ref (n+4)) rfl ?_);refine aq (zU H.z (by simp) λZ z l=>?_);replace z:u0 Z (n+5) (n+3) (n+4) .ellipsis:=z;refine aq ?_;simp only[Y4,xat,tP,KX];refine aq (aq (Ai ?_));show av _ _ (tD (.ref n)>>=_) _ _ _;refine aq (wpAny_nextOf_list_end j (H.i1.extBut l.extBut (nq (bS (vE dk)))) (H.l1.extBut l.extBut (nq (bS (kC 5 p)))) Y λC e g L=>?_);refine aH L λv i q=>?_;have m:u0 C (n+5) (n+3) (n+4) .ellipsis:=g _ _ (nq (gb (vE dk))) z;have r:e≠n+5:=λx=>by subst x;replace i:=m▸i;cases i;simp at q
 exact zU m (by simp) λD _ h=>u D e (λd o U x=>by refine qH (A9 U) λy J F K B=>?_;exact h.extBut _ _ y (g _ _ F (l.extBut _ _ y x))) ⟨v,h.extBut _ _ r i,q⟩
theorem J7(hh:A.handled=ak)(n R G l3:Nat)(l:R<n)(C:G<n)(V:l3<n)(xs r t:Array aj)(S:r.size=xs.size)(e3:t.size=xs.size):WalksT prog w A (n+5) (Ct n R G l3) (mT n) xs.size (λi J=>∃x y u,xs[i]?=aa x/\r[i]?=aa y/\t[i]?=aa u/\J=#[x,y,u]) (λi h=>∃a b c,Z3 h n i R G l3 xs r t .none a b c) λi T h=>(∃a b c,Z3 h n (i+1) R G l3 xs r t (e9 T) a b c)/\T∉mT n where
sub:=yD (.head _) (.tail _ (.tail _ (.head _))) (.tail _ (.tail _ (.tail _ (.head _)))) (.tail _ (.tail _ (.tail _ (.tail _ (.head _))))) (.tail _ (.tail _ (.tail _ (.tail _ (.tail _ (.head _))))));frame:=λi h h' f N=>by refine iT f λa b c H=>?_;have k5:=N _ (.head _);have k3:=N _ (.tail _ (.head _));have N:=λd m=>N d (.tail _ (.tail _ m));have U:=N _ (.head _);have N:=λd m=>N d (.tail _ m);exact⟨a,b,c,k5 _ H.z,k3 _ H.ti,U _ H.to,H.i1.at (N _ (.head _)),H.i2.at (N _ (.tail _ (.head _))),H.i3.at (N _ (.tail _ (.tail _ (.head _)))),H.l1.at (N _ (.tail _ (.tail _ (.tail _ (.head _))))),H.l2.at (N _ (.tail _ (.tail _ (.tail _ (.tail _ (.head _)))))),H.l3.at (N _ (.tail _ (.tail _ (.tail _ (.tail _ (.tail _ (.head _)))))))⟩
item:=λi s Q E z f X=>by refine iT f λa b c H=>?_;have v:i<r.size:=S▸z;have B:i<t.size:=e3▸z;have g:s.TypeIs (.ref (n+5)) "zip":=⟨_,H.z,rfl⟩;have W:n+5<s.heap.objs.size:=dR H.z;unfold zl;refine aq (Nj (xV (name:=nX "__next__") g DJ (tN DJ g xcq (Wq H l C V (kB z) (kB v) (kB B) λh' Y K N=>aN ?_) (xaC _))));exact X s.heap.objs.size #[xs[i],r[i],t[i]] h' s.toks ⟨_,_,_,kB z,kB v,kB B,rfl⟩ (cR _) ⟨_,K,rfl,_,rfl⟩ ⟨⟨_,_,_,Y⟩,λm=>by have q:∀j:Nat,j<=5->s.heap.objs.size=n+j->False:=λj b a=>xcE (a▸W) (iy b _);exact yD (P:=λx=>s.heap.objs.size=x->False) (q 5 dk) (q 4 dk) (q 0 dk) (q 1 dk) (q 2 dk) _ m rfl⟩ N
go:=λM k pos i T s Q E L X=>by refine aW L λp _=>?_;refine iT p λa b c H=>?_;refine wpAny_letOwnedTupleGo_zip H.z λh' D I=>X h' ⟨a,b,c,D,I.extBut _ _ (nq (bS (dN _))) H.ti,I.extBut _ _ (nq (bS (gA _))) H.to,H.i1.extBut I.extBut (nq (bS (sH (pD _ _)))),H.i2.extBut I.extBut (nq (bS (lP (gA _)))),H.i3.extBut I.extBut (nq (bS (eB (dN _)))),H.l1.extBut I.extBut (nq (bS (kC _ l))),H.l2.extBut I.extBut (nq (bS (kC _ C))),H.l3.extBut I.extBut (nq (bS (kC _ V)))⟩ λd o hd e=>I.extBut _ _ (A9 hd).1 e
apart:=λi T h L g=>L.2 g;done:=λs Q E f X=>by refine iT f λa b c H=>?_;have g:s.TypeIs (.ref (n+5)) "zip":=⟨_,H.z,rfl⟩;unfold zl;refine aq (Nj (xV (name:=nX "__next__") g DJ (tN DJ g xcq (X0 hh H l (UZ (cR _)) λh' e N P=>?_) (xaC _))));refine aH P λo ho Z=>?_;refine aq (z5 (T:="StopIteration") (b:=af) ⟨o,ho,Z⟩ isSubtype_stop ?_);exact aN (X h' s.toks N)
self:=λi s Q E f X=>by refine iT f λa b c H=>?_;exact KZ H.z X
end
noncomputable abbrev xK(h:aB)(R:ah):aB:=h.push {cls:=.type "list_iterator",data:=.fields #[.ref R,.int 0 0]}
abbrev xM(h:aB)(R G:ah):aB:=(xK h R).push {cls:=.type "list_iterator",data:=.fields #[.ref G,.int 0 0]}
abbrev zA(h:aB)(R G l3:ah):aB:=(xM h R G).push {cls:=.type "list_iterator",data:=.fields #[.ref l3,.int 0 0]}
abbrev zB(h:aB)(R G l3:ah):aB:=(zA h R G l3).push {cls:=.type "tuple",data:=.seq #[.ref h.objs.size,.ref (xK h R).objs.size,.ref (xM h R G).objs.size]}
abbrev xN(h:aB)(R G l3:ah):aB:=(zB h R G l3).push {cls:=.type "tuple",data:=.seq #[.none,.none,.none]}
abbrev lC(h:aB)(R G l3:ah):aB:=(xN h R G l3).push {cls:=.type "zip",data:=.fields #[.none,.bool ay,.bool ay,.ref (zA h R G l3).objs.size,.ref (zB h R G l3).objs.size]}
theorem Tp(a G l3:ah)(xs i t:Array aj):Meets (Builtin.«zip.__new__» ⟨[.type "zip",.ref a,.ref G,.ref l3],[]⟩) λ_ R s=>s.heap.IsList a xs/\s.heap.IsList G i/\s.heap.IsList l3 t/\R (.ok (.ret (.ref (xN s.heap a G l3).objs.size))) {s with heap:=lC s.heap a G l3}:=.of_wp λj w A R s h=>by obtain⟨Q,g,d,f,P⟩:=s;refine kR h λp C V h=>?_;have k:=sub_zip;have c:Nb (Mj ⟨Q,g,d,f,P⟩) a xs:=p;have b:Nb (Mj ⟨xK Q a,g,d,f,P⟩) G i:=Jw C _;have e:Nb (Mj ⟨xM Q a G,g,d,f,P⟩) l3 t:=Jw (Jw V _) _;wp_walk using zX c,zX b,zX e;exact⟨_,rfl,h⟩
theorem ZK{h:aB}(p:h.IsList a xs)(C:h.IsList G j)(V:h.IsList l3 t):(xN h a G l3).objs.size=h.objs.size+5/\Z3 (lC h a G l3) h.objs.size 0 a G l3 xs j t .none .none .none .none/\Kp h (lC h a G l3):=by
 have b:(xK h a).objs.size=h.objs.size+1:=mu ..;have f:(xM h a G).objs.size=h.objs.size+2:=by exact O (mu ..) (O b rfl)
 have c:(zA h a G l3).objs.size=h.objs.size+3:=by exact O (mu ..) (O f rfl)
 have d:(zB h a G l3).objs.size=h.objs.size+4:=by exact O (mu ..) (O c rfl)
 have i:(xN h a G l3).objs.size=h.objs.size+5:=by exact O (mu ..) (O d rfl)
 have v:Kp (xN h a G l3) (lC h a G l3):=λ_ _ x=>bX _ x;have S:Kp (zB h a G l3) (lC h a G l3):=λ_ _ x=>v _ _ (bX _ x);have T:Kp (zA h a G l3) (lC h a G l3):=λ_ _ x=>S _ _ (bX _ x);have q:Kp (xM h a G) (lC h a G l3):=λ_ _ x=>T _ _ (bX _ x);have w:Kp (xK h a) (lC h a G l3):=λ_ _ x=>q _ _ (bX _ x);have W:Kp h (lC h a G l3):=λ_ _ x=>w _ _ (bX _ x);have g:(lC h a G l3).get? (xN h a G l3).objs.size=aa _:=cF _ rfl;have y:(lC h a G l3).get? (zB h a G l3).objs.size=aa _:=v _ _ (cF _ rfl);have s:(lC h a G l3).get? (zA h a G l3).objs.size=aa _:=S _ _ (cF _ rfl);have U:(lC h a G l3).get? (xM h a G).objs.size=aa _:=T _ _ (cF _ rfl);have r:(lC h a G l3).get? (xK h a).objs.size=aa _:=q _ _ (cF _ rfl);have B:(lC h a G l3).get? h.objs.size=aa _:=w _ _ (cF _ rfl);rw[i,c,d]at g;rw[d]at y;rw[c,b,f]at s;rw[f]at U;rw[b]at r;exact⟨i,⟨g,s,y,⟨_,B,rfl,rfl⟩,⟨_,r,rfl,rfl⟩,⟨_,U,rfl,rfl⟩,p.at λo e=>W _ o e,C.at λo e=>W _ o e,V.at λo e=>W _ o e⟩,W⟩
section
variable{j:dz}{A:aG}{E:aj->au->Prop}{s:au}
theorem VF{R G l3:Nat}{xs f t:Array aj}{Q:aj->au->Prop}(p:s.heap.IsList R xs)(C:s.heap.IsList G f)(V:s.heap.IsList l3 t)(h:∀h',Z3 h' s.heap.objs.size 0 R G l3 xs f t .none .none .none .none->Kp s.heap h'->Q (.ref (s.heap.objs.size+5)) {s with heap:=h'}):av (aA j w) A (dP (.type "zip") [.ref R,.ref G,.ref l3]) Q E s:=by refine callType_new F.called_zip dk (To _ _ _) (TQ _ _ _) (λa=>SJ a _ _ _) F.entry_zip_new (Tp R G l3 xs f t) ⟨p,C,V,?_⟩;refine gW (ZK p C V) λe H k=>?_;show _/\_;exact O e ⟨⟨_,H.z,rfl⟩,h _ H k⟩
end
section
variable{A:aG}{X:List ah}{B:aB}
noncomputable def pZ(F W K:List T):List T:=(F.zip (W.zip K)).map λp=>.tup [p.1,p.2.1,p.2.2]
theorem Wr{F W K:List T}(h:W.length=F.length)(k:K.length=F.length):(pZ F W K).length=F.length:=by rw[pZ,aI,gP,gP,h,k,nW,nW]
theorem Ws{F W K:List T}{i:Nat}{t:T}(h:(pZ F W K)[i]?=aa t):∃a b c,F[i]?=aa a/\W[i]?=aa b/\K[i]?=aa c/\t=.tup [a,b,c]:=by unfold pZ at h;rw[eS]at h;refine aH (vF.mp h) λp e q=>?_;subst q;exact⟨_,_,_,(zip_get e).1,(zip_get (zip_get e).2).1,(zip_get (zip_get e).2).2,rfl⟩
theorem az.xgh(r:az Y h [t,u,x] d):∃a b c,d=[a,b,c]/\Rep Y h t a/\Rep Y h u b/\Rep Y h x c:=by refine iT (az.zf r) λa b c q=>?_;subst q;exact⟨a,b,c,rfl,r.1,r.2.1,r.2.2.1⟩
theorem X3(S:A.handled=ak){M:List aT}{kk:Nat}{w:aS}{n R G l3:Nat}{Y:List ah}{xs f e:Array aj}{F g K:List T}(p:R<n)(C:G<n)(V:l3<n)(j:xs.size=F.length)(L:g.length=F.length)(l:K.length=F.length)(N:f.size=g.length)(I:e.size=K.length)(U:∀b∈mT n,b∈Y):gz A (n+5) (Ct n R G l3) (mT n) Y (.Tuple M kk w) (pZ F g K) λi h=>(∃a b c,Z3 h n i R G l3 xs f e .none a b c)/\az Y h F xs.toList/\az Y h g f.toList/\az Y h K e.toList:=by
 have W:=J7 (prog:=PW) S n R G l3 p C V xs f e (jP (jP N L) (i6 j)) (jP (jP I l) (i6 j));refine gz.Au (λh=>az Y h F xs.toList/\az Y h g f.toList/\az Y h K e.toList) W (by exact O (Wr L l) (O j rfl)) (λh h' r k=>⟨Mine.az.kp k _ _ r.1,Mine.az.kp k _ _ r.2.1,Mine.az.kp k _ _ r.2.2⟩) (λi v t h Q E r=>?_) (λi h st b m=>?_) U
 .refine uc Q λx y u h1 P D q=>?_;try clear Q;subst q
  refine uc (Ws E) λa b c J s Z q=>?_;subst q;refine⟨_,rfl,?_⟩;exact⟨r.1.get J (by exact O gM h1),r.2.1.get s (by exact O gM P),r.2.2.get Z (by exact O gM D),trivial⟩
 .exact st.elim λa z=>z.elim λc z=>z.elim λd H=>yD (P:=λb=>∃o,h.get? b=aa o) ⟨_,H.z⟩ ⟨_,H.to⟩ (H.i1.imp λo z=>z.1) (H.i2.imp λo z=>z.1) (H.i3.imp λo z=>z.1) b m
theorem ZL(h:A.handled=ak){F W K:List T}{s:au}{xs f t:Array aj}(l:bJ X s.heap)(U:a∉X)(P:G∉X)(j:l3∉X)(p1:s.heap.IsList a xs)(p2:s.heap.IsList G f)(p3:s.heap.IsList l3 t)(S:az X s.heap F xs.toList)(Z:az X s.heap W f.toList)(i:az X s.heap K t.toList)(L:W.length=F.length)(g:K.length=F.length)(H:Z3 h' s.heap.objs.size 0 a G l3 xs f t .none .none .none .none)(V:Kp s.heap h'):jE A X s.heap h' (s.heap.objs.size+5) (Ct s.heap.objs.size a G l3) (mT s.heap.objs.size) (.Tuple D k m) (pZ F W K):=by
 have c:a<s.heap.objs.size:=by refine aH p1 λo e _=>?_;exact dR e
 have fc:G<s.heap.objs.size:=by refine aH p2 λo e _=>?_;exact dR e
 have d:l3<s.heap.objs.size:=by refine aH p3 λo e _=>?_;exact dR e
 have N:∀b∈mT s.heap.objs.size,s.heap.get? b=ak:=yD (get?_none_of_le (e7 _ _)) (get?_none_of_le (e7 _ _)) (get?_none_of_le (cR _)) (get?_none_of_le (dN _)) (get?_none_of_le (e7 _ _));exact⟨ML ⟨_,H.z⟩ ⟨_,H.ti⟩ ⟨_,H.to⟩ (H.i1.imp λo z=>z.1) (H.i2.imp λo z=>z.1) (H.i3.imp λo z=>z.1) (H.l1.imp λo z=>z.1) (H.l2.imp λo z=>z.1) (H.l3.imp λo z=>z.1),ML (l.above (e7 _ _)) (l.above (e7 _ _)) (l.above (e7 _ _)) (l.above (cR _)) (l.above (dN _)) (l.above (e7 _ _)) U P j,N,(J7 (prog:=PW) h _ a G l3 c fc d xs f t (by exact aR dw (aR dw (O S.length (O Z.length (O L rfl))))) (by exact aR dw (aR dw (O S.length (O i.length (O g rfl)))))).sub,λY J C=>⟨_,X3 h c fc d (by exact aR dw (O S.length rfl)) L g (by exact aR dw (O Z.length rfl)) (by exact aR dw (O i.length rfl)) C,⟨_,_,_,H⟩,oh V J N S,oh V J N Z,oh V J N i⟩⟩
theorem Wt(d:A.handled=ak){F W K:List T}{s:au}{xs f t:Array aj}(l:bJ X s.heap)(b:a∉X)(P:G∉X)(h:l3∉X)(p1:s.heap.IsList a xs)(p2:s.heap.IsList G f)(p3:s.heap.IsList l3 t)(S:az X s.heap F xs.toList)(Z:az X s.heap W f.toList)(i:az X s.heap K t.toList)(L:W.length=F.length)(g:K.length=F.length):av (aA PW w) A (dP (.type "zip") [.ref a,.ref G,.ref l3] []) (λx U=>av (aA PW w) A (sE x) (λv J=>Ks s J/\∃I c z,v=.ref I/\jE A X s.heap J.heap I c z (.Tuple D j m) (pZ F W K)) E U) E s:=by refine@VF PW A E s a G l3 xs f t _ p1 p2 p3 λh' H V=>?_;exact@KZ PW w A E _ _ _ _ _ _ H.z ⟨.mk' s h' s.toks V,_,_,_,rfl,ZL d l b P h p1 p2 p3 S Z i L g H V⟩
theorem IC.j8(d:A.handled=ak){F W K:List T}(l:bJ X B)(L:W.length=F.length)(g:K.length=F.length):IC A X B (.type "zip") [.list F,.list W,.list K] (.Tuple D j m) (pZ F W K):=λs E w k r=>by refine uc r.xgh λa b c q S Z i=>?_;subst q;refine cI S.d8 λR xs q U p1 I=>?_;subst q;refine cI Z.d8 λG f q P p2 N=>?_;subst q;refine cI i.d8 λl3 t q h p3 p=>?_;subst q;exact Wt d (l.kp k) U P h p1.isList p2.isList p3.isList I N p L g
end
section
variable{A:aG}{X:List ah}{d:aB}
theorem CA.chr{i:Int}(D:0<=i)(h1:i<=0x10FFFF):CA A X d (.builtin "chr") [.int i] (.str ⟨#[i.toNat]⟩):=λs E K k r=>by refine aE (az.ju r) λv I=>?_;subst I;have r:=r.1;refine aE r.cM λt I=>?_;subst I;exact PySem.P.chr_of_int (by simp;exact iR D h1) ⟨.tok ..,.m8 _ _⟩
theorem CA.min2(a:A.handled=ak):CA A X d (.builtin "min") [.int i,.int j] (.int (if j<i then j else i)):=λs E K k r=>by refine kZ (az.nF r) λv u I=>?_;subst I;have r:=iR r.1 r.2.1;refine aE r.1.cM λt I=>?_;subst I;refine aE r.2.cM λg I=>?_;subst I;refine min_two_ints a λh' G w=>⟨⟨λb o e=>w b o e,rfl⟩,?_⟩;split<;>exact .fO _ _
theorem ZM{l:List Int}:∀{K:List aj},az X h (l.map .int) K->∃ps:List (Int×l8),K=ps.map (λp=>.int p.1 p.2)/\ps.map (·.1)=l:=by induction l with
|nil=>intro K r;cases K with|nil=>exact⟨[],rfl,rfl⟩|cons=>exact r.elim
|cons i l G=>intro K r;cases K with|nil=>exact r.elim|cons v K=>refine aE r.1.cM λt e=>?_;exact(G r.2).elim λps z=>⟨(i,t)::ps,e▸z.1▸rfl,congrArg (i::·) z.2⟩
theorem Ac{l:List Int}(h:∀i x,l[i]?=aa x->f i=x)(j:Nat):j<=l.length->preSum f j=(l.take j).sum:=by induction j with|zero=>exact λ_=>rfl|succ j G=>intro Y;have V:l[j]?=aa l[j]:=cz Y;show preSum f j+f j=_;rw[G (eB Y),h j _ V,List.take_add_one,V,DF];exact congrArg _ List.sum_singleton.symm
theorem FP(f:0<=B){l:List Int}:(∀x∈l,0<=x/\x<B)->0<=l.sum/\l.sum<=B*l.length:=by induction l with|nil=>exact λ_=>by simp|cons x l G=>intro h;have h1:=h x (aQ ..);have J:=G λy m=>h y (aZ _ m);exact O rK (O fC (O (Int.natCast_add ..) (O (xee ..) ⟨yf h1.1 J.1,jM (B*l.length) _▸K1 (gG (kI h1.2) (mE (Nl B).symm)) J.2⟩)))
theorem MM{l:List Int}(I:l.length<=1000)(R:∀x∈l,0<=x/\x<1099511627776)(j:Nat):0<=(l.take j).sum/\(l.take j).sum<2^63:=have t:=FP (B:=1099511627776) dk (l:=l.take j) λx m=>R x (nL m)
⟨t.1,jK (gG t.2 (IX (nV.mpr (O jA (BN I))) dk)) (show(1099511627776:Int)*(1000:Nat)<2^63 by decide)⟩
theorem CA.jd{l:List Int}(z:A.handled=ak)(m:l.length<=1000)(R:∀x∈l,0<=x/\x<1099511627776):CA A X d (.builtin "sum") [LI l] (.int l.sum):=λs E K k r=>by
 refine aE (az.ju r) λv I=>?_;subst I;have r:=r.1;refine cI (Rep.d8 r) λa xs I n p t=>?_;subst I;refine aH (ZM t) λps H L=>?_;have y:xs=intItems ps.toArray:=by apply Nm;refine O H ?_;simp[intItems]
 have f:∀i x,l[i]?=aa x->numAt ps.toArray i=x:=λi x h=>by replace h:=eS▸L.symm▸h;refine aH (vF.mp h) λq h1 J=>?_;unfold numAt;exact O List.getElem?_toArray (O h1 J)
 have P:ps.toArray.size=l.length:=by exact aR L (O (aI ..) (O iX rfl))
 have g:=p.isList;replace g:=y▸g;have u:=λj(_:j<=l.length)=>MM m R j;refine sum_intList z g (λj Y=>?_) λh' G B w=>?_;.replace Y:=P▸Y;have e:=f j _ (cz Y);have b:=R _ (nQ Y);rw[e,Ac f (j+1) Y];have c:=u (j+1) Y;exact⟨⟨fW b.1,eF b.2⟩,⟨fW c.1,c.2⟩⟩
 .exact O P (O (Ac f _ (cR _)) (O Dl ⟨⟨λb o e=>w b o e,rfl⟩,.fO _ _⟩))
end
section
variable{A:aG}{X:List ah}{B:aB}{G:aO}
theorem az.xdv(r:az Y h [t] a):∃v,a=[v]/\Rep Y h t v:=by refine aE (az.ju r) λv I=>?_;subst I;exact⟨v,rfl,r.1⟩
noncomputable def VV(X:List ah)(y:List ai)(F:List T)(v:aj)(h:aB):Prop:=∃r D W t,v=.ref r/\h.IsValuesView r D/\h.DictAt (rJ PW w) D (y.zip W) t/\W.length=y.length/\az X h F W
noncomputable def xO(A:aG)(G:aO)(B:aB)(e:aT)(P:aj->aB->Prop):Prop:=∀(s:au)(E:aj->au->Prop),Kp B s.heap->av (aA PW w) A (aU e G) (λv S=>Ks s S/\P v S.heap) E s
theorem xO.values{m R:aS}(h:EV A G X B o (.dS y g))(P:autoParam (kG o "values" G (aU o G)=aU o G) yAR)(u:autoParam ((m.endLine==R.line)=af) yAR):xO A G B (.Call (.Attribute o "values" m) [] [] R) (VV X y g):=λs E k=>by refine Ez P u (aC (h s E k) (λj U x=>?_) λ_ _ e=>e);refine aW x λV S=>?_;refine n8 (MT.dict Dg xap X U j S) λl a b c d e=>?_;refine⟨l,_,a,b,c,d,e,mh rfl rfl (zI ?_)⟩;refine jN S.qR λD W I n C p f J=>?_;subst I;refine t7 Dg p.typeIs YW (YJ _) (xcu (rJ PW w) D C) ⟨⟨_,p⟩,?_⟩;refine aE p.dictAt λt q=>?_;have i:Kp U.heap (U.heap.push {cls:=.type "dict_values",data:=.fields #[.ref D]}):=λ_ _ e=>bX _ e;exact⟨V.trans (.mk' U _ _ i),_,D,W,t,rfl,⟨_,cF _ rfl,rfl,rfl⟩,q.at' λo e=>i _ _ e,f,az.kp (i.bN X) _ _ J⟩
theorem EV.FQ(l:EV A G X B (.Name x b) (.aJ f))(i:yU f=pure .machine)(V:xO A G B e P)(g:∀(s:au)(E:aj->au->Prop)(v:aj),Kp B s.heap->P v s.heap->av (aA PW w) A (dP f [v] []) (λv S=>Ks s S/\Rep X S.heap r v) E s)(W:autoParam (bq [e] G=(ay,aU e G)::bq [] G) yAR):EV A G X B (.Call (.Name x b) [e] [] a) r:=λs E k=>by
 show av _ _ (do mK a (<-aU (.Name x b) G) [] (cN a (bq [e] G)) (oj a (nZ [] G))) _ _ _;refine aq (aC (l s E k) (λv U x=>?_) λ_ _ e=>e);obtain rfl:=x.2.cS;have M:av (aA PW w) A (fN (cN a (bq [e] G))) (λK S=>Ks U S/\∃v,K=[v]/\P v S.heap) E U:=by refine O W ?_;show av _ _ (fN ((ay,aU e G)::cN a (bq [] G))) _ _ _;refine nY (aC (V U E (k.trans x.1.kp)) (λv J y=>rQ ⟨y.1,v,rfl,y.2⟩) λ_ _ e=>e)
 rw[W]at M⊢;refine mh i (by show(ay||(cN a (bq [] G)).any (·.1))=ay;rfl) (mW (aC M (λK J y=>?_) λ_ _ e=>e));obtain⟨d,v,rfl,h⟩:=y;exact aC (g J E v (k.trans (x.1.trans d).kp) h) (λc j z=>⟨(x.1.trans d).trans z.1,z.2⟩) λ_ _ e=>e
theorem VV.list{y:List ai}{ts:List T}{s:au}(m:A.handled=none)(P:bJ X s.heap)(I:y.length<=100000)(V:y.length=ts.length)(h:VV X y ts v s.heap):av (aA PW w) A (dP (.type "list") [v] []) (λv S=>Ks s S/\Rep X S.heap (.list ts) v) E s:=by
 refine vQ h λr D W t f l U a J=>?_;try clear h;subst f
 have K:(y.zip W).length<=qN:=by exact O dK (O gP (BL (cD I)))
 refine kdl_call (kdl_values (knd:=rJ PW w) (d:=D) (r:=r) (kvs:=y.zip W) (ep:=t)) m ⟨l,U⟩ K λh' d i c b R g=>?_;refine⟨.mk' s h' d b,?_⟩;have e:i.toList=W:=by have h1:=g.1;rw[gP,a,nW]at h1;refine JV λj=>?_;cases Y:i[j]? with|none=>rw[gM,Y,pF];have:=TZ.mp Y;exact jv a (h1▸this)|some u=>refine aE (g.2 j u Y) λk N=>?_;exact O gM (O Y (O (zip_get N).2 rfl))
 exact⟨_,i,rfl,P.new,⟨c,R⟩,by exact O e (az.kp (Kp.bN b X) _ _ J)⟩
theorem VV.sum{y:List ai}{l:List Int}{s:au}(z:A.handled=ak)(V:y.length=l.length)(I:l.length<=1000)(R:∀x∈l,0<=x/\x<1099511627776)(h:VV X y (l.map .int) v s.heap):av (aA PW w) A (dP (.builtin "sum") [v] []) (λv S=>Ks s S/\Rep X S.heap (.int l.sum) v) E s:=by
 refine vQ h λr D W t g K U a p=>?_;try clear h;subst g
 have P:(y.zip W).length=l.length:=O gP (O a (O (nW _) V));have u:=λj(_:j<=l.length)=>MM I R j;have f:∀i x,l[i]?=aa x->(λi=>l.getD i 0) i=x:=λi x h=>by show l.getD i 0=x;refine O cA (O h ?_);rfl
 refine call_sum_walk (xax K U ⟨_,_,_,_,_,_,λi=>l.getD i 0,rfl,YK (A:=A.in1) z s.heap.objs.size D (bS U.lt_size) (y.zip W) t,⟨⟨_,cF _ rfl,rfl,rfl⟩,U.push _⟩,λb m=>?_,λi v Q=>?_,λj Y=>?_,λh' C H N=>?_⟩)
 .have:=U.lt_size;show b<(s.heap.push _).objs.size;refine O (mu ..) ?_;refine bz (bB.mp m) (λn=>?_) λm=>?_;.subst n;exact gA _
  .replace m:=aX.mp m;exact O m (vM this)
 .refine aE Q λk N=>?_;have J:=(zip_get N).2;have F:i<l.length:=by have:=(rC.mp J).1;exact iz this (di (V▸a))
  have d:(l.map T.int)[i]?=aa (.int (l.getD i 0)):=by refine O eS (O cA (O (cz F) ?_));rfl
  exact(p.get d J).cM
 .replace Y:=P▸Y;have e:=f j _ (cz Y);have b:=R _ (nQ Y);rw[Ac f (j+1) Y];have c:=u (j+1) Y;have q:l.getD j 0=l[j]:=e;show InLong (l.getD j 0)/\_;exact O q ⟨⟨fW b.1,eF b.2⟩,⟨fW c.1,c.2⟩⟩
 .refine O P (O (Ac f _ (cR _)) (O Dl ?_));refine⟨⟨λb o e=>N b o (λm=>?_) (bX _ e),rfl⟩,.fO _ _⟩;replace m:=aX.mp m;exact absurd (m▸dR e) (vV _)
end
section
section
variable{j:dz}{A:aG}{E:aj->au->Prop}{s:au}{T:String}{r d:ah}{n:Nat}{P:Nat->aj->Prop}{p:aB->Prop}
noncomputable def xdw(s:au)(P:Nat->aj->Prop)(n:Nat)(q:Result)(S:au):Prop:=∃(h':aB)(G:Nat)(i:Array aj)(c:Nat),q=.ok (.ret (.ref s.heap.objs.size))/\S={s with heap:=h',toks:=G}/\(∀b o,s.heap.get? b=aa o->h'.get? b=aa o)/\h'.get? s.heap.objs.size=aa {cls:=.type "list",dict:=ak,data:=.seq i c,slots:=#[]}/\BI P i n
theorem UU(K:KdlSrc j w T r d n P p)(v:A.handled=ak)(B:p s.heap)(t:n<=qN)(X:∀(h':aB)(G:Nat)(i:Array Value),(∀b o,s.heap.get? b=aa o->h'.get? b=aa o)->BI P i n->Q i.toList {s with heap:=h',toks:=G}):av (aA j w) A (collect (.ref r)) Q E s:=by
 unfold collect;refine aq (wpAny_runValue (tT F.entry_proto_collect ?_));refine O (xX F.plain_proto_collect _) ?_;show av _ A.in1 (uz []>>=λl=>again (.builtin "list.__iadd__" ⟨[l,.ref r],[]⟩)) _ _ s;refine aq (qu ?_);refine aN ⟨vW xaD _,tT VT ?_⟩;refine O (xX xaD _) ?_;show av _ A.in1 (xgW (.ref s.heap.objs.size) (.ref r) (.ref s.heap.objs.size)) _ _ _;have R:(s.heap.push {cls:=.type "list",data:=.seq ([]:List Value).toArray}).get? s.heap.objs.size=aa {cls:=.type "list",data:=.seq #[] 0}:=cF _ rfl;have W:=K.there _ B;refine aC (kdl_extend (A:=A) (R:=xdw s P n) (s:={s with heap:=s.heap.push {cls:=.type "list",data:=.seq ([]:List Value).toArray}}) K v (K.keep _ _ B λb _ o e=>bX _ e) _ (gb W.1) (gb W.2) _ 0 R (λh' G k M N m g=>⟨h',G,k,M,rfl,rfl,λb o e=>N b o (bS (dR e)) (bX _ e),m,g⟩) t) (λI S h=>?_) λe S h=>?_
 .have U:∀h' G i c,(∀b o,s.heap.get? b=aa o->h'.get? b=aa o)->h'.get? s.heap.objs.size=aa {cls:=.type "list",dict:=ak,data:=.seq i c,slots:=#[]}->BI P i n->av (aA j w) A (match Value.ref s.heap.objs.size with
|Value.ref a=>do match(<-load a).data with|Data.seq xs _=>pure xs.toList|_=>AF "internal:collect"
|_=>AF "internal:collect") Q E {s with heap:=h',toks:=G}:=λh' G i c N m g=>by show av _ A (load s.heap.objs.size>>=_) _ _ _;refine aq (A1 m ?_);exact aN (X h' G i N g)
  cases I with|done f=>
refine vQ h λh' G i c q z N m g=>?_;try clear h;subst z
cases q;exact U h' G i c N m g|again M=>exact⟨h.1,codeAny_mono h.2 λq u D=>by
 refine vQ D λh' G i c z y N m g=>?_;try clear D;subst z;subst y
 exact U h' G i c N m g⟩
 .refine Xa h λh' G i c q _=>?_;cases q
theorem Tq(K:KdlSrc j w T r d n P p)(q:A.handled=ak)(B:p s.heap)(f:n<=qN)(h:∀(h':aB)(G:Nat)(i:Array aj),(∀b o,s.heap.get? b=aa o->h'.get? b=aa o)->BI P i n->a (.ref h'.objs.size) {s with heap:=h'.push {cls:=.type "tuple",data:=.seq i},toks:=G})(m:T="dict_values"):pU (aA j w) A (.call (.builtin "tuple.__new__") ⟨[.type "tuple",.ref r],[]⟩) (wants a E) s:=by
 refine L7 ?_;show av _ A.in1 (do tO "tuple.__new__" ⟨[.type "tuple",.ref r],[]⟩;again (.builtin "tuple.__new__" ⟨[.type "tuple",.ref r],[]⟩)) _ _ s;refine aq (wg (F.newCall_tuple_1 _) (aN ⟨vW xaE _,tT F.entry_tuple_new ?_⟩));refine O (xX xaE _) ?_;have k:=sub_tuple_self;have c:=init_tuple_lookup;have l:=madeHere_tuple;subst m;have S:=K.type s B;wp_walk using EB S,UU (A:=A.in1) K (by exact q) B f;intro h' G i N g;show av _ _ (xU i.toList.toArray>>=λv=>ret v) _ _ _;unfold xU;refine aq (qu ?_ (by show i.toList.toArray.size<=qN;simp only[Array.toArray_toList];rw[g.1];exact f));refine aN ?_;have e:i.toList.toArray=i:=by simp
 exact O e (h h' G i N g)
theorem Tr(K:KdlSrc j w T r d n P p)(c:A.handled=ak)(B:p s.heap)(e:n<=qN)(f:T="dict_values")(X:∀(h':aB)(G:Nat)(i:Array aj),(∀b o,s.heap.get? b=aa o->h'.get? b=aa o)->BI P i n->Q (.ref h'.objs.size) {s with heap:=h'.push {cls:=.type "tuple",data:=.seq i},toks:=G}):av (aA j w) A (dP (.type "tuple") [.ref r]) Q E s:=by refine callType_codes (Q₁:=λa U=>U.TypeIs a "tuple"/\Q a U) Me (F.typeCall_tuple_1 _) F.entry_object_init (Tq K c B e (λh' G i N g=>⟨⟨_,cF _ rfl,rfl⟩,X h' G i N g⟩) f) λa U Z=>?_;exact⟨Z.1,YN a _,object_init_meets Me.init.lookup Me.made dk j w A.in1 _ U ⟨Z.1,rfl,Z.2⟩⟩
end
section
variable{A:aG}{X:List ah}{B:aB}{G:aO}
theorem VV.tup{y:List ai}{F:List T}{s:au}(l:A.handled=none)(P:bJ X s.heap)(I:y.length<=100000)(V:y.length=F.length)(h:VV X y F v s.heap):av (aA PW w) A (dP (.type "tuple") [v] []) (λv S=>Ks s S/\Rep X S.heap (.tup F) v) E s:=by
 refine vQ h λr D W t z f U a J=>?_;try clear h;subst z
 have K:(y.zip W).length<=qN:=by exact O dK (O gP (BL (cD I)))
 refine Tr (kdl_values (knd:=rJ PW w) (d:=D) (r:=r) (kvs:=y.zip W) (ep:=t)) l ⟨f,U⟩ K rfl λh' d i c g=>?_;have M:Kp s.heap (h'.push {cls:=.type "tuple",data:=.seq i}):=λb o e=>bX _ (c b o e);refine⟨.mk' s _ d M,?_⟩;have e:i.toList=W:=by have h1:=g.1;rw[gP,a,nW]at h1;refine JV λj=>?_;cases Y:i[j]? with|none=>rw[gM,Y,pF];have:=TZ.mp Y;exact jv a (h1▸this)|some u=>refine aE (g.2 j u Y) λk N=>?_;exact O gM (O Y (O (zip_get N).2 rfl))
 exact⟨_,i,rfl,(P.kp c).new,⟨_,cF _ rfl,rfl,0,rfl⟩,by exact O e (az.kp (Kp.bN M X) _ _ J)⟩
end
end
section
open PySem.MeetsSeq PySem.MeetsSeq2 PySem.MeetsSeq3 PySem.SeqAt PySem.SeqRoads2
section
variable{A:aG}{X:List ah}{h₀:aB}{G:aO}
theorem bE.j5{x y:ai}(I:x.length+y.length<=100000):bE A X h₀ .Add (.str x) (.str y) (.str (x++y)):=λs E a b k Y o=>by obtain⟨t,rfl⟩:=Y.eV;obtain⟨u,rfl⟩:=o.eV;exact xgX (λg c=>⟨.tok ..,.m8 _ _⟩) (by exact O dK (cD I))
noncomputable def zj(c:Nat)(n:Nat):ai:=⟨(eH n c).toArray⟩
theorem LA(c:Nat):∀(n:Nat)(i:Array Nat),(eH n #[c]).foldl (·++·) i=i++(eH n c).toArray|0,i=>by simp|n+1,i=>by rw[C1,pH,LA c n,C1];apply Nm;simp
theorem bE.xbx{n:Int}(h1:1<=n)(J:n<=1000):bE A X h₀ .Mult (.str ⟨#[c]⟩) (.int n) (.str (zj c n.toNat)):=λs E a b k Y o=>by
 refine aE Y.eV λt z=>?_;subst z;refine aE o.cM λu z=>?_;subst z;have V:(⟨#[c]⟩:ai).length=1:=rfl;have H:(2^63-1:Int)/n>=1:=by refine Int.le_ediv_of_mul_le (fW h1) (O (Int.one_mul n) (eF J))
 refine PySem.P.mul_str (by simp;exact⟨fW h1,jK J dk⟩) (λ_ _=>by exact O V (fD.mpr H)) (λ_ _=>?_) ?_;.refine O V ?_;simp only[CO,yo];refine decide_eq_false ?_;exact O dK (tM (PB J))
 .refine O (if_neg (fD.mpr h1)) ?_;by_cases h:n=1;.subst h;rw[if_pos (by rfl)];exact⟨.refl _,.m8 _ _⟩
  .refine O (if_neg (by rw[V];simp[h])) ?_;have:(⟨(eH n.toNat (⟨#[c]⟩:ai).cps).foldl (·++·) #[]⟩:ai)=zj c n.toNat:=by show(⟨(eH n.toNat #[c]).foldl (·++·) #[]⟩:ai)=_;refine O (LA ..) ?_;simp[zj]
   refine O this ?_;refine⟨?_,.tok ..,.m8 _ _⟩;refine O dK ?_;show(eH n.toNat c).toArray.size<=_;exact O iX (O Ji (PB J))
theorem az.take(n:Nat){F:List T}{K:List aj}(r:az X h F K):az X h (F.take n) (K.take n):=az.ind (P:=λF K=>∀n:Nat,az X h (F.take n) (K.take n)) λn=>by refine O xcr (O xcr ?_);trivial (λ_ _ _ _ x _ i n=>by cases n with|zero=>trivial|succ n=>exact⟨x,i n⟩) r n
noncomputable def sS:aj->Int|.int i _=>i|_=>0
theorem D5{l:List Int}:∀{K:List aj},az X h (l.map .int) K->(∀v∈K,∃t,v=.int (sS v) t)/\K.map sS=l:=by induction l with
|nil=>intro K r;cases K with|nil=>exact⟨λ_ m=>absurd m cg,rfl⟩|cons=>exact r.elim
|cons i l a=>intro K r;cases K with|nil=>exact r.elim|cons v K=>refine aE r.1.cM λt z=>?_;subst z;exact⟨both ⟨t,rfl⟩ (a r.2).1,congrArg (i::·) (a r.2).2⟩
theorem LB{l:List Int}{xs:Array aj}(h:xs.toList.map sS=l):xs.any λv=>sS v==i=l.contains i:=by refine aR Array.any_toList (aR h (O List.contains_eq_any_beq (O Mg ?_)));congr 1;funext v;exact Bool.beq_comm
theorem aY.xby{l:List Int}:aY A X h₀ .In (.int i) (LI l) (l.contains i):=λs E a b k Y o=>by refine aE Y.cM λt z=>?_;subst z;refine cI (Rep.d8 o) λm xs z n Q q=>?_;subst z;refine aW (D5 q) λH L=>?_;refine in_listAt (λv=>sS v==i) Q.isList (λy Z=>?_) ⟨.refl _,by rw[LB L]⟩;refine aE (H y (zO.mpr Z)) λu e=>?_;rw[e];exact EqAt.int_int _ _ _ _
theorem aY.xbz{l:List Int}:aY A X h₀ .NotIn (.int i) (.tup (l.map .int)) !l.contains i:=λs E a b k Y o=>by refine aE Y.cM λt z=>?_;subst z;refine cI o.jQ λm xs z n Q q=>?_;subst z;refine aW (D5 q) λH L=>?_;refine notIn_tupleAt (λv=>sS v==i) Q (λy Z=>?_) ⟨.refl _,by exact O (LB L) rfl⟩;refine aE (H y (zO.mpr Z)) λu e=>?_;exact O e (EqAt.int_int _ _ _ _)
theorem CA.xbA{l:List Int}:CA A X h₀ (.builtin "list.count") [LI l,.int i] (.int (l.count i)):=λs E K k r=>by
 refine kZ (az.nF r) λv u z=>?_;subst z;have r:=iR r.1 r.2.1;refine aE r.2.cM λt z=>?_;subst z;refine cI (Rep.d8 r.1) λm xs z a Q q=>?_;subst z;refine aW (D5 q) λH L=>?_;refine aE Q λn g=>?_;refine wj xaF ⟨_,g,rfl⟩ F.entry_list_count (F.args_list_count_2 _ _) (list_countAt m xs n ak #[] (.int i t) λv=>sS v==i) ⟨g,λy Z=>?_,?_⟩;.refine aE (H y (zO.mpr Z)) λu e=>?_;exact O e (EqAt.int_int _ _ _ _)
 .have:xs.toList.countP λv=>sS v==i=l.count i:=by rw[<-L,AE,xau];rfl
  exact O this ⟨.tok ..,.fO _ _⟩
theorem CA.xbB:CA A X h₀ (.builtin "isinstance") [.int i,.aJ (.type "int")] (.bool af):=λs E K k r=>by refine kZ (az.nF r) λv u z=>?_;subst z;have r:=iR r.1 r.2.1;refine aE r.1.cM λt z=>?_;subst z;obtain rfl:=r.2.cS;exact xgJ ⟨.refl _,.AK _⟩
theorem CA.HB{ks:List ai}(I:ks.length<=100000):CA A X h₀ (.builtin "len") [.dS ks vs] (.int ks.length):=λs E w k r=>by
 refine aH r.xdv λv z S=>?_;subst z;refine jN S.qR λD W z n C p a J=>?_;subst z;have e:((ks.zip W).length:Int)=ks.length:=by exact O gP (O a (O (nW ..) rfl))
 refine call_len_dict C p (by exact O e (jK (QZ I) jh)) ?_;exact O e ⟨.tok ..,.fO _ _⟩
theorem bE.xgi{a b:List T}(B:bJ X h₀)(I:a.length+b.length<=100000):bE A X h₀ .Add (.tup a) (.tup b) (.tup (a++b)):=λs E u v k p w=>by
 refine cI p.jQ λl xs z K V q=>?_;subst z;refine cI w.jQ λm f z M Q R=>?_;subst z;have H:xs.size=a.length:=by exact aR dw (O q.length rfl)
 have D:f.size=b.length:=by exact aR dw (O R.length rfl)
 obtain⟨⟨c1,h,N,J⟩,g,Z,n,U⟩:=id V;obtain⟨⟨c2,i,S,j⟩,t,d,P,x⟩:=id Q;simp only at Z U d x;subst Z U d x;have y:∀{xs:Array aj}{F:List T},xs.isEmpty=af->az X s.heap F xs.toList->F=[]:=λ{xs F}L r=>by have h1:xs=#[]:=Array.isEmpty_iff.mp L;rw[h1]at r;have:=r.length;exact CI this.symm
 by_cases c:xs.isEmpty=af;.refine EC ⟨_,g,rfl⟩ ⟨_,t,rfl⟩ K2 Nn Ja I8 (I3 _ _) (tuple_addW0 l m xs f n P h i J j c) ⟨g,t,?_⟩;exact O (y c q) ⟨.refl _,w⟩
 .by_cases C:f.isEmpty=af;.refine EC ⟨_,g,rfl⟩ ⟨_,t,rfl⟩ K2 Nn Ja I8 (I3 _ _) (tuple_addW1 l m xs f n P h i J j c C) ⟨g,t,?_⟩;exact O (y C R) (O (g8 ..) ⟨.refl _,p⟩)
  .refine EC ⟨_,g,rfl⟩ ⟨_,t,rfl⟩ K2 Nn Ja I8 (I3 _ _) (tuple_addW2 l m xs f n P h i J j c C (by exact O dK (G2 I H D))) ⟨g,t,?_⟩;have W:Kp s.heap (s.heap.push {cls:=.type "tuple",data:=.seq (xs++f)}):=λb o e=>bX _ e;refine⟨.push ..,?_⟩;refine⟨_,_,rfl,(B.kp k).new,⟨_,cF _ rfl,rfl,0,rfl⟩,?_⟩;exact O tF (az.append (az.kp (W.bN X) _ _ q) (az.kp (W.bN X) _ _ R))
theorem KR{f:aT}{a u:Option aT}{p R:aS}{T id:String}{s:au}{E Q:aj->au->Prop}(V:jO (.type T) "__getitem__"=pure (aa (.builtin id)))(h:av (aA PW w) A (aU f G) (λo U=>av (aA PW w) A (aU (.Slice a u ak p) G) (λi J=>J.TypeIs o T/\av (aA PW w) A (getItem o i) Q E J) E U) E s):av (aA PW w) A (aU (.Subscript f (.Slice a u ak p) R) G) Q E s:=by refine O (eval_Subscript ..) ?_;refine aq (aC h (λo U Z=>aq (dJ (aC Z (λi J C=>aq (cW ?_)) λ_ _ x=>x))) λ_ _ x=>x);have I:av (aA PW w) A (operate [i,o] (getItem o i)) (λr j=>av (aA PW w) A (Mr f o r>>=λ_=>pure r) Q E j) E J:=wpAny_operating (aC C.2 (λr j D=>aq (wpAny_letTemporaryGo (aN D))) λ_ _ x=>x);first|(refine aq ?_;refine O (getitemInPython_of_ne C.1.not_modules) ?_;refine aq (Mb C.1 V ?_);first|exact aN (aq I)|exact aq (aN (aq I))|exact aq I)|(refine aq (Mb C.1 V ?_);first|exact aq (aN (aq I))|exact aq I)
theorem EV.FT{f u:aT}{p R:aS}{l:List T}{k:Int}(P:bJ X h₀)(K:EV A G X h₀ f (.list l))(Z:EV A G X h₀ u (.int k))(D:0<=k)(I:l.length<=100000):EV A G X h₀ (.Subscript f (.Slice ak (aa u) ak p) R) (.list (l.take k.toNat)):=λs E q=>by
 refine KR (T:="list") list_getitem_lookup (aC (K s E q) (λo U x=>wpAny_Slice (Um (Un (aC (Z U E (q.trans x.1.kp)) (λi J y=>?_) λ_ _ e=>e)))) λ_ _ e=>e);refine aE y.2.cM λt z=>?_;subst z;have r:=Rep.kp (y.1.kp.bN X) _ _ x.2;refine cI r.d8 λm xs z n Q h=>?_;subst z;have H:xs.size=l.length:=by exact aR dw (O h.length rfl)
 refine O (evalPart_none ..) ?_;refine aN ⟨(Q.isList.push _).typeIs,wpAny_getItem_list_slice (Q.isList.push _) (Tv ..) .none (.int k t) .none (by simp) ?_ (O dK (iV I H))⟩;have W:Kp J.heap ((J.heap.push {cls:=.type "slice",data:=.fields #[.none,.int k t,.none]}).push {cls:=.type "list",data:=.seq (slicePick xs ak (aa k) ak)}):=λb o e=>bX _ (bX _ e);refine⟨(x.1.trans y.1).trans (.mk' _ _ _ W),?_⟩;refine⟨_,_,rfl,((P.kp q).kp (x.1.trans y.1).kp).above (by show J.heap.objs.size<=(J.heap.push _).objs.size;exact O (mu ..) (dN _)),⟨_,cF _ rfl⟩,?_⟩;have g:(slicePick xs ak (aa k) ak).toList=xs.toList.take k.toNat:=by have:=slicePick_upto' xs k.toNat;rw[l9 D]at this;exact O this rfl
 exact O g (az.kp (W.bN X) _ _ (az.take k.toNat h))
end
end
section
variable{j:dz}{A:aG}{E:aj->au->Prop}{s:au}
theorem Tt(W:s.heap.IsSliceOf J .none (.int 4 u) .none)(h:Q (0,1,4) s):av (aA j w) A (Builtin.Slice.sliceApplied (.ref J) (pure ((5:Nat):Int))) Q E s:=by refine dm (id W) λP i D m=>?_;unfold Builtin.Slice.sliceApplied Builtin.Slice.sliceFields;refine aq (aq (jn i m (x:=.none) rfl (aq (jn i m (x:=.int 4 u) rfl (aq (jn i m (x:=.none) rfl (aN ?_)))))));refine aq (xgA ?_);show av _ _ (if((1:Int)==0)=af then _ else _) _ _ s;refine O (if_neg dk) ?_;refine aq (xgA (aq (slicePart_int (aq (aN ?_)))));show av _ _ (match Builtin.Slice.sliceAdjust Option.none (aa (4:Int)) 1 ((5:Nat):Int)with|(lo,a)=>pure (lo,(1:Int),Builtin.Slice.slicePlaces lo a 1)) _ _ s;exact O (show Builtin.Slice.sliceAdjust Option.none (aa (4:Int)) 1 ((5:Nat):Int)=(0,4)by decide) (aN h)
theorem S7{f:Array aj}(i:IsTup s.heap t f)(W:s.heap.IsSliceOf J .none (.int 4 u) .none)(y:f.size=5)(h:Q (.ref s.heap.objs.size) {s with heap:=s.heap.push {cls:=.type "tuple",data:=.seq (f.toList.take 4).toArray}}):av (aA j w) A (getItem (.ref t) (.ref J)) Q E s:=by
 have g:sizeOk (.seq (f.toList.take 4).toArray):=by show(f.toList.take 4).toArray.size<=qN;exact O iX (O jA (O dw (O dK (BL (gQ _ _)))))
 refine dm (id W) λP m D o=>?_;have n:s.TypeIs (.ref J) "slice":=⟨P,m,D⟩;unfold getItem;try with_reducible refine dJ ?_
 first|refine aq (aN ?_)|skip
 refine aq (xcv i.typeIs dk ?_);refine aq (xV (name:=nX "__getitem__") i.typeIs Kf (tN Kf i.typeIs entry_tuple_getitem ?_ (args_tuple_getitem _ _)));show av _ _ (xgK (.ref t)>>=_) _ _ s;refine aq (tupleItemsOf_ i ?_);refine aq (EB n ?_);refine O (if_pos dk) ?_;refine O y ?_;refine aq (Tt W ?_);show av _ _ (if((0:Int)==0&&(1:Int)==1&&(4:Nat)==5)=af then _ else _) _ _ s;refine O (if_neg dk) ?_;have e:((gj 4).filterMap λ(k:Nat)=>f[((0:Int)+(k:Int)*1).toNat]?).toArray=(f.toList.take 4).toArray:=by cases f with|mk l=>simp only[iX]at y;refine n7 (oM y) λa b c d e z=>?_;subst z;rfl
 refine O e ?_;first|exact aq (m:=xU _) (qu (aN ⟨_,rfl,aN h⟩) g)|exact aq (m:=xU _) (qu (aq (aN (aN ⟨_,rfl,aN h⟩))) g)|exact aq (aq (m:=xU _) (qu (aN (aN ⟨_,rfl,aN h⟩)) g))|exact aq (aq (m:=xU _) (qu (aN ⟨_,rfl,aN h⟩) g))
end
section
variable{A:aG}{X:List ah}{B:aB}{G:aO}
theorem EV.ZN(P:bJ X B)(K:EV A G X B f (.tup [a,b,c,d,e]))(Z:EV A G X B u (.int 4)):EV A G X B (.Subscript f (.Slice ak (aa u) ak p) g) (.tup [a,b,c,d]):=λs E q=>by
 refine KR (T:="tuple") Kf.lookup (aC (K s E q) (λo U x=>wpAny_Slice (Um (Un (aC (Z U E (q.trans x.1.kp)) (λi J y=>?_) λ_ _ e=>e)))) λ_ _ e=>e);refine aE y.2.cM λt z=>?_;subst z;have r:=Rep.kp (y.1.kp.bN X) _ _ x.2;refine cI r.jQ λm xs z n Q h=>?_;subst z;have H:xs.size=5:=by refine aR dw (O h.length ?_);rfl
 refine O (evalPart_none ..) ?_;have k:IsTup (J.heap.push {cls:=.type "slice",data:=.fields #[.none,.int 4 t,.none]}) m xs:=IsTup.keeps (h:=J.heap) Q λ_ _ e=>bX _ e;refine aN ⟨IsTup.typeIs k,S7 k (Tv ..) H ?_⟩;have W:Kp J.heap ((J.heap.push {cls:=.type "slice",data:=.fields #[.none,.int 4 t,.none]}).push {cls:=.type "tuple",data:=.seq (xs.toList.take 4).toArray}):=λb o e=>bX _ (bX _ e);refine⟨(x.1.trans y.1).trans (.mk' _ _ _ W),?_⟩;refine⟨_,_,rfl,((P.kp q).kp (x.1.trans y.1).kp).above (by show J.heap.objs.size<=(J.heap.push _).objs.size;exact O (mu ..) (dN _)),⟨_,cF _ rfl,rfl,0,rfl⟩,?_⟩;exact az.kp (W.bN X) _ _ (az.take 4 h)
end
section
variable{A:aG}{G:aO}{X g:List ah}{P:Gm}{I:List ah->aB->Prop}
noncomputable def zC(A:aG)(G:aO)(X:List ah)(s:au)(g:List ah)(I:List ah->aB->Prop)(e:aT)(t:T):Prop:=∃j,w4 G e j/\∀(N:Option (aj->bh Unit))(Q E:aj->au->Prop),(∀D C a m,bu g s a->I (D::C::X) a.heap->s.heap.get? D=ak->s.heap.get? C=ak->D≠C->a.heap.Ns C m->fz (D::C::X) D a.heap t->GV (aA PW w) A E N Q (.ref D) C (.ok .next) a)->av (aA PW w) A (j N) Q E s
theorem zC.yq{L:Type}{s:au}{elt Z u:aT}{j:dW}{R:aS}{t:List L}{kf:L->T}{f:L->T}{cV:L->Gm}(iS:∀Y h,Kp s.heap h->(∀a∈Y,s.heap.get? a=ak\/a∈X)->I Y h)(F:∀Y h h',bg Y h h'->(∀b∈g,∀o,h.get? b=aa o->h'.get? b=aa o)->I Y h->I Y h')(iL:∀Y H h,(∀a∈H,a∈Y)->I Y h->I H h)(p:∀a∈g,a∈X)(r:∀a∈g,a∉aM G)(c:CX X s.heap G P)(ok:i8 j G=af)(hi:IT A G X s.heap u Z (t.map kf))(z:∀a∈t,TG A j G Z (kf a) (dU j G P) (cV a))(q:∀a∈t,∀C n Y U E,CX Y U.heap (dO j n C G) (cV a)->(∀x∈X,x∈Y)->bg g s.heap U.heap->I Y U.heap->av (aA PW w) A (aU elt (dO j n C G)) (λv l=>bu g U l/\I Y l.heap/\(∀b∈g,∃o,l.heap.get? b=aa o)/\Rep Y l.heap (f a) v) E U)(N:t.length<=100000)(hs:autoParam (∀x,g7 u G x=pure x) yAI):zC A G X s g I (.ListComp elt [⟨Z,u,[],0⟩] j R) (.list (t.map f)):=⟨_,.list,λuse Q E d=>by replace d:=EH.symm▸d;refine Ak (as:=t) (kf:=kf) (cV:=cV) p r (aL.ok F iL) c ok .list hi rfl (λ_ _ _=>DW) z8 (λh=>cF _ rfl) (λh Y k y=>⟨⟨#[],⟨0,cF _ rfl⟩,trivial⟩,iS _ _ (λb o e=>bX _ (k b o e)) y⟩) z (λa m C n Y h M J=>TS.nil) (λC n V D S a m _=>.pX (λY U E M hY J i=>q a m C n Y U E M (Cg (a:=0) hY) J i) F (λb m=>(bB.mp m).elim (λe=>e▸aQ ..) λm=>aZ _ (cK _ (p b m))) S.off S.nP) ?_ (λD C l m ks W hC hn B K=>d D C l m ks K.2 W hC hn B K.1) hs;refine O EH ?_;exact bf (di (aI f)) N⟩
end
section
variable{A:aG}{H g:List ah}{N d s S:au}{Z:List ah}{G:aO}{P r:Gm}{M:List (ah×T)}{E:aj->au->Prop}{I:List ah->aB->Prop}
theorem CX.xbC{h h':aB}(c:CX X h G P)(k:bg Y h h')(j:∀a∈aM G,a∉Y)(w:∀a∈Y,a∈X)(u:∀a∈Y,∃o,h'.get? a=aa o)(K:∀a∈B,h.get? a=ak)(l:∀a∈B,∃o,h'.get? a=aa o):CX (B++X) h' G P:=by
 have c1:=c.dM k j w (c.live.dM k u);have i:∀b,(∃o,h.get? b=aa o)->b∉B:=λb⟨o,e⟩m=>by exact gone e (K b m)
 have f:∀{b},b∈X->b∈B++X:=λm=>cK _ m;exact⟨⟨c1.ok.fn,c1.ok.ns,f c1.ok.loc,λm=>(bD.mp m).elim (i _ c.eZ.1) c.ok.eN,λm=>(bD.mp m).elim (i _ c.eZ.2) c.ok.blt,c1.ok.cell,λx q m=>f (c.ok.own x q m),c.ok.apart,c.ok.off⟩,λb m=>(bD.mp m).elim (l b) (c1.live b),c1.eZ,λx t e=>(c.val x t e).imp λv z=>⟨Rep.kp (k.mono λb m=>f (w b m)) t v (Rep.wide (λb m=>(bD.mp m).imp (K b) id) t v z.1),z.2.dM k c.ok j w⟩⟩
theorem FS.ZO(f:FS H N d s Z G P M)(u:∀b∈g,b∈H)(V:∀b∈g,b∉Z)(l:∀b∈g,N.heap.get? b=ak)(k:bu g s S)(i:∀b∈g,∃o,S.heap.get? b=aa o)(K:∀a∈Y,s.heap.get? a=ak)(c:∀a∈Y,∃o,S.heap.get? a=aa o):FS H N S S (Y++Z) G P M:=by
 have T:∀b∈g,b∈Z++H:=λb m=>cK _ (u b m);refine⟨f.ks.qk k l,.refl _ S,λa m=>(bD.mp m).elim (λm=>g9 f.ks.kp (K a m)) (f.new a),λa m=>cK _ (f.own a m),?_,λp m=>⟨cK _ (f.acc p m).1,(f.acc p m).2.1,?_⟩,f.nd⟩;.exact O (fT ..) (f.cx.xbC k.kp (λa m n=>V a n (f.own a m)) T i K c)
 .exact O (fT ..) ((f.acc p m).2.2.map (λa o n e=>⟨λm=>(bD.mp m).elim (λm=>gone e (K a m)) n,k.kp a o (λm=>n (T a m)) e⟩) λo e=>k.kp _ o (λn=>V _ n (f.acc p m).1) e)
theorem FS.X4{x:ai}{e:aT}{c R:aS}{t:T}{Q:ek->au->Prop}(f:FS H N d s Z G P M)(u:∀b∈g,b∈H)(V:∀b∈g,b∉Z)(l:∀b∈g,N.heap.get? b=ak)(W:∀Y h,I Y h->∀b∈g,∃o,h.get? b=aa o)(y:∀Y h h',bg Y h h'->(∀b∈g,∀o,h.get? b=aa o->h'.get? b=aa o)->I Y h->I Y h')(U:∀Y j h,(∀a∈j,a∈Y)->I Y h->I j h)(K:G.kindOf x=aa .local\/G.kindOf x=aa .cell)(hw:dh G x∈aM G)(L:zC A G (Z++H) s g I e t)(X:∀S,FS H N S S Z G (upd P x t) M->I (Z++H) S.heap->Q .next S)(hs:autoParam (lG e (aa (.Name x c)) R.line G=pure af) yAR):av (aA PW w) A (dY (.Assign [.Name x c] e R) G) Q E s:=L.elim λct L=>(L.1 A s E).2 Q x c R hs (L.2 _ _ E λD C S m ks F i J hn n v=>(f.ZO (Y:=[D,C]) u V l ks (W _ _ F) (both i (one J)) (both v.up (one (n.imp λ_ z=>z.elim λ_ z=>z.elim λ_ z=>z.1)))).EK K hw f.own (λp m=>(f.acc p m).1) (f.rj i) (f.rj J) hn n v λS B k=>X S (B.NR f.own (λp m=>(f.acc p m).1) (f.rj i)) (U _ _ _ (λa m=>aZ _ (aZ _ m)) (y _ _ _ (k.kp.mono λa m=>aZ _ ((bB.mp m).elim (λe=>e▸aQ ..) λm=>aZ _ (bI _ (f.own a m)))) (λb m o=>k.kp b o λq=>(bB.mp q).elim (λe=>f.rj J (e▸cK _ (u b m))) λq=>V b m (f.own b q)) F)))
end
noncomputable def uh:List Int:=[6372,3297,8420,1323,6804]
noncomputable def pS(n:Nat)(a:Int):List Int:=(gj (pC a (if(n:Int)<60 then n else 60) 5).toNat).map λi:Nat=>a+(i:Int)*5
def nv(p:List Int)(a:Int):List Int:=(pS p.length a).map λk=>(gi p k).fmod (10^9)
def pT(p:List Int):List Int:=(en 0 uh).map λq=>q.2+(nv p q.1).sum
noncomputable def gV:List (List ai):=[[⟨#[102,105]⟩,⟨#[70,105]⟩,⟨#[64257]⟩,⟨#[102,173,73]⟩],[⟨#[107]⟩,⟨#[75]⟩,⟨#[8490]⟩,⟨#[119818,65039]⟩],[⟨#[223]⟩,⟨#[115,83]⟩,⟨#[83,8203,115]⟩,⟨#[115,115]⟩],[⟨#[64261]⟩,⟨#[64262]⟩,⟨#[83,84]⟩,⟨#[115,8288,116]⟩],[⟨#[8481]⟩,⟨#[84,69,76]⟩,⟨#[116,6155,101,108]⟩,⟨#[116,101,108]⟩]]
noncomputable def wR:T:=.tup (gV.map λr=>.tup (r.map .str))
def wordAt(I a:Int):ai:=(gV.getD I.toNat []).getD ((a.fdiv 1024).fmod 4).toNat ""
def kW(f:List Int):List ai:=(en 0 f).map λq=>wordAt q.1 q.2
def jr(f:List Int):List Int:=(en 0 f).map λq=>(q.2.fdiv 12288+5*q.1).fmod 27
noncomputable def uq:List Int:=[173,847,6150,6155,6156,6157,8203,8204,8205,8288,65279]
def kO(p:Int):ai:=⟨#[(if p<11 then uq.getD p.toNat 0 else 65013+p).toNat]⟩
def mQ(c:Int):ai:=(["\n","\r","\r\n"]:List ai).getD ((c.fdiv 4096).fmod 3).toNat ""
def fK(f:List Int):List (List Int):=(en 0 f).map λq=>cY q.2 q.1
def um(j w e:ai):ai:=j++e++e++"."++w++e++"."
noncomputable def j8{L N P i:Type}(f:L->N->P->i)(t:List L)(z:List N)(F:List P):List i:=(t.zip (z.zip F)).map λp=>f p.1 p.2.1 p.2.2
def jt(f:List Int):List ai:=j8 um ((jr f).map kO) (kW f) (f.map mQ)
abbrev aV(L:ah):aO:=cy B3 L 266
abbrev fP(k:Nat):c6:=sN (bodyOf (aP PW 27)) k
section
variable{A:aG}{X:List ah}{h:aB}{P:Gm}{L:ah}
theorem DN(D:0<=place)(h1:b<=60):0<=pC place b 5/\pC place b 5<=60/\∀i:Nat,(i:Int)<pC place b 5->place+i*5<b:=by
 unfold pC;refine O (if_pos (by decide)) ?_;by_cases h:place<b;.refine O (if_pos h) ?_;have R:=Jt (Int.sub_pos_of_lt h);exact⟨yf (Int.ediv_nonneg R jh) jh,WY (jK (Int.ediv_le_self _ R) (WX (gG (xaG b D) h1))),λi F=>Int.add_lt_of_lt_sub_left (Int.lt_of_le_sub_one ((Int.le_ediv_iff_mul_le dk).mp (xY F)))⟩
 .exact O (if_neg h) ⟨jh,jh,λi F=>absurd F (fD.mpr (iO i))⟩
theorem xP{n:Nat}:(if(n:Int)<60 then(n:Int)else 60)<=60/\(if(n:Int)<60 then(n:Int)else 60)<=n/\0<=if(n:Int)<60 then(n:Int)else 60:=by
 by_cases h:(n:Int)<60;.exact O (if_pos h) ⟨kI h,t9 _,iO n⟩
 .exact O (if_neg h) ⟨t9 _,fD.mp h,jh⟩
theorem X5(Q:0<=place)(m:k∈pS n place):0<=k/\k<n/\k<60:=by unfold pS at m;refine aH (bF.mp m) λi F z=>?_;subst z;have F:=rI.mp F;have:=(DN Q xP.1).2.2 i (Ml.mp F);exact⟨yf Q (Int.mul_nonneg (iO i) jh),qs this xP.2.1,qs this xP.1⟩
theorem KS(n:Nat)(Q:0<=place):(pS n place).length<=60:=by unfold pS;exact O (aI ..) (O x8 (Ec.mpr (DN Q xP.1).2.1))
theorem EW(m:x∈nv p place):0<=x/\x<1000000000:=by unfold nv at m;refine aH (bF.mp m) λk _ z=>?_;subst z;exact⟨vH _ dk,rF _ dk⟩
theorem D6(m:q∈en 0 uh):0<=q.1/\q.1<5/\0<=q.2/\q.2<10000:=by have:∀q∈en 0 uh,0<=q.1/\q.1<5/\0<=q.2/\q.2<10000:=dk;exact this q m
theorem X6{p:List Int}(d:A.handled=ak)(c:CX X h (aV L) P)(f:P "script"=aa (LI p))(j:P "enumerate"=aa (.aJ (.type "enumerate")))(r:P "sum"=aa (.aJ (.builtin "sum")))(U:P "range"=aa (.aJ (.type "range")))(s:P "min"=aa (.aJ (.builtin "min")))(y:P "len"=aa (.aJ (.builtin "len")))(l:p.length<=63):CU A (aV L) X h (valOf (fP 0)) (LI (pT p)):=by
 have e:LI (pT p)=.list (((en 0 uh).filter λ_=>af).map λq=>.int (q.2+(nv p q.1).sum)):=by unfold pT LI;rw[fE,bO]<;>rfl
 refine O e ?_;refine CU.l2 (kf:=λq:Int×Int=>.int q.1) (kg:=λq:Int×Int=>.int q.2) (as:=en 0 uh) (p:=λ_=>af) (f:=λq=>.int (q.2+(nv p q.1).sum)) d c ?_ (λa m C F Y h c k=>TS.nil) (λq m _ C F Y h c J k=>?_) dk
 .have:(en 0 uh).map (λq:Int×Int=>T.tup [.int q.1,.int q.2])=jX 0 (uh.map .int):=by exact O uf rfl
  exact O this (IT.cQ (EV.glob c (by exact j)) rfl (EL.cons (EV.tup c.live (EL.cons EV.int (EL.cons EV.int (EL.cons EV.int (EL.cons EV.int (EL.cons EV.int EL.nil)))))) EL.nil) (IC.VE d c.live))
 .refine EV.bin (EV.name c) (EV.cQ (EV.glob c (by exact r)) rfl (EL.cons (ts:=[]) ?_ EL.nil) (CA.jd (l:=nv p q.1) d ?_ ?_)) bE.add
  .have B:=D6 m;have n:=xP (n:=p.length);have I:=DN B.1 n.1;have g:LI (nv p q.1)=.list (((pS p.length q.1).filter λ_=>af).map λk=>.int ((gi p k).fmod (10^(9:Int).toNat))):=by unfold nv LI;rw[fE,bO]<;>rfl
   refine O g ?_;refine EF.ev (CU.ef (CU.l1 (kf:=.int) (as:=pS p.length q.1) (p:=λ_=>af) (f:=λk=>.int ((gi p k).fmod (10^(9:Int).toNat))) c ?_ (λa m C F Y h c k=>TS.nil) (λk mk _ C F Y h c J u=>?_) (cD (KS _ B.1)) (by kernel_rfl)) c.live)
   .have t:(pS p.length q.1).map T.int=pA q.1 5 (pC q.1 (if(p.length:Int)<60 then(p.length:Int)else 60) 5).toNat:=by unfold pS pA;refine O bO ?_;rfl
    refine O t ?_;refine IT.cQ (EV.glob c (by exact U)) rfl (EL.cons (EV.name c) (EL.cons (EV.cQ (EV.glob c (by exact s)) rfl (EL.cons EV.int (EL.cons (EV.cQ (EV.glob c (by exact y)) rfl (EL.cons (EV.name c (by exact f)) EL.nil) (CA.zg (O (aI ..) (cD l)))) EL.nil)) (CA.min2 d)) (EL.cons EV.int EL.nil))) ?_;refine O (aI ..) ?_;refine IC.xaU d rfl c.live dk ?_ (l9 I.1).symm (noPylong dk);have o:∀i:Int,-1000<=i->i<=1000->SK i=af:=λi a b=>by unfold SK;exact O (dZ ..) (O decide_eq_true_eq (O decide_eq_true_eq ⟨gG jh a,jK b dk⟩))
    unfold I9;rw[o _ (fW B.1) (eF (kI B.2.1)),o _ (fW n.2.2) (eF n.1),o 5 dk dk,o _ (fW I.1) (eF I.2.1),if_pos (show(5:Int)>0 by decide),o _ (fW (yf n.2.2 jh)) (eF (xZ n.1 _))];simp
   .have N:=X5 B.1 mk;exact EV.bin (EV.gi (EV.name c (by exact f)) (EV.name c) N.1 N.2.1 (cD l)) (EV.bin EV.int EV.int (bE.pow dk dk)) (bE.fmod dk)
  .unfold nv;exact O (aI ..) (cD (KS _ (D6 m).1))
  .exact λx S=>⟨(EW S).1,mY (EW S).2 dk⟩
end
section
variable{A:aG}{H:List ah}{N B s:au}{Z:List ah}{G:aO}{P:Gm}{M:List (ah×T)}{E:aj->au->Prop}
theorem FS.EX(xs:List ai){ps:List aS}{a D:List aT}{k:Nat}{c:Nat}{l i R:aS}{F:List T}{Q:ek->au->Prop}(d:A.handled=ak)(f:FS H N B s Z G P M)(L:EL A G (Z++H) s.heap l D F)(V:xs.length=F.length)(I:F.length<=100000)(X:∀J,FS H N B J Z G (bQ P xs F) M->Q .next J)(Y:∀x∈xs,(G.kindOf x=aa .local\/G.kindOf x=aa .cell)/\dh G x∈aM G)(b:autoParam (ps.length=xs.length) yAR)(g:autoParam (pI a G=(xs.zip ps).map λy=>(ay,fV (.Name y.1 y.2) G)) yAR)(W:autoParam (rO [.Tuple a k i] (.Tuple D c l) R.line G=pure ay) yAR)(C:autoParam (rP [.Tuple a k i] (.Tuple D c l) G=pure ak) yAR):av (aA PW w) A (dY (.Assign [.Tuple a k i] (.Tuple D c l) R) G) Q E s:=FS.DY xs d (aC (L s E λ_ _ e=>e) (λK U y=>⟨Z,M,F,f.step y.1,y.2,V,I,X⟩) λ_ _ e=>e) Y b g W C
theorem FS.X7(xs:List ai){a D:List aT}{k:Nat}{c:Nat}{l i R:aS}{F:List T}{Q:ek->au->Prop}(d:A.handled=ak)(f:FS H N B s Z G P M)(L:EL A G (Z++H) s.heap l D F)(V:xs.length=F.length)(I:F.length<=100000)(X:∀J,FS H N B J Z G (bQ P xs.reverse F.reverse) M->Q .next J)(Y:∀x∈xs,(G.kindOf x=aa .local\/G.kindOf x=aa .cell)/\dh G x∈aM G)(W:autoParam (rO [.Tuple a k i] (.Tuple D c l) R.line G=pure ay) yAR)(C:autoParam (rP [.Tuple a k i] (.Tuple D c l) G=pure (aa xs)) yAR):av (aA PW w) A (dY (.Assign [.Tuple a k i] (.Tuple D c l) R) G) Q E s:=FS.Em xs d (aC (L s E λ_ _ e=>e) (λK U y=>⟨Z,M,F,f.step y.1,y.2,V,I,X⟩) λ_ _ e=>e) Y W C
end
def gS(p:List Int):Gm:=bQ (eX (d9 (aP PW 27)) G0) ["script"] [LI p]
section
variable{A:aG}{X:List ah}{h:aB}{P:Gm}{L:ah}{E:aj->au->Prop}
noncomputable abbrev tn(L:ah):Prop:=∀x,lk 27 x=aa .local\/lk 27 x=aa .cell->((aV L).kindOf x=aa .local\/(aV L).kindOf x=aa .cell)/\dh (aV L) x∈aM (aV L)
theorem EY{a b:Int}(h:0<b):0<=a.fmod b/\a.fmod b<b:=⟨vH _ h,rF _ h⟩
theorem EZ{l:List Int}(V:l.length=5)(m:q∈en 0 l):0<=q.1/\q.1<5:=by refine aH (rX m) λk e h=>?_;have:=(rC.mp h).1;exact jo7 this V e
theorem zD{l:List Int}:(en 0 l).map (λq:Int×Int=>T.tup [.int q.1,.int q.2])=jX 0 (l.map .int):=by exact O uf rfl
theorem IT.Bu(d:A.handled=ak)(c:CX X h G P)(g:P "enumerate"=aa (.aJ (.type "enumerate")))(a:EV A G X h e (LI l))(H:mP G "enumerate"=af)(W:autoParam (bq [e] G=(ay,aU e G)::bq [] G) yAR):IT A G X h (.Call (.Name "enumerate" f) [e] [] b) (.Tuple D j m) ((en 0 l).map λq:Int×Int=>T.tup [.int q.1,.int q.2]):=by exact O zD (IT.cQ (EV.glob c g H) rfl (EL.cons a EL.nil W) (IC.enumerate d c.live) W)
noncomputable def xbD:T:=.tup [.tup [.str "fi",.str "Fi",.str "\ufb01",.str "f\xadI"],.tup [.str "k",.str "K",.str "\u212a",.str "𝐊\ufe0f"],.tup [.str "\xdf",.str "sS",.str "S\u200bs",.str "ss"],.tup [.str "\ufb05",.str "\ufb06",.str "ST",.str "s\u2060t"],.tup [.str "\u2121",.str "TEL",.str "t\u180bel",.str "tel"]]
theorem Wu:wR=xbD:=by kernel_rfl
theorem X8(l:bJ X h):EV A (aV L) X h (valOf (fP 1)) wR:=by refine O Wu (O (show valOf (fP 1)=xhh _ _ _ from rfl) ?_);have f:∀{H a g b:ai}{V M r v:Nat}{p1 p2 p3 d e:aS}{c:Nat},EV A (aV L) X h (.Tuple [.Constant (.str H) V p1,.Constant (.str a) M p2,.Constant (.str g) r p3,.Constant (.str b) v d] c e) (.tup [.str H,.str a,.str g,.str b]):=λ{_ _ _ _ _ _ _ _ _ _ _ _ _ _}=>@EV.tup _ _ _ _ _ _ _ _ l (@EL.cons _ _ _ _ _ _ _ _ _ (@EV.str _ _ _ _ _ _ _) (@EL.cons _ _ _ _ _ _ _ _ _ (@EV.str _ _ _ _ _ _ _) (@EL.cons _ _ _ _ _ _ _ _ _ (@EV.str _ _ _ _ _ _ _) (@EL.cons _ _ _ _ _ _ _ _ _ (@EV.str _ _ _ _ _ _ _) (@EL.nil _ _ _ _ _) rfl) rfl) rfl) rfl) (by simp);exact@EV.tup _ _ _ _ _ _ _ _ l (@EL.cons _ _ _ _ _ _ _ _ _ f (@EL.cons _ _ _ _ _ _ _ _ _ f (@EL.cons _ _ _ _ _ _ _ _ _ f (@EL.cons _ _ _ _ _ _ _ _ _ f (@EL.cons _ _ _ _ _ _ _ _ _ f (@EL.nil _ _ _ _ _) rfl) rfl) rfl) rfl) rfl) dk
end
theorem map_getD{L N:Type}{l:List L}{f:L->N}{i:Nat}{d:L}(h:i<l.length):(l.map f)[i]?=aa (f (l.getD i d)):=by refine O eS (O cA (O (cz h) ?_));rfl
theorem toNat_lt{i:Int}{n:Nat}(h:0<=i)(h1:i<n):i.toNat<n:=iu h h1
theorem Wv{I:Int}(h:0<=I)(h1:I<5):(gV.getD I.toNat []).length=4:=by have:∀n:Nat,n<5->(gV.getD n []).length=4:=dk;exact this _ (toNat_lt h h1)
section
variable{A:aG}{X:List ah}{h:aB}{P:Gm}{L:ah}{E:aj->au->Prop}
theorem Yb{f:List Int}(d:A.handled=ak)(y:f.length=5)(c:CX X h (aV L) P)(b:P "kinds"=aa wR)(w:P "cells"=aa (LI f))(B:P "enumerate"=aa (.aJ (.type "enumerate"))):CU A (aV L) X h (sM (valOf (fP 2)) 1) (bZ (kW f)):=by
 have e:bZ (kW f)=.list (((en 0 f).filter λ_=>af).map λq=>.str (wordAt q.1 q.2)):=by unfold kW bZ;refine O (fE ..) (O bO ?_);rfl
 refine O e ?_;refine CU.l2 (kf:=λq:Int×Int=>.int q.1) (kg:=λq:Int×Int=>.int q.2) (as:=en 0 f) (p:=λ_=>af) (f:=λq=>.str (wordAt q.1 q.2)) d c (IT.Bu d c B (EV.name c (by exact w)) (by kernel_rfl)) (λa m C F Y h c k=>TS.nil) (λq m _ C F Y h c J k=>?_) (by refine aR (aI (f:=λq:Int×Int=>T.tup [.int q.1,.int q.2])) (O zD (O v7 (O (aI ..) (O y ?_))));decide);refine aW (EZ y m) λD h1=>?_;have N:=Wv D h1;have l:=EY (a:=q.2.fdiv 1024) (b:=4) dk;exact EV.sub (EV.sub (EV.name c (by exact b)) (EV.name c) (cU.tup D (eF h1) (map_getD (l:=gV) (f:=λr=>T.tup (r.map .str)) (d:=[]) (toNat_lt D h1)))) (EV.bin (EV.bin (EV.name c) EV.int (bE.uD dk dk)) EV.int (bE.uE dk)) (cU.tup l.1 (eF l.2) (map_getD (l:=gV.getD q.1.toNat []) (f:=T.str) (d:="") (by exact O N (toNat_lt l.1 l.2))))
theorem Yc{f:List Int}(d:A.handled=ak)(y:f.length=5)(c:CX X h (aV L) P)(w:P "cells"=aa (LI f))(B:P "enumerate"=aa (.aJ (.type "enumerate"))):CU A (aV L) X h (valOf (fP 3)) (LI (jr f)):=by
 have e:LI (jr f)=.list (((en 0 f).filter λ_=>af).map λq=>.int ((q.2.fdiv 12288+5*q.1).fmod 27)):=by unfold jr LI;refine O (fE ..) (O bO ?_);rfl
 refine O e ?_;refine CU.l2 (kf:=λq:Int×Int=>.int q.1) (kg:=λq:Int×Int=>.int q.2) (as:=en 0 f) (p:=λ_=>af) (f:=λq=>.int ((q.2.fdiv 12288+5*q.1).fmod 27)) d c (IT.Bu d c B (EV.name c (by exact w)) (by kernel_rfl)) (λa m C F Y h c k=>TS.nil) (λq m _ C F Y h c J k=>?_) (by refine aR (aI (f:=λq:Int×Int=>T.tup [.int q.1,.int q.2])) (O zD (O v7 (O (aI ..) (O y ?_))));decide);exact EV.bin (EV.bin (EV.bin (EV.name c) EV.int (bE.uD dk dk)) (EV.bin EV.int (EV.name c) (bE.zh dk)) bE.add) EV.int (bE.uE dk)
theorem ZP{f:List Int}(d:A.handled=ak)(y:f.length=5)(c:CX X h (aV L) P)(w:P "cells"=aa (LI f)):CU A (aV L) X h (valOf (fP 5)) (bZ (f.map mQ)):=by
 have e:bZ (f.map mQ)=.list ((f.filter λ_=>af).map λq=>.str (mQ q)):=by unfold bZ;refine O (fE ..) (O bO ?_);rfl
 refine O e ?_;refine CU.l1 (kf:=.int) (as:=f) (p:=λ_=>af) (f:=λq=>.str (mQ q)) c (IT.list d (.inl rfl) c.live (EV.name c (by exact w))) (λa m C F Y h c k=>TS.nil) (λq m _ C F Y h c J k=>?_) (by refine O y ?_;decide);have l:=EY (a:=q.fdiv 4096) (b:=3) dk;exact EV.sub (EV.tup c.live (EL.cons EV.str (EL.cons EV.str (EL.cons EV.str EL.nil)))) (EV.bin (EV.bin (EV.name c) EV.int (bE.uD dk dk)) EV.int (bE.uE dk)) (cU.tup l.1 (eF l.2) (map_getD (l:=(["\n","\r","\r\n"]:List ai)) (f:=T.str) (d:="") (toNat_lt l.1 l.2)))
theorem VG{b:List Int}(d:A.handled=ak)(y:b.length=5)(Q:∀p∈b,0<=p/\p<27)(c:CX X h (aV L) P)(w:P "picks"=aa (LI b))(B:P "chr"=aa (.aJ (.builtin "chr"))):CU A (aV L) X h (valOf (fP 4)) (bZ (b.map kO)):=by
 have e:bZ (b.map kO)=.list ((b.filter λ_=>af).map λq=>.str (kO q)):=by unfold bZ;refine O (fE ..) (O bO ?_);rfl
 refine O e ?_;refine CU.l1 (kf:=.int) (as:=b) (p:=λ_=>af) (f:=λq=>.str (kO q)) c (IT.list d (.inl rfl) c.live (EV.name c (by exact w))) (λa m C F Y h c k=>TS.nil) (λq m _ C F Y h c J k=>?_) (by refine O y ?_;decide);refine aW (Q q m) λD h1=>?_;have W:∀n:Nat,n<11->0<=uq.getD n 0/\uq.getD n 0<=65279:=dk;have R:0<=(if q<11 then uq.getD q.toNat 0 else 65013+q)/\(if q<11 then uq.getD q.toNat 0 else 65013+q)<=0x10FFFF:=by
  by_cases g:q<11;.have t:=W q.toNat (toNat_lt D g);exact O (if_pos g) ⟨t.1,eF t.2⟩
  .exact O (if_neg g) ⟨yf jh D,eF (W8 (kI h1) _)⟩
 refine EV.cQ (EV.glob c (by exact B)) rfl (EL.cons (EV.ite (b:=decide (q<11)) (TV.cmp (X:=Y) (EV.name c) EV.int aY.lt) (λg=>?_) λg=>?_) EL.nil) (CA.chr R.1 R.2);.have g:=of_decide_eq_true g;exact O (if_pos g) (@EV.sub _ _ _ _ _ _ _ _ _ _ (@EV.list _ _ _ _ _ _ _ c.live (@EL.cons _ _ _ _ _ _ _ _ _ (@EV.int _ _ _ _ _ _ _) (@EL.cons _ _ _ _ _ _ _ _ _ (@EV.int _ _ _ _ _ _ _) (@EL.cons _ _ _ _ _ _ _ _ _ (@EV.int _ _ _ _ _ _ _) (@EL.cons _ _ _ _ _ _ _ _ _ (@EV.int _ _ _ _ _ _ _) (@EL.cons _ _ _ _ _ _ _ _ _ (@EV.int _ _ _ _ _ _ _) (@EL.cons _ _ _ _ _ _ _ _ _ (@EV.int _ _ _ _ _ _ _) (@EL.cons _ _ _ _ _ _ _ _ _ (@EV.int _ _ _ _ _ _ _) (@EL.cons _ _ _ _ _ _ _ _ _ (@EV.int _ _ _ _ _ _ _) (@EL.cons _ _ _ _ _ _ _ _ _ (@EV.int _ _ _ _ _ _ _) (@EL.cons _ _ _ _ _ _ _ _ _ (@EV.int _ _ _ _ _ _ _) (@EL.cons _ _ _ _ _ _ _ _ _ (@EV.int _ _ _ _ _ _ _) (@EL.nil _ _ _ _ _) rfl) rfl) rfl) rfl) rfl) rfl) rfl) rfl) rfl) rfl) rfl) dk) (EV.name c) (cU.list D (eF g) (map_getD (l:=uq) (f:=T.int) (d:=0) (toNat_lt D g))))
 .have g:=of_decide_eq_false g;exact O (if_neg g) (EV.bin EV.int (EV.name c) bE.add)
end
theorem LC:(wordAt I a).length<=4:=by have h1:∀r∈gV,∀x∈r,x.length<=4:=dk;unfold wordAt;refine O cA (O cA ?_);cases e:gV[I.toNat]? with|none=>exact(by decide:(0:Nat)<=4)|some r=>show(r[((a.fdiv 1024).fmod 4).toNat]?.getD "").length<=4;cases L:r[((a.fdiv 1024).fmod 4).toNat]? with|none=>exact(by decide:(0:Nat)<=4)|some x=>exact h1 r (eO e) x (eO L)
theorem ZQ:(mQ c).length<=2:=by have h:∀x∈(["\n","\r","\r\n"]:List ai),x.length<=2:=dk;unfold mQ;refine O cA ?_;cases L:(["\n","\r","\r\n"]:List ai)[((c.fdiv 4096).fmod 3).toNat]? with|none=>exact(by decide:(0:Nat)<=2)|some x=>exact h x (eO L)
section
variable{L N P i:Type}{f:L->N->P->i}{t:List L}{z:List N}{F:List P}
theorem Ww{f:L->T}{g:N->T}{k:P->T}:pZ (t.map f) (z.map g) (F.map k)=(j8 (λa b c=>(a,b,c)) t z F).map λq=>.tup [f q.1,g q.2.1,k q.2.2]:=by rewrite[pZ,j8,xcD,xcD,bO,bO];rfl
theorem Yd:j8 f t z F=(j8 (λa b c=>(a,b,c)) t z F).map λq=>f q.1 q.2.1 q.2.2:=by rw[j8,j8,bO];rfl
theorem Ye:(j8 f t z F).length<=t.length:=by rw[j8,aI,gP];exact vO _ _
theorem Yg(m:q∈j8 f t z F):∃a∈t,∃b∈z,∃c∈F,q=f a b c:=by refine aH (bF.mp m) λp Q e=>?_;have h:=z3 Q;have h':=z3 h.2;exact⟨_,h.1,_,h'.1,_,h'.2,e.symm⟩
end
section
variable{A:aG}{X:List ah}{h:aB}{P:Gm}{L:ah}{E:aj->au->Prop}
noncomputable def ES(A:aG)(G:aO)(X:List ah)(h:aB)(e:aT)(x:ai)(n:Nat):Prop:=EV A G X h e (.str x)/\x.length<=n
theorem ES.cat(a:ES A G X h l x m)(b:ES A G X h r y n)(I:m+n<=100000):ES A G X h (.BinOp l .Add r c) (x++y) (m+n):=⟨EV.bin a.1 b.1 (bE.j5 (bf (mz a.2 b.2) I)),by exact O (strLen_append ..) (mz a.2 b.2)⟩
theorem ES.dot:ES A G X h (.Constant (.str ".") k p) "." 1:=⟨EV.str,dk⟩
def HC(k:Nat):aT:=sM (valOf (fP 8)) k
theorem Yh{j o g:List ai}(f:A.handled=ak)(V:o.length=j.length)(M:g.length=j.length)(y:j.length=5)(b1:∀x∈j,x.length<=4)(b2:∀x∈o,x.length<=4)(b3:∀x∈g,x.length<=4)(c:CX X h (aV L) P)(l:P "shields"=aa (bZ j))(u:P "words"=aa (bZ o))(w:P "ends"=aa (bZ g))(i:P "zip"=aa (.aJ (.type "zip"))):CU A (aV L) X h (HC 1) (bZ (j8 um j o g)):=by
 have e:bZ (j8 um j o g)=.list (((j8 (λa b c=>(a,b,c)) j o g).filter λ_=>af).map λq=>.str (um q.1 q.2.1 q.2.2)):=by unfold bZ;refine O (fE ..) (O Yd (O bO ?_));rfl
 refine O e ?_;refine CU.l3 (kf:=λq:ai×ai×ai=>.str q.1) (kg:=λq:ai×ai×ai=>.str q.2.1) (kh:=λq:ai×ai×ai=>.str q.2.2) (as:=j8 (λa b c=>(a,b,c)) j o g) (p:=λ_=>af) (f:=λq=>.str (um q.1 q.2.1 q.2.2)) f c ?_ (λa m C F Y h c k=>TS.nil) (λq m _ C F Y h c J k=>?_) (bf Ye (by refine O y ?_;decide));.exact aR Ww (IT.cQ (EV.glob c (by exact i)) rfl (EL.cons (EV.name c (by exact l)) (EL.cons (EV.name c (by exact u)) (EL.cons (EV.name c (by exact w)) EL.nil))) (IC.j8 f c.live (by rw[aI,aI,V]) (by rw[aI,aI,M])))
 .obtain⟨a,s,b,R,d,U,rfl⟩:=Yg m;have K:∀{p:aS},ES A _ Y h (.Name "shield" p) a 4:=λ{p}=>⟨EV.name c,b1 a s⟩;have r:∀{p:aS},ES A _ Y h (.Name "word" p) b 4:=λ{p}=>⟨EV.name c,b2 b R⟩;have n:∀{p:aS},ES A _ Y h (.Name "end" p) d 4:=λ{p}=>⟨EV.name c,b3 d U⟩;exact((((((K.cat n dk).cat n dk).cat ES.dot dk).cat r dk).cat n dk).cat ES.dot dk).1
theorem VH{f:List Int}(d:A.handled=ak)(y:f.length=5)(c:CX X h (aV L) P)(o:P "both"=aa (.list ((en 0 f).map λq=>uJ q.2 q.1))):CU A (aV L) X h (HC 0) (b7 (fK f)):=by
 have e:b7 (fK f)=.list (((en 0 f).filter λ_=>af).map λq=>LI (cY q.2 q.1)):=by unfold fK b7;refine O (fE ..) (O bO ?_);rfl
 refine O e ?_;exact CU.l2 (kf:=λq:Int×Int=>LI (cY q.2 q.1)) (kg:=λq:Int×Int=>.bool af) (as:=en 0 f) (p:=λ_=>af) (f:=λq=>LI (cY q.2 q.1)) d c (IT.list d (.inr (by rfl)) c.live (EV.name c (by exact o))) (λa m C F Y h c k=>TS.nil) (λq m _ C F Y h c J k=>EV.name c) (by refine aR (aI (f:=λq:Int×Int=>T.tup [.int q.1,.int q.2])) (O zD (O v7 (O (aI ..) (O y ?_))));decide)
end
theorem dF.cover{h:aB}(t:dF V f q h P)(y:∀a∈Y,h.get? a=ak\/a∈V):dF Y f q h P:=by refine dm t λps a b c=>?_;refine⟨ps,a,b,c.imp id λ⟨c,d,n,e⟩=>⟨c,d,λm=>(y c m).elim (λm=>?_) n,e⟩⟩;refine Ko e λ_ o _ _ x g _=>?_;cases x;exact gone g m
section
variable{A:aG}{X:List ah}{h:aB}{P:Gm}{L:ah}{E:aj->au->Prop}
theorem KU{G:aO}{x:ai}{c R:aS}{e:aT}{D:List aT}{a:ah}{fd:eU}{d:List c6}{ps:List ai}{F:List T}{s:au}{Q:aj->au->Prop}(l:EV A G X s.heap (.Name x c) (.aJ (.ref a)))(j:FnAt s.heap a fd d ps)(V:EL A G X s.heap R (e::D) F)(Z:∀J b,Ks s J->az X J.heap F b->av (aA PW w) A (dP (.ref a) b []) Q E J)(W:autoParam (bq (e::D) G=(ay,aU e G)::bq D G) yAR):av (aA PW w) A (aU (.Call (.Name x c) (e::D) [] R) G) Q E s:=by show av _ _ (do mK R (<-aU (.Name x c) G) [] (cN R (bq (e::D) G)) (oj R (nZ [] G))) _ _ _;refine aq (aC (l s E λ_ _ e=>e) (λv U x=>?_) λ_ _ e=>e);obtain rfl:=x.2.cS;refine aH j.obj λo g f=>?_;have M:=V U E x.1.kp;rw[W]at M⊢;refine Dv (o:=o) (fd:=fd) (mW (aC M (λb J y=>?_) λ_ _ e=>e));exact⟨⟨(x.1.trans y.1).kp _ _ g,f⟩,Z J b (x.1.trans y.1) y.2⟩
theorem UW{s:au}(i:Kp hH s.heap)(m:3∉X)(f:0∉X)(d:bJ X s.heap)(b:PL∈X)(u:cG A (n+6))(c:CX X s.heap G P)(g:P "_law_wishes"=aa (.aJ (.ref 241)))(H:mP G "_law_wishes"=af)(x:dF X jG j7 s.heap PL)(l:0<=v)(h1:v<2^60)(C:I∈r5)(V:EL A G X s.heap a (e::D) [.int v,.int I,NM])(W:bq (e::D) G=(ay,aU e G)::bq D G):av (aA PW w) A (aU (.Call (.Name "_law_wishes" o) (e::D) [] a) G) (λz S=>bu [PL] s S/\dF X jG j7 S.heap PL/\Rep X S.heap (uJ v I) z) E s:=KU (EV.glob c g H) (N6.kp i) V (λJ K k j=>aC (TP u ⟨i.trans k.kp,d.kp k.kp,m,f⟩ b (x.kp k.kp) l h1 C j) (λz S y=>⟨(bu.of k).trans y.1,y.2.1,y.2.2⟩) λ_ _ e=>e) W
theorem ZR{H:aB}{f:List Int}{s:au}(r:Kp hH H)(F:Kp H s.heap)(p:H.get? PL=ak)(i:PL∈X)(l:PL∉aM (aV L))(u:cG A (n+6))(c:CX X s.heap (aV L) P)(J:P "cells"=aa (LI f))(w:P "names"=aa NM)(g:P "_law_wishes"=aa (.aJ (.ref 241)))(B:P "enumerate"=aa (.aJ (.type "enumerate")))(x:dF X jG j7 s.heap PL)(j:f.length=5)(R:∀v∈f,0<=v/\v<2^60):zC A (aV L) X s [PL] (λY h=>dF Y jG j7 h PL) (valOf (fP 6)) (.list ((en 0 f).map λq=>uJ q.2 q.1)):=by
 refine zC.yq (kf:=λq:Int×Int=>.tup [.int q.1,.int q.2]) (cV:=λa=>bQ (dU _ (aV L) P) ["who","cell"] [.int a.1,.int a.2]) (λY h k y=>?_) (λY h h' k D t=>t.at k (D PL (aQ ..))) (λY Q h y t=>t.less y) (one i) (one l) c (by kernel_rfl) (IT.Bu u.hd c B (EV.name c (by exact J)) (by kernel_rfl)) (λa m=>.tup u.hd (xs:=["who","cell"]) (ps:=[_,_]) (by kernel_rfl)) (λq m C V Y U E M G N t=>?_) ?_;.exact(x.cover y).kp k
 .have d:Kp H U.heap:=λb o e=>N b o (λm=>by replace m:=aX.mp m;replace e:=m▸e;exact gone e p) (F b o e);refine aW (EZ j m) λS I=>?_;have K:=R q.2 (by refine aH (rX m) λk _ e=>?_;exact eO e);refine aC (UW (n:=n) (r.trans d) (λm=>M.ok.eN m) (λm=>M.ok.blt m) M.live (G PL i) u M (by exact g) (by kernel_rfl) t K.1 K.2 (aF.mpr ⟨S,I⟩) (EL.cons (EV.name M) (EL.cons (EV.name M) (EL.cons (EV.name M (by exact w)) EL.nil))) (by rfl)) (λz W y=>⟨y.1,y.2.1,λb m=>?_,y.2.2⟩) λ_ _ e=>e;replace m:=aX.mp m;refine O m ?_;refine aH y.2.1 λps e _=>?_;exact⟨_,e⟩
 .refine aR (aI (f:=λq:Int×Int=>T.tup [.int q.1,.int q.2])) (O zD (O v7 (O (aI ..) (O j ?_))));decide
end
section
variable{A:aG}{H:List ah}{N B s:au}{Z:List ah}{P:Gm}{L:ah}{E:aj->au->Prop}
theorem Yi(l:bJ X h):EV A G X h (.List [.Constant (.str "fi") V p1,.Constant (.str "k") d p2,.Constant (.str "ss") r p3,.Constant (.str "st") v c,.Constant (.str "tel") a e] b) NM:=@EV.list _ _ _ _ _ _ _ l (@EL.cons _ _ _ _ _ _ _ _ _ (@EV.str _ _ _ _ _ _ _) (@EL.cons _ _ _ _ _ _ _ _ _ (@EV.str _ _ _ _ _ _ _) (@EL.cons _ _ _ _ _ _ _ _ _ (@EV.str _ _ _ _ _ _ _) (@EL.cons _ _ _ _ _ _ _ _ _ (@EV.str _ _ _ _ _ _ _) (@EL.cons _ _ _ _ _ _ _ _ _ (@EV.str _ _ _ _ _ _ _) (@EL.nil _ _ _ _ _) rfl) rfl) rfl) rfl) rfl) dk
theorem ZS{h:aB}(l:bJ X h)(z:∃o,h.get? eo=aa o):EV A G X h (.Tuple [.Constant (.int 0) V p1,.Constant (.int 0) d p2,.Constant (.int 0) r p3,.Constant (.int 0) v b,.Dict [] [] e] c a) (cB ⟨0,0,0,0,[]⟩):=@EV.tup _ _ _ _ _ _ _ _ l (@EL.cons _ _ _ _ _ _ _ _ _ (@EV.int _ _ _ _ _ _ _) (@EL.cons _ _ _ _ _ _ _ _ _ (@EV.int _ _ _ _ _ _ _) (@EL.cons _ _ _ _ _ _ _ _ _ (@EV.int _ _ _ _ _ _ _) (@EL.cons _ _ _ _ _ _ _ _ _ (@EV.int _ _ _ _ _ _ _) (@EL.cons _ _ _ _ _ _ _ _ _ (EV.HA (EM.A7 z) l) (@EL.nil _ _ _ _ _) rfl) rfl) rfl) rfl) rfl) (by simp)
def gB(p:List Int):Gm:=upd (upd (gS p) "cells" (LI (pT p))) "kinds" wR
theorem DO(p:List Int):(pT p).length=5:=rfl
theorem xbE{p:List Int}(d:A.handled=ak)(C:tn L)(l:p.length<=63)(z:∃o,N.heap.get? eo=aa o)(f:FS H N B s Z (aV L) (gS p) [])(X:∀a,FS H N B a Z (aV L) (bQ (gB p) ["names","words","total"] [NM,bZ (kW (pT p)),cB ⟨0,0,0,0,[]⟩]) []->av (aA PW w) A (b9 ((bodyOf (aP PW 27)).drop 3) (aV L)) Q E a):av (aA PW w) A (b9 (bodyOf (aP PW 27)) (aV L)) Q E s:=by have V:=C "cells" (.inl (by kernel_rfl));have M:=C "kinds" (.inr (by kernel_rfl));have r:=C "names" (.inr (by kernel_rfl));have v:=C "words" (.inr (by kernel_rfl));have W:=C "total" (.inl (by kernel_rfl));refine@bY _ _ _ _ _ _ _ (@FS.qJ _ _ _ _ _ _ _ _ _ _ _ _ _ _ (LI (pT p)) _ f V.1 V.2 (X6 d f.cx (by rfl) (by rfl) (by rfl) (by rfl) (by rfl) (by rfl) l) (λU f=>⟨rfl,?_⟩) rfl);refine@bY _ _ _ _ _ _ _ (@FS.set _ _ _ _ _ _ _ _ _ _ _ _ _ _ wR _ f M.1 M.2 (@X8 _ _ _ _ f.cx.live) (λJ _ f=>⟨rfl,?_⟩) rfl);refine@bY _ _ _ _ _ _ _ (@FS.EX _ _ _ _ _ _ _ _ _ _ ["names","words","total"] [_,_,_] _ _ _ _ _ _ _ [NM,bZ (kW (pT p)),cB ⟨0,0,0,0,[]⟩] _ d f (@EL.cons _ _ _ _ _ _ _ _ _ (Yi f.cx.live) (@EL.cons _ _ _ _ _ _ _ _ _ (EF.ev (CU.ef (Yb d (DO p) f.cx (by rfl) (by rfl) (by rfl)) f.cx.live)) (@EL.cons _ _ _ _ _ _ _ _ _ (ZS f.cx.live (z.imp λo e=>f.ks.kp _ _ e)) (@EL.nil _ _ _ _ _) rfl) rfl) rfl) rfl (show 3<=100000 by decide) (λj f=>⟨rfl,X j f⟩) ?_ rfl rfl rfl rfl);exact dQ r (dQ v (dQ W nA))
end
section
variable{A:aG}{H:List ah}{N B s:au}{Z:List ah}{P:Gm}{L:ah}{E:aj->au->Prop}
theorem Yj:∀p∈jr a,0<=p/\p<27:=λp m=>by refine aH (bF.mp m) λq _ z=>?_;subst z;exact EY dk
def IG(p F:List Int):Gm:=bQ (upd (upd (gS p) "cells" (LI F)) "kinds" wR) ["names","words","total"] [NM,bZ (kW F),cB ⟨0,0,0,0,[]⟩]
def II(p F:List Int):Gm:=upd (upd (upd (IG p F) "picks" (LI (jr F))) "shields" (bZ ((jr F).map kO))) "ends" (bZ (F.map mQ))
theorem xbF{p F:List Int}(d:A.handled=ak)(C:tn L)(y:F.length=5)(f:FS H N B s Z (aV L) (IG p F) [])(X:∀a,FS H N B a Z (aV L) (II p F) []->av (aA PW w) A (b9 ((bodyOf (aP PW 27)).drop 6) (aV L)) Q E a):av (aA PW w) A (b9 ((bodyOf (aP PW 27)).drop 3) (aV L)) Q E s:=by have V:=C "picks" (.inl (by kernel_rfl));have M:=C "shields" (.inr (by kernel_rfl));have r:=C "ends" (.inl (by kernel_rfl));refine@bY _ _ _ _ _ _ _ (@FS.qJ _ _ _ _ _ _ _ _ _ _ _ _ _ _ (LI (jr F)) _ f V.1 V.2 (Yc d y f.cx (by rfl) (by rfl)) (λU f=>⟨rfl,?_⟩) rfl);refine@bY _ _ _ _ _ _ _ (@FS.set _ _ _ _ _ _ _ _ _ _ _ _ _ _ (bZ ((jr F).map kO)) _ f M.1 M.2 (EF.ev (CU.ef (VG d (by unfold jr;exact O (aI ..) (O (m9 ..) (O y rfl))) Yj f.cx (by rfl) (by rfl)) f.cx.live)) (λJ _ f=>⟨rfl,?_⟩) rfl);exact@bY _ _ _ _ _ _ _ (@FS.qJ _ _ _ _ _ _ _ _ _ _ _ _ _ _ (bZ (F.map mQ)) _ f r.1 r.2 (ZP d y f.cx (by rfl)) (λj f=>⟨rfl,X j f⟩) rfl)
def Pe(F:List Int):T:=.list ((en 0 F).map λq=>uJ q.2 q.1)
theorem Yk{F:List Int}(d:A.handled=ak)(f:A.units+3<fy)(y:F.length=5)(c:CX X h (aV L) P)(o:P "both"=aa (Pe F)):TV A (aV L) h (valOf (fP 7)) ay:=by
 have e:(.list (eH 5 (.bool af)):T)=.list (((en 0 F).filter λ_=>af).map λq=>.bool af):=by exact O (fE ..) (O List.map_const' (O (m9 ..) (O y rfl)))
 refine TV.cmp (X:=X) (t:=.list (eH 5 (.bool af))) (u:=.list (eH 5 (.bool af))) (EF.ev (CU.ef ?_ c.live)) (EF.ev (EF.rU c.live (EV.list c.live (EL.cons EV.bool EL.nil)) EV.int dk dk)) (aY.qS (n:=2) ?_ (lP f) (.inl ⟨_,rfl⟩));.refine O e ?_;exact CU.l2 (kf:=λq:Int×Int=>LI (cY q.2 q.1)) (kg:=λq:Int×Int=>.bool af) (as:=en 0 F) (p:=λ_=>af) (f:=λq=>.bool af) d c (IT.list d (.inr (by rfl)) c.live (EV.name c (by exact o))) (λa m C F Y h c k=>TS.nil) (λq m _ C F Y h c J k=>EV.name c) (by refine O (m9 ..) (O y ?_);decide)
 .refine .list rfl λi t u a b=>?_;replace b:=a▸b;cases b;exact O (vD (eO a)) (.flat rfl)
end
section
variable{A:aG}{N B s:au}{Z:List ah}{P:Gm}{L:ah}{E:aj->au->Prop}
def gC(p F:List Int)(W:List (List Int))(G:List ai):Gm:=upd (upd (upd (upd (upd (upd (upd (gS p) "cells" (LI F)) "names" NM) "words" (bZ (kW F))) "total" (cB ⟨0,0,0,0,[]⟩)) "shields" (bZ ((jr F).map kO))) "wishes" (b7 W)) "typed" (bZ G)
theorem Am{F:List Int}(y:F.length=5):(jr F).length=5:=by unfold jr;exact O (aI ..) (O (m9 ..) (O y rfl))
theorem KV{F:List Int}(y:F.length=5):(kW F).length=5:=by unfold kW;rw[aI,m9,y]
theorem Wx{F:List Int}(d:A.handled=ak)(y:F.length=5)(c:CX X h (aV L) P)(f:P "shields"=aa (bZ ((jr F).map kO)))(u:P "words"=aa (bZ (kW F)))(w:P "ends"=aa (bZ (F.map mQ)))(i:P "zip"=aa (.aJ (.type "zip"))):CU A (aV L) X h (HC 1) (bZ (jt F)):=Yh d (by exact O (KV y) (O (aI ..) (O (Am y) rfl))) (by exact O (aI ..) (O (aI ..) (O (Am y) (O y rfl)))) (by exact O (aI ..) (O (Am y) rfl)) (λx m=>by refine aH (bF.mp m) λp _ z=>?_;subst z;exact(by decide:1<=4)) (λx m=>by refine aH (bF.mp m) λq _ z=>?_;subst z;exact LC) (λx m=>by refine aH (bF.mp m) λq _ z=>?_;subst z;exact bf ZQ dk) c f u w i
theorem xbG{q F:List Int}(r:Kp hH N.heap)(l:N.heap.get? PL=ak)(V:PL∉Z)(u:cG A (n+6))(C:tn L)(a:F.length=5)(R:∀v∈F,0<=v/\v<2^60)(f:FS [PL] N B s Z (aV L) (II q F) [])(x:dF (Z++[PL]) jG j7 s.heap PL)(X:∀p o,FS [PL] N p o Z (aV L) (gC q F (fK F) (jt F)) []->dF (Z++[PL]) jG j7 p.heap PL->av (aA PW w) A (b9 ((bodyOf (aP PW 27)).drop 9) (aV L)) Q E o):av (aA PW w) A (b9 ((bodyOf (aP PW 27)).drop 6) (aV L)) Q E s:=by
 have i:=C "both" (.inl (by kernel_rfl));have M:=C "wishes" (.inr (by kernel_rfl));have z:=C "typed" (.inl (by kernel_rfl));have d:=u.hd;have g:∀{b:ah},b∈[PL]->b=PL:=λm=>aX.mp m;have c:PL∉aM (aV L):=λm=>V (f.own PL m);refine@bY _ _ _ _ _ _ _ (@FS.X4 _ _ [PL] _ _ _ _ _ _ _ _ (λY h=>dF Y jG j7 h PL) _ _ _ _ (Pe F) _ f (λb m=>m) (λb m=>g m▸V) (λb m=>g m▸l) (λY h t b m=>by refine O (g m) ?_;refine aH t λps e _=>?_;exact⟨_,e⟩) (λY h h' k D t=>t.at k (D PL (aQ ..))) (λY G h y t=>t.less y) i.1 i.2 (ZR r f.ks.kp l (cK _ (aQ ..)) c u f.cx (by rfl) (by rfl) (by rfl) (by rfl) x a R) (λU f t=>⟨rfl,?_⟩) rfl);refine@bY _ _ _ _ _ _ _ (@FS.cond _ _ _ _ _ _ _ _ _ _ _ _ _ _ ay _ f (Yk d (by have:=u.jH;show _<9900;exact q8 _ this) a f.cx (by rfl)) (λe=>by cases e) λ_ J f=>iA ⟨rfl,?_⟩);refine@bY _ _ _ _ _ _ _ (@FS.EX _ _ _ _ _ _ _ _ _ _ ["wishes","typed"] [_,_] _ _ _ _ _ _ _ [b7 (fK F),bZ (jt F)] _ d f (@EL.cons _ _ _ _ _ _ _ _ _ (EF.ev (CU.ef (VH d a f.cx (by rfl)) f.cx.live)) (@EL.cons _ _ _ _ _ _ _ _ _ (EF.ev (CU.ef (Wx d a f.cx (by rfl) (by rfl) (by rfl) (by rfl)) f.cx.live)) (@EL.nil _ _ _ _ _) rfl) rfl) rfl (show 2<=100000 by decide) (λj f=>⟨rfl,X U j (f.less ?_) t⟩) ?_ rfl rfl rfl rfl);.show br _ _;unfold gC II IG;repeat(first|exact br.refl _|refine br.iK ?_ (by rfl)|refine br.out ?_ (by kernel_rfl))
 .exact dQ M (dQ z nA)
end
section
variable{A:aG}{N B s:au}{Z:List ah}{P:Gm}{L:ah}{E:aj->au->Prop}
abbrev o9(S:Int->Bool)(b:Int->Option ai)(W:List (List Int))(G:List ai)(a:Int):bG:=gx W (nameOf S b) a (iG G) ((gj 25).map lF)
theorem FS.run{S:au}(f:FS [PL] N B s Z (aV L) P [])(k:bu [L] s S)(z:dG [L] s.heap S.heap):FS [PL] N B S Z (aV L) P []:=by have C:∀a∈[L],a∈aM (aV L):=one (aQ ..);exact f.soft k.kp z k.eq (λa m=>bI _ (f.own a (C a m))) (λp m=>by cases m) (λa m=>f.new a (f.own a (C a m))) λa m=>.inl (C a m)
theorem LD{ty:List ai}(F:A.frames=aa [aV L])(Y:Kp hH N.heap)(l:N.heap.get? PL=ak)(K:4<=n)(u:cG A (n+1))(t:fR W)(d:ty.length=5)(T:rZ setB cC ty)(f:FS [PL] N B s Z (aV L) P [])(g:P "_law_run"=aa (.aJ (.ref 246)))(V:EL A (aV L) (Z++[PL]) s.heap c (e::D) [b7 W,bZ ty,NM,.int turn])(j:bq (e::D) (aV L)=(ay,aU e (aV L))::bq D (aV L)):av (aA PW w) A (aU (.Call (.Name "_law_run" o) (e::D) [] c) (aV L)) (λv S=>FS [PL] N B S Z (aV L) P []/\bu [L] s S/\Rep (Z++[PL]) S.heap (nG (o9 setB cC W ty turn)) v) E s:=by
 have C:L∈Z:=f.own L (aQ ..);refine KU (EV.glob f.cx g) (N2.kp (Y.trans f.ks.kp)) V (λJ p k i=>?_) j;have a:=f.step k;refine Vz (n:=n-2) (outer:=[aV L]) ⟨Y.trans a.ks.kp,a.cx.live,a.cx.ok.eN,a.cx.ok.blt⟩ (λb m=>(bD.mp m).elim (λm=>g9 Y (f.new b m)) λm=>g9 Y (by exact O (aX.mp m) l)) (λb m=>?_) F (by exact O (show n-2+3=n+1 from congrArg (·+1) (qt (bf (by decide) K))) u) (λen m=>?_) i t d T λv S U z r=>?_;.have:b=L:=aX.mp m;exact O this (bD.mpr (.inl C))
 .replace m:=aX.mp m;refine O m ?_;obtain⟨h,Q⟩:=a.cx.ok.ns;exact⟨(λq=>by cases q),L,h,rfl,Q⟩
 .exact⟨a.run U z,(bu.of k).trans U,r⟩
end
section
variable{A:aG}{N B s:au}{Z:List ah}{P:Gm}{L:ah}{E:aj->au->Prop}
theorem ZT(V:av (aA PW w) A (aU l G) (λv S=>FS H N B S Z G P []/\Rep (Z++H) S.heap t v) E s)(F:∀S,FS H N B S Z G P []->EV A G (Z++H) S.heap r u)(m:∀h,aY A (Z++H) h n t u b)(D:Nf n r=ay)(X:∀S,FS H N B S Z G P []->av (aA PW w) A (b9 (if b then g else i) G) Q E S):av (aA PW w) A (dY (.If (.Compare l [n] [r] o) g i k) G) Q E s:=by
 refine QW (aC (Q:=λq S=>q=b/\FS H N B S Z G P []) ?_ (λq S y=>?_) λ_ _ e=>e);.refine O (xdY ..) (O (W4 D) ?_);refine aq (aC V (λa U x=>?_) λ_ _ e=>e);refine aq (dJ (aC (F U x.1 U E λ_ _ e=>e) (λc J y=>?_) λ_ _ e=>e));refine aq (cW (aq ?_));refine λC p W=>?_;refine O (DP ..) ?_;refine(aC (m U.heap J E a c y.1.kp (Rep.kp (y.1.kp.bN _) _ _ x.2) y.2) (λd j z=>?_) λ_ _ e=>e) C p W;obtain⟨z,rfl⟩:=z;exact dJ (x9 ⟨rfl,(x.1.step y.1).step z⟩)
 .refine aW y λI f=>?_;try clear y;subst I
  have:=X S f;cases q<;>exact this
def gD(p F:List Int)(W:List (List Int))(G:List ai)(M:bG):Gm:=bQ (gC p F W G) ["held","mails","alone","refused","book"] [LI M.held,bZ M.bW,.list (M.alone.map lu),.list (M.refused.map DS),.list (M.book.map cB)]
theorem xdx{F:List Int}(y:F.length=5)(R:∀v∈F,0<=v/\v<2^35):0<=F.sum/\F.sum<2^38:=by have:=FP (B:=2^35) dk R;rw[y]at this;exact⟨this.1,jK this.2 dk⟩
theorem intBits_le{i:Int}(h:i.natAbs<2^n):zL i<=n:=by
 unfold zL;split;.exact jm _
 .rename_i F;have K:i.natAbs≠0:=by intro e;apply F;simp[JM.mp e]
  have:=(Nk K).mpr h;exact this
def Bv(S:Int->Bool)(b:Int->Option ai)(W:List (List Int))(G:List ai)(F:List Int):bG:=o9 S b W G (F.sum^2)
theorem xdy{p F:List Int}{G:List ai}(a:A.frames=aa [aV L])(Y:Kp hH N.heap)(l:N.heap.get? PL=ak)(K:4<=n)(u:cG A (n+1))(C:tn L)(i:F.length=5)(R:∀v∈F,0<=v/\v<2^35)(t:fR W)(d:G.length=5)(T:rZ setB cC G)(c:TE 5 (nG (Bv setB cC W G F)) (nG (o9 setB cC W G 0)))(f:FS [PL] N B s Z (aV L) (gC p F W G) [])(X:∀b,FS [PL] N B b Z (aV L) (gD p F W G (o9 setB cC W G 0)) []->av (aA PW w) A (b9 ((bodyOf (aP PW 27)).drop 11) (aV L)) Q E b):av (aA PW w) A (b9 ((bodyOf (aP PW 27)).drop 9) (aV L)) Q E s:=by
 have g:=u.hd;have o:∀x∈(["held","mails","alone","refused","book"]:List ai),((aV L).kindOf x=aa .local\/(aV L).kindOf x=aa .cell)/\dh (aV L) x∈aM (aV L):=λx m=>by simp only[bB,cg,or_false]at m;rcases m with rfl|rfl|rfl|rfl|rfl<;>exact C _ (.inl (by kernel_rfl))
 refine@bY _ _ _ _ _ _ _ (Ar (aC (LD (W:=W) (ty:=G) (turn:=0) a Y l K u t d T f (by rfl) (EL.cons (EV.name f.cx) (EL.cons (EV.name f.cx) (EL.cons (EV.name f.cx) (EL.cons EV.int EL.nil)))) (by rfl)) (λv U y=>?_) λ_ _ e=>e) rfl rfl);refine gW y λf _ r=>?_;refine aC (AS.tup g o (ps:=[_,_,_,_,_]) rfl rfl rfl _ U E v f.cx.ok.iW f.cx r) (λ_ J z=>⟨rfl,?_⟩) λ_ _ e=>e;have f:=f.re z.1 z.2;refine@bY _ _ _ _ _ _ _ (ZT (b:=ay) (t:=nG (Bv setB cC W G F)) (u:=nG (o9 setB cC W G 0)) (aC (LD (W:=W) (ty:=G) (turn:=F.sum^2) a Y l K u t d T f (by rfl) (EL.cons (EV.name f.cx) (EL.cons (EV.name f.cx) (EL.cons (EV.name f.cx) (EL.cons ?_ EL.nil)))) (by rfl)) (λv j y=>⟨y.1,y.2.2⟩) λ_ _ e=>e) (λb f=>EV.tup f.cx.live (EL.cons (EV.name f.cx) (EL.cons (EV.name f.cx) (EL.cons (EV.name f.cx) (EL.cons (EV.name f.cx) (EL.cons (EV.name f.cx) EL.nil))))) (by simp)) (λh=>aY.qS c (by have:=u.jH;show _<9900;exact q8 _ this) (.inr ⟨_,rfl⟩)) (by with_unfolding_all rfl) λb f=>iA ⟨rfl,X b f⟩);have k:=xdx i R;refine EV.bin (EV.cQ (EV.glob f.cx (by rfl)) rfl (EL.cons (EV.name f.cx) EL.nil) (CA.jd (l:=F) g (by refine O i ?_;decide) λx m=>⟨(R x m).1,mY (R x m).2 dk⟩)) EV.int (bE.pow (i:=F.sum) (j:=2) dk ?_);have:=intBits_le (i:=F.sum) (n:=38) (BK k.1 k.2);exact gG (Int.mul_le_mul_of_nonneg_right (nV.mpr this) dk) dk
end
def dB(W:List (List Int))(I n:Int):Int:=if I=n then 4 else(bA W I).idxOf n
def ig(W:List (List Int)):List (List Int):=r5.map λI=>r5.map λn=>dB W I n
def cJ(W:List (List Int)):List (List (List Int)):=(e8 r5).filter (nj (ig W))
theorem ZU(W:List (List Int)):Sq (ig W):=⟨rfl,λl m=>by refine aH (bF.mp m) λx _ q=>?_;subst q;rfl⟩
theorem LF:(e8 r5).length=59:=by decide+kernel
noncomputable def QA(c:List Int):Bool:=!c.isEmpty&&decide (c.length<=5)&&c.all λx=>decide (0<=x)&&decide (x<5)
theorem ZV:∀c∈e8 r5,∀x∈c,Bt x:=by
 have:((e8 r5).all λc=>c.all QA)=af:=by decide+kernel
 intro c m x Y;have h:=cj.mp (cj.mp this c m) x Y;unfold QA at h;simp only[dZ,decide_eq_true_eq,cj,tH]at h;exact⟨λe=>by rw[e]at h;exact absurd h.1.1 dk,h.1.2,h.2⟩
section
variable{A:aG}{X:List ah}{h:aB}{P:Gm}{L:ah}{E:aj->au->Prop}
theorem ZW(d:A.handled=ak)(t:fR W)(c:CX X h (aV L) P)(u:P "wishes"=aa (b7 W))(gr:P "range"=aa (.aJ (.type "range"))):CU A (aV L) X h (valOf (fP 11)) (b7 (ig W)):=by
 have e:b7 (ig W)=.list ((r5.filter λ_=>af).map λI=>LI (r5.map λn=>dB W I n)):=by unfold ig b7;rw[fE,bO]<;>rfl
 refine O e ?_;refine CU.l1 (kf:=.int) (as:=r5) (p:=λ_=>af) (f:=λI=>LI (r5.map λn=>dB W I n)) c (IT.kT d c gr) (λa m C F Y h c k=>TS.nil) (λI m _ C F Y h c J k=>?_) dk;have b:LI (r5.map λn=>dB W I n)=.list ((r5.filter λ_=>af).map λn=>.int (dB W I n)):=by unfold LI;rw[fE,bO]<;>rfl
 refine O b ?_;refine aW (aF.mp m) λD h1=>?_;refine EF.ev (CU.ef (CU.l1 (kf:=.int) (as:=r5) (p:=λ_=>af) (f:=λn=>.int (dB W I n)) c (IT.kT d c (by exact gr)) (λa m C F Y h c k=>TS.nil) (λn H _ C F Y h c J k=>?_) dk (by kernel_rfl)) c.live);refine aW (aF.mp H) λf T=>?_;refine EV.ite (b:=I==n) (TV.cmp (X:=Y) (EV.name c) (EV.name c) aY.eq) (λe=>?_) λe=>?_;.have:dB W I n=4:=if_pos (eq_of_beq e);exact O this EV.int
 .have S:I≠n:=ne_of_beq_false e;have:dB W I n=(bA W I).idxOf n:=if_neg S;refine O this ?_;exact EV.pQ (EV.bA t (EV.name c (by exact u)) (EV.name c) D h1) (EV.name c) (t.all I D h1 n f T (gu S)) (by refine O (t.row I D h1) ?_;decide)
theorem EV.xbH{G:aO}{x:ai}{b R:aS}{a:ah}{fd:eU}{d:List c6}{ps:List ai}{r:T}(l:EV A G X h (.Name x b) (.aJ (.ref a)))(f:FnAt h a fd d ps)(Z:CA A X h (.ref a) [] r):EV A G X h (.Call (.Name x b) [] [] R) r:=λs E k=>by show av _ _ (do mK R (<-aU (.Name x b) G) [] (cN R (bq [] G)) (oj R (nZ [] G))) _ _ _;refine aq (aC (l s E k) (λv U x=>?_) λ_ _ e=>e);obtain rfl:=x.2.cS;refine aH f.obj λo g i=>?_;refine Dv (o:=o) (fd:=fd) (zI ?_);refine⟨⟨k.trans x.1.kp _ _ g,i⟩,?_⟩;exact aC (Z U E [] (k.trans x.1.kp) trivial) (λc j z=>⟨x.1.trans z.1,z.2⟩) λ_ _ e=>e
theorem EV.xd{G:aO}{x:ai}{b R:aS}{e:aT}{D:List aT}{a:ah}{fd:eU}{d:List c6}{ps:List ai}{ts:List T}{r:T}(c:CX X h G P)(g:P x=aa (.aJ (.ref a)))(j:FnAt h a fd d ps)(V:EL A G X h R (e::D) ts)(Z:CA A X h (.ref a) ts r)(H:mP G x=af)(W:bq (e::D) G=(ay,aU e G)::bq D G):EV A G X h (.Call (.Name x b) (e::D) [] R) r:=by refine aH j.obj λo f l=>?_;exact EV.uB (EV.glob c g H) f l V Z W
theorem ZX(b:Kp hH H)(i:Kp H h)(u:cG A (n+1))(c:CX X h (aV L) P)(d:P "rank"=aa (b7 (ig W)))(B:P "_law_cycles"=aa (.aJ (.ref 256)))(r:P "_law_firm"=aa (.aJ (.ref 261))):CU A (aV L) X h (sM (valOf (fP 12)) 0) (WT (cJ W)):=by have e:WT (cJ W)=.list (((e8 r5).filter (nj (ig W))).map b7):=rfl;refine O e ?_;have f:=u.hd;refine CU.l1 (kf:=b7) (as:=e8 r5) (p:=nj (ig W)) (f:=b7) c (IT.list f (.inl rfl) c.live (EV.xbH (EV.glob c (by exact B)) (N4.kp (b.trans i)) (TJ u ⟨b.trans i,c.live,c.ok.eN,c.ok.blt⟩))) (λa m C F Y h c k=>TS.one (TV.of (X:=Y) ?_)) (λa m _ C F Y h c J k=>EV.name c) (by refine O LF ?_;decide);exact EV.xd c (by exact r) (N5.kp (b.trans (i.trans k))) (EL.cons (EV.name c (by exact d)) (EL.cons (EV.name c) EL.nil)) (UT u ⟨b.trans (i.trans k),c.live,c.ok.eN,c.ok.blt⟩ (ZU W) (ZV a m)) (by kernel_rfl) (by rfl)
end
def ring(c:List (List Int)):List Int:=c.getD 0 []
def jV(c:List (List Int)):Tab:=(ring c).map λI=>(bC I,1)
def dH(l:List (List (List Int))):Tab:=l.foldl (λd c=>jF d (jV c)) []
theorem Yl(l:List (List (List Int)))(c:List (List Int)):dH (l++[c])=jF (dH l) (jV c):=by unfold dH;refine O vL ?_;rfl
theorem Eu:∀c∈e8 r5,c≠[]/\(ring c).length<=5/\(∀x∈ring c,0<=x/\x<5)/\((ring c).map bC).Nodup:=by
 have:((e8 r5).all λc=>!c.isEmpty&&decide ((ring c).length<=5)&&((ring c).all λx=>decide (0<=x)&&decide (x<5))&&decide ((ring c).map bC).Nodup)=af:=by decide+kernel
 intro c m;have h:=cj.mp this c m;simp only[dZ,decide_eq_true_eq,cj,tH]at h;exact⟨λe=>by replace h:=e▸h;exact absurd h.1.1.1 dk,h.1.1.2,h.1.2,h.2⟩
theorem Bw{I:Int}(D:0<=I)(h1:I<5):(gJ.map T.str)[I.toNat]?=aa (.str (bC I)):=map_getD (l:=gJ) (f:=T.str) (d:="") (toNat_lt D h1)
section
variable{A:aG}{X:List ah}{h:aB}{P:Gm}{L:ah}{E:aj->au->Prop}
def xdz:aT:=sM (valOf (sN (bodyOf (fP 13)) 0)) 2
theorem ZY(d:A.handled=ak)(Q:b∈e8 r5)(c:CX X h (aV L) P)(z:∃o,h.get? eo=aa o)(r:P "names"=aa NM)(w:P "cycles"=aa (b7 b)):CU A (aV L) X h xdz (dg (jV b)):=by
 refine kR (Eu b Q) λg S Z i=>?_;have e:dg (jV b)=.dS (((ring b).filter λ_=>af).map bC) (((ring b).filter λ_=>af).map λ_=>.int 1):=by unfold dg DS eL jV;refine O (fE ..) (O bO (O bO (O bO (O bO ?_))));rfl
 refine O e ?_;refine CU.Il (kf:=.int) (as:=ring b) (p:=λ_=>af) (g:=bC) (f:=λ_=>.int 1) c z (IT.list (ts:=(ring b).map .int) d (.inl rfl) c.live (EV.sub (EV.name c (by exact w)) EV.int (cU.list dk dk ?_))) (λa m C F Y h c k=>TS.nil) (λI m _ C F Y h c k=>?_) (λI m _ C F Y h c J k=>EV.int) (by exact O (fE ..) i) (cD S);.exact map_getD (l:=b) (f:=LI) (d:=[]) (i:=0) (Jy.mpr g)
 .refine aW (Z I m) λD h1=>?_;exact EV.sub (EV.name c (by exact r)) (EV.name c) (cU.list D (eF h1) (Bw D h1))
end
theorem LG{l:List (List (List Int))}(h:∀c∈l,c∈e8 r5):(dH l).length<=5*l.length:=by
 have:∀(l:List (List (List Int)))(d:Tab),(∀c∈l,c∈e8 r5)->(l.foldl (λd c=>jF d (jV c)) d).length<=d.length+5*l.length:=by intro l;induction l with|nil=>intro d _;exact cR _|cons c l G=>intro d h;have h1:=Et ⟨0,0,0,0,d⟩ ⟨0,0,0,0,jV c⟩;have J:=(Eu c (h c (aQ ..))).2.1;have R:=G (jF d (jV c)) λx m=>h x (aZ _ m);have Y:(jV c).length=(ring c).length:=aI ..;have y:(jF d (jV c)).length<=d.length+(jV c).length:=h1;exact O pH (O fC (bf R (bf (qp (bf y (iy (jv Y J) _)) _) (di ((jJ _ 5 _).trans (rL ..))))))
 have:=this l [] h;rw[qx]at this;unfold dH;exact bf this (di (jk _ _))
theorem v9(W:List (List Int)):∀c∈cJ W,c∈e8 r5:=λc m=>(d7.mp m).1
theorem D7(W:List (List Int)):(cJ W).length<=59:=by have:=nJ (nj (ig W)) (e8 r5);rw[LF]at this;exact this
section
variable{A:aG}{N B s:au}{Z:List ah}{P:Gm}{L:ah}{E:aj->au->Prop}
def gE(g:Gm)(W:List (List Int))(d:Tab):Gm:=upd (upd (upd g "rank" (b7 (ig W))) "firm" (WT (cJ W))) "odd" (dg d)
theorem xbI{W:List (List Int)}{n:Nat}{p F:List Int}{G:List ai}{M:bG}{Q:ek->au->Prop}(Y:Kp hH N.heap)(u:cG A (n+1))(C:tn L)(wo:fR W)(f:FS [PL] N B s Z (aV L) (gD p F W G M) [])(H:∀D,FS [PL] N B D Z (aV L) (gE (gD p F W G M) W (dH (cJ W))) []->av (aA PW w) A (b9 ((bodyOf (aP PW 27)).drop 14) (aV L)) Q E D):av (aA PW w) A (b9 ((bodyOf (aP PW 27)).drop 11) (aV L)) Q E s:=by
 have g:=u.hd;have q:=C "rank" (.inr (by kernel_rfl));have S:=C "firm" (.inl (by kernel_rfl));have i:=C "odd" (.inr (by kernel_rfl));have v:=C "cycles" (.inl (by kernel_rfl));refine@bY _ _ _ _ _ _ _ (@FS.set _ _ _ _ _ _ _ _ _ _ _ _ _ _ (b7 (ig W)) _ f q.1 q.2 (EF.ev (CU.ef (ZW g wo f.cx (by rfl) (by rfl)) f.cx.live)) (λU _ f=>⟨rfl,?_⟩) rfl);refine@bY _ _ _ _ _ _ _ (@FS.EX _ _ _ _ _ _ _ _ _ _ ["firm","odd"] [_,_] _ _ _ _ _ _ _ [WT (cJ W),dg []] _ g f (@EL.cons _ _ _ _ _ _ _ _ _ (EF.ev (CU.ef (ZX Y f.ks.kp u f.cx (by rfl) (by rfl) (by rfl)) f.cx.live)) (@EL.cons _ _ _ _ _ _ _ _ _ (EV.HA (EM.A7 ((w6 Y).imp λo e=>f.ks.kp _ _ e)) f.cx.live) (@EL.nil _ _ _ _ _) rfl) rfl) rfl (show 2<=100000 by decide) (λJ f=>⟨rfl,?_⟩) ?_ rfl rfl rfl rfl)
 .refine@bY _ _ _ _ _ _ _ (FS.for (as:=cJ W) (kf:=b7) (cV:=λl=>gE (gD p F W G M) W (dH l)) (iw:=λl a=>upd (gE (gD p F W G M) W (dH l)) "cycles" (b7 a)) (Mf:=λ_=>[]) (λl=>l.length<=59) (jm _) (f.less λx t e=>e) (IT.list g (.inl rfl) f.cx.live (EV.name f.cx)) (λ_=>rfl) (λl a _=>AS.name v.1 v.2) (λl b V X wr j E f K=>?_) λj _ f=>⟨rfl,H j f⟩);have h:b∈cJ W:=qI V;have k:∀c∈l,c∈e8 r5:=λc m=>v9 W c (Mu V m);have d:l.length+1<=59:=by refine aE V λr e=>?_;have:=D7 W;rw[e,cL,fC]at this;exact gO (e7 _ _) this
  have z:=v9 W b h;have R:=LG k;have I:=(Eu b z).2.1;have l3:(jV b).length=(ring b).length:=aI ..;have T:∃o,j.heap.get? eo=aa o:=(w6 Y).imp λo e=>f.ks.kp _ _ e;refine@dj _ _ _ _ _ _ (@FS.set _ _ _ _ _ _ _ _ _ _ _ _ _ _ (dg (dH (l++[b]))) _ f i.1 i.2 (EV.xd (ts:=[dg (dH l),dg (jV b)]) f.cx (by rfl) (GC.kp (Y.trans f.ks.kp)) (EL.cons (EV.name f.cx) (EL.cons (EF.ev (CU.ef (ZY g z f.cx T (by rfl) (by rfl)) f.cx.live)) EL.nil)) ?_ (by kernel_rfl) (by rfl)) (λy _ f=>⟨by exact O cL d,f.less ?_⟩) rfl);.exact O (Yl ..) (Jf u ⟨Y.trans f.ks.kp,f.cx.live,f.cx.ok.eN,f.cx.ok.blt⟩ (bf R (cD (mV 5 X))) (iV I l3))
  .show br _ _;unfold gE;exact br.iK (br.iK (br.iK (br.out (br.out (br.out (br.out (br.out (br.refl _) (by kernel_rfl)) (by kernel_rfl)) (by kernel_rfl)) (by kernel_rfl)) (by kernel_rfl)) (by rfl)) (by rfl)) (by rfl)
 .exact dQ S (dQ i nA)
end
theorem Oj(i:Int):TE 1 (.int i) (.int i):=.flat rfl
theorem ur{L:Type}{n:Nat}{f:L->T}(h:∀a,TE n (f a) (f a))(l:List L):TE (n+1) (.list (l.map f)) (.list (l.map f)):=.list rfl λi t u a b=>by replace b:=a▸b;cases b;refine aH (bF.mp (eO a)) λx _ z=>?_;subst z;exact h x
theorem Ol(h:∀t∈l,TE n t t):TE (n+1) (.tup l) (.tup l):=.tup rfl λi t u a b=>by replace b:=a▸b;cases b;exact h t (eO a)
theorem xbJ(i:Int):TE 2 (lu i) (lu i):=Ol λt m=>by simp only[bB,cg,or_false]at m;rcases m with rfl|rfl<;>exact .flat rfl
noncomputable def IJ(d:Tab):List Int:=if d.length=1 then d.map λp=>(gJ.idxOf p.1:Int)else[]
structure za(W:List (List Int))(M:bG):Prop where
n:([1,3,5]:List Int).contains ((dH (cJ W)).length:Int)=af
v:(dH (cJ W)).map (·.2)=eH (dH (cJ W)).length ((cJ W).length:Int)k:∀p∈dH (cJ W),p.1∈gJ
a:M.alone=IJ (dH (cJ W))
section
variable{A:aG}{X:List ah}{h:aB}{P:Gm}{L:ah}{E:aj->au->Prop}
theorem xe(d:Tab):(eL d).map (·.1)=d.map (·.1):=bO ..
theorem GK(d:Tab):(eL d).map (·.2)=(d.map (·.2)).map .int:=by unfold eL;refine O bO (O bO ?_);rfl
theorem xbK{W:List (List Int)}{M:bG}(d:A.handled=ak)(Z:A.units+3<fy)(H:za W M)(I:(dH (cJ W)).length<=1000)(c:CX X h (aV L) P)(U:P "odd"=aa (dg (dH (cJ W))))(f:P "firm"=aa (WT (cJ W)))(B:P "len"=aa (.aJ (.builtin "len")))(r:P "list"=aa (.aJ (.type "list"))):TV A (aV L) h (valOf (fP 14)) ay:=by
 have V:=D7 W;have a:∀{b p1 p2:aS},EV A (aV L) X h (.Call (.Name "len" b) [.Name "odd" p1] [] p2) (.int (dH (cJ W)).length):=λ{b p1 p2}=>by have:=CA.HB (A:=A) (X:=X) (h₀:=h) (ks:=(eL (dH (cJ W))).map (·.1)) (vs:=(eL (dH (cJ W))).map (·.2)) (by exact O (xe ..) (O (aI ..) (cD I)));rw[aI,eL,aI]at this;exact EV.cQ (EV.glob c B) rfl (EL.cons (EV.name c U (by kernel_rfl)) EL.nil) this
 have e:∀{b p1 p2:aS},EV A (aV L) X h (.Call (.Name "len" b) [.Name "firm" p1] [] p2) (.int (cJ W).length):=λ{b p1 p2}=>by have:=CA.zg (A:=A) (X:=X) (h₀:=h) (l:=(cJ W).map b7) (by exact O (aI ..) (cD V));rw[aI]at this;exact EV.cQ (EV.glob c B) rfl (EL.cons (EV.name c f (by kernel_rfl)) EL.nil) this
 refine TV.ry (b:=ay||(ay||ay)) (AT.or (TV.cmp (X:=X) (t:=.int (dH (cJ W)).length) (u:=.tup (([1,3,5]:List Int).map .int)) (b:=ay) a (EV.tup c.live (EL.cons EV.int (EL.cons EV.int (EL.cons EV.int EL.nil)))) ?_) λ_=>AT.or (TV.cmp (X:=X) (t:=.list ((eL (dH (cJ W))).map (·.2))) (u:=.list (eH (dH (cJ W)).length (.int (cJ W).length))) (b:=ay) ?_ ?_ ?_) λ_=>AT.Bj);.have:=aY.xbz (A:=A) (X:=X) (h₀:=h) (l:=[1,3,5]) (i:=((dH (cJ W)).length:Int));rw[H.n]at this;exact this
 .exact EV.FQ (P:=VV X ((eL (dH (cJ W))).map (·.1)) ((eL (dH (cJ W))).map (·.2))) (EV.glob c (by exact r)) rfl (xO.values (EV.name c (by exact U))) λs E v k p=>VV.list d (c.live.kp k) (by exact O (xe ..) (O (aI ..) (cD I))) (by exact O (xe ..) (O (GK ..) (O (aI ..) (O (aI ..) (O (aI ..) rfl))))) p
 .exact EF.ev (EF.rU (k:=((dH (cJ W)).length:Int)) c.live (EV.list c.live (EL.cons e EL.nil)) a (iO _) (PF I))
 .refine O (GK ..) (O H.v (O W9 ?_));have:=ur Oj (eH (dH (cJ W)).length ((cJ W).length:Int));rw[W9]at this;exact aY.qS this (rG Z) (.inl ⟨_,rfl⟩)
theorem Ym{W:List (List Int)}{M:bG}(d:A.handled=ak)(Z:A.units+3<fy)(H:za W M)(I:(dH (cJ W)).length<=1000)(c:CX X h (aV L) P)(w:P "alone"=aa (.list (M.alone.map lu)))(U:P "odd"=aa (dg (dH (cJ W))))(r:P "names"=aa NM)(B:P "len"=aa (.aJ (.builtin "len"))):TV A (aV L) h (valOf (fP 15)) ay:=by
 have e:(.list (M.alone.map lu):T)=.list ((((dH (cJ W)).map (·.1)).filter λ_=>decide ((dH (cJ W)).length=1)).map λx=>lu (gJ.idxOf x)):=by
  refine O H.a ?_;unfold IJ;by_cases q:(dH (cJ W)).length=1;.refine O (if_pos q) (O (decide_eq_true q) (O (fE ..) (O bO (O bO ?_))));rfl
  .refine O (if_neg q) (O (decide_eq_false q) ?_);simp
 refine O (show valOf (fP 15)=CY _ _ _ _ from rfl) ?_;refine TV.cmp (X:=X) (EV.name c (by exact w)) (u:=.list (M.alone.map lu)) (EF.ev (CU.ef ?_ c.live)) (aY.qS (ur xbJ M.alone) Z (.inl ⟨_,rfl⟩));refine O e ?_;refine@CU.l1 A _ X h P ai _ _ _ _ _ _ _ T.str _ _ _ c ?_ (λa m C F Y h c k=>?_) (λx m _ C F Y h c J k=>?_) ?_ ?_ ?_ ?_;.exact aR (xe ..) (IT.O0 d rfl c.live (EV.name c (by exact U)))
 .have:=CA.HB (A:=A) (X:=Y) (h₀:=h) (ks:=(eL (dH (cJ W))).map (·.1)) (vs:=(eL (dH (cJ W))).map (·.2)) (by exact O (xe ..) (O (aI ..) (cD I)));rw[aI,eL,aI]at this;have b:decide ((dH (cJ W)).length=1)=(((dH (cJ W)).length:Int)==1):=by rw[tR,decide_eq_true_eq,beq_iff_eq];exact Int.ofNat_inj.symm
  exact O b (TS.one (TV.cmp (X:=Y) (EV.cQ (EV.glob c (by exact B)) rfl (EL.cons (EV.name c (by exact U)) EL.nil) this) EV.int aY.eq))
 .refine aH (bF.mp m) λp Q z=>?_;subst z;exact EV.tup c.live (EL.cons (EV.yO (EV.name c (by exact r)) (EV.name c) (H.k p Q) dk) (EL.cons EV.bool EL.nil))
 .exact O (aI ..) (cD I)
 .kernel_rfl
 .kernel_rfl
 .intro _;rfl
end
noncomputable def bH(f:List Int):List Int:=f.map λp=>if p+1<4 then p+1 else 4
def Ba(W:List (List Int))(f:List Int)(g:Int):Int:=gi (oE W f g++[-1]) 0
def keepsP(W:List (List Int))(f:List Int):List Int:=r5.map (Ba W f)
def uu(n:Int):ai:=zj 46 (1+n).toNat
def oW(f:List Int):List ai:=f.map uu
def ee(W:List (List Int))(f:List Int)(I:Int):List Int:=(bA W I).take (gi f I).toNat
def wU(W:List (List Int))(f b:List Int)(I:Int):List (ai×T):=((ee W f I).filter λa=>gi b a !=I).map λa=>(bC a,je a)
def sA(W:List (List Int))(f b:List Int):List (List (ai×T)):=r5.map (wU W f b)
theorem MN(c:fS f)(D:0<=i)(h1:i<5):gi (bH f) i=if gi f i+1<4 then gi f i+1 else 4:=by
 have V:i.toNat<f.length:=by exact O c.len (toNat_lt D h1)
 unfold bH gi;refine O cA (O cA (O eS (O (cz V) ?_)));rfl
theorem yE(c:fS f)(D:0<=i)(h1:i<5):1<=gi (bH f) i/\gi (bH f) i<=4:=by
 have:=c.el i D h1;refine O (MN c D h1) ?_;split;.exact⟨Uu this.1,kI ‹_›⟩
 .exact⟨jh,jh⟩
theorem wh(c:fS f):∀x∈bH f,1<=x/\x<=4:=λx m=>by
 refine aH (bF.mp m) λp Q z=>z▸?_;have b:=c.mem p Q;by_cases h:p+1<4;.exact O (if_pos h) ⟨Uu b.1,kI h⟩
 .exact O (if_neg h) ⟨jh,jh⟩
section
variable{A:aG}{X:List ah}{h:aB}{P:Gm}{L:ah}{E:aj->au->Prop}
theorem ZZ{f:List Int}(d:A.handled=ak)(Z:f.length=5)(c:CX X h (aV L) P)(w:P "came"=aa (LI f))(B:P "min"=aa (.aJ (.builtin "min"))):CU A (aV L) X h (valOf (fP 17)) (LI (bH f)):=by
 have e:LI (bH f)=.list ((f.filter λ_=>af).map λp=>.int (if p+1<4 then p+1 else 4)):=by unfold bH LI;rw[fE,bO]<;>rfl
 refine O e ?_;exact CU.l1 (kf:=.int) (as:=f) (p:=λ_=>af) (f:=λp=>.int (if p+1<4 then p+1 else 4)) c (IT.list d (.inl rfl) c.live (EV.name c (by exact w))) (λa m C F Y h c k=>TS.nil) (λq m _ C F Y h c J k=>EV.cQ (EV.glob c (by exact B)) rfl (EL.cons EV.int (EL.cons (EV.bin (EV.name c) EV.int bE.add) EL.nil)) (CA.min2 d)) (by refine O Z ?_;decide)
theorem Yn(d:A.handled=ak)(t:fR W)(D:fS f)(c:CX X h (aV L) P)(u:P "wishes"=aa (b7 W))(w:P "came"=aa (LI f))(gr:P "range"=aa (.aJ (.type "range"))):CU A (aV L) X h (valOf (fP 18)) (LI (keepsP W f)):=by
 have e:LI (keepsP W f)=.list ((r5.filter λ_=>af).map λa=>.int (Ba W f a)):=by unfold keepsP LI;rw[fE,bO]<;>rfl
 refine O e ?_;have Q:=D.len;refine CU.l1 (kf:=.int) (as:=r5) (p:=λ_=>af) (f:=λa=>.int (Ba W f a)) c (IT.kT d c gr) (λa m C F Y h c k=>TS.nil) (λg m _ C F Y h c J k=>?_) dk;have I:(oE W f g).length<=5:=nJ _ _;refine EV.sub (t:=LI (oE W f g++[-1])) (u:=.int 0) (EV.bin (t:=LI (oE W f g)) (u:=LI [-1]) (EF.ev (CU.ef (CU.l1 (kf:=.int) (f:=.int) c (IT.kT d c (by exact gr)) (λo m C F Y h c k=>?_) (λa m _ C F Y h c _ k=>EV.name c) dk (by kernel_rfl)) c.live)) (EV.list c.live (EL.cons (EV.neg EV.int) EL.nil)) ?_) EV.int (cU.list dk dk ?_);.have b:=aF.mp m;refine TS.one (TV.ry (AT.and (TV.cmp (X:=Y) (EV.gi (EV.name c (by exact w)) (EV.name c) b.1 (by exact O Q b.2) (by refine O Q ?_;decide)) EV.int aY.lt) λR=>?_));have R:=of_decide_eq_true R;exact AT.and (TV.cmp (X:=Y) (EV.bw t (EV.name c (by exact u)) (EV.name c) (EV.gi (EV.name c (by exact w)) (EV.name c) b.1 (by exact O Q b.2) (by refine O Q ?_;decide)) b.1 b.2 (D.el o b.1 b.2).1 R) (EV.name c) aY.eq) λ_=>AT.yL
 .have:=bE.Qq (A:=A) (X:=Y) (h₀:=h) (a:=(oE W f g).map .int) (b:=([-1]:List Int).map .int) c.live (by refine O (aI ..) (O (aI ..) ?_);show _+1<=_;exact zd I);rw[<-fY]at this;exact this
 .exact map_getD (l:=oE W f g++[-1]) (f:=T.int) (d:=0) (i:=0) (by exact O cL (qz _))
theorem Z0(d:A.handled=ak)(D:fS f)(c:CX X h (aV L) P)(w:P "asks"=aa (LI (bH f))):CU A (aV L) X h (valOf (fP 19)) (bZ (oW (bH f))):=by
 have e:bZ (oW (bH f))=.list (((bH f).filter λ_=>af).map λn=>.str (uu n)):=by unfold oW bZ;rw[fE,bO]<;>rfl
 refine O e ?_;refine CU.l1 (kf:=.int) (as:=bH f) (p:=λ_=>af) (f:=λn=>.str (uu n)) c (IT.list d (.inl rfl) c.live (EV.name c (by exact w))) (λa m C F Y h c k=>TS.nil) (λq m _ C F Y h c J k=>?_) (by unfold bH;refine O (aI ..) (O D.len ?_);decide);have R:=wh D q m;exact EV.bin (t:=.str ⟨#[46]⟩) EV.str (EV.bin EV.int (EV.name c) bE.add) (bE.xbx (kI (K1 (t9 _) R.1)) (gG (mE (jM _ _)) (jK R.2 jh)))
end
theorem uv:∀i∈r5,∀j∈r5,bC i=bC j->i=j:=dk
theorem D8{L N:Type}{f:L->N}:∀{l:List L},(∀x∈l,∀y∈l,f x=f y->x=y)->l.Nodup->(l.map f).Nodup|[],_,_=>tU|a::l,h,n=>by refine aW (mj.mp n) λU P=>?_;refine O f6 ?_;refine mj.mpr ⟨λm=>?_,D8 (λx S y Z=>h x (aZ _ S) y (aZ _ Z)) P⟩;refine aH (bF.mp m) λb R e=>?_;exact U (h b (aZ _ R) a (aQ ..) e▸R)
def yT(j o r:List ai)(I:Int):ai:=bK j I++"\r\n\r\n"++bK r I++bK o I++"\r\n"++bK r I
def r6(j o r:List ai):List ai:=r5.map (yT j o r)
section
variable{A:aG}{X:List ah}{h:aB}{P:Gm}{L:ah}{E:aj->au->Prop}
theorem xbL{W:List (List Int)}{f b:List Int}(d:A.handled=ak)(z:∃o,h.get? eo=aa o)(t:fR W)(p:∀i∈r5,(bA W i).Nodup)(K:f.length=5)(n:∀i∈r5,0<=gi f i)(N:b.length=5)(c:CX X h (aV L) P)(u:P "wishes"=aa (b7 W))(w:P "asks"=aa (LI f))(l:P "keeps"=aa (LI b))(r:P "names"=aa NM)(gr:P "range"=aa (.aJ (.type "range"))):CU A (aV L) X h (valOf (fP 20)) (.list ((sA W f b).map DS)):=by
 have e:(.list ((sA W f b).map DS):T)=.list ((r5.filter λ_=>af).map λI=>DS (wU W f b I)):=by unfold sA;refine O (fE ..) (O bO ?_);rfl
 refine O e ?_;refine CU.l1 (kf:=.int) (as:=r5) (p:=λ_=>af) (f:=λI=>DS (wU W f b I)) c (IT.kT d c gr) (λa m C F Y h c k=>TS.nil) (λI m _ C F Y h c J k=>?_) (by decide);have g:DS (wU W f b I)=.dS (((ee W f I).filter λa=>gi b a !=I).map bC) (((ee W f I).filter λa=>gi b a !=I).map je):=by unfold DS wU;refine O bO (O bO ?_);rfl
 refine O g ?_;refine aW (aF.mp m) λD h1=>?_;have j:∀a∈ee W f I,0<=a/\a<5:=λa s=>let⟨x,y,_⟩:=t.el I D h1 a (nL s);⟨x,y⟩;refine EF.ev (CU.ef (@CU.Il A _ Y h _ Int _ _ _ _ _ _ _ _ T.int (ee W f I) (λa=>gi b a !=I) bC je c (z.imp λ_ e=>k _ _ e) ?_ (λa s C F Y h c k=>TS.one ?_) (λa s _ C F Y h c k=>?_) (λa s _ C F Y h c J k=>?_) ?_ ?_ (by kernel_rfl) (by kernel_rfl) (by intro _;rfl)) c.live);.refine O (show(ee W f I).map T.int=((bA W I).map T.int).take (gi f I).toNat from DT ..) ?_;exact IT.list d (.inl rfl) c.live (EV.FT c.live (EV.bA t (EV.name c (by exact u)) (EV.name c) D h1) (EV.gi (EV.name c (by exact w)) (EV.name c) D (by exact O K h1) (by refine O K ?_;decide)) (n I m) (by refine O (aI ..) (O (t.row I D h1) ?_);decide))
 .refine aW (j a s) λH q=>?_;exact TV.cmp (X:=Y) (EV.gi (EV.name c (by exact l)) (EV.name c) H (by exact O N q) (by refine O N ?_;decide)) (EV.name c) aY.ne
 .refine aW (j a s) λH q=>?_;exact EV.sub (EV.name c (by exact r)) (EV.name c) (cU.list H (eF q) (Bw H q))
 .exact EV.tup c.live (EL.cons (EV.bin EV.int (EV.name c) bE.add) (EL.cons EV.bytes (EL.cons EV.bool EL.nil)))
 .refine D8 (λx S y Z e=>?_) ((xgY WZ (De _ _)).nodup (p I m));exact uv x (aF.mpr (j x (d7.mp S).1)) y (aF.mpr (j y (d7.mp Z).1)) e
 .unfold ee;exact O jA (O (t.row I D h1) (bf (tL _ _) (by decide)))
theorem Yo{j o r:List ai}(d:A.handled=ak)(W:j.length=5)(J:o.length=5)(U:r.length=5)(z:∀i,(bK j i).length<=10)(w:∀i,(bK o i).length<=10)(t:∀i,(bK r i).length<=10)(c:CX X h (aV L) P)(f:P "shields"=aa (bZ j))(u:P "words"=aa (bZ o))(M:P "dots"=aa (bZ r))(gr:P "range"=aa (.aJ (.type "range"))):CU A (aV L) X h (sM (sM (valOf (fP 21)) 2) 1) (bZ (r6 j o r)):=by
 have e:bZ (r6 j o r)=.list ((r5.filter λ_=>af).map λI=>.str (yT j o r I)):=by unfold r6 bZ;refine O (fE ..) (O bO ?_);rfl
 refine O e ?_;refine CU.l1 (kf:=.int) (as:=r5) (p:=λ_=>af) (f:=λI=>.str (yT j o r I)) c (IT.kT d c gr) (λa m C F Y h c k=>TS.nil) (λI m _ C F Y h c N k=>?_) dk;refine aW (aF.mp m) λD h1=>?_;have n:∀{G:aO}{P:Gm}{x y:ai}{l:List ai}{p1 p2 p3:aS},CX Y h G P->P x=aa (bZ l)->P y=aa (.int I)->isVar G x=af->isVar G y=af->l.length=5->(bK l I).length<=10->ES A G Y h (.Subscript (.Name x p1) (.Name y p2) p3) (bK l I) 10:=λ{G P x y l p1 p2 p3}c g s v q V b=>⟨EV.sub (EV.name c g v) (EV.name c s q) (cU.list D (eF h1) (map_getD (l:=l) (f:=T.str) (d:="") (by exact O V (toNat_lt D h1)))),b⟩;have K:=λ{p1 p2 p3:aS}=>n (x:="shields") (y:="who") (p1:=p1) (p2:=p2) (p3:=p3) c (by exact f) (by rfl) (by kernel_rfl) (by kernel_rfl) W (z I);have H:=λ{p1 p2 p3:aS}=>n (x:="words") (y:="who") (p1:=p1) (p2:=p2) (p3:=p3) c (by exact u) (by rfl) (by kernel_rfl) (by kernel_rfl) J (w I);have aD:=λ{p1 p2 p3:aS}=>n (x:="dots") (y:="who") (p1:=p1) (p2:=p2) (p3:=p3) c (by exact M) (by rfl) (by kernel_rfl) (by kernel_rfl) U (t I);have R:∀{G:aO}{k:Nat}{p:aS},ES A G Y h (.Constant (.str "\r\n") k p) "\r\n" 10:=⟨EV.str,dk⟩;have B:∀{G:aO}{k:Nat}{p:aS},ES A G Y h (.Constant (.str "\r\n\r\n") k p) "\r\n\r\n" 10:=⟨EV.str,dk⟩;exact(((((K.cat B dk).cat aD dk).cat H dk).cat R dk).cat aD dk).1
end
structure GL(W:List (List Int))(j o:List ai)(M:bG):Prop where ck:fS (rounds W)held:M.held=keepsP W (rounds W)ref:TE 3 (.list (M.refused.map DS)) (.list ((sA W (bH (rounds W)) (keepsP W (rounds W))).map DS))bW:M.bW=r6 j o (oW (bH (rounds W)))
theorem xbM(x:ai):TE 1 (.str x) (.str x):=.flat rfl
section
variable{A:aG}{X:List ah}{h:aB}{P:Gm}{L:ah}{E:aj->au->Prop}
theorem Wy{W:List (List Int)}{j o r:List ai}{M:bG}{b:List Int}{a:List (List (ai×T))}(e:A.handled=ak)(Z:A.units+6<fy)(h1:M.held=b)(J:TE 3 (.list (M.refused.map DS)) (.list (a.map DS)))(R:M.bW=r6 j o r)(k:j.length=5)(C:o.length=5)(g:r.length=5)(z:∀i,(bK j i).length<=10)(w:∀i,(bK o i).length<=10)(t:∀i,(bK r i).length<=10)(c:CX X h (aV L) P)(B:P "held"=aa (LI M.held))(d:P "keeps"=aa (LI b))(U:P "refused"=aa (.list (M.refused.map DS)))(s:P "due"=aa (.list (a.map DS)))(y:P "mails"=aa (bZ M.bW))(f:P "shields"=aa (bZ j))(u:P "words"=aa (bZ o))(l:P "dots"=aa (bZ r))(gr:P "range"=aa (.aJ (.type "range"))):TV A (aV L) h (valOf (fP 21)) ay:=by
 refine TV.ry (b:=ay||(ay||(ay||ay))) (AT.or (TV.cmp (X:=X) (t:=LI M.held) (u:=LI b) (b:=ay) (EV.name c (by exact B)) (EV.name c (by exact d)) ?_) λ_=>AT.or (TV.cmp (X:=X) (b:=ay) (EV.name c (by exact U)) (EV.name c (by exact s)) (aY.qS J (lP Z) (.inl ⟨_,rfl⟩))) λ_=>AT.or (TV.cmp (X:=X) (t:=bZ M.bW) (u:=bZ (r6 j o r)) (b:=ay) (EV.name c (by exact y)) (EF.ev (CU.ef (Yo e k C g z w t c f u l gr) c.live)) ?_) λ_=>AT.Bj);.exact O h1 (aY.qS (ur Oj b) (lP Z) (.inl ⟨_,rfl⟩))
 .exact O R (aY.qS (ur xbM _) (lP Z) (.inl ⟨_,rfl⟩))
end
section
variable{A:aG}{N B s:au}{Z:List ah}{P:Gm}{L:ah}{E:aj->au->Prop}
abbrev zE(p F:List Int)(W:List (List Int))(G:List ai)(M:bG):Gm:=gE (gD p F W G M) W (dH (cJ W))
def gF(g:Gm)(W:List (List Int)):Gm:=upd (upd (upd (upd (upd g "came" (LI (rounds W))) "asks" (LI (bH (rounds W)))) "keeps" (LI (keepsP W (rounds W)))) "dots" (bZ (oW (bH (rounds W))))) "due" (.list ((sA W (bH (rounds W)) (keepsP W (rounds W))).map DS))
theorem xbN{W:List (List Int)}{n:Nat}{p F:List Int}{G:List ai}{M:bG}{Q:ek->au->Prop}(u:cG A (n+1))(H:za W M)(f:FS [PL] N B s Z (aV L) (zE p F W G M) [])(X:∀a,FS [PL] N B a Z (aV L) (zE p F W G M) []->av (aA PW w) A (b9 ((bodyOf (aP PW 27)).drop 16) (aV L)) Q E a):av (aA PW w) A (b9 ((bodyOf (aP PW 27)).drop 14) (aV L)) Q E s:=by
 have d:=u.hd;have b:A.units+3<fy:=by have:=u.jH;show _<9900;exact q8 _ this
 have I:(dH (cJ W)).length<=1000:=bf (LG (v9 W)) (cD (mV 5 (D7 W)));refine@bY _ _ _ _ _ _ _ (@FS.cond _ _ _ _ _ _ _ _ _ _ _ _ _ _ ay _ f (xbK d b H I f.cx (by rfl) (by rfl) (by rfl) (by rfl)) (λe=>by cases e) λ_ U f=>iA ⟨rfl,?_⟩);exact@bY _ _ _ _ _ _ _ (@FS.cond _ _ _ _ _ _ _ _ _ _ _ _ _ _ ay _ f (Ym d b H I f.cx (by rfl) (by rfl) (by rfl) (by rfl)) (λe=>by cases e) λ_ J f=>iA ⟨rfl,X J f⟩)
theorem Z1{W:List (List Int)}(D:fS (rounds W))(i:Int):(bK (oW (bH (rounds W))) i).length<=10:=by unfold bK;refine O cA ?_;cases e:(oW (bH (rounds W)))[i.toNat]? with|none=>exact(by decide:(0:Nat)<=10)|some x=>refine aH (bF.mp (eO e)) λq j z=>?_;subst z;show(eH _ 46).toArray.size<=10;exact O iX (O Ji (Ec.mpr (eF (W8 (wh D q j).2 1))))
theorem Om{l:List ai}{n:Nat}(h:∀x∈l,x.length<=n)(i:Int):(bK l i).length<=n:=by unfold bK;refine O cA ?_;cases e:l[i.toNat]? with|none=>exact jm _|some x=>exact h x (eO e)
theorem VI{F:List Int}:∀x∈(jr F).map kO,x.length<=10:=λx m=>by refine aH (bF.mp m) λp _ z=>?_;subst z;exact(by decide:1<=10)
theorem Yp{F:List Int}:∀x∈kW F,x.length<=10:=λx m=>by refine aH (bF.mp m) λq _ z=>?_;subst z;exact bf LC dk
theorem xdA{W:List (List Int)}{n:Nat}{p F:List Int}{c:List ai}{M:bG}{Q:ek->au->Prop}(Y:Kp hH N.heap)(u:cG A (n+1))(C:tn L)(y:F.length=5)(t:fR W)(l:∀i∈r5,(bA W i).Nodup)(H:GL W ((jr F).map kO) (kW F) M)(f:FS [PL] N B s Z (aV L) (zE p F W c M) [])(X:∀k,FS [PL] N B k Z (aV L) (gF (zE p F W c M) W) []->av (aA PW w) A (b9 ((bodyOf (aP PW 27)).drop 22) (aV L)) Q E k):av (aA PW w) A (b9 ((bodyOf (aP PW 27)).drop 16) (aV L)) Q E s:=by
 have d:=u.hd;have V:=C "came" (.inr (by kernel_rfl));have b:=C "asks" (.inr (by kernel_rfl));have r:=C "keeps" (.inr (by kernel_rfl));have v:=C "dots" (.inr (by kernel_rfl));have a:=C "due" (.inl (by kernel_rfl));have D:=H.ck;refine@bY _ _ _ _ _ _ _ (@FS.set _ _ _ _ _ _ _ _ _ _ _ _ _ _ (LI (rounds W)) _ f V.1 V.2 (EV.xd (ts:=[b7 W]) f.cx (by rfl) (N3.kp (Y.trans f.ks.kp)) (EL.cons (EV.name f.cx) EL.nil) (TL u ⟨Y.trans f.ks.kp,f.cx.live,f.cx.ok.eN,f.cx.ok.blt⟩ t) (by kernel_rfl) (by rfl)) (λU _ f=>⟨rfl,?_⟩) rfl);refine@bY _ _ _ _ _ _ _ (@FS.set _ _ _ _ _ _ _ _ _ _ _ _ _ _ (LI (bH (rounds W))) _ f b.1 b.2 (EF.ev (CU.ef (ZZ d D.len f.cx (by rfl) (by rfl)) f.cx.live)) (λJ _ f=>⟨rfl,?_⟩) rfl);refine@bY _ _ _ _ _ _ _ (@FS.set _ _ _ _ _ _ _ _ _ _ _ _ _ _ (LI (keepsP W (rounds W))) _ f r.1 r.2 (EF.ev (CU.ef (Yn d t D f.cx (by rfl) (by rfl) (by rfl)) f.cx.live)) (λj _ f=>⟨rfl,?_⟩) rfl);refine@bY _ _ _ _ _ _ _ (@FS.set _ _ _ _ _ _ _ _ _ _ _ _ _ _ (bZ (oW (bH (rounds W)))) _ f v.1 v.2 (EF.ev (CU.ef (Z0 d D f.cx (by rfl)) f.cx.live)) (λg _ f=>⟨rfl,?_⟩) rfl);have T:(bH (rounds W)).length=5:=by unfold bH;exact O (aI ..) (O D.len rfl)
 refine@bY _ _ _ _ _ _ _ (@FS.qJ _ _ _ _ _ _ _ _ _ _ _ _ _ _ (.list ((sA W (bH (rounds W)) (keepsP W (rounds W))).map DS)) _ f a.1 a.2 (xbL d ((w6 Y).imp λo e=>f.ks.kp _ _ e) t l T (λi m=>by have:=yE D (aF.mp m).1 (aF.mp m).2;exact fW this.1) rfl f.cx (by rfl) (by rfl) (by rfl) (by rfl) (by rfl)) (λh f=>⟨rfl,?_⟩) rfl);exact@bY _ _ _ _ _ _ _ (@FS.cond _ _ _ _ _ _ _ _ _ _ _ _ _ _ ay _ f (Wy (W:=W) d (by have:=u.jH;show _<9900;exact q8 _ this) H.held H.ref H.bW (by exact O (aI ..) (O (Am y) rfl)) (KV y) (by unfold oW;exact O (aI ..) (O T rfl)) (Om VI) (Om Yp) (Z1 D) f.cx (by rfl) (by rfl) (by rfl) (by rfl) (by rfl) (by rfl) (by rfl) (by rfl) (by rfl)) (λe=>by cases e) λ_ G f=>iA ⟨rfl,X G f⟩)
end
noncomputable abbrev cl(x:ai):List Nat:=x.cps.toList
noncomputable def lg(b:Bool)(l:List Nat):List Nat:=l.rec (motive:=λ_=>Bool->List Nat) (λ_=>[]) (λc _ i b=>if(b&&c==10)=af then i ay else if c=13 then 13::10::i af else if c=10 then 13::10::i ay else c::i ay) b
noncomputable def pe(b:Bool)(l:List Nat):List Nat:=l.rec (motive:=λ_=>Bool->List Nat) (λ_=>[]) (λc _ i b=>if b&&c==46 then 46::46::i ay else c::i (c==10)) b
theorem vY:lg b (c::r)=if(b&&c==10)=af then lg ay r else if c=13 then 13::10::lg af r else if c=10 then 13::10::lg ay r else c::lg ay r:=rfl
theorem An:pe b (c::r)=if b&&c==46 then 46::46::pe ay r else c::pe (c==10) r:=rfl
def gK(l:List ai):List Nat:=(l.map cl).flatten
theorem JH{t:Array Nat}(h:s<b)(R:b<=t.size):(t.extract s b).toList=t.getD s 0::(t.extract (s+1) b).toList:=by have W:s<t.size:=iz h R;refine O VO (O VO (O Tw (O (kB W) ?_)));refine O Uo (O Uo (O (CL (by simpa using W)) (O (Cb h) (O WS ?_))));rfl
theorem LH{t:Array Nat}(h:s<b)(R:b<=t.size)(l:List ai):gK (cut t s b++l)=t.getD s 0::gK (cut t (s+1) b++l):=by
 unfold cut;refine O (if_pos h) ?_;by_cases h1:s+1<b;.refine O (if_pos h1) ?_;show(t.extract s b).toList++_=_::((t.extract (s+1) b).toList++_);refine O (JH h R) ?_;rfl
 .refine O (if_neg h1) ?_;show(t.extract s b).toList++_=_;refine O (JH h R) (O (CI (l:=(t.extract (s+1) b).toList) (O dw (O WW (zM (bf (vO ..) (qw h1)))))) ?_);rfl
theorem LJ{fd:Nat->Option (Nat×Nat)}{t:Array Nat}{r:ai}{n s:Nat}(W:s<t.size)(H:∀b e,fd (s+1)=some (b,e)->s+1<=b/\b<=t.size)(e:fd s=fd (s+1)):gK (fH fd t r (n+1) s)=t.getD s 0::gK (fH fd t r (n+1) (s+1)):=by show gK ((fd s).elim (cut t s t.size) λq=>cut t s q.1++r::fH fd t r n q.2)=_::gK ((fd (s+1)).elim (cut t (s+1) t.size) λq=>cut t (s+1) q.1++r::fH fd t r n q.2);refine O e ?_;cases h:fd (s+1)with|none=>have:=LH W (cR _) [];rw[g8,g8]at this;exact this|some p=>exact LH (H p.1 p.2 h).1 (H p.1 p.2 h).2 _
theorem MO{fd:Nat->Option (Nat×Nat)}{t:Array Nat}{r:ai}{n s e:Nat}(h:fd s=aa (s,e)):gK (fH fd t r (n+1) s)=cl r++gK (fH fd t r n e):=by show gK ((fd s).elim _ λq=>cut t s q.1++r::fH fd t r n q.2)=_;refine O h ?_;show gK (cut t s s++r::_)=_;unfold cut;refine O (if_neg (vV _)) ?_;rfl
theorem LK{fd:Nat->Option (Nat×Nat)}{t:Array Nat}{r:ai}{n s:Nat}(h:fd s=ak)(W:¬s<t.size):gK (fH fd t r (n+1) s)=[]:=by show gK ((fd s).elim (if s<t.size then _ else[]) _)=_;refine O h (O (if_neg W) ?_);rfl
theorem Z2(h:c≠10):lg af (c::r)=lg ay (c::r):=by refine O vY (O vY (O (beq_false_of_ne h) ?_));rfl
theorem AV{t:Array Nat}(W:s<t.size):t.toList.drop s=t.getD s 0::t.toList.drop (s+1):=by refine O Tw (O (kB W) (O (CL (by simpa using W)) ?_));rfl
theorem LL{t:Array Nat}(W:s<t.size):kr t s=if qn (t.getD s 0)then aa (s,endAt t s)else kr t (s+1):=by unfold kr;exact O (Cb W) rfl
theorem LM{t:Array Nat}(W:s<t.size):ko t s=if sP t s then aa (s,s+1)else ko t (s+1):=by unfold ko;exact O (Cb W) rfl
theorem LN{t:Array Nat}{r:ai}(D:cl r=[13,10]):∀(k n s:Nat),t.size-s=k->k<=n->gK (fH (kr t) t r (n+1) s)=lg ay (t.toList.drop s):=by intro k;induction k using Nat.strongRecOn with|_ k G=>
intro n s N K;by_cases c:s<t.size
.rw[AV c,vY,if_neg (show¬(ay&&_)=af from qq)];by_cases J:qn (t.getD s 0)=af
 .have H:kr t s=aa (s,endAt t s):=by exact O (LL c) (O (if_pos J) rfl)
  refine O (MO H) (O D ?_);obtain⟨i,rfl⟩:=VX.mpr (iz (YQ c) (jv N K));by_cases f:t.getD s 0=13
  .refine O (if_pos f) ?_;by_cases a:s+1<t.size
   .by_cases g:t.getD (s+1) 0=10
    .have d:endAt t s=s+2:=by unfold endAt;refine O f (O g (O (decide_eq_true a) ?_));rfl
     rw[d,G (t.size-(s+2)) (js5 N c) i (s+2) rfl (js4 N K),AV a,g,vY,if_pos (by rfl)];rfl
    .have d:endAt t s=s+1:=by unfold endAt;refine O (beq_false_of_ne g) (O (KY ..) ?_);rfl
     refine O d (O (G (t.size-(s+1)) (zo N (rG a)) i (s+1) rfl (Cc N K)) (O (AV a) (O (Z2 g) ?_)));rfl
   .have d:endAt t s=s+1:=by unfold endAt;refine O (decide_eq_false a) (O (KY ..) ?_);rfl
    have B:t.toList.drop (s+1)=[]:=CP (by exact O dw (qw a));refine O d (O (G (t.size-(s+1)) (zo N c) i (s+1) rfl (Cc N K)) (O B ?_));rfl
  .refine O (if_neg f) ?_;have g:t.getD s 0=10:=by
    unfold qn at J;rw[yb]at J;refine bz J (λh=>?_) λh=>?_;.exact eq_of_beq h
    .exact absurd (eq_of_beq h) f
   have d:endAt t s=s+1:=by unfold endAt;refine O (beq_false_of_ne f) ?_;rfl
   refine O (if_pos g) (O d (O (G (t.size-(s+1)) (zo N c) i (s+1) rfl (Cc N K)) ?_));rfl
 .have H:kr t s=kr t (s+1):=by exact O (LL c) (O (if_neg J) rfl)
  have S:t.getD s 0≠13/\t.getD s 0≠10:=by constructor<;>(intro q;rw[q]at J;exact J rfl)
  rw[LJ c (λb e h=>Q6 (Oa t (s+1) b e c h)) H,if_neg S.1,if_neg S.2];exact O (G (t.size-(s+1)) (zo N c) n (s+1) rfl (bf (Nc _) (jv N K))) rfl
.have B:t.toList.drop s=[]:=CP (O dw (qw c));have H:kr t s=ak:=by unfold kr;refine O (zM (qw c)) ?_;rfl
 refine O B (O (LK H c) ?_);rfl
theorem MP{t:Array Nat}{r:ai}(D:cl r=[46,46]):∀(k n s:Nat),t.size-s=k->k<=n->gK (fH (ko t) t r (n+1) s)=pe (s==0||t.getD (s-1) 0==10) (t.toList.drop s):=by
 intro k;induction k with|zero=>
intro n s N K;have W:¬s<t.size:=λq=>Jl q N;have B:t.toList.drop s=[]:=CP (O dw (qw W));have H:ko t s=ak:=by unfold ko;refine O (zM (qw W)) ?_;rfl
refine O B (O (LK H W) ?_);cases s==0||t.getD (s-1) 0==10<;>rfl|succ k G=>
intro n s N K;have W:s<t.size:=sH N;have f:(s+1==0||t.getD (s+1-1) 0==10)=(t.getD s 0==10):=by simp
refine O (AV W) ?_;cases d:sP t s with|true=>
 have H:ko t s=aa (s,s+1):=by refine O (LM W) (O d ?_);rfl
 obtain⟨c,rfl⟩:=VX.mpr (iz (qz k) K);refine O (MO H) (O D (O (G c (s+1) (congrArg Pu N) (Nat.le_of_succ_le_succ K)) (O f ?_)));unfold sP at d;have a:t.getD s 0=46:=by rw[dZ]at d;exact eq_of_beq d.2
 refine O An (O (if_pos d) (O a ?_));rfl|false=>
 have H:ko t s=ko t (s+1):=by refine O (LM W) (O d ?_);rfl
 rw[LJ W (λb e h=>Q6 (N9 t (s+1) b e W h)) H,G n (s+1) (congrArg Pu N) (nN K),f];unfold sP at d;exact O An (O (if_neg (by rw[d];exact qq)) rfl)
theorem oJ(x y:ai):cl (x++y)=cl x++cl y:=by show(x.cps++y.cps).toList=_;exact O tF rfl
theorem MQ(h:cl x=cl y):x=y:=by obtain⟨a⟩:=x;obtain⟨b⟩:=y;exact congrArg Str.mk (Nm h)
theorem KW:∀(l:List ai)(i:Array Nat),(l.foldl (λi p=>i++(nX "").cps++p.cps) i).toList=i.toList++gK l|[],i=>by show i.toList=i.toList++[];exact O (g8 ..) rfl|p::l,i=>by rw[pH,KW l,tF,tF,show(nX "").cps.toList=[]by decide,g8,fT];rfl
theorem E0(f:List ai):cl (yI "" f)=gK f:=by cases f with|nil=>rfl|cons y f=>show(f.foldl (λi p=>i++(nX "").cps++p.cps) y.cps).toList=_;refine O (KW ..) ?_;rfl
theorem MR(x:ai):cl (qZ x)=lg ay (cl x):=by unfold qZ xu;refine O (E0 ..) (O (LN (by decide) (x.cps.size-0) x.cps.size 0 rfl (yv _ _)) ?_);rfl
theorem xbO(x:ai):cl (Hy x)=pe af (cl x):=by unfold Hy xu;refine O (E0 ..) (O (MP (by decide) (x.cps.size-0) x.cps.size 0 rfl (yv _ _)) ?_);rfl
theorem LO(x:ai):cl (gc x)=pe af (lg ay (cl x)):=by unfold gc;exact O (xbO ..) (O (MR ..) rfl)
theorem MS:(cut t b e).length<=1:=by
 unfold cut;by_cases c:b<e;.exact O (if_pos c) (cR _)
 .exact O (if_neg c) (jm _)
theorem LP{fd:Nat->Option (Nat×Nat)}{t:Array Nat}{r:ai}(n:Nat):∀s,(fH fd t r n s).length<=2*n:=by induction n with|zero=>exact λ_=>cR _|succ n G=>intro s;show((fd s).elim (cut t s t.size) λq=>cut t s q.1++r::fH fd t r n q.2).length<=_;cases fd s with|none=>exact bf MS (gQ 1 (2*n+1))|some q=>show(cut t s q.1++r::fH fd t r n q.2).length<=_;refine O cL (O fC ?_);exact bf (mz MS (qv (G q.2))) (di (jk 1 _))
theorem E1(l:List ai):(l.map (·.length)).sum=(gK l).length:=by induction l with|nil=>rfl|cons x l G=>exact O f6 (O rK (O G (cL (as:=cl x)).symm))
theorem AW{p:Prop}[Decidable p]{a b:List Nat}(h:a.length<=n)(k:b.length<=n):(if p then a else b).length<=n:=by
 by_cases c:p;.exact O (if_pos c) h
 .exact O (if_neg c) k
theorem LQ(l:List Nat):∀b:Bool,(lg b l).length<=2*l.length:=by induction l with|nil=>exact λ_=>cR _|cons c r G=>intro b;refine O vY ?_;have h1:=zZ (tK (G af));have J:=zZ (tK (G ay));exact AW (eB (rG J)) (AW h1 (AW J (eB J)))
theorem Z4(l:List Nat):∀b:Bool,(pe b l).length<=2*l.length:=by induction l with|nil=>exact λ_=>cR _|cons c r G=>intro b;exact O An (AW (zZ (tK (G ay))) (eB (zZ (tK (G _)))))
theorem xbP{x:ai}(h:(cl x).length<=1000):sj (kr x.cps) x "\r\n":=by have W:x.cps.size=(cl x).length:=dw.symm;have e:=LN (t:=x.cps) (r:="\r\n") (by decide) (x.cps.size-0) x.cps.size 0 rfl (yv _ _);have h1:=LQ (cl x) ay;have J:=LP (fd:=kr x.cps) (t:=x.cps) (r:="\r\n") (x.cps.size+1) 0;refine⟨cD h,?_⟩;refine O (E1 ..) (O e ?_);exact sW (bf h1 (mV 2 h)) (bf J (mV 2 (qv (jv W h))))
theorem xbQ{x:ai}(h:(cl x).length<=1000):sj (ko x.cps) x "..":=by have W:x.cps.size=(cl x).length:=dw.symm;have e:=MP (t:=x.cps) (r:="..") (by decide) (x.cps.size-0) x.cps.size 0 rfl (yv _ _);have h1:=Z4 (cl x) af;have J:=LP (fd:=ko x.cps) (t:=x.cps) (r:="..") (x.cps.size+1) 0;refine⟨cD (jv W h),O (E1 ..) (O e ?_)⟩;exact sW (bf h1 (mV 2 h)) (bf J (mV 2 (qv (jv W h))))
def sU(w:List Nat)(n:Nat):List Nat:=[13,10,13,10]++eH (1+n) 46++w++[13,10]++eH (1+n) 46
def B6(w e:List Nat):List Nat:=e++e++[46]++w++e++[46]
theorem Wz:∀r∈gV,∀x∈r,∀e∈([[10],[13],[13,10]]:List (List Nat)),pe ay (lg ay (B6 (cl x) e))=sU (cl x) 1:=by decide
theorem WA:∀r∈gV,∀x∈r,∀n∈([1,2,3]:List Nat),pe ay (lg ay (sU (cl x) n))=sU (cl x) (n+1):=by decide
theorem J8(h:c≠10/\c≠13/\c≠46):pe af (lg ay (c::r))=c::pe ay (lg ay r):=by rw[vY,if_neg (show¬(ay&&_)=af from qq),if_neg h.2.1,if_neg h.1,An,beq_false_of_ne h.2.2,beq_false_of_ne h.1];rfl
def Cu(p:Int):Nat:=(if p<11 then uq.getD p.toNat 0 else 65013+p).toNat
def zk:List Nat:=(gj 27).map λp:Nat=>Cu p
structure TabOk(S:Int->Bool)(b:Int->Option ai):Prop where
sh:∀c∈zk,S (c:Nat)=af
wd:∀q∈en 0 gV,∀x∈q.2,gK ((cl x).map (sgn S b))=cl (bC q.1)
structure MF(G j o:List ai)(i:Int)(c:Nat)(w:ai)(e:List Nat):Prop where
t:cl (bK G i)=c::B6 (cl w) e
s:bK j i=⟨#[c]⟩d:bK o i=w
w:(i,gV.getD i.toNat [])∈en 0 gV/\w∈gV.getD i.toNat []e:e∈([[10],[13],[13,10]]:List (List Nat))c:c∈zk
theorem r7:∀i∈r5,(i,gV.getD i.toNat [])∈en 0 gV/\gV.getD i.toNat []∈gV/\(gV.getD i.toNat []).length=4:=by decide+kernel
theorem Z5{i v:Int}(m:i∈r5):wordAt i v∈gV.getD i.toNat []:=by have J:=rF (v.fdiv 1024) (show(0:Int)<4 by decide);unfold wordAt;rw[cA (l:=gV.getD i.toNat []),cz (ji J (r7 i m).2.2)];exact nQ _
theorem xbR(v:Int):cl (mQ v)∈([[10],[13],[13,10]]:List (List Nat)):=by have J:=rF (v.fdiv 4096) (show(0:Int)<3 by decide);exact(by decide:∀n,n<3->cl ((["\n","\r","\r\n"]:List ai).getD n "")∈([[10],[13],[13,10]]:List (List Nat))) _ (o6 J)
theorem xdB(a:Int):Cu (a.fmod 27)∈zk:=by have h1:=vH a (show(0:Int)<27 by decide);have J:=rF a (show(0:Int)<27 by decide);refine bF.mpr ⟨(a.fmod 27).toNat,rI.mpr (o6 J),?_⟩;rw[l9 h1]
theorem zb{i v p:Int}(m:i∈r5)(h1:bK G i=um (kO (p.fmod 27)) (wordAt i v) (mQ v))(J:bK j i=kO (p.fmod 27))(R:bK o i=wordAt i v):∃c w e,MF G j o i c w e:=⟨Cu (p.fmod 27),wordAt i v,cl (mQ v),by rw[h1];unfold um;rw[oJ,oJ,oJ,oJ,oJ,oJ,show cl "."=[46]by decide];show[Cu _]++_++_++_++_++_++_=_;simp only[B6,fT];rfl,J,R,⟨(r7 i m).1,Z5 m⟩,xbR v,xdB p⟩
theorem xbS{F:List Int}(h:F.length=5):∀i∈r5,∃c w e,MF (jt F) ((jr F).map kO) (kW F) i c w e:=by
 refine n7 (oM h) λj I M J k z=>?_;subst z;intro i m;have:=aF.mp m;have:i=0\/i=1\/i=2\/i=3\/i=4:=lq this.1 this.2;rcases this with rfl|rfl|rfl|rfl|rfl;.exact zb m (v:=j) rfl rfl rfl
 .exact zb m (v:=I) rfl rfl rfl
 .exact zb m (v:=M) rfl rfl rfl
 .exact zb m (v:=J) rfl rfl rfl
 .exact zb m (v:=k) rfl rfl rfl
theorem FU:∀c∈zk,c≠10/\c≠13/\c≠46/\yP c=af:=by decide+kernel
theorem Ao:∀r∈gV,∀x∈r,(cl x).length<=4/\∀n∈([1,2,3,4]:List Nat),(sU (cl x) n).filter yP=cl x:=by decide+kernel
section
variable{G j o:List ai}{i:Int}{c:Nat}{w:ai}{e:List Nat}{S:Int->Bool}{g:Int->Option ai}
theorem MF.it(f:MF G j o i c w e)(m:i∈r5):∀n,n<4->cl (g6 (n+1) (bK G i))=c::sU (cl w) (n+1)|0,_=>by refine kR (FU c f.c) λa b d _=>?_;show cl (gc (bK G i))=_;rw[LO,f.t,J8 ⟨a,b,d⟩,Wz _ (r7 i m).2.1 _ f.w.2 _ f.e]|n+1,h=>by refine kR (FU c f.c) λa b d _=>?_;show cl (gc (g6 (n+1) (bK G i)))=_;rw[LO,f.it m n (rG h),J8 ⟨a,b,d⟩,WA _ (r7 i m).2.1 _ f.w.2 _ ((by decide:∀n,n<3->n+1∈([1,2,3]:List Nat)) n (VP h))]
theorem MF.parts(f:MF G j o i c w e)(m:i∈r5)(h:n<4):m5 S g (g6 (n+1) (bK G i))=sgn S g c::(cl w).map (sgn S g):=by unfold m5;rw[show(g6 (n+1) (bK G i)).cps.toList=_ from f.it m n h,Jb (FU c f.c).2.2.2,(Ao _ (r7 i m).2.1 _ f.w.2).2 _ ((by decide:∀n,n<4->n+1∈([1,2,3,4]:List Nat)) n h)];rfl
theorem MF.gK(f:MF G j o i c w e)(m:i∈r5)(t:TabOk S g):Mine.gK (sgn S g c::(cl w).map (sgn S g))=cl (bC i):=by show cl (sgn S g c)++Mine.gK _=_;rw[t.wd _ f.w.1 _ f.w.2,show sgn S g c=""from if_pos (t.sh c f.c)];rfl
theorem MF.name(f:MF G j o i c w e)(m:i∈r5)(t:TabOk S g)(h:n<4):nameOf S g (g6 (n+1) (bK G i))=bC i:=by refine MQ ?_;unfold nameOf;rw[E0,f.parts m h,f.gK m t]
theorem Yq{w:List Nat}(n:Nat):(sU w n).length=4+(1+n)+w.length+2+(1+n):=by unfold sU;rw[cL,cL,cL,cL,Ji];rfl
theorem MF.len(f:MF G j o i c w e)(m:i∈r5):∀n,n<=4->(cl (g6 n (bK G i))).length<=100|0,_=>by show(cl (bK G i)).length<=100;have:=(Ao _ (r7 i m).2.1 _ f.w.2).1;have L:∀e∈([[10],[13],[13,10]]:List (List Nat)),e.length<=2:=dk;have L:=L e f.e;rw[f.t];unfold B6;rw[fC,cL,cL,cL,cL,cL];exact cD (qv (qp (mz (mz (qp (mz L L) _) this) L) _))|n+1,h=>by have:=(Ao _ (r7 i m).2.1 _ f.w.2).1;have h1:=iy h 1;rw[f.it m n h,fC,Yq];exact cD (qv (mz (qp (mz (iy h1 4) this) 2) h1))
theorem xbT:∀i∈r5,(cl (bC i)).length<=3:=dk
theorem Z6(t:TabOk S g)(h:∀i∈r5,∃c w e,MF G j o i c w e):rZ S g G where
s2 i c D h1 a:=by refine iT (h i (aF.mpr ⟨D,h1⟩)) λ_ _ _ f=>?_;exact xbP (bf (f.len (aF.mpr ⟨D,h1⟩) c (eB a)) dk)
s1 i c D h1 a:=by refine iT (h i (aF.mpr ⟨D,h1⟩)) λ_ _ _ f=>?_;refine xbQ ?_;have:=f.len (aF.mpr ⟨D,h1⟩) c (eB a);have J:=LQ (cl (g6 c (bK G i))) ay;rw[MR];exact bf J (cD (mV _ this))
nz i c D h1 a:=by refine iT (h i (aF.mpr ⟨D,h1⟩)) λ_ _ _ f=>?_;exact bf (f.len (aF.mpr ⟨D,h1⟩) (c+1) a) dk
nw i c D h1 a:=by have m:=aF.mpr ⟨D,h1⟩;refine iT (h i m) λ_ _ _ f=>?_;rw[f.parts m a,E1,f.gK m t];rw[fC,aI];exact cD (mz (xbT i m) (qv (Ao _ (r7 i m).2.1 _ f.w.2).1))
theorem MF.xgj(f:MF G j o i c w e)(m:i∈r5)(h:n<4)(U:bK r i=uu ((n+1:Nat):Int)):g6 (n+1) (bK G i)=yT j o r i:=by refine MQ ?_;unfold yT;rw[f.it m n h,oJ,oJ,oJ,oJ,oJ,f.s,f.d,U,show cl "\r\n\r\n"=[13,10,13,10]by decide,show cl "\r\n"=[13,10]by decide,show cl (uu ((n+1:Nat):Int))=eH (1+(n+1)) 46 from by unfold uu zj;rfl];unfold sU;simp only[fT];rfl
end
theorem xgk:zk.all (λc:Nat=>setB (c:Int))=af:=by kernel_rfl
theorem xgl:(en 0 gV).all (λq=>q.2.all λx=>gK ((cl x).map (sgn setB cC))==cl (bC q.1))=af:=by kernel_rfl
theorem xbU:TabOk setB cC:=⟨λc m=>cj.mp xgk c m,λq m x S=>eq_of_beq (cj.mp (cj.mp xgl q m) x S)⟩
theorem ptH(k:Kp h1 h)(V:List ah)(R:aS)(q:ai):dF V R q h PL:=⟨#[],k _ _ (by kernel_rfl),trivial,.inl rfl⟩
def jf(W:List (List Int))(f:List Int)(g:Int):List Int:=r5.filter λI=>(ee W f I).contains g
def fF(W:List (List Int))(f:List Int)(g:Int):Tab:=(jf W f g).map λI=>(bC I,((bA W I).idxOf g:Int)+1)
def r8(W:List (List Int))(f:List Int)(g:Int):List Int:=(jf W f g).map λI=>((bA W g).idxOf I:Int)
theorem GN:∀i∈r5,(gJ.idxOf (bC i):Int)=i/\bC i∈gJ:=dk
theorem Oo(m:I∈jf W f g):I∈r5/\g∈bA W I:=by refine aW (d7.mp m) λa b=>?_;exact⟨a,nL (jz.mp b)⟩
section
variable{A:aG}{X:List ah}{h:aB}{P:Gm}{L:ah}{E:aj->au->Prop}
def GO(k:Nat):c6:=sN (bodyOf (fP 22)) k
theorem Yr{f:List Int}(d:A.handled=ak)(z:∃o,h.get? eo=aa o)(t:fR W)(K:f.length=5)(n:∀i∈r5,0<=gi f i)(c:CX X h (aV L) P)(u:P "wishes"=aa (b7 W))(w:P "asks"=aa (LI f))(a:P "asked"=aa (.int g))(r:P "names"=aa NM)(gr:P "range"=aa (.aJ (.type "range"))):CU A (aV L) X h (valOf (GO 0)) (dg (fF W f g)):=by
 have e:dg (fF W f g)=.dS ((r5.filter λI=>(ee W f I).contains g).map bC) ((r5.filter λI=>(ee W f I).contains g).map λI=>.int (((bA W I).idxOf g:Int)+1)):=by unfold dg DS eL fF jf;refine O bO (O bO (O bO (O bO ?_)));rfl
 refine O e ?_;refine@CU.Il A _ X h _ Int _ _ _ _ _ _ _ _ T.int r5 _ _ _ c z ?_ (λI m C F Y h c k=>?_) (λI m _ C F Y h c k=>?_) (λI m p C F Y h c J k=>?_) ?_ dk (by kernel_rfl) (by kernel_rfl) ?_;.exact IT.kT d c gr
 .refine aW (aF.mp m) λD h1=>?_;refine TS.one (TV.cmp (X:=Y) (t:=.int g) (u:=LI (ee W f I)) (EV.name c (by exact a)) ?_ aY.xby);rw[show LI (ee W f I)=.list (((bA W I).map T.int).take (gi f I).toNat)from congrArg T.list (DT ..)];exact EV.FT c.live (EV.bA t (EV.name c (by exact u)) (EV.name c) D h1) (EV.gi (EV.name c (by exact w)) (EV.name c) D (by exact O K h1) (by refine O K ?_;decide)) (n I m) (by refine O (aI ..) (O (t.row I D h1) ?_);decide)
 .refine aW (aF.mp m) λD h1=>?_;exact EV.sub (EV.name c (by exact r)) (EV.name c) (cU.list D (eF h1) (Bw D h1))
 .refine aW (aF.mp m) λD h1=>?_;exact EV.bin (EV.pQ (EV.bA t (EV.name c (by exact u)) (EV.name c) D h1) (EV.name c (by exact a)) (nL (jz.mp p)) (by refine O (t.row I D h1) ?_;decide)) EV.int bE.add
 .exact D8 (λx S y Z e=>uv x (d7.mp S).1 y (d7.mp Z).1 e) (WZ.nodup dk)
 .intro _;rfl
theorem Ys(l:A.handled=ak)(t:fR W)(N:g∈r5)(c:CX X h (aV L) P)(u:P "wishes"=aa (b7 W))(i:P "table"=aa (dg (fF W f g)))(j:P "asked"=aa (.int g))(r:P "names"=aa NM):CU A (aV L) X h (valOf (GO 1)) (LI (r8 W f g)):=by
 have e:LI (r8 W f g)=.list (((jf W f g).filter λ_=>af).map λI=>.int ((bA W g).idxOf I)):=by unfold r8 LI;refine O (fE ..) (O bO ?_);rfl
 refine O e ?_;have d:((eL (fF W f g)).map (·.1)).map T.str=(jf W f g).map λI=>T.str (bC I):=by unfold eL fF;refine O bO (O bO (O bO ?_));rfl
 have b:(jf W f g).length<=5:=nJ _ _;refine aW (aF.mp N) λH V=>?_;refine@CU.l1 A _ X h P Int _ _ _ _ _ _ _ (λI=>T.str (bC I)) _ _ _ c ?_ (λa m C F Y h c k=>TS.nil) (λI m _ C F Y h c J k=>?_) ?_ ?_ ?_ ?_;.exact aR d (IT.O0 l rfl c.live (EV.name c (by exact i)))
 .refine aW (Oo m) λU s=>?_;refine aW (aF.mp U) λD h1=>?_;refine aW (GN I U) λQ R=>?_;have S:g≠I:=(t.el I D h1 g s).2.2;exact EV.pQ (EV.bA t (EV.name c (by exact u)) (EV.name c (by exact j)) H V) (EV.Qx (EV.name c (by exact r)) (EV.name c) R Q) (t.all g H V I D h1 (gu S)) (by refine O (t.row g H V) ?_;decide)
 .exact cD b
 .kernel_rfl
 .kernel_rfl
 .intro _;rfl
end
theorem E2:∀l:List Int,jd l=l.sum|[]=>rfl|a::l=>by rw[jd,rK,E2 l]
noncomputable def tabS(t:Tab):Int:=(t.map (·.2)).sum
def Pf(W:List (List Int))(f:List Int)(g:Int):Stat:=⟨if((fF W f g).length:Int)<1 then(fF W f g).length else 1,(fF W f g).length,tabS (fF W f g),(r8 W f g).sum,fF W f g⟩
structure Bb(W:List (List Int))(f:List Int)(M:bG):Prop where
n:M.book.length=5
b:∀a∈r5,TE 3 (cB (cP M.book a)) (cB (Pf W f a))c:∀a∈r5,tabS (cP M.book a).t=tabS (fF W f a)z:∀a∈r5,(cP M.book a).t.length<=100
theorem FW(t:fR W)(h:i∈r5):0<=((bA W i).idxOf x:Int)/\((bA W i).idxOf x:Int)<=4:=by have:=List.idxOf_le_length (a:=x) (l:=bA W i);rw[t.row i (aF.mp h).1 (aF.mp h).2]at this;exact iR (iO _) (QZ this)
section
variable{A:aG}{X:List ah}{h:aB}{P:Gm}{L:ah}{E:aj->au->Prop}
theorem yF(t:Tab):dg t=.dS (t.map (·.1)) ((t.map (·.2)).map .int):=by show T.dS _ _=_;exact O (xe ..) (O (GK ..) rfl)
theorem MU{np p1 p2 p3 p4:aS}{t:Tab}(d:A.handled=ak)(c:CX X h G P)(g:P x=aa (dg t))(K:isVar G x=af)(f:P "sum"=aa (.aJ (.builtin "sum")))(H:mP G "sum"=af)(I:t.length<=1000)(R:∀v∈t.map (·.2),0<=v/\v<1099511627776)(V:(p2.endLine==p3.line)=af)(W:bq [.Call (.Attribute (.Name x p1) "values" p2) [] [] p3] G=(ay,aU (.Call (.Attribute (.Name x p1) "values" p2) [] [] p3) G)::bq [] G)(y:kG (.Name x p1) "values" G (aU (.Name x p1) G)=aU (.Name x p1) G):EV A G X h (.Call (.Name "sum" np) [.Call (.Attribute (.Name x p1) "values" p2) [] [] p3] [] p4) (.int (tabS t)):=by rw[yF]at g;exact EV.FQ (P:=VV X (t.map (·.1)) ((t.map (·.2)).map .int)) (EV.glob c f H) rfl (xO.values (EV.name c g K) y V) (λs E v k p=>VV.sum d (by exact O (aI ..) (O (aI ..) rfl)) (by exact O (aI ..) I) R p) W
theorem WB{M:bG}(Y:Kp hH H)(r:Kp H h)(u:cG A (n+1))(t:fR W)(d:Bb W f M)(N:g∈r5)(c:CX X h (aV L) P)(D:P "book"=aa (.list (M.book.map cB)))(w:P "asked"=aa (.int g))(j:P "table"=aa (dg (fF W f g)))(F:P "likes"=aa (LI (r8 W f g)))(C:P "min"=aa (.aJ (.builtin "min")))(s:P "len"=aa (.aJ (.builtin "len")))(U:P "sum"=aa (.aJ (.builtin "sum")))(B:P "count_calls"=aa (.aJ (.ref 80))):TV A (aV L) h (valOf (GO 2)) ay:=by
 have i:=u.hd;have Z:A.units+6<fy:=by have:=u.jH;show _<9900;exact q8 _ this
 refine aW (aF.mp N) λo V=>?_;have e:(fF W f g).length<=5:=by unfold fF jf;exact O (aI ..) (nJ _ _)
 have R:∀v∈(fF W f g).map (·.2),0<=v/\v<1099511627776:=λv m=>by refine aH (bF.mp m) λp Q y=>?_;subst y;refine aH (bF.mp Q) λI S y=>?_;subst y;have:=FW t (x:=g) (Oo S).1;exact⟨DQ this.1,jK (xZ this.2 1) dk⟩
 have z:∀v∈r8 W f g,0<=v/\v<1099511627776:=λv m=>by refine aH (bF.mp m) λI S y=>?_;subst y;have:=FW t (x:=I) N;exact⟨this.1,jK this.2 dk⟩
 have k:∀{b p1 p2:aS},EV A (aV L) X h (.Call (.Name "len" b) [.Name "table" p1] [] p2) (.int (fF W f g).length):=λ{b p1 p2}=>by have:=CA.HB (A:=A) (X:=X) (h₀:=h) (ks:=(fF W f g).map (·.1)) (vs:=((fF W f g).map (·.2)).map .int) (by exact O (aI ..) (cD e));rw[aI]at this;rw[yF]at j;exact EV.cQ (EV.glob c s) rfl (EL.cons (EV.name c j (by kernel_rfl)) EL.nil) this
 have l:∀{b p1 p2 p3 a:aS},(p2.endLine==p3.line)=af->EV A (aV L) X h (.Call (.Name "sum" b) [.Call (.Attribute (.Name "table" p1) "values" p2) [] [] p3] [] a) (.int (tabS (fF W f g))):=λ{b p1 p2 p3 a}q=>MU (np:=b) (p1:=p1) (p2:=p2) (p3:=p3) (p4:=a) i c j (by kernel_rfl) U (by kernel_rfl) (cD e) R q (by rfl) (by rfl);have x:∀{p1 p2 p3:aS},EV A (aV L) X h (.Subscript (.Name "book" p1) (.Name "asked" p2) p3) (cB (cP M.book g)):=λ{p1 p2 p3}=>EV.sub (EV.name c D (by kernel_rfl)) (EV.name c w (by kernel_rfl)) (cU.list o (eF V) (map_getD (l:=M.book) (f:=cB) (d:=⟨0,0,0,0,[]⟩) (by exact O d.n (toNat_lt o V))));refine TV.ry (b:=ay||(ay||ay)) (AT.or (TV.cmp (X:=X) (t:=cB (cP M.book g)) (u:=cB (Pf W f g)) (b:=ay) x ?_ (aY.qS (d.b g N) (lP Z) (.inr ⟨_,rfl⟩))) λ_=>AT.or (TV.cmp (X:=X) (t:=.int (tabS (cP M.book g).t)) (u:=.int (tabS (fF W f g))) (b:=ay) ?_ (l dk) ?_) λ_=>AT.Bj);.exact EV.tup c.live (EL.cons (EV.cQ (EV.glob c C (by kernel_rfl)) rfl (EL.cons EV.int (EL.cons k EL.nil)) (CA.min2 i)) (EL.cons k (EL.cons (l dk) (EL.cons (EV.cQ (EV.glob c U (by kernel_rfl)) rfl (EL.cons (EV.name c F (by kernel_rfl)) EL.nil) (CA.jd i (by unfold r8 jf;exact O (aI ..) (bf (nJ _ _) dk)) z)) (EL.cons (EV.name c j (by kernel_rfl)) EL.nil))))) (by simp)
 .rw[show tabS (cP M.book g).t=jd ((cP M.book g).t.map (·.2))from(E2 _).symm];refine EV.xd c B (GD.kp (Y.trans r)) (EL.cons (EV.sub x EV.int (cU.tup dk dk (t:=dg (cP M.book g).t) rfl)) EL.nil) ?_ (by kernel_rfl) (by rfl);exact O (yF ..) (Jg u ⟨Y.trans r,c.live,c.ok.eN,c.ok.blt⟩ (by rw[aI,aI]))
 .refine O (d.c g N) ?_;have:=aY.ne (A:=A) (X:=X) (h₀:=h) (i:=tabS (fF W f g)) (j:=tabS (fF W f g));rw[bne_self_eq_false]at this;exact this
end
def jg(M:bG)(l:List Int):Stat:=l.foldl (λt a=>j5 t (cP M.book a)) ⟨0,0,0,0,[]⟩
theorem Yt(M:bG)(l:List Int)(a:Int):jg M (l++[a])=j5 (jg M l) (cP M.book a):=by unfold jg;refine O vL ?_;rfl
theorem Yu{st:bG}:∀{l:List Int},(∀a∈l,(cP st.book a).t.length<=100)->(jg st l).t.length<=100*l.length:=by
 intro l h;have:∀(l:List Int)(t:Stat),(∀a∈l,(cP st.book a).t.length<=100)->(l.foldl (λt a=>j5 t (cP st.book a)) t).t.length<=t.t.length+100*l.length:=by intro l;induction l with|nil=>intro t _;exact cR _|cons a l G=>intro t h;have h1:=Et t (cP st.book a);have J:=h a (aQ ..);have R:=G (j5 t (cP st.book a)) λx m=>h x (aZ _ m);exact O pH (O fC (bf R (bf (qp (bf h1 (iy J _)) _) (di ((jJ _ 100 _).trans (rL ..))))))
 have:=this l ⟨0,0,0,0,[]⟩ h;rw[qx,jl]at this;exact this
section
variable{A:aG}{N B s:au}{Z:List ah}{P:Gm}{L:ah}{E:aj->au->Prop}
noncomputable def gN(g:Gm):Gm:=λy=>if y="total"then ak else g y
theorem xdC(g:Gm):br (gN g) g:=λy t e=>by
 unfold gN at e;split at e;.cases e
 .exact e
abbrev zG(p F:List Int)(W:List (List Int))(G:List ai)(M:bG):Gm:=gF (zE p F W G M) W
theorem xdD{W:List (List Int)}{n:Nat}{p F:List Int}{G:List ai}{M:bG}{Q:ek->au->Prop}(Y:Kp hH N.heap)(u:cG A (n+2))(C:tn L)(t:fR W)(D:fS (rounds W))(H:Bb W (bH (rounds W)) M)(f:FS [PL] N B s Z (aV L) (zG p F W G M) [])(hQ:∀s',FS [PL] N B s' Z (aV L) (upd (gN (zG p F W G M)) "total" (cB (jg M r5))) []->av (aA PW w) A (b9 ((bodyOf (aP PW 27)).drop 23) (aV L)) Q E s'):av (aA PW w) A (b9 ((bodyOf (aP PW 27)).drop 22) (aV L)) Q E s:=by
 have d:=u.hd;have c:cG A (n+1+1):=u;have V:=C "asked" (.inr (by kernel_rfl));have R:=C "table" (.inl (by kernel_rfl));have J:=C "likes" (.inl (by kernel_rfl));have v:=C "total" (.inl (by kernel_rfl));have la:(bH (rounds W)).length=5:=by unfold bH;exact O (aI ..) (O D.len rfl)
 refine@bY _ _ _ _ _ _ _ (FS.for (as:=r5) (kf:=.int) (cV:=λl=>upd (gN (zG p F W G M)) "total" (cB (jg M l))) (iw:=λl a=>upd (upd (gN (zG p F W G M)) "total" (cB (jg M l))) "asked" (.int a)) (Mf:=λ_=>[]) (λl=>∀a∈l,a∈r5) (λa m=>by cases m) (f.less (br.iK (xdC _) (by rfl))) (IT.kT d f.cx (by rfl)) (λ_=>rfl) (λl a _=>AS.name V.1 V.2) (λl a I X wr U E f y=>?_) λU _ f=>⟨rfl,hQ U f⟩);have K:a∈r5:=qI I;have b:l.length<=5:=by obtain⟨r,e⟩:=I;have:=congrArg t8 e;rw[cL]at this;exact bf (e7 _ _) (di this.symm)
 obtain⟨h,q⟩:=aF.mp K;refine@bY _ _ _ _ _ _ _ (@FS.qJ _ _ _ _ _ _ _ _ _ _ _ _ _ _ (dg (fF W (bH (rounds W)) a)) _ f R.1 R.2 (Yr d ((w6 Y).imp λo e=>f.ks.kp _ _ e) t la (λi m=>by have:=yE D (aF.mp m).1 (aF.mp m).2;exact fW this.1) f.cx (by rfl) (by rfl) (by rfl) (by rfl) (by rfl)) (λT f=>⟨rfl,?_⟩) rfl);refine@bY _ _ _ _ _ _ _ (@FS.qJ _ _ _ _ _ _ _ _ _ _ _ _ _ _ (LI (r8 W (bH (rounds W)) a)) _ f J.1 J.2 (Ys d t K f.cx (by rfl) (by rfl) (by rfl) (by rfl)) (λS f=>⟨rfl,?_⟩) rfl);refine@bY _ _ _ _ _ _ _ (@FS.cond _ _ _ _ _ _ _ _ _ _ _ _ _ _ ay _ f (WB Y f.ks.kp c t H K f.cx (by rfl) (by rfl) (by rfl) (by rfl) (by rfl) (by rfl) (by rfl) (by rfl)) (λe=>by cases e) λ_ z f=>iA ⟨rfl,?_⟩);have k:=Yu (st:=M) (l:=l) λx m=>H.z x (X x m);have g:=H.z a K;refine@dj _ _ _ _ _ _ (@FS.set _ _ _ _ _ _ _ _ _ _ _ _ _ _ (cB (jg M (l++[a]))) _ f v.1 v.2 (EV.xd (ts:=[cB (jg M l),cB (cP M.book a)]) f.cx (by rfl) (GA.kp (Y.trans f.ks.kp)) (EL.cons (EV.name f.cx) (EL.cons (EV.sub (EV.name (t:=.list (M.book.map cB)) f.cx (by rfl)) (EV.name (t:=.int a) f.cx (by rfl)) (cU.list h (eF q) (map_getD (l:=M.book) (f:=cB) (d:=⟨0,0,0,0,[]⟩) (by exact O H.n (toNat_lt h q))))) EL.nil)) ?_ (by kernel_rfl) (by rfl)) (λj _ f=>⟨λx m=>(bD.mp m).elim (X x) λm=>by exact O (aX.mp m) K,f.less ?_⟩) rfl);.exact O (Yt ..) (I1 u ⟨Y.trans f.ks.kp,f.cx.live,f.cx.ok.eN,f.cx.ok.blt⟩ (bf k (cD (mV _ b))) (cD g))
 .show br _ _;exact br.iK (br.out (br.out (br.out (br.out (br.out (br.refl _) (by kernel_rfl)) (by kernel_rfl)) (by kernel_rfl)) (by kernel_rfl)) (by kernel_rfl)) (by rfl)
end
def ia(f:List Int):Tab:=(en 0 f).map λq=>(bC q.1,(q.2*(q.2+1)).fdiv 2)
def m6(W:List (List Int))(f:List Int):List Int:=r5.flatMap λI=>(ee W f I).map λg=>((bA W g).idxOf I:Int)
section
variable{A:aG}{X:List ah}{h:aB}{P:Gm}{L:ah}{E:aj->au->Prop}
theorem IT.tup(w:A.handled=ak)(f:isNm z)(l:bJ X h)(d:EV A G X h iter (.tup a)):IT A G X h iter z a:=λs E k=>aC (d s E k) (λv U x=>by
refine cI x.2.jQ λy xs u n p R=>?_;subst u;have c:=(l.kp k).kp x.1.kp;refine aH (id p) λC B D=>?_;have W:=dR B;have K:U.heap.get? U.heap.objs.size=ak:=get?_none_of_le (cR _);have j:Kp U.heap (U.heap.push {cls:=.type "tuple_iterator",data:=.fields #[.ref y,.int 0 0]}):=λb o e=>bX _ e;have N:∀b∈[U.heap.objs.size],U.heap.get? b=ak:=λb m=>by exact O (aX.mp m) K
refine xcp p ⟨x.1.trans (.push ..),U.heap.objs.size,[U.heap.objs.size,y],[U.heap.objs.size],rfl,jE.mono (h₁:=U.heap) ?_ x.1.kp⟩;refine⟨λb m=>?_,λb m=>?_,N,λb m=>?_,λY J F=>⟨_,gz.ofWalks (λh=>az Y h a xs.toList) f (Walks.tuple w U.heap.objs.size y (bS W) xs) (by exact aR R.length (O dw rfl)) (λh h' r k=>Mine.az.kp k _ _ r) (λi v t h Q g r=>r.get g (by exact O gM Q)) (λi h M b m=>?_) F,⟨⟨_,cF _ rfl,rfl,rfl⟩,⟨C,j _ _ B,D⟩⟩,oh j J N R⟩⟩
.refine bz (bB.mp m) (λI=>?_) λm=>?_;.subst I;exact⟨_,cF _ rfl⟩
 .replace m:=aX.mp m;exact O m ⟨_,j _ _ B⟩
.refine bz (bB.mp m) (λI=>?_) λm=>?_;.subst I;exact c.new
 .replace m:=aX.mp m;exact O m n
.replace m:=aX.mp m;exact O m (aQ ..)
.replace m:=aX.mp m;refine O m ?_;refine aH M.1 λo q _=>?_;exact⟨o,q⟩) λ_ _ e=>e
theorem WC{f:List Int}(g:A.handled=ak)(z:∃o,h.get? eo=aa o)(K:f.length=5)(n:∀x∈f,0<=x/\x<=4)(c:CX X h (aV L) P)(w:P "asks"=aa (LI f))(r:P "names"=aa NM)(B:P "enumerate"=aa (.aJ (.type "enumerate"))):CU A (aV L) X h (sM (valOf (fP 23)) 0) (dg (ia f)):=by
 have e:dg (ia f)=.dS (((en 0 f).filter λ_=>af).map λq=>bC q.1) (((en 0 f).filter λ_=>af).map λq=>.int ((q.2*(q.2+1)).fdiv 2)):=by unfold dg DS eL ia;refine O (fE ..) (O bO (O bO (O bO (O bO ?_))));rfl
 refine O e ?_;have Q:∀q∈en 0 f,(0<=q.1/\q.1<5)/\0<=q.2/\q.2<=4:=λq m=>⟨EZ K m,n _ (by refine aH (rX m) λk _ e=>?_;exact eO e)⟩;refine@CU.dS2 A _ X h _ (Int×Int) _ _ _ _ _ _ _ _ _ _ _ _ (λq=>T.int q.1) (λq=>T.int q.2) (en 0 f) (λ_=>af) _ _ g c z ?_ (λa m C F Y h c k=>TS.nil) (λq m _ C F Y h c k=>?_) (λq m _ C F Y h c J k=>?_) ?_ ?_ ?_ ?_ ?_ ?_;.exact IT.Bu g c B (EV.name c (by exact w)) (by kernel_rfl)
 .exact EV.sub (EV.name c (by exact r)) (EV.name c) (cU.list (Q q m).1.1 (by have:=(Q q m).1.2;exact eF this) (Bw (Q q m).1.1 (Q q m).1.2))
 .exact EV.bin (EV.bin (EV.name c) (EV.bin (EV.name c) EV.int bE.add) (bE.zh (by have:=(Q q m).2;exact OD this.1 this.2))) EV.int (bE.uD dk dk)
 .refine O (fE ..) ?_;have:(en 0 f).map (λq=>bC q.1)=gJ:=by refine n7 (oM K) λa b c d e u=>?_;subst u;rfl
  refine O this ?_;decide
 .refine O (m9 ..) (O K ?_);decide
 .kernel_rfl
 .kernel_rfl
 .kernel_rfl
 .intro _;rfl
theorem WD{f:List Int}(d:A.handled=ak)(t:fR W)(K:f.length=5)(n:∀i∈r5,0<=gi f i)(c:CX X h (aV L) P)(u:P "wishes"=aa (b7 W))(w:P "asks"=aa (LI f))(gr:P "range"=aa (.aJ (.type "range"))):CU A (aV L) X h (sM (valOf (fP 23)) 1) (LI (m6 W f)):=by
 have e:LI (m6 W f)=.list (r5.flatMap λI=>if af=af then((ee W f I).filter λ_=>af).map λg=>.int ((bA W g).idxOf I)else[]):=by
  have:∀l:List Int,(l.flatMap λI=>(ee W f I).map λg=>((bA W g).idxOf I:Int)).map T.int=l.flatMap λI=>if af=af then((ee W f I).filter λ_=>af).map λg=>T.int ((bA W g).idxOf I)else[]:=by intro l;induction l with|nil=>rfl|cons a l G=>refine O zS (O fY (O G (O zS (O (if_pos rfl) (O (fE ..) (O bO ?_))))));rfl
  exact congrArg T.list (this r5)
 refine O e ?_;have j:∀I∈r5,∀a∈ee W f I,a∈r5/\a≠I:=λI m a s=>let⟨x,y,z⟩:=t.el I (aF.mp m).1 (aF.mp m).2 a (nL s);⟨aF.mpr ⟨x,y⟩,z⟩;refine@CU.ll A _ X h _ Int Int _ _ _ _ _ _ _ _ _ _ _ r5 T.int (λ_=>af) (λI=>ee W f I) (λ_=>T.int) (λ_ _=>af) (λI g=>.int ((bA W g).idxOf I)) c ?_ (λa m C F Y h c k=>TS.nil) (λI m _ C F Y h c k=>?_) (λI m a s C F Y h c k=>TS.nil) (λI m a s _ C F Y h c J k=>?_) dk (λI m=>?_) ?_ ?_ ?_ ?_ ?_ ?_;.exact IT.kT d c gr
 .refine aW (aF.mp m) λD h1=>?_;refine O (show(ee W f I).map T.int=((bA W I).map T.int).take (gi f I).toNat from DT ..) ?_;exact IT.list d (.inl rfl) c.live (EV.FT c.live (EV.bA t (EV.name c (by exact u)) (EV.name c) D h1) (EV.gi (EV.name c (by exact w)) (EV.name c) D (by exact O K h1) (by refine O K ?_;decide)) (n I m) (by refine O (aI ..) (O (t.row I D h1) ?_);decide))
 .refine aW (j I m a s) λo b=>?_;refine aW (aF.mp o) λH q=>?_;refine aW (aF.mp m) λD h1=>?_;exact EV.pQ (EV.bA t (EV.name c (by exact u)) (EV.name c) H q) (EV.name c) (t.all a H q I D h1 (gu b)) (by refine O (t.row a H q) ?_;decide)
 .unfold ee;exact O jA (O (t.row I (aF.mp m).1 (aF.mp m).2) (bf (tL _ _) dk))
 .kernel_rfl
 .kernel_rfl
 .kernel_rfl
 .decide
 .intro _;rfl
 .intro _ _ _;rfl
end
def QB(W:List (List Int))(f:List Int):Stat:=⟨5-((keepsP W f).count (-1):Nat),(bH f).sum,tabS (ia (bH f)),(m6 W (bH f)).sum,ia (bH f)⟩
structure Bx(W:List (List Int))(l:Stat):Prop where
z:l.t.length<=1000
e:TE 3 (cB l) (cB (QB W (rounds W)))c:tabS l.t=tabS (ia (bH (rounds W)))
section
variable{A:aG}{X:List ah}{h:aB}{P:Gm}{L:ah}{E:aj->au->Prop}
theorem Z7{l:Stat}(d:A.handled=ak)(Z:A.units+6<fy)(I:l.t.length<=1000)(c:CX X h (aV L) P)(b:P "total"=aa (cB l))(B:P "tuple"=aa (.aJ (.type "tuple")))(r:P "isinstance"=aa (.aJ (.builtin "isinstance")))(U:P "int"=aa (.aJ (.type "int"))):TV A (aV L) h (valOf (fP 24)) ay:=by
 have g:∀{p:aS},EV A (aV L) X h (.Name "total" p) (cB l):=λ{p}=>EV.name c b (by kernel_rfl);refine O (show valOf (fP 24)=CY _ _ _ _ from rfl) ?_;refine TV.cmp (X:=X) (t:=.list []) (u:=.list []) (EF.ev (CU.ef ?_ c.live)) (EV.list c.live EL.nil) (aY.qS (n:=1) (.list rfl λi t u a _=>by cases a) (lP Z) (.inl ⟨_,rfl⟩));have e:(.list []:T)=.list ((([l.a,l.b,l.c,l.d]++l.t.map (·.2)).filter λ_=>ay).map .int):=by refine O (vG.mpr λ_ _=>qq) ?_;rfl
 refine O e ?_;refine@CU.l1 A _ X h P Int _ _ _ _ _ _ _ T.int _ _ _ c ?_ (λa m C F Y h c k=>TS.one ?_) (λa m p=>by cases p) ?_ ?_ ?_ ?_
 .refine O fY ?_;have z:((l.t.map (·.2)).map T.int).length<=1000:=by exact O (aI ..) (O (aI ..) I)
  refine IT.tup d rfl c.live (EV.bin (t:=.tup ([l.a,l.b,l.c,l.d].map .int)) (u:=.tup ((l.t.map (·.2)).map .int)) (EV.ZN c.live g EV.int) (EV.FQ (P:=VV X (l.t.map (·.1)) ((l.t.map (·.2)).map .int)) (EV.glob c (by exact B)) rfl (xO.values (EV.sub g EV.int (cU.tup (by decide) (by decide) ?_))) λs E v k p=>VV.tup d (c.live.kp k) (by exact O (aI ..) (cD I)) (by exact O (aI ..) (O (aI ..) (O (aI ..) rfl))) p) (bE.xgi c.live (by show 4+_<=_;exact sW (cR _) z)));refine aR (yF ..) ?_;rfl
 .exact TV.not (b:=af) (TV.of (X:=Y) (EV.cQ (EV.glob c (by exact r)) rfl (EL.cons (EV.name c) (EL.cons (EV.glob c (by exact U)) EL.nil)) CA.xbB))
 .refine O cL (O (aI ..) ?_);show 4+_<=_;exact sW (cR _) I
 .kernel_rfl
 .kernel_rfl
 .intro _;rfl
def QC:aT:=valOf (fP 25)
theorem xbV{H:aB}{W:List (List Int)}{l:Stat}{n:Nat}(Y:Kp hH H)(s:Kp H h)(u:cG A (n+1))(t:fR W)(D:fS (rounds W))(N:Bx W l)(c:CX X h (aV L) P)(J:P "total"=aa (cB l))(gk:P "keeps"=aa (LI (keepsP W (rounds W))))(C:P "asks"=aa (LI (bH (rounds W))))(M:P "places"=aa (dg (ia (bH (rounds W)))))(gl:P "likes"=aa (LI (m6 W (bH (rounds W)))))(U:P "sum"=aa (.aJ (.builtin "sum")))(R:P "count_calls"=aa (.aJ (.ref 80))):EV A (aV L) X h QC (.bool af):=by
 obtain⟨oz,w,oc⟩:=N;unfold QB at w;generalize rounds W=f at*;have j:=u.hd;have Z:A.units+6<fy:=by have:=u.jH;show _<9900;exact q8 _ this
 have r:∀{p:aS},EV A (aV L) X h (.Name "total" p) (cB l):=λ{p}=>EV.name c J (by kernel_rfl);have K:∀x∈bH f,0<=x/\x<=4:=λx m=>⟨fW (wh D x m).1,(wh D x m).2⟩;have T:(bH f).length=5:=by unfold bH;exact O (aI ..) (O D.len rfl)
 have Q:(ia (bH f)).length=5:=by unfold ia;exact O (aI ..) (O (m9 ..) (O T rfl))
 have hb:∀v∈(ia (bH f)).map (·.2),0<=v/\v<1099511627776:=λv m=>by
  refine aH (bF.mp m) λp mp b=>?_;subst b;refine aH (bF.mp mp) λq mq b=>?_;subst b;have B:=K q.2 (by refine aH (rX mq) λk _ e=>?_;exact eO e);have:∀x:Int,x∈([0,1,2,3,4]:List Int)->0<=(x*(x+1)).fdiv 2/\(x*(x+1)).fdiv 2<1099511627776:=by decide
  exact this q.2 (by simp only[bB,cg,or_false];exact xeg B.1 B.2)
 have z:∀v∈m6 W (bH f),0<=v/\v<1099511627776:=λv m=>by refine aH (ya.mp m) λI S m=>?_;refine aH (bF.mp m) λa V b=>?_;subst b;refine gW (t.el I (aF.mp S).1 (aF.mp S).2 a (nL V)) λx y _=>?_;have:=FW t (x:=I) (aF.mpr ⟨x,y⟩);exact⟨this.1,jK this.2 dk⟩
 have G:(m6 W (bH f)).length<=1000:=by
  have:=yh (f:=λI=>(ee W (bH f) I).map λg=>((bA W g).idxOf I:Int)) (n:=4) (l:=r5) λI m=>by unfold ee;exact O (aI ..) (O jA (O (t.row I (aF.mp m).1 (aF.mp m).2) (tL _ _)))
  exact bf this (by decide)
 have o:∀{i p1 p2 p3 d:aS},(p2.endLine==p3.line)=af->EV A (aV L) X h (.Call (.Name "sum" i) [.Call (.Attribute (.Name "places" p1) "values" p2) [] [] p3] [] d) (.int (tabS (ia (bH f)))):=λ{i p1 p2 p3 d}q=>MU (np:=i) (p1:=p1) (p2:=p2) (p3:=p3) (p4:=d) j c M (by kernel_rfl) U (by kernel_rfl) (jv Q (gQ _ _)) hb q (by rfl) (by rfl);refine O (show QC=xhj _ [CY _ _ _ _,CY _ _ _ _] _ from rfl) ?_;refine@EV.uS A _ X h _ _ _ af af (@EV.cmp A _ X h _ _ _ _ (cB l) (.tup [.int (5-((keepsP W f).count (-1):Nat)),.int (bH f).sum,.int (tabS (ia (bH f))),.int (m6 W (bH f)).sum,dg (ia (bH f))]) af r ?_ (aY.same w (lP Z) (.inr ⟨_,rfl⟩)) (by with_unfolding_all rfl)) λ_=>@EV.cmp A _ X h _ _ _ _ (.int (tabS l.t)) (.int (tabS (ia (bH f)))) af ?_ (o (by decide)) ?_ (by with_unfolding_all rfl);.exact@EV.tup _ _ _ _ _ _ _ _ c.live (@EL.cons _ _ _ _ _ _ _ _ _ (@EV.bin _ _ _ _ _ _ _ _ _ _ _ EV.int (@EV.Bl A _ X h _ _ _ _ _ _ (LI (keepsP W f)) (.int (-1)) _ (EV.name c (by exact gk)) (EV.neg EV.int) (MT.list xaF F.type_list_count) (CA.xbA (l:=keepsP W f)) rfl rfl rfl) bE.sub) (@EL.cons _ _ _ _ _ _ _ _ _ (EV.cQ (EV.glob c (by exact U)) rfl (EL.cons (EV.name c (by exact C)) EL.nil) (CA.jd (l:=bH f) j (by refine O T ?_;decide) λx m=>⟨(K x m).1,jK (K x m).2 dk⟩)) (@EL.cons _ _ _ _ _ _ _ _ _ (o (by decide)) (@EL.cons _ _ _ _ _ _ _ _ _ (EV.cQ (EV.glob c (by exact U)) rfl (EL.cons (EV.name c (by exact gl)) EL.nil) (CA.jd (l:=m6 W (bH f)) j G z)) (@EL.cons _ _ _ _ _ _ _ _ _ (EV.name c (by exact M)) (@EL.nil _ _ _ _ _) rfl) rfl) rfl) rfl) rfl) (by simp)
 .rw[show tabS l.t=jd (l.t.map (·.2))from(E2 _).symm];refine EV.xd c R (GD.kp (Y.trans s)) (EL.cons (EV.sub r EV.int (cU.tup (by decide) (by decide) (t:=dg l.t) rfl)) EL.nil) ?_ (by kernel_rfl) (by rfl);exact O (yF ..) (Jg u ⟨Y.trans s,c.live,c.ok.eN,c.ok.blt⟩ (by rw[aI,aI]))
 .refine O oc ?_;have:=aY.eq (A:=A) (X:=X) (h₀:=h) (i:=tabS (ia (bH f))) (j:=tabS (ia (bH f)));rw[beq_self_eq_true]at this;exact this
end
section
variable{A:aG}{N B s:au}{Z:List ah}{P:Gm}{L:ah}{E:aj->au->Prop}
theorem xdE{W:List (List Int)}{n:Nat}{p F:List Int}{G:List ai}{M:bG}{l:Stat}{Q:ek->au->Prop}(Y:Kp hH N.heap)(u:cG A (n+1))(C:tn L)(b:fR W)(D:fS (rounds W))(H:Bx W l)(f:FS [PL] N B s Z (aV L) (upd (gN (zG p F W G M)) "total" (cB l)) [])(X:∀a,FS [PL] N B a Z (aV L) (λ_=>ak) []->Q (.ret (.bool af)) a):av (aA PW w) A (b9 ((bodyOf (aP PW 27)).drop 23) (aV L)) Q E s:=by
 have d:=u.hd;have c:A.units+6<fy:=by have:=u.jH;show _<9900;exact q8 _ this
 have V:=C "places" (.inl (by kernel_rfl));have h:=C "likes" (.inl (by kernel_rfl));have T:(bH (rounds W)).length=5:=by unfold bH;exact O (aI ..) (O D.len rfl)
 have K:∀x∈bH (rounds W),0<=x/\x<=4:=λx m=>⟨fW (wh D x m).1,(wh D x m).2⟩;refine@bY _ _ _ _ _ _ _ (@FS.X7 _ _ _ _ _ _ _ _ _ _ ["places","likes"] _ _ _ _ _ _ _ [dg (ia (bH (rounds W))),LI (m6 W (bH (rounds W)))] _ d f (@EL.cons _ _ _ _ _ _ _ _ _ (EF.ev (CU.ef (WC d ((w6 Y).imp λo e=>f.ks.kp _ _ e) T K f.cx (by rfl) (by rfl) (by rfl)) f.cx.live)) (@EL.cons _ _ _ _ _ _ _ _ _ (EF.ev (CU.ef (WD d b T (λi m=>by have:=yE D (aF.mp m).1 (aF.mp m).2;exact fW this.1) f.cx (by rfl) (by rfl) (by rfl)) f.cx.live)) (@EL.nil _ _ _ _ _) rfl) rfl) rfl (show 2<=100000 by decide) (λJ f=>⟨rfl,?_⟩) ?_ rfl rfl);.refine@bY _ _ _ _ _ _ _ (@FS.cond _ _ _ _ _ _ _ _ _ _ _ _ _ _ ay _ f (Z7 d c H.z f.cx (by rfl) (by rfl) (by rfl) (by rfl)) (λe=>by cases e) λ_ j f=>iA ⟨rfl,?_⟩);refine@dj _ _ _ _ _ _ (Dw (aC (@xbV A _ j.heap _ L _ W l n Y f.ks.kp u b D H f.cx (by rfl) (by rfl) (by rfl) (by rfl) (by rfl) (by rfl) (by rfl) j E λ_ _ e=>e) (λv g y=>?_) λ_ _ e=>e));obtain⟨k,r⟩:=y;obtain rfl:=r.El;exact X g ((f.step k).less λx t e=>by cases e)
 .exact dQ V (dQ h nA)
end
structure Pg(S:Int->Bool)(b:Int->Option ai)(F:List Int):Prop where
wo:fR (fK F)nd:∀i∈r5,(bA (fK F) i).Nodup
ht:(jt F).length=5
mo:rZ S b (jt F)te:TE 5 (nG (Bv S b (fK F) (jt F) F)) (nG (o9 S b (fK F) (jt F) 0))odd:za (fK F) (o9 S b (fK F) (jt F) 0)ends:GL (fK F) ((jr F).map kO) (kW F) (o9 S b (fK F) (jt F) 0)book:Bb (fK F) (bH (rounds (fK F))) (o9 S b (fK F) (jt F) 0)tot:Bx (fK F) (jg (o9 S b (fK F) (jt F) 0) r5)
theorem Yv:∀v∈pT sc,0<=v/\v<2^35:=λv m=>by
 refine aH (bF.mp m) λq j y=>?_;subst y;have a:=D6 j;have h1:=FP (B:=1000000000) dk (l:=nv sc q.1) λx m=>EW m;have J:(nv sc q.1).length<=12:=by
  unfold nv pS;refine O (aI ..) (O (aI ..) (O x8 ?_));unfold pC;have f:=xP (n:=sc.length).1;generalize(if(sc.length:Int)<60 then(sc.length:Int)else 60)=B at f⊢;refine O (if_pos (show(5:Int)>0 by decide)) ?_;by_cases g:q.1<B;.exact O (if_pos g) (Ec.mpr (xZ (Int.ediv_le_ediv dk (Int.sub_le_sub_right (gG (xaG B a.1) f) 1)) 1))
  .refine O (if_neg g) ?_;decide
 have R:=IX (nV.mpr J) (show(0:Int)<=1000000000 by decide);exact⟨yf a.2.2.1 h1.1,qs (Int.add_lt_add_of_lt_of_le a.2.2.2 (gG h1.2 R)) dk⟩
section
variable{A:aG}{s:au}{E:aj->au->Prop}
theorem xbW{p:List Int}(F:A.frames=aa [])(M:cG A 8)(Y:Kp hH (kQ s.heap [PL]))(x:dF [PL] jG j7 s.heap PL)(Q:Rep [PL] s.heap (LI p) v)(c:p.length<=63)(H:Pg setB cC (pT p)):av (aA PW w) A (dP (.ref 266) [v] []) (λz S=>z=.bool af/\bu [PL] s S/\dF [PL] jG j7 S.heap PL) E s:=by
 have B:Kp (kQ s.heap [PL]) s.heap:=λb o e=>wm _ e;have I:∀b:ah,(∃o,(kQ s.heap [PL]).get? b=aa o)->b∉[PL]:=λb⟨o,e⟩m=>by exact gone e (vZ _ m)
 have P:bJ [PL] s.heap:=λb m=>by refine O (aX.mp m) ?_;refine aH x λps e _=>?_;exact⟨_,e⟩
 refine v8 (X:=[PL]) (n:=7) (ts:=[LI p]) (xbc.kp (Y.trans B)) (rz.kp (Y.trans B)) M P (I 3 (rz.kp Y).gU) (I 0 (rz.kp Y).bU) rfl ⟨Q,trivial⟩ λU E Z L f i C=>?_;have l:(kQ s.heap [PL]).get? PL=ak:=vZ _ (aX.mpr rfl);have V:PL∉Z:=λm=>by refine aE (P PL (aX.mpr rfl)) λo e=>?_;exact gone e (f.new PL m)
 have r:dF (Z++[PL]) jG j7 U.heap PL:=(x.O5 f.new).kp f.ks.kp;have f:=f.Pd [PL];have y:=DO p;have R:=Yv (sc:=p);have q:=U5 (env:=cy B3 L 266) F;have W:∀k,k<=7->cG (A.deeper (cy B3 L 266)) k:=λk N=>⟨i.hd,by have:=i.dep;exact gO (iy N _) this,gO (iy (mV 8 N) _) i.jH⟩;refine xbE i.hd C c (w6 Y) f λJ f=>?_;refine xbF i.hd C y f λj f=>?_;have d:dF (Z++[PL]) jG j7 j.heap PL:=r.at (f.kx.kp.mono λa m=>bI _ (f.own a (by simpa using m))) λo e=>f.kx.kp PL o (λm=>V (f.own PL (by simpa using m))) e;refine xbG (n:=1) Y l V i C y (λv m=>⟨(R v m).1,mY (R v m).2 dk⟩) f d λg h f t=>?_;refine xdy (n:=6) q Y l dk i C y R H.wo H.ht H.mo H.te f λG f=>?_;refine xbI (n:=6) Y i C H.wo f λn f=>?_;refine xbN (n:=6) i H.odd f λD f=>?_;refine xdA (n:=6) Y i C y H.wo H.nd H.ends f λT f=>?_;refine xdD (n:=5) Y i C H.wo H.ends.ck H.book f λu f=>?_;refine xdE (n:=6) Y i C H.wo H.ends.ck H.tot f λS f=>?_;have K:dF (Z++[PL]) jG j7 S.heap PL:=t.at (f.kx.kp.mono λa m=>bI _ (f.own a (by simpa using m))) λo e=>f.kx.kp PL o (λm=>V (f.own PL (by simpa using m))) e;refine⟨rfl,⟨λb o m e=>f.ks.kp b o (rR _ e m),?_⟩,K.less λa m=>cK _ m⟩;have:=f.ks.eq;exact O this rfl
end
section
variable{W:List (List Int)}
noncomputable def Sv(W:List (List Int))(q:Int->Int):Prop:=∀i∈r5,∀k,0<=k->k<q i->∃o∈r5,q o<4/\bw W o (q o)=bw W i k/\eG W (bw W i k) o<eG W (bw W i k) i
structure sC(W:List (List Int))(q:Int->Int):Prop where
bd:∀i∈r5,0<=q i/\q i<=4
nb:∀i∈r5,∀o∈r5,q i<4->q o<4->bw W o (q o)=bw W i (q i)->¬eG W (bw W i (q i)) o<eG W (bw W i (q i)) i
su:Sv W q
theorem LR{p q:Int->Int}(s:sC W q)(b:∀i∈r5,p i<=q i){i o:Int}(E:i∈r5)(T:o∈r5)(F:p i<4)(a:0<=p o/\p o<4)(e:bw W o (p o)=bw W i (p i))(A:eG W (bw W i (p i)) o<eG W (bw W i (p i)) i):p i+1<=q i:=by
 have R:=b i E;have G:=b o T;by_cases h:p i=q i
 .by_cases g:p o=q o;.rw[h,g]at e;rw[h]at A;exact absurd A (s.nb i E o T (h▸F) (g▸a.2) e)
  .refine fU (s.su o T (p o) a.1 (jc G g)) λc H Y U B=>?_;rw[e]at U B;rw[h]at U B A;exact absurd (mY B A) (s.nb i E c H (h▸F) Y U)
 .exact jc R h
noncomputable def zH(W:List (List Int))(c:List Int)(I:Int):Prop:=∃o∈r5,gi c o<4/\bw W o (gi c o)=bw W I (gi c I)/\eG W (bw W I (gi c I)) o<eG W (bw W I (gi c I)) I
theorem LS(W:List (List Int))(c:List Int)(I:Int):zH W c I/\gX W c I=c.set I.toNat (gi c I+1)\/¬zH W c I/\gX W c I=c:=by
 unfold gX;generalize C:(oE W c (bw W I (gi c I))).filter (λo=>decide (eG W (bw W I (gi c I)) o<eG W (bw W I (gi c I)) I))=L;have d:zH W c I↔L≠[]:=by
  refine aR C ?_;refine⟨λ⟨o,m,Y,e,lt⟩q=>?_,λq=>?_⟩;.have:=vG.mp q o (d7.mpr ⟨m,by refine O (decide_eq_true Y) (O e ?_);simp⟩);exact this (decide_eq_true lt)
  .refine aE (Up _ q) λo T=>?_;refine aW (d7.mp T) λU s=>?_;refine aW (d7.mp U) λg f=>?_;simp only[dZ,decide_eq_true_eq,tW,beq_iff_eq]at f;exact⟨o,g,f.1,f.2,of_decide_eq_true s⟩
 cases L with|nil=>exact .inr ⟨λb=>d.mp b rfl,rfl⟩|cons a L=>exact .inl ⟨d.mpr (by simp),rfl⟩
structure RI(W:List (List Int))(c:List Int):Prop where
ck:fS c
su:Sv W (gi c)le:∀q,sC W q->∀i∈r5,gi c i<=q i
theorem xdF{c:List Int}(D:fS c){I j:Int}(h:I∈r5)(Y:j∈r5):gi (c.set I.toNat (gi c I+1)) j=if j=I then gi c I+1 else gi c j:=rY (aF.mp h).1 (aF.mp Y).1 (by exact O D.len (aF.mp h).2)
theorem sum_set{c:List Int}:∀n,n<c.length->(c.set n (c.getD n 0+1)).sum=c.sum+1:=by induction c with|nil=>exact λn h=>nomatch h|cons a c G=>intro n h;cases n with|zero=>exact JN a 1 c.sum|succ n=>exact(congrArg (a+·) (G n (VP h))).trans (nU ..).symm
theorem FY{c:List Int}(h:c.length=5){I:Int}(m:I∈r5):(c.set I.toNat (gi c I+1)).sum=c.sum+1:=have q:=aF.mp m
sum_set _ (iu q.1 (h▸q.2))
theorem MV{l:List Int}(h:∀x∈l,x<=4):l.sum<=4*l.length:=by induction l with|nil=>exact t9 _|cons a l G=>exact gG (K1 (h a (aQ ..)) (G λx m=>h x (aZ _ m))) (mE ((jM ..).trans (xee 4 l.length 1).symm))
theorem xbX{c:List Int}(D:fS c):c.sum<=20:=(D.len▸MV λx m=>(D.mem x m).2:c.sum<=4*(5:Nat))
theorem RI.step(h:RI W c)(m:I∈r5)(Y:gi c I<4):RI W (gX W c I):=by
 have n:=h.ck.step (W:=W) (aF.mp m).1 (aF.mp m).2 Y;refine bz (LS W c I) (λv=>?_) λf=>?_
 .obtain⟨⟨o,T,l,e,A⟩,r⟩:=v;rw[r]at n⊢;have g:o≠I:=λq=>by replace A:=q▸A;exact yg _ A
  have b:=λ{j:Int}(w:j∈r5)=>xdF h.ck m w;refine⟨n,λi E k H V=>?_,λq s i E=>?_⟩
  .replace V:=b E▸V;by_cases C:i=I/\k=gi c I;.obtain⟨rfl,rfl⟩:=C;refine⟨o,T,?_⟩;exact O (b T) (O (if_neg g) ⟨l,e,A⟩)
   .obtain⟨a,X,d,U,B⟩:=h.su i E k H (by
by_cases q:i=I;.rw[if_pos q]at V;exact O q (jc (xY V) λz=>C ⟨q,z⟩)
.rw[if_neg q]at V;exact V);by_cases p:a=I;.subst p;refine⟨o,T,?_⟩;refine O (b T) (O (if_neg g) ?_);rw[U]at e A;exact⟨l,e,mY A B⟩
    .refine⟨a,X,?_⟩;exact O (b X) (O (if_neg p) ⟨d,U,B⟩)
  .refine O (b E) ?_;split;.have bl:=LR s (h.le q s) m T Y ⟨(h.ck.el o (aF.mp T).1 (aF.mp T).2).1,l⟩ e A;exact O ‹i=I› bl
   .exact h.le q s i E
 .obtain⟨_,r⟩:=f;exact O r h
theorem Ph:∀{l c:List Int},RI W c->(∀x∈l,x∈r5/\gi c x<4)->l.Nodup->RI W (l.foldl (gX W) c)/\c.sum<=(l.foldl (gX W) c).sum/\((l.foldl (gX W) c=c/\∀I∈l,¬zH W c I)\/c.sum+1<=(l.foldl (gX W) c).sum)
|[],c,h,_,_=>⟨h,t9 _,.inl ⟨rfl,λ_ m=>by cases m⟩⟩|a::l,c,h,V,g=>by
 refine aW (V a (aQ ..)) λs e=>?_;refine aW (mj.mp g) λj d=>?_;obtain⟨Q,R,M⟩:=Ph (h.step s e) (l:=l) (λx m=>⟨(V x (aZ _ m)).1,by have Y:=V x (aZ _ m);rw[DC h.ck.len (aF.mp s).1 (aF.mp s).2 (aF.mp Y.1).1 λq=>j (q▸m)];exact Y.2⟩) d;refine O pH ?_;refine bz (LS W c a) (λv=>?_) λf=>?_;.obtain⟨b,r⟩:=v;have:=FY h.ck.len s;rw[<-r]at this;exact⟨Q,kI (C0 (this▸R)),.inr (this▸R)⟩
 .obtain⟨b,r⟩:=f;rw[r]at Q R M⊢;refine⟨Q,R,M.imp (λ⟨x,y⟩=>⟨x,λI m=>?_⟩) id⟩;refine bz (bB.mp m) (λv=>?_) λm=>?_;.subst v;exact b
  .exact y I m
noncomputable def NB(W:List (List Int))(c:List Int):Prop:=∀I∈r5,gi c I<4->¬zH W c I
theorem Pj{c:List Int}(h:RI W c):RI W (oO W c)/\(oO W c=c/\NB W c\/c.sum+1<=(oO W c).sum):=by refine gW (Ph h (l:=r5.filter λI=>decide (gi c I<4)) (λx m=>⟨(d7.mp m).1,of_decide_eq_true (d7.mp m).2⟩) (qF.filter _)) λa _ b=>?_;exact⟨a,b.imp (λ⟨x,y⟩=>⟨x,λI m Y=>y I (d7.mpr ⟨m,decide_eq_true Y⟩)⟩) id⟩
theorem Yw{c:List Int}(D:fS c)(h:20<=c.sum):∀i∈r5,gi c i=4:=by intro i m;have q:=aF.mp m;refine yd (D.el i q.1 q.2).2 (fD.mp λz=>?_);have t:=MV (l:=c.set i.toNat (gi c i+1)) λx S=>(I6 S).elim (λm=>(D.mem x m).2) λe=>e▸WY z;rw[FY D.len m,jL,D.len]at t;exact fD.mpr h (C0 t)
theorem HD:∀(n:Nat){b c:List Int},RI W c->(c=b->NB W c)->oO W c=c\/20<=c.sum+n->RI W (rq W n b c)/\NB W (rq W n b c)
|0,b,c,h,_,a=>⟨h,by
 show NB W c;rcases a with a|a
 .rcases(Pj h).2 with⟨_,x⟩|x;.exact x
  .rw[a]at x;exact sJ x
 .intro I m Y;have:=Yw h.ck (by simpa using a) I m;exact rt Y this⟩|n+1,b,c,h,R,a=>by
 rw[rq];split;.exact⟨h,R ‹_›⟩
 .refine aW (Pj h) λx y=>?_;rcases y with⟨y,z⟩|y;.exact O y (HD n h (λ_=>z) (.inl y))
  .refine HD n x (λq=>absurd y (by exact O q (sJ (q▸y)))) (.inr ?_);rcases a with a|a;.rw[a]at y;exact sJ y
   .exact gG a (gG (mE (by rw[Int.natCast_succ,jM (n:Int) 1,<-nU])) (xZ y n))
theorem Cv:∀i∈r5,gi [0,0,0,0,0] i=0:=by decide
theorem ri0:RI W [0,0,0,0,0]where
ck:=Lg;su i a k H V:=by have:=Cv i a;exact BO (this▸V) H
le q s i a:=by exact O (Cv i a) (s.bd i a).1
theorem qC(W:List (List Int)):RI W (rounds W)/\NB W (rounds W):=HD 20 ri0 (λq=>by cases q) (.inr (by decide))
theorem UX(W:List (List Int)):sC W (gi (rounds W)):=have h:=qC W
⟨λi m=>h.1.ck.el i (aF.mp m).1 (aF.mp m).2,λi E o T Z l e A=>h.2 i E Z ⟨o,T,l,e,A⟩,h.1.su⟩
theorem WE(s:sC W p)(a:∀q,sC W q->∀i∈r5,p i<=q i):∀i∈r5,p i=gi (rounds W) i:=λi m=>yd (a _ (UX W) i m) ((qC W).1.le p s i m)
end
def cu(f:Int->Int)(K:List Int):Tab:=K.map λi=>(bC i,f i)
noncomputable def gh(K:List Int):Prop:=K.Nodup/\∀i∈K,i∈r5
theorem mG{f g:Int->Int}{K:List Int}(h:∀i∈K,f i=g i):cu f K=cu g K:=jI λi m=>by exact O (h i m) rfl
theorem Z8{f:Int->Int}{i:Int}(F:i∈r5){K:List Int}:(∀i∈K,i∈r5)->sQ (cu f K) (bC i)=if i∈K then aa (f i)else ak:=by induction K with|nil=>exact λ_=>rfl|cons a K G=>
intro h;by_cases e:a=i;.subst e;exact(congrArg (ue qG) (CQ (decide_eq_true rfl))).trans (if_pos (aQ ..)).symm
.refine(congrArg (ue qG) (CR λq=>e (uv a (h a (aQ ..)) i F (of_decide_eq_true q)))).trans ((G λi m=>h i (aZ _ m)).trans ?_);by_cases m:i∈K;.exact O (if_pos m) (O (if_pos (aZ _ m)) rfl)
 .rw[if_neg m,if_neg λq=>m ((bB.mp q).resolve_left (gu e))]
theorem any_mk{f:Int->Int}{i:Int}(F:i∈r5){K:List Int}(h:∀i∈K,i∈r5):(cu f K).any (λp=>decide (p.1=bC i))=decide (i∈K):=by rw[tR,vN,decide_eq_true_iff];refine⟨λ⟨p,m,e⟩=>?_,λm=>⟨_,bF.mpr ⟨i,m,rfl⟩,decide_eq_true rfl⟩⟩;refine aH (bF.mp m) λa s u=>?_;subst u;exact uv a (h a s) i F (of_decide_eq_true e)▸s
theorem MW{f:Int->Int}{i v:Int}(F:i∈r5){K:List Int}(h:∀i∈K,i∈r5):ir (cu f K) (bC i) v=cu (λx=>if x=i then v else f x) (if i∈K then K else K++[i]):=by
 unfold ir;refine O (any_mk F h) ?_;by_cases m:i∈K
 .refine O (if_pos (decide_eq_true m)) (O (if_pos m) ?_);unfold cu;refine O bO ?_;refine jI λa s=>?_;by_cases e:a=i;.subst e;simp
  .have:¬bC a=bC i:=λq=>e (uv a (h a s) i F q);simp[this,e]
 .refine O (if_neg (by rw[decide_eq_false m];exact qq)) (O (if_neg m) ?_);unfold cu;refine O fY ?_;refine congr (congrArg _ (jI λa s=>?_)) (by simp);show(bC a,f a)=(bC a,if a=i then v else f a);rw[if_neg λq:a=i=>m (q▸s)]
theorem xdG{a:Int}{b K:List Int}(l:(b++a::K).Nodup):a∉b:=by intro m;have:=(nM.mp l).2.2;exact absurd rfl (this a m a (aQ ..))
theorem MX{f:Int->Int}{K:List Int}:∀{b:List Int},(b++K).Nodup->(∀i∈b++K,i∈r5)->(cu f K).foldl (λd p=>ir d p.1 p.2) (cu f b)=cu f (b++K):=by induction K with|nil=>intro b _ _;refine O (g8 ..) ?_;rfl|cons a K G=>
intro b l h;have e:b++a::K=b++[a]++K:=(fT b [a] K).symm;have H:ir (cu f b) (bC a) (f a)=cu f (b++[a]):=by
 refine O (MW (h a (cK _ (aQ ..))) λi m=>h i (bI _ m)) (O (if_neg (xdG l)) ?_);refine mG λi m=>?_;by_cases q:i=a;.exact O (if_pos q) (O q rfl)
 .exact O (if_neg q) rfl
refine O e (aR (G (e▸l) (e▸h)) (aR H ?_));rfl
theorem J9{f:Int->Int}{i v:Int}(F:i∈r5){K:List Int}(h:∀i∈K,i∈r5):jS (cu f K) (bC i,v)=cu (λx=>(if x∈K then f x else 0)+if x=i then v else 0) (if i∈K then K else K++[i]):=by
 unfold jS;refine O (Z8 F h) (O (MW F h) ?_);refine mG λx S=>?_;by_cases m:i∈K
 .refine O (if_pos m) ?_;rw[if_pos m]at S;refine O (if_pos S) ?_;by_cases e:x=i;.refine O (if_pos e) (O (if_pos e) (O e ?_));rfl
  .exact O (if_neg e) (O (if_neg e) (O (qA ..) rfl))
 .refine O (if_neg m) ?_;rw[if_neg m]at S;by_cases e:x=i;.refine O (if_pos e) (O (if_pos e) (O e (O (if_neg m) (O (mD ..) ?_))));rfl
  .rw[if_neg e,if_neg e,qA,if_pos ((bD.mp S).resolve_right λq=>e (aX.mp q))]
theorem MY{p q:Prop}[Decidable p][Decidable q](h:p↔q):(if p then a else b)=if q then a else b:=by
 by_cases c:q;.exact O (if_pos c) (O (if_pos (h.mpr c)) rfl)
 .rw[if_neg c,if_neg λk=>c (h.mp k)]
theorem Z9{g:Int->Int}{k:List Int}:∀{K:List Int}{f:Int->Int},gh K->gh k->∃b,gh b/\(∀i,i∈b↔i∈K\/i∈k)/\(cu g k).foldl jS (cu f K)=cu (λx=>(if x∈K then f x else 0)+if x∈k then g x else 0) b:=by induction k with|nil=>exact λ{K}{f}h _=>⟨K,h,λi=>⟨.inl,λq=>q.elim id λm=>absurd m cg⟩,mG λi m=>by exact O (if_pos m) (O (if_neg cg) (O (qA ..) rfl))⟩|cons a k G=>
intro K f h h';have s:=h'.2 a (aQ ..);refine aW (mj.mp h'.1) λj l=>?_;have c:∀i,i∈(if a∈K then K else K++[a])↔i∈K\/i=a:=λi=>by
 by_cases m:a∈K;.exact O (if_pos m) ⟨.inl,λq=>q.elim id λe=>e▸m⟩
 .rw[if_neg m,bD,aX]
have V:gh (if a∈K then K else K++[a]):=by
 refine⟨?_,λi E=>((c i).mp E).elim (h.2 i) λe=>e▸s⟩;by_cases m:a∈K;.exact O (if_pos m) h.1
 .exact O (if_neg m) (nM.mpr ⟨h.1,by simp,λx S y Z q=>m (aX.mp Z▸q▸S)⟩)
refine dm (G (f:=λx=>(if x∈K then f x else 0)+if x=a then g a else 0) V ⟨l,λi m=>h'.2 i (aZ _ m)⟩) λb x y z=>?_;refine⟨b,x,λi=>by rw[y,c,bB,or_assoc],?_⟩;show(cu g k).foldl jS (jS (cu f K) (bC a,g a))=_;rw[J9 s h.2,z];refine mG λi E=>?_;by_cases e:i=a;.subst e;exact O (if_pos ((c i).mpr (.inr rfl))) (O (if_neg j) (O (if_pos rfl) (O (if_pos (aQ ..)) (O (qA ..) rfl))))
.have H:i∈a::k↔i∈k:=bB.trans ⟨λq=>q.resolve_left e,.inr⟩;have L:i∈(if a∈K then K else K++[a])↔i∈K:=(c i).trans ⟨λq=>q.resolve_right e,.inl⟩;refine O (if_neg e) (O (qA ..) (O (MY H) (O (MY L) ?_)));by_cases m:i∈K;.exact O (if_pos m) (O (if_pos m) rfl)
 .exact O (if_neg m) (O (if_neg m) rfl)
theorem E3{f g:Int->Int}{K k:List Int}(h:gh K)(h':gh k):∃b,gh b/\(∀i,i∈b↔i∈K\/i∈k)/\jF (cu f K) (cu g k)=cu (λx=>(if x∈K then f x else 0)+if x∈k then g x else 0) b:=by have e:(cu f K).foldl (λd p=>ir d p.1 p.2) (cu f [])=cu f ([]++K):=MX (by simpa using h.1) (by simpa using h.2);have:=Z9 (g:=g) (f:=f) h h';unfold jF;exact O (show([]:Tab)=cu f []from rfl) (O e this)
theorem Yx{f:Int->Int}{K:List Int}{i:Int}(h:gh K)(F:i∈r5)(m:i∉K):jF (cu f K) [(bC i,f i)]=cu f (K++[i]):=by
 have e:(cu f K).foldl (λd p=>ir d p.1 p.2) (cu f [])=cu f ([]++K):=MX (by simpa using h.1) (by simpa using h.2);unfold jF;refine O (show([]:Tab)=cu f []from rfl) (O e ?_);show jS (cu f K) (bC i,f i)=_;rw[J9 F h.2,if_neg m];refine mG λx S=>?_;rcases bD.mp S with S|S;.rw[if_pos S,if_neg λq:x=i=>m (q▸S),qA]
 .exact O (aX.mp S) (O (if_neg m) (O (if_pos rfl) (O (mD ..) rfl)))
theorem wG(f:Int->Int)(K:List Int):tabS (cu f K)=(K.map f).sum:=by unfold tabS cu;refine O bO ?_;rfl
theorem uw(f:Int->Int)(K:List Int):(cu f K).length=K.length:=aI ..
theorem Pk{F:Int->T}{i:Int}{K:List Int}(b:i∈r5)(h:∀i∈K,i∈r5)(m:i∈K):getD (K.map λx=>(bC x,F x)) (bC i)=aa (F i):=by induction K with|nil=>cases m|cons a K G=>
by_cases e:a=i;.subst e;exact congrArg (ue qG) (CQ (decide_eq_true rfl))
.exact(congrArg (ue qG) (CR λq=>e (uv a (h a (aQ ..)) i b (of_decide_eq_true q)))).trans (G (λi m=>h i (aZ _ m)) ((bB.mp m).resolve_left (gu e)))
theorem Oq(f:Int->Int)(K:List Int):dg (cu f K)=DS (K.map λx=>(bC x,.int (f x))):=congrArg DS (bO ..)
theorem GP{K k:List Int}(p:K.Perm k)(h:gh K)(e:∀i∈K,f i=g i):TE (n+1) (dg (cu f K)) (dg (cu g k)):=by refine O (Oq ..) (O (Oq ..) ?_);refine .dict (by exact O (aI ..) (O (aI ..) (O p.length_eq rfl))) λq j=>?_;refine aH (bF.mp j) λx m C=>?_;subst C;exact⟨by rw[Pk (F:=λx=>.int (g x)) (h.2 x m) (λi E=>h.2 i (p.mem_iff.mpr E)) (p.mem_iff.mp m),<-e x m],.inl rfl⟩
noncomputable def xQ(n:Nat)(l m:List T):Prop:=l.length=m.length/\∀(i:Nat)a b,l[i]?=aa a->m[i]?=aa b->TE n a b
theorem xQ.nil:xQ n [] []:=⟨rfl,λ_ _ _ p=>nomatch p⟩
theorem xQ.cons(h:TE n a b)(t:xQ n l m):xQ n (a::l) (b::m):=⟨congrArg Nat.succ t.1,λi=>by cases i with|zero=>intro _ _ p q;cases p;cases q;exact h|succ i=>exact t.2 i⟩
theorem QD(K:TE n a y)(R:TE n b g)(Z:TE n c h)(U:TE n d j)(L:TE n e f):TE (n+1) (.tup [a,b,c,d,e]) (.tup [y,g,h,j,f]):=have k:=xQ.cons K (.cons R (.cons Z (.cons U (.cons L .nil))))
.tup k.1 k.2
theorem E4{x y:Stat}(K:x.a=y.a)(R:x.b=y.b)(Z:x.c=y.c)(U:x.d=y.d)(h:TE (n+1) (dg x.t) (dg y.t)):TE (n+2) (cB x) (cB y):=by obtain⟨_,_,_,_,_⟩:=x;obtain⟨_,_,_,_,_⟩:=y;cases K;cases R;cases Z;cases U;exact QD (.flat rfl) (.flat rfl) (.flat rfl) (.flat rfl) h
section
variable{W:List (List Int)}{G:List ai}{c:ai->ai}{B:Int}{M:bG}{k:Nat}
noncomputable def Pl(W:List (List Int)):Prop:=fR W/\∀i∈r5,(bA W i).Nodup
theorem wV(P:Pl W){i k:Int}(m:i∈r5)(D:0<=k)(h1:k<4):bw W i k∈r5/\bw W i k≠i:=have h:=P.1.at (aF.mp m).1 (aF.mp m).2 D h1
⟨aF.mpr ⟨h.1,h.2.1⟩,h.2.2⟩
theorem AX(P:Pl W){i k:Int}(m:i∈r5)(D:0<=k)(h1:k<4):((bA W i).idxOf (bw W i k):Int)=k:=by have V:=P.1.row i (aF.mp m).1 (aF.mp m).2;unfold bw gi;rw[cA,cz (ji h1 V)];show((bA W i).idxOf ((bA W i)[k.toNat]'(ji h1 V)):Int)=k;rw[(P.2 i m).idxOf_getElem];exact l9 D
theorem MZ(P:Pl W){i k l:Int}(m:i∈r5)(D:0<=k)(h1:k<4)(b:0<=l)(a:l<4)(e:bw W i k=bw W i l):k=l:=by exact aR (AX P m D h1) (O e (O (AX P m b a) rfl))
theorem Ew(P:Pl W)(m:j∈r5)(S:x∈r5)(Z:y∈r5)(Y:x≠j)(w:y≠j)(e:eG W j x=eG W j y):x=y:=by have h1:=P.1.all j (aF.mp m).1 (aF.mp m).2 x (aF.mp S).1 (aF.mp S).2 Y;have J:=P.1.all j (aF.mp m).1 (aF.mp m).2 y (aF.mp Z).1 (aF.mp Z).2 w;unfold eG at e;have U:(bA W j).idxOf x=(bA W j).idxOf y:=jP (i6 (rH _)) (jP (congrArg _ e) (rH _));have a:=C4 (xT h1);have b:=C4 (xT J);refine aR a (aR b ?_);simp only[U]
def sV(W:List (List Int))(i:Int)(n:Nat):List (ai×T):=((bA W i).take n).map λa=>(bC a,je a)
def jD(M:bG)(i:Int):List (ai×T):=M.refused.getD i.toNat []
def pN(M:bG)(i:Int):Int:=(jD M i).length
def gw(W:List (List Int))(j i:Int):Int:=((bA W i).idxOf j:Int)+1
def sD(W:List (List Int))(j i:Int):Int:=(bA W j).idxOf i
noncomputable abbrev nn(l:List Int):List Int:=l.filter λx=>decide (0<=x)
structure j9(W:List (List Int))(M:bG):Prop where
perm:(M.free++M.alone++nn M.held).Perm r5
own:∀j∈r5,0<=gi M.held j->1<=gi M.aK (gi M.held j)/\bw W (gi M.held j) (gi M.aK (gi M.held j)-1)=j
best:∀i∈r5,∀k,0<=k->k<gi M.aK i->0<=gi M.held (bw W i k)/\eG W (bw W i k) (gi M.held (bw W i k))<=eG W (bw W i k) i
al:∀i∈M.alone,gi M.aK i=4
ref:∀i∈r5,jD M i=sV W i (jD M i).length
tu:∀i∈r5,(∀j∈r5,gi M.held j≠i)->pN M i=gi M.aK i
vA:∀j∈r5,0<=gi M.held j->pN M (gi M.held j)+1=gi M.aK (gi M.held j)le:∀q,sC W q->∀i∈r5,pN M i<=q i
bk:∀j∈r5,∃L,gh L/\(∀i∈r5,i∈L↔∃k,0<=k/\k<gi M.aK i/\bw W i k=j)/\cP M.book j=⟨if gi M.held j<0 then 0 else 1,L.length,(L.map (gw W j)).sum,(L.map (sD W j)).sum,cu (gw W j) L⟩
theorem By{l:List Int}{i:Int}(h:l.length=5)(m:i∈r5):i.toNat<l.length:=by exact O h (toNat_lt (aF.mp m).1 (aF.mp m).2)
theorem BA{l:List Int}{i:Int}(h:i.toNat<l.length):l[i.toNat]=gi l i:=by unfold gi;refine O cA (O (cz h) ?_);rfl
theorem GQ:∀(l:List Int)(n:Nat)(x:Int),n<l.length->(l.set n x).Perm (x::l.eraseIdx n)|a::l,0,x,_=>List.Perm.refl _|a::l,n+1,x,h=>((GQ l n x (by simpa using h)).cons a).trans (List.Perm.swap x a _)
theorem pull{l:List Int}{i:Int}(h:i.toNat<l.length):l.Perm (gi l i::l.eraseIdx i.toNat):=by have:=GQ l i.toNat (gi l i) h;rwa[<-BA h,VM,BA h]at this
theorem Sw:∀j∈r5,gi [-1,-1,-1,-1,-1] j=-1:=dk
theorem wH(r:fh M k)(m:j∈r5)(h:0<=gi M.held j):gi M.held j∈r5/\gi M.held j≠j:=have q:=r.pY j (aF.mp m).1 (aF.mp m).2
⟨aF.mpr ⟨h,q.2.1⟩,q.2.2⟩
theorem AA(r:fh M k)(m:j∈r5):gi M.held j∈M.held:=by have h:=By r.held m;exact aR (BA h) (nQ _)
theorem xgm(u:List ai):j9 W (iG u)where
perm:=by show([0,1,2,3,4]++[]++nn [-1,-1,-1,-1,-1]:List Int).Perm r5;exact List.Perm.of_eq dk
own j m h:=by have:=Sw j m;exact absurd h (by show¬0<=gi [-1,-1,-1,-1,-1] j;exact yw.mpr (jK (mE this) jh))
best i m k D h1:=by have:gi [0,0,0,0,0] i=0:=Cv i m;exact absurd h1 (by show¬k<gi [0,0,0,0,0] i;exact fD.mpr (PK this D))
al i m:=by cases m
ref i m:=by
 have:jD (iG u) i=[]:=by
  have:∀i∈r5,([[],[],[],[],[]]:List (List (ai×T))).getD i.toNat []=[]:=by intro i m;have:=aF.mp m;have:i=0\/i=1\/i=2\/i=3\/i=4:=lq this.1 this.2;rcases this with rfl|rfl|rfl|rfl|rfl<;>rfl
  exact this i m
 refine O this ?_;rfl
tu i m _:=by have:=aF.mp m;have:i=0\/i=1\/i=2\/i=3\/i=4:=lq this.1 this.2;rcases this with rfl|rfl|rfl|rfl|rfl<;>rfl
vA j m h:=by have:=Sw j m;exact absurd h (by show¬0<=gi [-1,-1,-1,-1,-1] j;exact yw.mpr (jK (mE this) jh))
le q s i m:=by have h:=(s.bd i m).1;have:=aF.mp m;have:i=0\/i=1\/i=2\/i=3\/i=4:=lq this.1 this.2;rcases this with rfl|rfl|rfl|rfl|rfl<;>exact h
bk j m:=by
 refine⟨[],⟨tU,λi m=>by cases m⟩,λi E=>⟨λh=>(by cases h),λ⟨k,D,h1,_⟩=>?_⟩,?_⟩;.have:gi [0,0,0,0,0] i=0:=Cv i E;exact absurd h1 (by show¬k<gi [0,0,0,0,0] i;exact fD.mpr (PK this D))
 .have:=aF.mp m;have:j=0\/j=1\/j=2\/j=3\/j=4:=lq this.1 this.2;rcases this with rfl|rfl|rfl|rfl|rfl<;>rfl
theorem WG(v:j9 W M)(r:fh M k)(m:I∈M.free):I∈r5/\∀j∈r5,gi M.held j≠I:=by have l:=v.perm.nodup_iff.mpr qF;have S:I∈r5:=v.perm.mem_iff.mp (by simp[m]);refine⟨S,λj w e=>?_⟩;have R:=(nM.mp l).2.2;have h1:I∈M.free++M.alone:=bI _ m;have J:I∈nn M.held:=d7.mpr ⟨e▸AA r w,decide_eq_true (aF.mp S).1⟩;exact absurd rfl (R I h1 I J)
theorem WH(v:j9 W M)(Y:gi M.aK I=4)(p:M.free.Perm (I::b)):j9 W {M with free:=b,alone:=M.alone++[I]}where
perm:=by show(b++(M.alone++[I])++nn M.held).Perm r5;refine Di (T4 _ ?_) v.perm;refine aR (fT ..) ?_;refine(VN).trans ?_;exact(T4 M.alone p).symm
own:=v.own;best:=v.best;al i m:=by
 refine bz (bD.mp m) (λm=>?_) λm=>?_;.exact v.al i m
 .exact O (aX.mp m) Y
ref:=v.ref;tu:=v.tu;vA:=v.vA;le:=v.le;bk:=v.bk
end
section
variable{W:List (List Int)}{M:bG}{k:Nat}
theorem AB{L:Type}{l:List L}{i j:Int}{x d:L}(V:l.length=5)(E:i∈r5)(w:j∈r5):(l.set i.toNat x).getD j.toNat d=if j=i then x else l.getD j.toNat d:=by
 have h1:=aF.mp E;have J:=aF.mp w;refine O cA (O cA ?_);by_cases e:j=i;.refine O e (O (zK (BJ h1.1 h1.2 V)) (O (if_pos rfl) ?_));rfl
 .exact O (CW (Ga h1.1 J.1 e)) (O (if_neg e) rfl)
theorem AY{l:List Int}{i j x:Int}(V:l.length=5)(E:i∈r5)(w:j∈r5):gi (l.set i.toNat x) j=if j=i then x else gi l j:=AB V E w
structure Ask(W:List (List Int))(M:bG)(I j:Int):Prop where
mw:I∈r5
nh:∀j∈r5,gi M.held j≠I
c0:0<=gi M.aK I
c4:gi M.aK I<4
j:bw W I (gi M.aK I)=j
theorem WI(P:Pl W){i p j:Int}(m:i∈r5)(D:0<=p)(h1:p<4)(e:bw W i p=j):fJ (sV W i p.toNat) (bC j) (je j)=sV W i (p.toNat+1):=by
 have V:=P.1.row i (aF.mp m).1 (aF.mp m).2;have A:(bA W i)[p.toNat]'(ji h1 V)=j:=by refine aR e ?_;unfold bw gi;rw[cA,cz (ji h1 V)];rfl
 have w:=(wV P m D h1).1;rw[e]at w;have b:j∉(bA W i).take p.toNat:=λq=>by obtain⟨n,K,U⟩:=x6 q;rw[YO]at U;rw[jA]at K;have I:=(P.2 i m).idxOf_getElem n (HK K);have N:=(P.2 i m).idxOf_getElem p.toNat (ji h1 V);rw[U]at I;rw[A]at N;exact Q0 K I N
 unfold fJ sV;rw[if_neg,IQ (ji h1 V),fY,A];rfl;intro q;refine aH (vN.mp q) λx S y=>?_;refine aH (bF.mp S) λa s u=>?_;subst u;have r:=P.1.el i (aF.mp m).1 (aF.mp m).2 a (nL s);exact b (uv a (aF.mpr ⟨r.1,r.2.1⟩) j w (of_decide_eq_true y)▸s)
theorem mH(r:fh M k){I i:Int}(a:I∈r5)(m:i∈r5):gi (M.aK.set I.toNat (gi M.aK I+1)) i=if i=I then gi M.aK I+1 else gi M.aK i:=AY r.aK.len a m
theorem M0(P:Pl W)(v:j9 W M)(r:fh M k){I j:Int}(a:Ask W M I j)(w:j∈r5){J:List Int}{n:ai}(K:n=bC I)(B:∀i∈r5,i≠j->gi J i=gi M.held i)(b:0<=gi J j):∀i∈r5,∃L,gh L/\(∀x∈r5,x∈L↔∃k,0<=k/\k<gi (M.aK.set I.toNat (gi M.aK I+1)) x/\bw W x k=i)/\cP (M.book.set j.toNat (j5 (cP M.book j) ⟨if gi M.held j<0 then 1 else 0,1,gi M.aK I+1,(bA W j).idxOf I,[(n,gi M.aK I+1)]⟩)) i=⟨if gi J i<0 then 0 else 1,L.length,(L.map (gw W i)).sum,(L.map (sD W i)).sum,cu (gw W i) L⟩:=by
 intro i E;have d:∀x,cP (M.book.set j.toNat x) i=if i=j then x else cP M.book i:=λx=>AB r.book w E;refine dm (v.bk i E) λL o C e=>?_;refine O (d ..) ?_;by_cases q:i=j
 .subst q;have N:I∉L:=λm=>by refine dm ((C I a.mw).mp m) λk H V e=>?_;rw[<-a.j]at e;have:=MZ P a.mw H (by have:=a.c4;exact mY V this) a.c0 a.c4 e;exact rt V this
  have c:gw W i I=gi M.aK I+1:=by unfold gw;exact aR a.j (O (AX P a.mw a.c0 a.c4) rfl)
  refine⟨L++[I],⟨nM.mpr ⟨o.1,by simp,λx S y Z=>?_⟩,λx S=>?_⟩,λx S=>?_,?_⟩;.exact O (aX.mp Z) λq=>N (q▸S)
  .refine bz (bD.mp S) (λS=>?_) λS=>?_;.exact o.2 x S
   .exact O (aX.mp S) a.mw
  .rw[bD,C x S,aX,mH r a.mw S];by_cases z:x=I;.subst z;exact O (if_pos rfl) ⟨λ_=>⟨_,a.c0,Int.lt_succ _,a.j⟩,λ_=>.inr rfl⟩
   .exact O (if_neg z) ⟨λy=>y.elim id λy=>absurd y z,.inl⟩
  .refine O (if_pos rfl) (O e (O K (aR c ?_)));unfold j5;simp only;refine O (Yx o a.mw N) (O fY (O fY (O DF (O DF (O cL (O (if_neg (fD.mpr b)) ?_))))));congr 1;.split<;>rfl
   .exact jM 1 (L.length:Int)
   .show gw W i I+_=_+(gw W i I+0);exact O (qA _) (jM ..)
   .show sD W i I+_=_+(sD W i I+0);exact O (qA _) (jM ..)
 .refine⟨L,o,λx S=>?_,?_⟩
  .rw[C x S,mH r a.mw S];by_cases z:x=I
   .subst z;refine O (if_pos rfl) ?_;refine⟨λ⟨k,H,V,e⟩=>⟨k,H,DQ V,e⟩,λ⟨k,H,V,e⟩=>⟨k,H,?_,e⟩⟩;by_cases z:k=gi M.aK x;.rw[z,a.j]at e;exact absurd e.symm q
    .exact jc (xY V) z
   .rw[if_neg z]
  .exact O (if_neg q) (O e (O (B i E q) rfl))
theorem M1(v:j9 W M)(r:fh M k){I j:Int}(a:Ask W M I j)(B:∀i∈r5,i≠j->gi J i=gi M.held i)(d:0<=gi J j)(U:eG W j (gi J j)<=eG W j I)(s:0<=gi M.held j->eG W j (gi J j)<=eG W j (gi M.held j))(P:Pl W):∀i∈r5,∀k,0<=k->k<gi (M.aK.set I.toNat (gi M.aK I+1)) i->0<=gi J (bw W i k)/\eG W (bw W i k) (gi J (bw W i k))<=eG W (bw W i k) i:=by
 intro i E k H V;rw[mH r a.mw E]at V;by_cases z:i=I/\k=gi M.aK I
 .refine aW z λu p=>?_;try clear z;subst u;subst p
  exact O a.j ⟨d,U⟩
 .have e:k<gi M.aK i:=by
   by_cases c:i=I;.rw[if_pos c]at V;subst c;exact jc (xY V) λq=>z ⟨rfl,q⟩
   .rw[if_neg c]at V;exact V
  have Z:=r.aK.el i (aF.mp E).1 (aF.mp E).2;have b:=v.best i E k H e;by_cases q:bw W i k=j;.rw[q]at b⊢;exact⟨d,gG (s b.1) b.2⟩
  .exact O (B _ (wV P E H (qs e Z.2)).1 q) b
theorem Ot(v:j9 W M)(r:fh M k){I j:Int}(a:Ask W M I j)(B:∀i∈r5,i≠j->gi J i=gi M.held i)(b:gi J j=I\/gi J j=gi M.held j/\0<=gi M.held j)(w:j∈r5):∀i∈r5,0<=gi J i->1<=gi (M.aK.set I.toNat (gi M.aK I+1)) (gi J i)/\bw W (gi J i) (gi (M.aK.set I.toNat (gi M.aK I+1)) (gi J i)-1)=i:=by
 have e:∀i∈r5,0<=gi M.held i->1<=gi (M.aK.set I.toNat (gi M.aK I+1)) (gi M.held i)/\bw W (gi M.held i) (gi (M.aK.set I.toNat (gi M.aK I+1)) (gi M.held i)-1)=i:=λi E h=>by exact O (mH r a.mw (wH r E h).1) (O (if_neg (a.nh i E)) (v.own i E h))
 intro i E h;by_cases q:i=j
 .subst q;rcases b with g|⟨g,s⟩;.refine O g (O (mH r a.mw a.mw) (O (if_pos rfl) ?_));have:=a.c0;refine⟨fW (CZ this),?_⟩;exact O (x7 _ 1) a.j
  .exact O g (e i E s)
 .rw[B i E q]at h⊢;exact e i E h
end
section
variable{W:List (List Int)}{M:bG}{k:Nat}
theorem Yy(r:fh M k){l:Int}(t:l∈r5)(S:x∈r5):jD ⟨h,c,m,f,a,M.refused.set l.toNat d,b⟩ x=if x=l then d else jD M x:=AB r.ref t S
theorem LU(P:Pl W)(m:i∈r5)(h:n<=4):(sV W i n).length=n:=by unfold sV;rw[aI,jA,P.1.row i (aF.mp m).1 (aF.mp m).2];exact Kh h
theorem LV{h:List Int}(V:h.length=5){j I:Int}(w:j∈r5)(S:I∈r5)(x:Int):AE x (nn (h.set j.toNat I))+(if 0<=gi h j then(if gi h j=x then 1 else 0)else 0)=AE x (nn h)+if I=x then 1 else 0:=by
 have h1:=((GQ h j.toNat I (By V w)).filter λx=>decide (0<=x)).count_eq x;have J:=((pull (By V w)).filter λx=>decide (0<=x)).count_eq x;rw[Jb (p:=λx:Int=>decide (0<=x)) (decide_eq_true (aF.mp S).1),yc]at h1;refine O h1 (O J ?_);by_cases q:0<=gi h j;.refine O (if_pos q) (O (Jb (p:=λx:Int=>decide (0<=x)) (decide_eq_true q)) (O yc ?_));simp only[beq_iff_eq];exact jJ _ _ _
 .refine O (if_neg q) (O (U0 (p:=λx:Int=>decide (0<=x)) (by simpa using q)) ?_);simp only[beq_iff_eq];exact jJ _ _ _
theorem WJ(P:Pl W)(v:j9 W M)(r:fh M k){I j:Int}(a:Ask W M I j)(w:j∈r5)(K:n=bC I)(p:M.free.Perm (I::b))(h:gi M.held j<0):j9 W {M with free:=b,bW:=m,aK:=M.aK.set I.toNat (gi M.aK I+1),held:=M.held.set j.toNat I,book:=M.book.set j.toNat (j5 (cP M.book j) ⟨if gi M.held j<0 then 1 else 0,1,gi M.aK I+1,(bA W j).idxOf I,[(n,gi M.aK I+1)]⟩)}:=by
 have f:∀i∈r5,gi (M.held.set j.toNat I) i=if i=j then I else gi M.held i:=λi E=>AY r.held w E;have B:∀i∈r5,i≠j->gi (M.held.set j.toNat I) i=gi M.held i:=λi E q=>by exact O (f i E) (O (if_neg q) rfl)
 have c:gi (M.held.set j.toNat I) j=I:=by exact O (f j w) (O (if_pos rfl) rfl)
 have d:0<=gi (M.held.set j.toNat I) j:=by exact O c (aF.mp a.mw).1
 have D:=v.tu I a.mw a.nh;refine⟨?_,Ot v r a B (.inl c) w,M1 v r a B d (by exact O c (t9 _)) (λz=>absurd h (BO h z)) P,λi E=>?_,v.ref,λi E F=>?_,λi E F=>?_,v.le,M0 P v r a w K B d⟩;.refine Di (W0.mpr λx=>?_) v.perm;have h1:=p.count_eq x;have J:=LV r.held w a.mw x;rw[if_neg (yw.mpr h)]at J;rw[yc]at h1;simp only[beq_iff_eq]at h1;rw[zT,zT,zT,zT,h1];exact QX (l:=0) J
 .show gi (M.aK.set I.toNat _) i=4;have F:=v.perm.mem_iff.mp (bI _ (bD.mpr (.inr E)));have:=v.al i E;refine O (mH r a.mw F) ?_;by_cases z:i=I;.exact rt a.c4 (z▸this)
  .exact O (if_neg z) this
 .show pN M i=gi (M.aK.set I.toNat _) i;have F:∀x∈r5,gi (M.held.set j.toNat I) x≠i:=F;have N:i≠I:=λq=>F j w (c.trans q.symm);refine O (mH r a.mw E) (O (if_neg N) ?_);refine v.tu i E λx S q=>?_;by_cases z:x=j;.have:=(aF.mp E).1;subst z;exact BO (q▸h) this
  .exact F x S ((B x S z).trans q)
 .show pN M (gi (M.held.set j.toNat I) i)+1=gi (M.aK.set I.toNat _) (gi (M.held.set j.toNat I) i);have F:0<=gi (M.held.set j.toNat I) i:=F;by_cases z:i=j;.exact O z (O c (O (mH r a.mw a.mw) (O (if_pos rfl) (O D rfl))))
  .rw[B i E z]at F⊢;exact O (mH r a.mw (wH r E F).1) (O (if_neg (a.nh i E)) (v.vA i E F))
theorem M3(P:Pl W)(v:j9 W M)(r:fh M k){I j:Int}(a:Ask W M I j)(w:j∈r5)(hn:nm=bC I)(p:M.free.Perm (I::b))(h:0<=gi M.held j){x l:Int}(B:∀i∈r5,i≠j->gi J i=gi M.held i)(c:gi J j=x)(d:x=I/\l=gi M.held j\/x=gi M.held j/\l=I)(A:eG W j x<eG W j l)(u:∀y,AE y (nn J)+(if l=y then 1 else 0)=AE y (nn M.held)+if I=y then 1 else 0):j9 W {M with free:=b++[l],bW:=m,aK:=M.aK.set I.toNat (gi M.aK I+1),held:=J,book:=M.book.set j.toNat (j5 (cP M.book j) ⟨if gi M.held j<0 then 1 else 0,1,gi M.aK I+1,(bA W j).idxOf I,[(nm,gi M.aK I+1)]⟩),refused:=M.refused.set l.toNat (fJ (jD M l) (bC j) (je j))}:=by
 have D:=v.tu I a.mw a.nh;have N:=v.vA j w h;have n:=wH r w h;have L:=v.own j w h;have G:=r.aK.el _ (aF.mp n.1).1 (aF.mp n.1).2;have both:∀y,y=I\/y=gi M.held j->y∈r5/\pN M y<4/\bw W y (pN M y)=j:=λy e=>by
  rcases e with rfl|rfl;.exact O D ⟨a.mw,a.c4,a.j⟩
  .exact⟨n.1,C0 (gG (mE N) G.2),congrArg (bw W _) (aR N (x7 _ 1):gi M.aK (gi M.held j)-1=pN M (gi M.held j))▸L.2⟩
 have C:∀y,0<=pN M y:=λy=>iO _;refine gW (both x (d.imp Py Py)) λS x4 Y=>?_;refine gW (both l (d.symm.imp OC OC)) λt H X=>?_;have K:l≠x:=λq=>yg _ (q▸A);have o:0<=gi J j:=by exact O c (aF.mp S).1
 have R:fJ (jD M l) (bC j) (je j)=sV W l ((pN M l).toNat+1):=by refine aR (WI P t (C l) H X) ?_;congr 1;exact v.ref l t
 have V:∀y∈r5,(((M.refused.set l.toNat (fJ (jD M l) (bC j) (je j))).getD y.toNat []).length:Int)=if y=l then pN M l+1 else pN M y:=λy Z=>by
  refine O (AB r.ref t Z) ?_;by_cases z:y=l;.rw[if_pos z,if_pos z,R,LU P t (o6 H)];exact congrArg (·+1) (l9 (C l))
  .rw[if_neg z,if_neg z];rfl
 refine⟨?_,Ot v r a B (c▸d.imp Py λz=>⟨z.1,h⟩) w,M1 v r a B o ?_ ?_ P,λi E=>?_,λi E=>?_,λi E F=>?_,λi E F=>?_,λq s i E=>?_,M0 P v r a w hn B o⟩;.refine Di (W0.mpr λy=>?_) v.perm;have h1:=p.count_eq y;have J:=u y;rw[yc]at h1;simp only[beq_iff_eq]at h1;simp only[zT,yc,List.count_nil,beq_iff_eq];exact O h1 (O (jl _) (QX J))
 .exact O c (d.elim (λz=>mE (congrArg _ z.1)) λz=>z.2▸kI A)
 .exact λ_=>O c (d.elim (λz=>z.2▸kI A) λz=>mE (congrArg _ z.1))
 .show gi (M.aK.set I.toNat _) i=4;have F:=v.perm.mem_iff.mp (bI _ (bD.mpr (.inr E)));have:=v.al i E;refine O (mH r a.mw F) ?_;by_cases z:i=I;.exact rt a.c4 (z▸this)
  .exact O (if_neg z) this
 .refine O (Yy r t E) ?_;split;.subst i;have:=C l;exact O R (O (LU P t (o6 H)) rfl)
  .exact v.ref i E
 .refine(V i E).trans ?_;show _=gi (M.aK.set I.toNat _) i;have F:∀x∈r5,gi J x≠i:=F;have g:i≠x:=λq=>F j w (c.trans q.symm);refine O (mH r a.mw E) ?_;by_cases z:i=l
  .refine O (if_pos z) ?_;rcases d with⟨rfl,rfl⟩|⟨rfl,rfl⟩;.exact O (if_neg g) (O z N)
   .exact O (if_pos z) (O D rfl)
  .refine O (if_neg z) ?_;have U:i≠I:=λq=>d.elim (λy=>g (q.trans y.1.symm)) λy=>z (q.trans y.2.symm);have f:i≠gi M.held j:=λq=>d.elim (λy=>z (q.trans y.2.symm)) λy=>g (q.trans y.1.symm);refine O (if_neg U) ?_;refine v.tu i E λy Z q=>?_;by_cases z:y=j;.exact f (z▸q.symm)
   .exact F y Z ((B y Z z).trans q)
 .have F:0<=gi J i:=F;show pN _ (gi J i)+1=gi (M.aK.set I.toNat _) (gi J i);by_cases z:i=j
  .refine O z (O c ((congrArg (·+1) ((V x S).trans (if_neg (gu K)))).trans (O (mH r a.mw S) ?_)));rcases d with⟨rfl,rfl⟩|⟨rfl,rfl⟩;.exact O (if_pos rfl) (O D rfl)
   .exact O (if_neg (a.nh j w)) N
  .rw[B i E z]at F⊢;have Q:=wH r E F;have f:gi M.held i≠l:=λq=>by
    rcases d with⟨_,e⟩|⟨_,e⟩;.have T:=(v.own i E F).2;replace T:=L.2▸e▸q▸T;exact z T.symm
    .exact a.nh i E (q.trans e)
   exact(congrArg (·+1) ((V _ Q.1).trans (if_neg f))).trans (O (mH r a.mw Q.1) (O (if_neg (a.nh i E)) (v.vA i E F)))
 .refine gG (mE (V i E)) ?_;split;.subst i;exact LR s (v.le q s) t S H ⟨C x,x4⟩ (Y.trans X.symm) (by exact O X A)
  .exact v.le q s i E
end
section
variable{W:List (List Int)}{G:List ai}{s:ai->ai}{turn:Int}{st:bG}{k:Nat}
theorem Yz(P:Pl W)(K:∀i∈r5,∀n,n<4->s (g6 (n+1) (bK G i))=bC i)(v:j9 W st)(r:fh st k)(T:nH G st)(c:Int)(l:st.free≠[]):j9 W (gp W s turn st c)/\(gp W s turn st c).aK.sum+(gp W s turn st c).alone.length=st.aK.sum+st.alone.length+1:=by
 have Q:=yC (turn:=turn) (step:=c) l;have D:st.free.Perm (iF turn st c::st.free.eraseIdx (iE turn st c).toNat):=pull (iu Q.1 Q.2);have C:iF turn st c∈st.free:=FG Q.1 Q.2;unfold gp;refine O (if_neg l) ?_;simp only;generalize st.free.eraseIdx (iE turn st c).toNat=d at D⊢;generalize iF turn st c=I at C D⊢;refine aW (WG v r C) λS x=>?_;by_cases Y:gi st.aK I=4;.refine O (if_pos Y) ?_;refine⟨WH v Y D,?_⟩;show st.aK.sum+((st.alone++[I]).length:Nat)=_;rw[cL];show st.aK.sum+((st.alone.length:Int)+1)=_;exact(nU ..).symm
 refine O (if_neg Y) ?_;have Z:=r.aK.el I (aF.mp S).1 (aF.mp S).2;generalize b:bw W I (gi st.aK I)=j;have a:Ask W st I j:=⟨S,x,Z.1,jc Z.2 Y,b⟩;have w:j∈r5:=b▸(wV P S Z.1 a.c4).1;have f:I≠j:=λq=>(wV P S Z.1 a.c4).2 (b.trans q.symm);have o:s (gc (bK st.bW I))=bC I:=by rw[T I (aF.mp S).1 (aF.mp S).2];exact K I S (gi st.aK I).toNat (o6 (jc Z.2 Y))
 have h:=FY r.aK.len S;have m:=Ln (W:=W) r (who:=I) (aF.mp w).1 (aF.mp w).2;by_cases V:gi st.held j<0;.refine O (if_pos V) ?_;refine⟨?_,by show(st.aK.set I.toNat (gi st.aK I+1)).sum+_=_;exact O h (JN ..)⟩;have e:jZ W st I j=st.held.set j.toNat I:=if_pos (.inl V);exact O e (WJ P v r a w o D V)
 .refine O (if_neg V) ?_;refine⟨?_,by show(st.aK.set I.toNat (gi st.aK I+1)).sum+_=_;exact O h (JN ..)⟩;have g:=wH r w (fD.mp V);by_cases q:((bA W j).idxOf I:Int)<(bA W j).idxOf (gi st.held j)
  .have e:jZ W st I j=st.held.set j.toNat I:=if_pos (.inr q);have A:qW W st I j=gi st.held j:=by exact O (Es r (aF.mp w).1 (aF.mp w).2 V) (O (if_pos q) rfl)
   refine O e (O A ?_);refine M3 P v r a w o D (fD.mp V) (x:=I) (l:=gi st.held j) (λi E n=>?_) ?_ (.inl ⟨rfl,rfl⟩) q λy=>?_;.exact O (AY r.held w E) (O (if_neg n) rfl)
   .exact O (AY r.held w w) (O (if_pos rfl) rfl)
   .have:=LV r.held w S y;rwa[if_pos (fD.mp V)]at this
  .have e:jZ W st I j=st.held:=if_neg λz=>z.elim V q;have A:qW W st I j=I:=by exact O (Es r (aF.mp w).1 (aF.mp w).2 V) (O (if_neg q) rfl)
   refine O e (O A ?_);refine M3 P v r a w o D (fD.mp V) (x:=gi st.held j) (l:=I) (λi E n=>rfl) rfl (.inr ⟨rfl,rfl⟩) ?_ λy=>rfl;have:eG W j (gi st.held j)≠eG W j I:=λz=>x j w (Ew P w g.1 S g.2 f z);unfold eG at this⊢;exact jc (fD.mp q) this
structure Fin(W:List (List Int))(G:List ai)(st:bG):Prop where
v:j9 W st
r:∃k,fh st k
m:nH G st
f:st.free=[]
theorem M4(P:Pl W)(K:∀i∈r5,∀n,n<4->s (g6 (n+1) (bK G i))=bC i):∀(l:List Int){st:bG}{k:Nat},j9 W st->fh st k->nH G st->st.free=[]\/(k:Int)<=st.aK.sum+st.alone.length->j9 W (gx W s turn st l)/\fh (gx W s turn st l) (k+l.length)/\nH G (gx W s turn st l)/\((gx W s turn st l).free=[]\/((k+l.length:Nat):Int)<=(gx W s turn st l).aK.sum+(gx W s turn st l).alone.length)
|[],st,k,v,r,m,h=>⟨v,r,m,h⟩|a::l,st,k,v,r,m,h=>by
 have d:=M4 P K l (st:=gp W s turn st a) (k:=k+1);refine O (show k+(a::l).length=k+1+l.length by rw[fC];exact i6 (jJ _ _ _)) ?_;by_cases b:st.free=[]
 .have e:gp W s turn st a=st:=by unfold gp;exact O (if_pos b) rfl
  have f:=Az (nf:=s) (turn:=turn) P.1 r a;show _/\_;rw[e]at d f;have:=d v f m (.inl b);replace this:=e.symm▸this;exact this
 .refine aW (Yz (turn:=turn) P K v r m a b) λq c=>?_;refine d q (Az P.1 r a) (Lp r m a) (.inr ?_);have:=h.resolve_left b;exact O c (xZ this 1)
theorem xaa(P:Pl W)(K:∀i∈r5,∀n,n<4->s (g6 (n+1) (bK G i))=bC i)(V:G.length=5)(turn:Int):Fin W G (gx W s turn (iG G) ((gj 25).map lF)):=by refine kR (M4 (turn:=turn) P K ((gj 25).map lF) (xgm G) (Qs V) (Qt G) (.inr (show((0:Nat):Int)<=([0,0,0,0,0]:List Int).sum+(([]:List Int).length:Int)by decide))) λv r m h=>?_;refine⟨v,⟨_,r⟩,m,h.elim id λh=>?_⟩;have h1:=xbX r.aK;have J:=v.perm.length_eq;rw[cL,cL]at J;have R:r5.length=5:=rfl;rw[aI,x8]at h;have o:=nV.mp (Int.le_of_add_le_add_left (a:=20) (b:=(5:Nat)) (gG h (xZ h1 _)));exact CI (Nat.le_zero.mp (I2 (bf (bf (e7 _ _) (di (J.trans R))) (bf o (di (jl _).symm)))))
end
theorem Bc{P:Int->Prop}(D:P 0)(h1:P 1)(J:P 2)(R:P 3)(Y:P 4):∀i∈r5,P i:=λi m=>by have:=aF.mp m;have:i=0\/i=1\/i=2\/i=3\/i=4:=lq this.1 this.2;rcases this with rfl|rfl|rfl|rfl|rfl<;>assumption
theorem getD_at{L:Type}{l:List L}{d:L}{n:Nat}(h:n<l.length):l.getD n d=l[n]:=by refine O cA (O (cz h) ?_);rfl
theorem B7{L:Type}{l m:List L}{d:L}(V:l.length=5)(Q:m.length=5)(h:∀i∈r5,l.getD i.toNat d=m.getD i.toNat d):l=m:=Y5 (V.trans Q.symm) λn a b=>(getD_at a).symm.trans ((h n (aF.mpr ⟨iO n,gR.mpr (tG a V)⟩)).trans (getD_at b))
theorem uX{L:Type}{f:Int->L}{d:L}:∀i∈r5,(r5.map f).getD i.toNat d=f i:=Bc rfl rfl rfl rfl rfl
section
variable{W:List (List Int)}{G:List ai}{st:bG}
theorem Fin.two(z:Fin W G st)(m:i∈r5):i∈st.alone/\(∀j∈r5,gi st.held j≠i)\/∃j∈r5,gi st.held j=i:=by
 obtain⟨v,⟨k,r⟩,T,f⟩:=z;have p:=v.perm;replace p:=tQ ..▸f▸p;have l:=p.nodup_iff.mpr qF;rcases bD.mp (p.mem_iff.mpr m)with h|h;.refine .inl ⟨h,λj w e=>?_⟩;exact absurd rfl ((nM.mp l).2.2 i h i (d7.mpr ⟨e▸AA r w,decide_eq_true (aF.mp m).1⟩))
 .obtain⟨n,K,e⟩:=x6 (d7.mp h).1;have w:(n:Int)∈r5:=aF.mpr ⟨iO n,gR.mpr (tG K r.held)⟩;refine .inr ⟨n,w,?_⟩;refine aR e (aR (BA (By r.held w)) ?_);rfl
theorem Fin.kept(z:Fin W G st)(w:j∈r5)(h:0<=gi st.held j):gi st.held j∈r5/\gi st.held j≠j/\pN st (gi st.held j)<4/\bw W (gi st.held j) (pN st (gi st.held j))=j/\gi st.aK (gi st.held j)=pN st (gi st.held j)+1:=by obtain⟨v,⟨k,r⟩,T,f⟩:=z;have D:=wH r w h;have o:=v.own j w h;have p:=v.vA j w h;have c:=r.aK.el _ (aF.mp D.1).1 (aF.mp D.1).2;exact⟨D.1,D.2,C0 (gG (mE p) c.2),congrArg (bw W _) (aR p (x7 _ 1):gi st.aK (gi st.held j)-1=pN st (gi st.held j))▸o.2,p.symm⟩
theorem Fin.out(z:Fin W G st)(m:i∈r5)(a:i∈st.alone)(x:∀j∈r5,gi st.held j≠i):pN st i=4/\gi st.aK i=4:=by have:=z.v.al i a;exact⟨by exact O (z.v.tu i m x) (O this rfl),this⟩
theorem Fin.low(z:Fin W G st)(m:i∈r5)(h:pN st i<4):gi st.held (bw W i (pN st i))=i/\bw W i (pN st i)∈r5:=by
 refine bz (z.two m) (λy=>?_) λu=>?_;.obtain⟨a,x⟩:=y;have:=(z.out m a x).1;exact rt h this
 .obtain⟨j,w,e⟩:=u;have:=z.kept w (by exact O e (aF.mp m).1);rw[e]at this;exact O this.2.2.2.1 ⟨e,w⟩
theorem Cw(i:Int):0<=pN st i:=by unfold pN;exact iO _
theorem Fin.xgn(P:Pl W)(z:Fin W G st):sC W (pN st)where
bd i m:=by
 refine⟨Cw i,?_⟩;refine bz (z.two m) (λy=>?_) λu=>?_;.obtain⟨a,x⟩:=y;have:=(z.out m a x).1;exact mE this
 .obtain⟨j,w,e⟩:=u;have:=(z.kept w (by exact O e (aF.mp m).1)).2.2.1;replace this:=e▸this;exact kI this
nb i b o T c g e A:=by have h1:=(z.low b c).1;have J:=(z.low T g).1;replace J:=h1▸e▸J;replace A:=J▸A;exact sJ A
su i b k H V:=by
 obtain⟨v,⟨n,r⟩,T,f⟩:=id z;have D:=r.aK.el i (aF.mp b).1 (aF.mp b).2;have q:k<gi st.aK i/\k<4:=by
  refine bz (z.two b) (λy=>?_) λu=>?_;.obtain⟨a,x⟩:=y;have:=z.out b a x;exact iR (Q5 this.2 (this.1▸V)) (this.1▸V)
  .obtain⟨j,w,e⟩:=u;have:=z.kept w (by exact O e (aF.mp b).1);replace this:=e▸this;exact⟨O this.2.2.2.2 (CZ (kI V)),mY V this.2.2.1⟩
 have w:=wV P b H q.2;refine aW (v.best i b k H q.1) λb1 b2=>?_;generalize Y:bw W i k=j at w b1 b2⊢;refine qH (z.kept w.1 b1) λI N p d t=>?_;refine⟨gi st.held j,I,p,d,?_⟩;have:eG W j (gi st.held j)≠eG W j i:=λe=>by have e:=Ew P w.1 I b N (gu w.2) e;rw[e]at p d;have:=MZ P b H q.2 (Cw i) p (Y.trans d.symm);exact rt V this
 exact jc b2 this
theorem Fin.le(z:Fin W G st)(P:Pl W):∀i∈r5,pN st i=gi (rounds W) i:=WE (z.xgn P) z.v.le
theorem Fin.asks(z:Fin W G st)(P:Pl W):∀i∈r5,gi st.aK i=gi (bH (rounds W)) i:=λi m=>by
 rw[MN (qC W).1.ck (aF.mp m).1 (aF.mp m).2,<-z.le P i m];refine bz (z.two m) (λy=>?_) λu=>?_;.obtain⟨a,x⟩:=y;have:=z.out m a x;exact O this.1 (O (if_neg (by decide)) this.2)
 .obtain⟨j,w,e⟩:=u;have:=z.kept w (by exact O e (aF.mp m).1);replace this:=e▸this;by_cases h:pN st i+1<4;.exact O (if_pos h) this.2.2.2.2
  .exact O (if_neg h) (O this.2.2.2.2 (yd this.2.2.1 (fD.mp h)))
theorem VJ(m:i∈r5)(h:∀o∈r5,p o=af↔o=i):r5.filter p=[i]:=by
 have:r5.filter p=r5.filter λo=>decide (o=i):=YL λo T=>by rw[tR,h o T,decide_eq_true_iff]
 refine O this ?_;revert m;revert i;have:∀i∈r5,r5.filter (λo=>decide (o=i))=[i]:=dk;exact λ{i}_ _ m=>this i m
theorem Fin.held(z:Fin W G st)(P:Pl W):st.held=keepsP W (rounds W):=by
 obtain⟨v,⟨n,r⟩,T,f⟩:=id z;refine B7 (d:=0) r.held (by rfl) λj w=>?_;unfold keepsP;rw[uX j w];show gi st.held j=_;unfold Ba oE;by_cases h:0<=gi st.held j
 .refine qH (z.kept w h) λI N p d t=>?_;rw[VJ I λo T=>?_];.rfl
  .rw[<-z.le P o T];simp only[dZ,decide_eq_true_eq,tW,beq_iff_eq];refine⟨λ⟨a,b⟩=>?_,λe=>by rw[e];exact⟨p,d⟩⟩;have:=(z.low T a).1;rw[b]at this;exact this.symm
 .have e:r5.filter (λo=>decide (gi (rounds W) o<4)&&(bw W o (gi (rounds W) o)==j&&af))=[]:=vG.mpr λo T=>by rw[<-z.le P o T];simp only[dZ,decide_eq_true_eq,tW,beq_iff_eq];intro⟨a,b⟩;have:=(z.low T a).1;rw[b]at this;exact h (this▸(aF.mp T).1)
  rw[e];have:=r.pY j (aF.mp w).1 (aF.mp w).2;show _=(-1:Int);exact PE this.1 (yw.mp h)
theorem Fin.ref(z:Fin W G st)(P:Pl W):st.refused=sA W (bH (rounds W)) (keepsP W (rounds W)):=by
 obtain⟨v,⟨n,r⟩,T,f⟩:=id z;refine B7 (d:=[]) r.ref (by rfl) λi E=>?_;unfold sA;refine O (uX i E) ?_;show jD st i=_;unfold wU ee;rw[<-z.asks P i E,<-z.held P,v.ref i E,show(jD st i).length=(pN st i).toNat from rfl];unfold sV;congr 1;have D:=P.1.row i (aF.mp E).1 (aF.mp E).2;have b:∀a∈bA W i,a∈r5:=λa m=>by have:=P.1.el i (aF.mp E).1 (aF.mp E).2 a m;exact aF.mpr ⟨this.1,this.2.1⟩
 refine bz (z.two E) (λy=>?_) λu=>?_;.obtain⟨a,x⟩:=y;have:=z.out E a x;refine O this.1 (O this.2 ?_);symm;refine zP.mpr λa s=>?_;have:=x a (b a (nL s));simpa using this
 .obtain⟨j,w,e⟩:=u;have q:=z.kept w (by exact O e (aF.mp E).1);rw[e]at q;obtain⟨I,N,p,d,t⟩:=q;have C:=Cw (st:=st) i;have A:(bA W i)[(pN st i).toNat]'(ji p D)=j:=by refine aR d ?_;unfold bw gi;refine O cA (O (cz (ji p D)) ?_);rfl
  rw[t,show(pN st i+1).toNat=(pN st i).toNat+1 from rfl,IQ (ji p D),List.filter_append,A,U0 (by simp[e]),List.filter_nil,g8];symm;refine zP.mpr λa s=>?_;simp only[bne_iff_ne,ne_eq];intro h;have c:=b a (nL s);have R:=z.kept c (by exact O h (aF.mp E).1);rw[h,d]at R;have B:j=a:=R.2.2.2.1;obtain⟨m,Q,U⟩:=x6 s;rw[YO]at U;rw[jA]at Q;have g:=(P.2 i E).idxOf_getElem m (HK Q);have o:=(P.2 i E).idxOf_getElem (pN st i).toNat (ji p D);rw[U]at g;rw[A,B]at o;exact Q0 Q g o
end
theorem xdH{L N:Type}{f:L->N}{l:List L}{d:L}{e:N}(h:l.length=5):∀i∈r5,(l.map f).getD i.toNat e=f (l.getD i.toNat d):=λi m=>by have:=aF.mp m;refine O cA (O cA (O eS (O (cz (BJ this.1 this.2 h)) ?_)));rfl
theorem xbY{K:List Int}(h:gh K):TE (n+1) (DS (K.map λa=>(bC a,je a))) (DS (K.map λa=>(bC a,je a))):=by refine .dict rfl λq j=>?_;refine aH (bF.mp j) λx m C=>?_;subst C;exact⟨Pk (h.2 x m) h.2 m,.inr ⟨_,rfl,λ_ m=>by simp only[bB,cg,or_false]at m;rcases m with rfl|rfl|rfl<;>rfl⟩⟩
theorem LX{L:Type}{n:Nat}{f:L->T}{l m:List L}{d:L}(V:l.length=5)(Q:m.length=5)(h:∀i∈r5,TE n (f (l.getD i.toNat d)) (f (m.getD i.toNat d))):TE (n+1) (.list (l.map f)) (.list (m.map f)):=by
 refine .list (by exact O (aI ..) (O (aI ..) (O V (O Q rfl)))) λi t u a b=>?_;rw[eS]at a b;by_cases c:i<5;.have h':=h i (aF.mpr (iR (iO _) (gR.mpr c)));rw[cz (tG c V.symm)]at a;rw[cz (tG c Q.symm)]at b;cases a;cases b;replace h':=cz (jq Q c)▸cz (jq V c)▸rH ..▸cA▸cA▸h';exact h'
 .replace a:=pF (jv V (qw c))▸a;cases a
theorem xbZ{h:List Int}(V:h.length=5):∀i∈r5,(∀j∈r5,j≠i->0<=gi h j)->4<=(nn h).length:=λi E Y=>by have e:h=r5.map (gi h):=B7 (d:=0) V rfl λj w=>(uX (f:=gi h) (d:=0) j w).symm;show 4<=(h.filter _).length;exact O e (aR List.countP_eq_length_filter (O xau (bf ((by decide:∀i∈r5,4<=r5.countP λj=>decide (j≠i)) i E) (List.countP_mono_left λj w q=>decide_eq_true (Y j w (of_decide_eq_true q))))))
theorem VK{l m:List Int}(p:l.Perm m)(h:l.length<=1):l=m:=by cases l with|nil=>exact p.nil_eq|cons a l=>cases l with|nil=>exact(Jz.mp p.symm).symm|cons b l=>exact absurd h (zY (zZ (qz _)))
section
variable{W:List (List Int)}{G:List ai}{M:bG}
def xca(W:List (List Int)):List Int:=r5.filter λi=>decide (gi (rounds W) i=4)
theorem Fin.al(z:Fin W G M)(P:Pl W):M.alone=xca W/\M.alone.length<=1:=by
 obtain⟨v,⟨n,r⟩,T,f⟩:=id z;have p:=v.perm;rw[f,tQ]at p;have h:=p.nodup_iff.mpr qF;refine gW (nM.mp h) λg _ d=>?_;have V:M.alone.length<=1:=by cases K:M.alone with|nil=>exact jm _|cons i l=>
  have E:i∈M.alone:=by exact O K (aQ ..)
  have c:=p.mem_iff.mp (bI _ E);have Y:=v.al i E;have:=xbZ r.held i c λj w q=>by
   have b:=P.1.all i (aF.mp c).1 (aF.mp c).2 j (aF.mp w).1 (aF.mp w).2 q;have A:=xT b;rw[P.1.row i (aF.mp c).1 (aF.mp c).2]at A;have e:bw W i ((bA W i).idxOf j:Nat)=j:=by unfold bw gi;exact O (rH ..) (O cA (O (cz (xT b)) (C4 (xT b))))
   have:=(v.best i c ((bA W i).idxOf j:Nat) (iO _) (Q5 Y (gR.mpr A))).1;rwa[e]at this
  have le:=p.length_eq;rw[cL,K,show r5.length=5 from rfl]at le;exact I2 (bf (di le) (iy this 1))
 refine⟨VK ((zJ g (qF.filter _)).mpr λi=>?_) V,V⟩;rw[d7,decide_eq_true_iff];refine⟨λE=>?_,λ⟨c,Y⟩=>?_⟩;.have c:=p.mem_iff.mp (bI _ E);refine⟨c,?_⟩;refine aR (z.le P i c) ?_;refine(z.out c E λj w e=>?_).1;exact d i E i (d7.mpr ⟨e▸AA r w,decide_eq_true (aF.mp c).1⟩) rfl
 .rw[<-z.le P i c]at Y;refine bz (z.two c) (λy=>?_) λI=>?_;.obtain⟨a,_⟩:=y;exact a
  .obtain⟨j,w,e⟩:=I;have:=(z.kept w (by exact O e (aF.mp c).1)).2.2.1;rw[e]at this;exact rt this Y
theorem Fin.bW(z:Fin W G M)(P:Pl W){j o:List ai}(h:∀i∈r5,∃c w e,MF G j o i c w e):M.bW=r6 j o (oW (bH (rounds W))):=by
 obtain⟨v,⟨n,r⟩,T,f⟩:=id z;refine B7 (d:="") r.bW (by rfl) λi E=>?_;unfold r6;refine O (uX i E) ?_;show bK M.bW i=_;refine iT (h i E) λc w e d=>?_;have t:=yE (qC W).1.ck (aF.mp E).1 (aF.mp E).2;have a:(bH (rounds W)).length=5:=by unfold bH;exact O (aI ..) (qC W).1.ck.len
 rw[T i (aF.mp E).1 (aF.mp E).2,z.asks P i E];obtain⟨m,Q⟩:∃m:Nat,gi (bH (rounds W)) i=((m+1:Nat):Int):=⟨(gi (bH (rounds W)) i).toNat-1,jo1 t.1⟩;refine O Q (O (rH ..) ?_);refine d.xgj E (nV.mp (Q▸t.2)) ?_;unfold bK oW;refine O (xdH (d:=0) a i E) ?_;show uu (gi (bH (rounds W)) i)=_;exact O Q rfl
theorem Fin.Pn(z:Fin W G M)(P:Pl W){n:Nat}:TE (n+2) (.list (M.refused.map DS)) (.list (M.refused.map DS)):=by obtain⟨v,⟨m,r⟩,T,f⟩:=id z;refine LX (d:=[]) r.ref r.ref λi E=>?_;show TE _ (DS (jD M i)) (DS (jD M i));refine O (v.ref i E) ?_;exact xbY ⟨(P.2 i E).sublist (De ..),λa s=>by have:=P.1.el i (aF.mp E).1 (aF.mp E).2 a (nL s);exact aF.mpr ⟨this.1,this.2.1⟩⟩
theorem Fin.ends(z:Fin W G M)(P:Pl W){j o:List ai}(h:∀i∈r5,∃c w e,MF G j o i c w e):GL W j o M where
ck:=(qC W).1.ck;held:=z.held P;ref:=by exact aR (z.ref P) (z.Pn P)
bW:=z.bW P h
theorem Fin.tab(z:Fin W G M)(P:Pl W)(w:j∈r5):∃L,gh L/\L.Perm (jf W (bH (rounds W)) j)/\cP M.book j=⟨if gi M.held j<0 then 0 else 1,L.length,(L.map (gw W j)).sum,(L.map (sD W j)).sum,cu (gw W j) L⟩/\(gi M.held j<0↔L=[]):=by
 obtain⟨v,⟨n,r⟩,T,f⟩:=id z;refine dm (v.bk j w) λL o C e=>?_;refine⟨L,o,(zJ o.1 (qF.filter _)).mpr λi=>?_,e,λh=>?_,λh=>?_⟩
 .rw[d7,jz];have d:i∈r5->(i∈L↔j∈ee W (bH (rounds W)) i):=λE=>by
   have D:=P.1.row i (aF.mp E).1 (aF.mp E).2;have u:=r.aK.el i (aF.mp E).1 (aF.mp E).2;rw[C i E];unfold ee;rw[<-z.asks P i E];refine⟨λ⟨k,H,V,e⟩=>?_,λm=>?_⟩
   .rw[Uq];have b:=HL V u.2 D;have A:(bA W i)[k.toNat]'b=bw W i k:=by unfold bw gi;rw[cA,cz (HL V u.2 D)];rfl
    exact⟨k.toNat,jm1 D H V u.2,A.trans e⟩
   .obtain⟨k,N,e⟩:=Uq.mp m;refine⟨k,iO _,jm2 N,?_⟩;rw[<-e];unfold bw gi;rw[rH,cA,cz (HK N)];rfl
  exact⟨λm=>⟨o.2 i m,(d (o.2 i m)).mp m⟩,λ⟨c,m⟩=>(d c).mpr m⟩
 .refine IU.mpr λi m=>?_;refine dm ((C i (o.2 i m)).mp m) λk H V e=>?_;have:=(v.best i (o.2 i m) k H V).1;replace this:=e▸this;exact BO h this
 .by_cases q:0<=gi M.held j;.have N:=z.kept w q;have:=(C _ N.1).mpr ⟨pN M (gi M.held j),Cw _,mE (i6 N.2.2.2.2),N.2.2.2.1⟩;replace this:=h▸this;cases this
  .exact yw.mp q
end
theorem pg{l m:List Int}(p:l.Perm m)(f:Int->Int):(l.map f).sum=(m.map f).sum:=by induction p with|nil=>rfl|cons a _ G=>exact O f6 (O f6 (O rK (O rK (O G rfl))))|swap a b l=>exact Y6 ..|trans _ _ h1 J=>exact O h1 (O J rfl)
theorem sum_filter(p:Int->Bool)(f:Int->Int):∀l:List Int,((l.filter p).map f).sum=(l.map λi=>if p i then f i else 0).sum
|[]=>rfl|a::l=>by
 refine O Dn (O f6 (O rK (aR (sum_filter p f l) ?_)));split;.exact O f6 (O rK rfl)
 .exact(mD _).symm
theorem M5(l:List Int):(l.map λ_=>(1:Int)).sum=l.length:=by induction l with|nil=>rfl|cons a l G=>exact O f6 (O rK (O G (O fC (jM 1 (l.length:Int)))))
theorem Po{K:List Int}(h:gh K):K.Perm (r5.filter λi=>K.contains i):=(zJ h.1 (qF.filter _)).mpr λi=>by rw[d7,jz];exact⟨λm=>⟨h.2 i m,m⟩,OC⟩
theorem sum_add(f g:Int->Int)(l:List Int):(l.map λi=>f i+g i).sum=(l.map f).sum+(l.map g).sum:=by induction l with|nil=>rfl|cons a l G=>show f a+g a+(l.map λi=>f i+g i).sum=f a+(l.map f).sum+(g a+(l.map g).sum);rw[G,nU,nU,Y6 (g a)]
theorem YA(h:Int->Int->Int)(l m:List Int):(l.map λj=>(m.map λi=>h j i).sum).sum=(m.map λi=>(l.map λj=>h j i).sum).sum:=by induction l with
|nil=>induction m with|nil=>rfl|cons a m G=>exact G.trans (mD _).symm
|cons a l G=>exact(congrArg _ G).trans (sum_add (h a) _ m).symm
section
variable{W:List (List Int)}{G:List ai}{M:bG}{d:List Int}
theorem LY(P:Pl W)(m:i∈r5):gh (ee W d i):=⟨(P.2 i m).sublist (De ..),λa s=>by have:=P.1.el i (aF.mp m).1 (aF.mp m).2 a (nL s);exact aF.mpr ⟨this.1,this.2.1⟩⟩
theorem FZ(P:Pl W)(g:Int->Int->Int):(r5.map λj=>((jf W d j).map (g j)).sum).sum=(r5.map λi=>((ee W d i).map λj=>g j i).sum).sum:=by
 have H:(r5.map λj=>((jf W d j).map (g j)).sum)=r5.map λj=>(r5.map λi=>if(ee W d i).contains j then g j i else 0).sum:=jI λj _=>sum_filter _ _ _;have L:(r5.map λi=>((ee W d i).map λj=>g j i).sum)=r5.map λi=>(r5.map λj=>if(ee W d i).contains j then g j i else 0).sum:=jI λi m=>by rw[pg (Po (LY P m)),sum_filter]
 exact O H (O L (YA (λj i=>if(ee W d i).contains j then g j i else 0) _ _))
theorem Fin.book(z:Fin W G M)(P:Pl W):Bb W (bH (rounds W)) M where
n:=by obtain⟨v,⟨n,r⟩,T,f⟩:=id z;exact r.book
b j a:=by
 refine fU (z.tab P a) λL o p e B=>?_;rw[e];generalize bH (rounds W)=A at p⊢;have g:fF W A j=cu (gw W j) (jf W A j):=rfl;have V:=p.length_eq;refine E4 ?_ ?_ ?_ ?_ ?_
 .show(if gi M.held j<0 then 0 else 1)=if((fF W A j).length:Int)<1 then((fF W A j).length:Int)else 1;rw[g,uw,<-V];by_cases h:gi M.held j<0;.rw[if_pos h,B.mp h];rfl
  .rw[if_neg h,if_neg];intro q;exact h (B.mpr (CI (xaH (YT (gR.mp q)) (jm _))))
 .show(L.length:Int)=((fF W A j).length:Int);rw[g,uw,V]
 .show _=tabS (fF W A j);rw[g,wG];exact pg p _
 .exact pg p _
 .exact GP (n:=1) p o λ_ _=>rfl
c j a:=by refine fU (z.tab P a) λL o p e B=>?_;rw[e];show tabS (cu (gw W j) L)=tabS (cu (gw W j) (jf W (bH (rounds W)) j));rw[wG,wG];exact pg p _
z j a:=by refine fU (z.tab P a) λL o p e B=>?_;rw[e];show(cu (gw W j) L).length<=100;rw[uw,p.length_eq];exact bf (nJ _ _) dk
theorem xcb{st':bG}(z:Fin W G M)(A:Fin W G st')(P:Pl W)(Q:M.bW=st'.bW):TE 5 (nG M) (nG st'):=by
 have h1:=z.held P;have J:=A.held P;have R:=(z.al P).1;have Y:=(A.al P).1;have y:=z.ref P;have l:=A.ref P;refine QD ?_ ?_ ?_ ?_ ?_;.exact O h1 (O J (ur (n:=3) (f:=T.int) (λa=>.flat rfl) _))
 .exact O Q (ur (n:=3) (f:=T.str) (λa=>.flat rfl) _)
 .refine O R (O Y ?_);exact ur (n:=3) (λi=>Ol λt m=>by simp only[bB,cg,or_false]at m;rcases m with rfl|rfl<;>exact .flat rfl) _
 .exact O y (aR l (A.Pn P))
 .obtain⟨v,⟨n,r⟩,k,f⟩:=id z;obtain⟨u,⟨s,c⟩,X,h⟩:=id A;refine LX (d:=⟨0,0,0,0,[]⟩) r.book c.book λj w=>?_;refine fU (z.tab P w) λL o p e B=>?_;refine fU (A.tab P w) λE b F U g=>?_;show TE 3 (cB (cP M.book j)) (cB (cP st'.book j));have q:=p.trans F.symm;refine O e (O U ?_);exact E4 (by exact O h1 (O J rfl)) (by show(L.length:Int)=E.length;exact O q.length_eq rfl) (pg q _) (pg q _) (GP (n:=1) q o λ_ _=>rfl)
end
noncomputable def Tb(t:Tab)(g:Int->Int):Prop:=∃K,gh K/\t=cu g K/\∀x,g x≠0->x∈K
theorem Tb.nil:Tb [] λ_=>0:=⟨[],⟨tU,λ_ m=>by cases m⟩,rfl,λx h=>absurd rfl h⟩
theorem Tb.of{L:List Int}(h:gh L):Tb (cu f L) λx=>if L.contains x then f x else 0:=⟨L,h,mG λi m=>by exact O (if_pos (jz.mpr m)) rfl,λx q=>by
by_cases m:L.contains x=af;.exact jz.mp m
.exact absurd (if_neg m) q⟩
theorem Tb.add(a:Tb t g)(b:Tb u h):Tb (jF t u) λx=>g x+h x:=by
 refine dm a λK C I d=>?_;try clear a;subst I
 refine dm b λk f I c=>?_;try clear b;subst I
 refine dm (E3 (f:=g) (g:=h) C f) λM j D e=>?_;refine⟨M,j,e.trans (mG λx _=>?_),λx q=>(D x).mpr ?_⟩
 .congr 1
  .split;.rfl
   .by_cases z:g x=0;.exact z.symm
    .exact absurd (d x z) ‹_›
  .split;.rfl
   .by_cases z:h x=0;.exact z.symm
    .exact absurd (c x z) ‹_›
 .by_cases z:g x=0;.exact .inr (c x λy=>q (show g x+h x=0 from O z (O y rfl)))
  .exact .inl (d x z)
theorem xdI{l:List Int}(h:l.length=5):l=r5.map (gi l):=by refine n7 (oM h) λa b c d e I=>?_;subst I;rfl
theorem E5{l:List Int}(h:l.length=5):ia l=cu (λi=>(gi l i*(gi l i+1)).fdiv 2) r5:=by refine n7 (oM h) λa b c d e I=>?_;subst I;rfl
theorem LZ(f:Int->List Int):∀l:List Int,(l.flatMap f).sum=(l.map λi=>(f i).sum).sum|[]=>rfl|a::l=>by exact O zS (O DF (O (LZ f l) (O f6 (O rK rfl))))
theorem xgo{l:List Int}:(∀x∈l,-1<=x)->(l.map λx=>if x<0 then(0:Int)else 1).sum=(l.length:Int)-(l.count (-1):Nat):=by induction l with|nil=>exact λ_=>rfl|cons a l G=>
intro h;have Z:=G λx m=>h x (aZ _ m);have K:=h a (aQ ..);show(if a<0 then(0:Int)else 1)+(l.map λx=>if x<0 then(0:Int)else 1).sum=(l.length:Int)+1-_;rw[Z,yc];by_cases z:a<0;.rw[if_pos z,PE K z,mD];exact(Int.add_sub_add_right ..).symm
.rw[if_neg z,if_neg λq=>Ed (fW (fD.mp z)) (eq_of_beq q),jM (l.length:Int) 1];exact(Int.add_sub_assoc ..).symm
theorem xgp{h:List Int}(V:h.length=5)(R:∀i∈r5,-1<=gi h i):(r5.map λi=>if gi h i<0 then(0:Int)else 1).sum=5-(h.count (-1):Nat):=by refine n7 (oM V) λa b c d e I=>?_;subst I;exact xgo (dQ (P:=λx=>-1<=x) (R 0 dk) (dQ (R 1 dk) (dQ (R 2 dk) (dQ (R 3 dk) (dQ (R 4 dk) nA)))))
section
variable{W:List (List Int)}{G:List ai}{M:bG}
theorem xcc(P:Pl W)(m:i∈r5):(bA W i).map (λj=>gw W j i)=[1,2,3,4]:=by have D:=P.1.row i (aF.mp m).1 (aF.mp m).2;refine Y5 (by refine O (aI ..) (O D ?_);rfl) λn h1 J=>?_;refine O (List.getElem_map ..) ?_;unfold gw;rw[(P.2 i m).idxOf_getElem n (by replace h1:=aI ..▸h1;exact h1)];have:n<4:=J;have:n=0\/n=1\/n=2\/n=3:=PA this;rcases this with rfl|rfl|rfl|rfl<;>rfl
theorem Sx(P:Pl W)(m:i∈r5)(h:1<=gi f i/\gi f i<=4):((ee W f i).map λj=>gw W j i).sum=(gi f i*(gi f i+1)).fdiv 2:=by unfold ee;refine O DT (O (xcc P m) ?_);generalize gi f i=n at h⊢;have:n=1\/n=2\/n=3\/n=4:=PG h.1 h.2;rcases this with rfl|rfl|rfl|rfl<;>decide
theorem xgq(a b c d e:Int):0+a+b+c+d+e=a+(b+(c+(d+(e+0)))):=by rw[mD,qA,nU,nU,nU]
theorem WK(M:bG):(jg M r5).a=(r5.map λj=>(cP M.book j).a).sum/\(jg M r5).b=(r5.map λj=>(cP M.book j).b).sum/\(jg M r5).c=(r5.map λj=>(cP M.book j).c).sum/\(jg M r5).d=(r5.map λj=>(cP M.book j).d).sum:=by have d:=λf:Int->Int=>pg (YM r5) f;exact⟨d λj=>(cP M.book j).a,d λj=>(cP M.book j).b,d λj=>(cP M.book j).c,d λj=>(cP M.book j).d⟩
def bx(W:List (List Int))(A:List Int)(j x:Int):Int:=if(ee W A x).contains j&&r5.contains x then gw W j x else 0
theorem xab(P:Pl W)(r:fh M k){A:List Int}(T:A.length=5)(t:∀i∈r5,1<=gi A i/\gi A i<=4)(a:∀j∈r5,∃L,gh L/\L.Perm (jf W A j)/\cP M.book j=⟨if gi M.held j<0 then 0 else 1,L.length,(L.map (gw W j)).sum,(L.map (sD W j)).sum,cu (gw W j) L⟩):(jg M r5).t.length<=1000/\TE 3 (cB (jg M r5)) (cB ⟨5-(M.held.count (-1):Nat),A.sum,tabS (ia A),(m6 W A).sum,ia A⟩)/\tabS (jg M r5).t=tabS (ia A):=by
 refine kR (WK M) λl R Z U=>?_;have d:∃K,K.Perm r5/\gh K/\(jg M r5).t=cu (λi=>(gi A i*(gi A i+1)).fdiv 2) K:=by
  have one:∀j∈r5,Tb (cP M.book j).t (bx W A j):=λj w=>by refine dm (a j w) λL o p e=>?_;refine O e ?_;have:=Tb.of (f:=gw W j) o;rwa[show(λx=>if L.contains x then gw W j x else 0)=bx W A j from funext λx=>by unfold bx;exact O (show L.contains x=((ee W A x).contains j&&r5.contains x)from by rw[tR,jz,p.mem_iff,dZ,jz (as:=r5),jf,d7];exact And.comm) rfl]at this
  refine dm (((((Tb.nil.add (one 0 (by decide))).add (one 1 (by decide))).add (one 2 (by decide))).add (one 3 (by decide))).add (one 4 (by decide))) λK C e s=>?_;have f:∀x∈r5,0+bx W A 0 x+bx W A 1 x+bx W A 2 x+bx W A 3 x+bx W A 4 x=(gi A x*(gi A x+1)).fdiv 2:=λx S=>by
   have b:∀j,bx W A j x=if(ee W A x).contains j then gw W j x else 0:=λj=>by unfold bx;exact O (jz.mpr S) (O (tW ..) rfl)
   rw[<-Sx P S (t x S),pg (Po (LY P S)),sum_filter,b,b,b,b,b];exact xgq ..
  refine⟨K,(zJ C.1 qF).mpr λx=>⟨C.2 x,λS=>s x λq=>?_⟩,C,e.trans (mG λx m=>f x (C.2 x m))⟩;have q:=(f x S).symm.trans q;have:=t x S;revert q this;generalize gi A x=n;intro q this;have:n=1\/n=2\/n=3\/n=4:=PG this.1 this.2;rcases this with rfl|rfl|rfl|rfl<;>revert q<;>decide
 refine dm d λK g C c=>?_;refine⟨?_,E4 ?_ ?_ ?_ ?_ ?_,?_⟩;.refine O c (O (uw ..) (O g.length_eq ?_));decide
 .refine O l ?_;show _=5-(M.held.count (-1):Int);refine aR (xgp r.held λi m=>(r.pY i (aF.mp m).1 (aF.mp m).2).1) ?_;refine congrArg _ (jI λj w=>?_);refine dm (a j w) λL o p e=>?_;exact O e rfl
 .refine O R ?_;show _=A.sum;have H:(r5.map λj=>(cP M.book j).b)=r5.map λj=>((jf W A j).map λ_=>(1:Int)).sum:=jI λj w=>by refine dm (a j w) λL o p e=>?_;exact O e (O (M5 ..) (aR p.length_eq rfl))
  refine O H (O (FZ P λ_ _=>1) ?_);have h:=xdI T;refine O (congrArg List.sum h) ?_;refine congrArg _ (jI λi E=>?_);refine O (M5 ..) ?_;unfold ee;have:=t i E;rw[jA,P.1.row i (aF.mp E).1 (aF.mp E).2];exact jo2 (fW this.1) this.2
 .refine O Z ?_;show _=tabS (ia A);have H:(r5.map λj=>(cP M.book j).c)=r5.map λj=>((jf W A j).map (gw W j)).sum:=jI λj w=>by refine dm (a j w) λL o p e=>?_;exact O e (pg p _)
  exact O H (O (FZ P (gw W)) (O (E5 T) (O (wG ..) (congrArg _ (jI λi E=>Sx P E (t i E))))))
 .refine O U ?_;show _=(m6 W A).sum;have H:(r5.map λj=>(cP M.book j).d)=r5.map λj=>((jf W A j).map (sD W j)).sum:=jI λj w=>by refine dm (a j w) λL o p e=>?_;exact O e (pg p _)
  refine O H (O (FZ P (sD W)) ?_);unfold m6;refine O (LZ ..) ?_;rfl
 .exact O c (O (E5 T) (GP (n:=1) g C λ_ _=>rfl))
 .exact O c (O (E5 T) (O (wG ..) (O (wG ..) (pg g _))))
theorem Fin.tot(z:Fin W G M)(P:Pl W):Bx W (jg M r5):=by
 obtain⟨v,⟨n,r⟩,T,f⟩:=id z;have D:=(qC W).1.ck;have:=xab P r (A:=bH (rounds W)) (by unfold bH;exact O (aI ..) D.len) (λi m=>yE D (aF.mp m).1 (aF.mp m).2) λj w=>by refine fU (z.tab P w) λL o p e _=>?_;exact⟨L,o,p,e⟩
 rw[z.held P]at this;exact⟨this.1,this.2.1,this.2.2⟩
end
def lI(c:List (List Int)):List (Int×Int×Int):=c.flatMap λr=>(en 0 r).map λq=>(q.2,i9 r q.1,wN r q.1)
def fj(c:List (List Int)):List Int:=(lI c).foldl (λf s=>f.set s.1.toNat s.2.1) r5
def prs:List (Int×Int):=r5.flatMap λone=>(upTo one).map λi=>(one,i)
def FN{N:Type}(b:N->N->N)(a:N->N)(g:N)(L:Int->Int->Int->N)(c:List (List Int)):N:=(lI c).foldr (λs r=>b (a (L s.1 s.2.1 s.2.2)) r) (prs.foldr (λq r=>b (a (b (L q.1 q.2 (gi (fj c) q.1)) (L q.2 q.1 (gi (fj c) q.2)))) r) g)
theorem ym{L:Type}(f:L->Bool)(b:Bool):∀l:List L,l.foldr (λs r=>f s&&r) b=(l.all f&&b)|[]=>by simp|a::l=>by exact O DG (O (ym f b l) (O K3 (O (Bool.and_assoc ..) rfl)))
def uK(e:List (List Int))(p:List Int):List Int:=r5.map λi=>gr e i (gi p i)
theorem xac(e:List (List Int)){p:List Int}(Q:p.length=5)(a:Int):∀q∈r5,(uK e p).set q.toNat (gr e q a)=uK e (p.set q.toNat a):=by refine n7 (oM Q) λ_ _ _ _ _ z=>?_;subst z;exact Bc rfl rfl rfl rfl rfl
def stp(e:List (List Int))(o:List Int)(s:Int×Int×Int):Option (List Int):=if gr e s.1 s.2.1<gr e s.1 s.2.2 then ak else aa (o.set s.1.toNat (gr e s.1 s.2.1))
theorem M6(e:List (List Int)):∀(l:List (Int×Int×Int))(p:List Int),p.length=5->(∀s∈l,s.1∈r5)->l.foldlM (stp e) (uK e p)=if l.all λs=>!decide (gr e s.1 s.2.1<gr e s.1 s.2.2)then aa (uK e (l.foldl (λf s=>f.set s.1.toNat s.2.1) p))else ak
|[],p,_,_=>rfl|s::l,p,Q,h=>by
 refine O Ds (O K3 (O pH ?_));unfold stp;by_cases q:gr e s.1 s.2.1<gr e s.1 s.2.2;.refine O (if_pos q) (O (decide_eq_true q) ?_);rfl
 .refine O (if_neg q) (O (decide_eq_false q) (O (xac e Q _ _ (h s (aQ ..))) ?_));exact M6 e l _ (by exact O jL Q) λx m=>h x (aZ _ m)
theorem Jr(e:List (List Int)):∀(c:List (List Int))(o:List Int),c.foldlM (pO e) o=(lI c).foldlM (stp e) o|[],_=>rfl|r::c,o=>by rw[Ds,lI,zS,JK,List.foldlM_map];show _=(pO e o r).bind λo=>(lI c).foldlM (stp e) o;refine aR (funext (Jr e c)) ?_;rfl
theorem M7:∀c∈e8 r5,(∀s∈lI c,s.1∈r5/\s.2.1∈r5/\s.2.2∈r5)/\∀i∈r5,gi (fj c) i∈r5:=by
 have h:((e8 r5).all λc=>((lI c).all λs=>r5.contains s.1&&(r5.contains s.2.1&&r5.contains s.2.2))&&r5.all λi=>r5.contains (gi (fj c) i))=af:=by decide+kernel
 intro c m;have h:=cj.mp h c m;rw[dZ,cj,cj]at h;refine⟨λs e=>?_,λi E=>jz.mp (h.2 i E)⟩;have:=h.1 s e;rw[dZ,dZ,jz,jz,jz]at this;exact this
theorem Ou:∀q∈prs,q.1∈r5/\q.2∈r5:=by decide+kernel
def ltB(W:List (List Int))(i a b:Int):Bool:=decide (dB W i a<dB W i b)
theorem wI(W:List (List Int))(E:i∈r5)(s:a∈r5):gr (ig W) i a=dB W i a:=by unfold gr ig;exact O (uX i E) (uX (d:=0) a s)
theorem xgr(W:List (List Int)):([4,4,4,4,4]:List Int)=uK (ig W) r5:=by
 have:∀i∈r5,gr (ig W) i (gi r5 i)=4:=λi E=>by have e:∀i∈r5,gi r5 i=i:=dk;exact O (e i E) (O (wI W E E) (if_pos rfl))
 exact jI (l:=r5) (f:=λ_=>(4:Int)) λi E=>(this i E).symm
theorem WL(e:List (List Int))(o:List Int):(ud e o).isEmpty=prs.all λq=>!(decide (gr e q.1 q.2<gi o q.1)&&decide (gr e q.2 q.1<gi o q.2)):=by
 rw[tR,List.isEmpty_iff,cj];unfold ud prs;rw[List.flatMap_eq_nil_iff];constructor;.intro h q m;refine aH (ya.mp m) λone U s=>?_;refine aH (bF.mp s) λi g z=>?_;subst z;have:=h one U;rw[if_pos rfl,W2,vG]at this;have:=this i g;rwa[Y7,<-tH]at this
 .intro h one U;refine O (if_pos rfl) (W2.mpr (vG.mpr ?_));intro i s;have:=h (one,i) (ya.mpr ⟨one,U,bF.mpr ⟨i,s,rfl⟩⟩);rwa[Y7,<-tH]
theorem all_congr{L:Type}{f g:L->Bool}{l:List L}(h:∀a∈l,f a=g a):l.all f=l.all g:=by rw[tR,cj,cj];exact⟨λq a m=>(h a m).symm.trans (q a m),λq a m=>(h a m).trans (q a m)⟩
theorem Ex(W:List (List Int)){c:List (List Int)}(m:c∈e8 r5):nj (ig W) c=FN (·&&·) (!·) true (ltB W) c:=by
 refine aW (M7 c m) λg Q=>?_;unfold nj yz FN;rw[xgr W,Jr,M6 (ig W) (lI c) r5 rfl λs e=>(g s e).1,ym λs:Int×Int×Int=>!ltB W s.1 s.2.1 s.2.2,ym λq:Int×Int=>!(ltB W q.1 q.2 (gi (fj c) q.1)&&ltB W q.2 q.1 (gi (fj c) q.2)),tW];have H:((lI c).all λs=>!decide (gr (ig W) s.1 s.2.1<gr (ig W) s.1 s.2.2))=(lI c).all λs=>!ltB W s.1 s.2.1 s.2.2:=all_congr λs e=>by refine gW (g s e) λa b d=>?_;refine O (wI W a b) (O (wI W a d) ?_);rfl
 refine O H ?_;cases(lI c).all λs=>!ltB W s.1 s.2.1 s.2.2 with|false=>rfl|true=>
show(ud (ig W) (uK (ig W) (fj c))).isEmpty=(true&&_);refine O (Bool.true_and ..) (O (WL ..) ?_);refine all_congr λq j=>?_;refine aW (Ou q j) λa b=>?_;have f:∀i∈r5,gi (uK (ig W) (fj c)) i=dB W i (gi (fj c) i):=λi E=>by exact aR (wI W E (Q i E)) (uX (d:=0) i E)
refine O (f _ a) (O (f _ b) (O (wI W a b) (O (wI W b a) ?_)));rfl
def cat(n:Nat):List Nat->Nat|[]=>0|w::a=>2^n*cat n a+w
noncomputable def mask(n:Nat)(b:Bool):Nat:=if b then 2^n-1 else 0
def nI(n:Nat)(z:List Bool):Nat:=cat n (z.map (mask n))
def up(n w:Nat):Nat:=cat n (eH 24 w)
theorem E6(D:r<n):∀{a:List Nat}{q:Nat},(∀w∈a,w<2^n)->(cat n a).testBit (n*q+r)=(a.getD q 0).testBit r
|[],q,_=>by show(0:Nat).testBit _=(0:Nat).testBit _;exact O (Du ..) (O (Du ..) rfl)|w::a,0,h=>by show(2^n*cat n a+w).testBit _=w.testBit r;rw[T8 _ (h w (aQ ..)),if_pos (show n*0+r<n from gO (di (jl r)) D)];congr 1;exact jk _ _|w::a,q+1,h=>by
 show(2^n*cat n a+w).testBit _=(a.getD q 0).testBit r;have e:n*(q+1)+r=n+(n*q+r):=by exact O (Np ..) (jP (jP (jJ _ _ _) (jk _ _)) (jP (rL _ _ _) (jk _ _)))
 rw[T8 _ (h w (aQ ..)),e,if_neg (tM (e7 _ _)),pD];exact E6 D λx m=>h x (aZ _ m)
theorem F0:∀{a:List Nat},(∀w∈a,w<2^n)->cat n a<2^(n*a.length)|[],_=>by show 0<2^(n*0);refine O (Nat.mul_zero ..) ?_;decide|w::a,h=>by have h1:=F0 λx m=>h x (aZ w m);have J:=h w (aQ ..);show 2^n*cat n a+w<2^(n*(a.length+1));rw[Np,xef,Nat.pow_add,Nat.mul_comm (2^(n*a.length))];calc 2^n*cat n a+w<2^n*cat n a+2^n:=W3 J _
_=2^n*(cat n a+1):=by exact O (Np ..) (O (xef ..) rfl)
_<=2^n*2^(n*a.length):=mV _ h1
theorem xad(n:Nat)(b:Bool):mask n b<2^n:=by
 have:=Nat.two_pow_pos n;unfold mask;split;.exact xgv this xdX
 .exact this
theorem L0(h:r<n)(b:Bool):(mask n b).testBit r=b:=by unfold mask;cases b with|false=>exact Du r|true=>show(2^n-1).testBit r=true;exact O (I0 ..) (decide_eq_true h)
theorem Bd{z:List Bool}(h:z.length=24):nI n z<2^(n*24)/\∀q r,r<n->q<24->(nI n z).testBit (n*q+r)=z.getD q ay:=by
 have Q:∀w∈z.map (mask n),w<2^n:=λw m=>by refine aH (bF.mp m) λb _ v=>?_;subst v;exact xad n b
 refine⟨?_,λq r D B=>?_⟩;.have:=F0 Q;rwa[aI,h]at this
 .unfold nI;exact O (E6 D Q) (O cA (O cA (O eS (O (cz (jq h B)) (L0 D _)))))
theorem xg{n w:Nat}(h:w<2^n):up n w<2^(n*24)/\∀q r,r<n->q<24->(up n w).testBit (n*q+r)=w.testBit r:=by
 have Q:∀x∈eH 24 w,x<2^n:=λx m=>by exact O (vD m) h
 refine⟨F0 Q,λq r D B=>?_⟩;unfold up;refine O (E6 D Q) (O cA (O List.getElem?_replicate (O (if_pos B) ?_)));rfl
def perms(i:Int):List (List Int):=(cX i).flatMap λx=>((cX i).filter λy=>y !=x).flatMap λy=>((cX i).filter λz=>z !=x&&z !=y).flatMap λz=>((cX i).filter λu=>u !=x&&(u !=y&&u !=z)).map λu=>[x,y,z,u]
theorem D9:∀i∈r5,(perms i).length=24:=by decide+kernel
theorem xcd(P:Pl W)(m:i∈r5):bA W i∈perms i:=by
 have D:=P.1.row i (aF.mp m).1 (aF.mp m).2;have K:=P.2 i m;have L:=P.1.el i (aF.mp m).1 (aF.mp m).2;have g:∀x∈bA W i,x∈cX i:=λx S=>by refine gW (L x S) λa b c=>?_;exact d7.mpr ⟨aF.mpr ⟨a,b⟩,by simpa using c⟩
 match C:bA W i,D with|[x,y,z,u],_=>rw[C]at K g;simp only[mj,bB,cg,or_false,not_or]at K;refine kR K λv I w _=>?_;refine gW v λU d h=>?_;refine aW I λt o=>?_;refine ya.mpr ⟨x,g x (by simp),ya.mpr ⟨y,d7.mpr ⟨g y (by simp),by simpa using gu U⟩,ya.mpr ⟨z,d7.mpr ⟨g z (by simp),by simp[gu d,gu t]⟩,bF.mpr ⟨u,d7.mpr ⟨g u (by simp),by simp[gu h,gu o,gu w]⟩,rfl⟩⟩⟩⟩
noncomputable def xgs(i:Int)(a b:Int)(d:List Int):Bool:=decide ((if i=a then(4:Int)else(d.idxOf a:Int))<if i=b then(4:Int)else(d.idxOf b:Int))
def bits(i a b:Int):List Bool:=(perms i).map (xgs i a b)
def xdJ(d:Nat)(i a b:Int):Nat:=if i=0 then mask 331776 ((bits 0 a b).getD d ay)else if i=1 then up 13824 (up 576 (up 24 (nI 1 (bits 1 a b))))else if i=2 then up 13824 (up 576 (nI 24 (bits 2 a b)))else if i=3 then up 13824 (nI 576 (bits 3 a b))else nI 13824 (bits 4 a b)
noncomputable def B8{N:Type}(x:Int)(k:Int->N):N:=if x=0 then k 0 else if x=1 then k 1 else if x=2 then k 2 else if x=3 then k 3 else k 4
theorem E7{N:Type}(k:Int->N):∀x∈r5,B8 x k=k x:=Bc rfl rfl rfl rfl rfl
def LW(d:Nat)(i a b:Int):Nat:=B8 i λi=>B8 a λa=>B8 b λb=>xdJ d i a b
noncomputable def ids:List (List Int):=[[0],[1],[2],[3],[4],[0,1,2],[0,1,3],[0,1,4],[0,2,3],[0,2,4],[0,3,4],[1,2,3],[1,2,4],[1,3,4],[2,3,4],[0,1,2,3,4]]
def lD{N:Type}(b:N->N->N)(a:N->N)(g:N)(o:N->N->N)(z:N)(L:Int->Int->Int->N)(id:List Int):N:=((e8 r5).filter λc=>(ring c).isPerm id).foldr (λc r=>o (FN b a g L c) r) z
noncomputable def sd{N:Type}(b o:N->N->N)(z:N)(l:List N):N×N:=l.foldr (λx p=>(o x p.1,o p.2 (b x p.1))) (z,z)
noncomputable def full:Nat:=2^331776-1
def rB(d:Nat):Bool:=match sd Nat.land Nat.lor 0 (ids.map (lD Nat.land (λx=>Nat.xor x full) full Nat.lor 0 (LW d)))with|(s,e)=>Nat.beq s full&&Nat.beq e 0
theorem foldr_hom{L:Type}{h:Nat->Bool}{n:Nat->Nat->Nat}{c:Bool->Bool->Bool}{f:L->Nat}{d:L->Bool}{z:Nat}{A:Bool}(g:∀a b,h (n a b)=c (h a) (h b))(I:h z=A):∀{l:List L},(∀s∈l,h (f s)=d s)->h (l.foldr (λs r=>n (f s) r) z)=l.foldr (λs r=>c (d s) r) A|[],_=>I|a::l,e=>by exact O DG (O DG (O (g ..) (O (e a (aQ ..)) (O (foldr_hom g I λs m=>e s (aZ _ m)) rfl))))
structure Cx(h:Nat->Bool):Prop where
an:∀a b,h (qM a b)=(h a&&h b)o:∀a b,h (qO a b)=(h a||h b)nt:∀a,h (QL a full)=!h a
one:h full=af
zero:h 0=ay
theorem xce{h:Nat->Bool}(H:Cx h){L:Int->Int->Int->Nat}{E:Int->Int->Int->Bool}(C:∀i∈r5,∀a∈r5,∀b∈r5,h (L i a b)=E i a b){c:List (List Int)}(m:c∈e8 r5):h (FN qM (λx=>QL x full) full L c)=FN (·&&·) (!·) af E c:=by
 refine aW (M7 c m) λW Q=>?_;unfold FN;refine foldr_hom H.an (foldr_hom H.an H.one λq j=>?_) λs e=>?_;.refine aW (Ou q j) λa b=>?_;exact O (H.nt ..) (O (H.an ..) (O (C _ a _ b _ (Q _ a)) (O (C _ b _ a _ (Q _ b)) rfl)))
 .refine gW (W s e) λa b d=>?_;exact O (H.nt ..) (O (C _ a _ b _ d) rfl)
theorem xae{h:Nat->Bool}(H:Cx h){L:Int->Int->Int->Nat}{E:Int->Int->Int->Bool}(C:∀i∈r5,∀a∈r5,∀b∈r5,h (L i a b)=E i a b)(id:List Int):h (lD qM (λx=>QL x full) full qO 0 L id)=lD (·&&·) (!·) af (·||·) ay E id:=by unfold lD;exact foldr_hom H.o H.zero λc m=>xce H C (d7.mp m).1
theorem Ov(H:Cx h):∀l:List Nat,h (sd qM qO 0 l).1=(sd (·&&·) (·||·) ay (l.map h)).1/\h (sd qM qO 0 l).2=(sd (·&&·) (·||·) ay (l.map h)).2|[]=>⟨H.zero,H.zero⟩|a::l=>by refine aW (Ov H l) λb L=>?_;have z:sd qM qO 0 (a::l)=(qO a (sd qM qO 0 l).1,qO (sd qM qO 0 l).2 (qM a (sd qM qO 0 l).1)):=rfl;have o:sd (·&&·) (·||·) ay ((a::l).map h)=(h a||(sd (·&&·) (·||·) ay (l.map h)).1,(sd (·&&·) (·||·) ay (l.map h)).2||h a&&(sd (·&&·) (·||·) ay (l.map h)).1):=rfl;exact O z (O o ⟨by rw[H.o,b],by rw[H.o,H.an,b,L]⟩)
theorem xaf(N:k<331776):Cx λw=>w.testBit k where
an a b:=Nat.testBit_and a b k;o a b:=Nat.testBit_or a b k;nt a:=by show(a^^^full).testBit k=_;unfold full;rw[Nat.testBit_xor,I0,decide_eq_true N,Bool.xor_true]
one:=by show full.testBit k=af;unfold full;exact O (I0 ..) (O (decide_eq_true N) rfl)
zero:=Du k
theorem M8:∀l:List Bool,(sd (·&&·) (·||·) ay l).1=l.any id/\((sd (·&&·) (·||·) ay l).2=ay->l.Pairwise λa b=>¬(a=af/\b=af))
|[]=>⟨rfl,λ_=>CV⟩|a::l=>by
 obtain⟨H,L⟩:=M8 l;have o:sd (·&&·) (·||·) ay (a::l)=(a||(sd (·&&·) (·||·) ay l).1,(sd (·&&·) (·||·) ay l).2||a&&(sd (·&&·) (·||·) ay l).1):=rfl;refine O o ?_;refine⟨by refine O K4 (O H ?_);rfl,λq=>?_⟩;simp only[Bool.or_eq_false_iff,Bool.and_eq_false_iff]at q;refine xgL (λb j⟨d,c⟩=>?_) (L q.1);replace q:=H▸q;refine bz q.2 (λq=>?_) λq=>?_;.replace q:=d▸q;cases q
 .have:=List.any_eq_false.mp q b j;exact this c
theorem xag(Z:rB d=af)(N:k<331776)(C:∀i∈r5,∀a∈r5,∀b∈r5,(LW d i a b).testBit k=c i a b):ids.any (lD (·&&·) (!·) af (·||·) ay c)=af/\ids.Pairwise λx y=>¬(lD (·&&·) (!·) af (·||·) ay c x=af/\lD (·&&·) (!·) af (·||·) ay c y=af):=by
 have H:=xaf N;unfold rB at Z;have e:=Ov H (ids.map (lD Nat.land (λx=>Nat.xor x full) full Nat.lor 0 (LW d)));revert Z e;generalize sd Nat.land Nat.lor 0 (ids.map (lD Nat.land (λx=>Nat.xor x full) full Nat.lor 0 (LW d)))=p;obtain⟨s,t⟩:=p;intro Z e;simp only[dZ]at Z;have h1:=Nat.eq_of_beq_eq_true Z.1;have J:=Nat.eq_of_beq_eq_true Z.2;have f:(ids.map (lD Nat.land (λx=>Nat.xor x full) full Nat.lor 0 (LW d))).map (λw=>w.testBit k)=ids.map (lD (·&&·) (!·) af (·||·) ay c):=by exact O bO (jI λid _=>xae H C id)
 rw[f]at e;simp only at e;rw[h1,J]at e;refine aW (M8 (ids.map (lD (·&&·) (!·) af (·||·) ay c))) λb1 b2=>?_;refine⟨?_,?_⟩;.rw[<-e.1,Mg]at b1;rw[show ids.any (lD (·&&·) (!·) af (·||·) ay c)=_ from b1.symm];exact H.one
 .have:=b2 (e.2.symm.trans H.zero);rwa[Df]at this
theorem AD(a b:Int)(m:i∈r5):(bits i a b).length=24:=by unfold bits;exact O (aI ..) (O (D9 i m) rfl)
theorem yG(P:Pl W)(m:i∈r5):∃d,d<24/\∀a b,(bits i a b).getD d ay=ltB W i a b:=by obtain⟨d,U,e⟩:=x6 (xcd P m);rw[D9 i m]at U;refine⟨d,U,λa b=>?_⟩;unfold bits;refine O cA (O eS (O (cz (by rw[D9 i m];exact U)) (O e ?_)));rfl
theorem YB(P:Pl W):∃d k,d<24/\k<331776/\∀i∈r5,∀a∈r5,∀b∈r5,(LW d i a b).testBit k=ltB W i a b:=by
 refine aH (yG P (i:=0) dk) λf D B=>?_;refine aH (yG P (i:=1) dk) λy h1 H=>?_;refine aH (yG P (i:=2) dk) λG J L=>?_;refine aH (yG P (i:=3) dk) λF R g=>?_;refine aH (yG P (i:=4) dk) λK Y l=>?_;have V:1*y+0<24:=gO (di (yo y)) h1;have M:24*G+(1*y+0)<576:=jx2 h1 J;have r:576*F+(24*G+(1*y+0))<13824:=jx3 h1 J R;refine⟨f,13824*K+(576*F+(24*G+(1*y+0))),D,Q2 h1 J R Y,λi E a s b j=>?_⟩;have e:(24:Nat)*24=576:=rfl;have c:(576:Nat)*24=13824:=rfl;unfold LW;refine O (E7 _ i E) (O (E7 _ a s) (O (E7 _ b j) ?_));have:=aF.mp E;have:i=0\/i=1\/i=2\/i=3\/i=4:=lq this.1 this.2;rcases this with rfl|rfl|rfl|rfl|rfl;.show(mask 331776 ((bits 0 a b).getD f ay)).testBit _=_;rw[L0 (Q2 h1 J R Y),B]
 .show(up 13824 (up 576 (up 24 (nI 1 (bits 1 a b))))).testBit _=_;have S:=Bd (n:=1) (AD a b (i:=1) dk);have I:=xg (n:=24) (w:=nI 1 (bits 1 a b)) S.1;rw[e]at I;have N:=xg (n:=576) I.1;rw[c]at N;exact O ((xg N.1).2 _ _ r Y) (O (N.2 _ _ M R) (O (I.2 _ _ V J) (O (S.2 _ _ dk h1) (O (H ..) rfl))))
 .show(up 13824 (up 576 (nI 24 (bits 2 a b)))).testBit _=_;have I:=Bd (n:=24) (AD a b (i:=2) dk);rw[e]at I;have N:=xg (n:=576) I.1;rw[c]at N;exact O ((xg N.1).2 _ _ r Y) (O (N.2 _ _ M R) (O (I.2 _ _ V J) (O (L ..) rfl)))
 .show(up 13824 (nI 576 (bits 3 a b))).testBit _=_;have N:=Bd (n:=576) (AD a b (i:=3) dk);rw[c]at N;exact O ((xg N.1).2 _ _ r Y) (O (N.2 _ _ M R) (O (g ..) rfl))
 .show(nI 13824 (bits 4 a b)).testBit _=_;exact O ((Bd (n:=13824) (AD a b (i:=4) dk)).2 _ _ r Y) (O (l ..) rfl)
theorem BB:[0,1,2,3].all rB=af:=by decide+kernel
theorem BC:[4,5,6,7].all rB=af:=by decide+kernel
theorem BD:[8,9,10,11].all rB=af:=by decide+kernel
theorem BE:[12,13,14,15].all rB=af:=by decide+kernel
theorem BF:[16,17,18,19].all rB=af:=by decide+kernel
theorem BG:[20,21,22,23].all rB=af:=by decide+kernel
theorem xah:∀d,d<24->rB d=af|0,_=>cj.mp BB 0 dk|1,_=>cj.mp BB 1 dk|2,_=>cj.mp BB 2 dk|3,_=>cj.mp BB 3 dk|4,_=>cj.mp BC 4 dk|5,_=>cj.mp BC 5 dk|6,_=>cj.mp BC 6 dk|7,_=>cj.mp BC 7 dk|8,_=>cj.mp BD 8 dk|9,_=>cj.mp BD 9 dk|10,_=>cj.mp BD 10 dk|11,_=>cj.mp BD 11 dk|12,_=>cj.mp BE 12 dk|13,_=>cj.mp BE 13 dk|14,_=>cj.mp BE 14 dk|15,_=>cj.mp BE 15 dk|16,_=>cj.mp BF 16 dk|17,_=>cj.mp BF 17 dk|18,_=>cj.mp BF 18 dk|19,_=>cj.mp BF 19 dk|20,_=>cj.mp BG 20 dk|21,_=>cj.mp BG 21 dk|22,_=>cj.mp BG 22 dk|23,_=>cj.mp BG 23 dk|d+24,h=>absurd h (rS.mpr (gQ 24 d))
def fB(c:List (List Int)):List Int:=(lI c).foldl (λf s=>f.set s.1.toNat s.2.2) r5
structure xdK(c:List (List Int)):Prop where
st:∀i∈r5,(i,gi (fj c) i,gi (fB c) i)∈lI c
ps:∀i∈r5,gi (fj c) (gi (fB c) i)=i/\gi (fB c) i∈r5
sp:∀i∈r5,gi (fB c) (gi (fj c) i)=i/\gi (fj c) i∈r5
fx:∀i∈r5,gi (fB c) i=i↔ring c=[i]
theorem Ey:∀c∈e8 r5,xdK c:=by
 have h:((e8 r5).all λc=>r5.all λi=>(lI c).contains (i,gi (fj c) i,gi (fB c) i)&&(gi (fj c) (gi (fB c) i)==i&&r5.contains (gi (fB c) i)&&(gi (fB c) (gi (fj c) i)==i&&r5.contains (gi (fj c) i)&&(gi (fB c) i==i)==(ring c==[i]))))=af:=by decide+kernel
 intro c m;have h:=λi(E:i∈r5)=>cj.mp (cj.mp h c m) i E;simp only[dZ,jz,beq_iff_eq]at h;exact⟨λi E=>(h i E).1,λi E=>(h i E).2.1,λi E=>(h i E).2.2.1,λi E=>by rw[<-beq_iff_eq,(h i E).2.2.2,beq_iff_eq]⟩
theorem xai:∀c∈e8 r5,∃id∈ids,(ring c).isPerm id=af:=by
 have h:((e8 r5).all λc=>ids.any λid=>(ring c).isPerm id)=af:=by decide+kernel
 intro c m;exact vN.mp (cj.mp h c m)
theorem Ow:∀id∈ids,gh id/\(id.length=1\/id.length=3\/id.length=5):=by
 have h:(ids.all λid=>decide id.Nodup&&id.all r5.contains&&(id.length==1||(id.length==3||id.length==5)))=af:=by decide+kernel
 intro id m;have h:=cj.mp h id m;simp only[dZ,decide_eq_true_eq,cj,jz,yb,beq_iff_eq]at h;exact h
section
variable{W:List (List Int)}{G:List ai}{b:bG}
theorem M9(W:List (List Int))(id:List Int):lD (·&&·) (!·) af (·||·) ay (ltB W) id=af↔∃c∈cJ W,(ring c).isPerm id=af:=by
 have e:∀l:List (List (List Int)),l.foldr (λc r=>FN (·&&·) (!·) af (ltB W) c||r) ay=l.any λc=>FN (·&&·) (!·) af (ltB W) c:=λl=>by induction l with|nil=>rfl|cons a l d=>exact O DG (O d (O K4 rfl))
 unfold lD;rw[e,vN];refine⟨λ⟨c,m,h⟩=>?_,λ⟨c,m,h⟩=>?_⟩;.refine aW (d7.mp m) λU s=>?_;exact⟨c,d7.mpr ⟨U,by exact O (Ex W U) h⟩,s⟩
 .refine aW (d7.mp m) λU s=>?_;exact⟨c,d7.mpr ⟨U,h⟩,by exact aR (Ex W U) s⟩
theorem YC(P:Pl W):∃id∈ids,cJ W≠[]/\∀c∈cJ W,(ring c).Perm id:=by
 refine wu (YB P) λd k U N C=>?_;refine aW (xag (xah d U) N C) λh1 J=>?_;refine aH (vN.mp h1) λid A g=>?_;refine aH ((M9 W id).mp g) λc n Z=>?_;refine⟨id,A,λq=>(by replace n:=q▸n;cases n),λM e=>?_⟩;refine aH (xai M (v9 W M e)) λl f Q=>?_;have a:=(M9 W l).mpr ⟨M,e,Q⟩;obtain⟨i,F,h⟩:=x6 A;obtain⟨j,Y,m⟩:=x6 f;have D:=Uk.mp J;have:i=j:=by
  refine bz (Y0 i j) (λq=>?_) λH=>bz H (λq=>?_) λq=>?_;.exact absurd ⟨by exact O h g,by exact O m a⟩ (D i j F Y q)
  .exact q
  .exact absurd ⟨by exact O m a,by exact O h g⟩ (D j i Y F q)
 subst this;exact aR h (O m (List.isPerm_iff.mp Q))
theorem L1{id:List Int}(g:gh id):∀(l:List (List (List Int)))(m:Int)(K:List Int),gh K->(∀i,i∈K↔i∈id)->(∀c∈l,(ring c).Perm id)->∃k,gh k/\(∀i,i∈k↔i∈id)/\l.foldl (λd c=>jF d (jV c)) (cu (λ_=>m) K)=cu (λ_=>m+l.length) k
|[],m,K,C,h,_=>⟨K,C,h,mG λi _=>(qA m).symm⟩|c::l,m,K,C,h,V=>by
 have Z:=V c (aQ ..);have q:gh (ring c):=⟨Z.nodup_iff.mpr g.1,λi E=>g.2 i (Z.mem_iff.mp E)⟩;refine dm (E3 (f:=λ_=>m) (g:=λ_=>1) C q) λM n I e=>?_;have a:∀i,i∈M↔i∈id:=λi=>by rw[I,h,Z.mem_iff];exact or_self_iff
 refine dm (L1 g l (m+1) M n a λx S=>V x (aZ _ S)) λk f j U=>?_;refine⟨k,f,j,?_⟩;refine O pH ?_;have L:jF (cu (λ_=>m) K) (jV c)=cu (λ_=>m+1) M:=e.trans (mG λi E=>by exact O (if_pos ((h i).mpr ((a i).mp E))) (O (if_pos (Z.mem_iff.mpr ((a i).mp E))) rfl));exact O L (O U (mG λi _=>by rw[fC];exact(nU m 1 _).trans (congrArg (m+·) (jM 1 (l.length:Int)))))
theorem xaj(P:Pl W):∃id∈ids,(∃c,c∈cJ W)/\(∀c∈cJ W,(ring c).Perm id)/\∃K,gh K/\K.Perm id/\dH (cJ W)=cu (λ_=>((cJ W).length:Int)) K:=by refine dm (YC P) λid A u h=>?_;have g:=(Ow id A).1;refine⟨id,A,Up _ u,h,?_⟩;revert u h;generalize cJ W=l;intro u h;match l,u with
|c::l,_=>
 have Z:=h c (aQ ..);have q:gh (ring c):=⟨Z.nodup_iff.mpr g.1,λi E=>g.2 i (Z.mem_iff.mp E)⟩;refine dm (E3 (f:=λ_=>0) (g:=λ_=>1) (K:=[]) ⟨tU,λ_ m=>by cases m⟩ q) λM j I e=>?_;have a:∀i,i∈M↔i∈id:=λi=>by rw[I,<-Z.mem_iff];simp
 have L:jF [] (jV c)=cu (λ_=>1) M:=e.trans (mG λi E=>by refine O (if_neg (by simp)) (O (if_pos (Z.mem_iff.mpr ((a i).mp E))) ?_);rfl);refine dm (L1 g l 1 M j a λx S=>h x (aZ _ S)) λk f d U=>?_;refine⟨k,f,(zJ f.1 g.1).mpr d,?_⟩;unfold dH;exact O pH (O L (O U (mG λi _=>by rw[fC];push_cast;exact jM _ _)))
end
section
variable{W:List (List Int)}{G:List ai}{M:bG}
theorem xak:∀i∈r5,∀o∈r5,i≠o->(i,o)∈prs\/(o,i)∈prs:=by decide+kernel
theorem VL(m:c∈cJ W):(∀i∈r5,¬dB W i (gi (fj c) i)<dB W i (gi (fB c) i))/\∀i∈r5,∀o∈r5,i≠o->¬(dB W i o<dB W i (gi (fj c) i)/\dB W o i<dB W o (gi (fj c) o)):=by
 refine aW (d7.mp m) λS h=>?_;rewrite[Ex W S]at h;unfold FN at h;rewrite[ym λs:Int×Int×Int=>!ltB W s.1 s.2.1 s.2.2,ym λq:Int×Int=>!(ltB W q.1 q.2 (gi (fj c) q.1)&&ltB W q.2 q.1 (gi (fj c) q.2)),tW,dZ,cj,cj]at h;have t:=Ey c S;have d:∀i o,(i,o)∈prs->¬(dB W i o<dB W i (gi (fj c) i)/\dB W o i<dB W o (gi (fj c) o)):=λi o j⟨a,b⟩=>by have:=h.2 _ j;unfold ltB at this;rewrite[decide_eq_true a,decide_eq_true b]at this;cases this
 refine⟨λi E q=>?_,λi E o T u=>?_⟩;.have:=h.1 _ (t.st i E);unfold ltB at this;rewrite[decide_eq_true q]at this;cases this
 .refine bz (xak i E o T u) (λq=>?_) λq=>?_;.exact d i o q
  .exact λx=>d o i q x.symm
theorem pL(P:Pl W)(E:i∈r5)(s:a∈r5)(h:a≠i):0<=dB W i a/\dB W i a<4/\bw W i (dB W i a)=a/\dB W i a=eG W i a:=by have b:=P.1.all i (aF.mp E).1 (aF.mp E).2 a (aF.mp s).1 (aF.mp s).2 h;have A:=xT b;have e:dB W i a=((bA W i).idxOf a:Int):=if_neg (gu h);have B:=A;rw[P.1.row i (aF.mp E).1 (aF.mp E).2]at B;refine O e ?_;refine⟨iO _,gR.mpr B,?_,rfl⟩;unfold bw gi;exact O (rH ..) (O cA (O (cz A) (C4 A)))
theorem wc(W:List (List Int))(i:Int):dB W i i=4:=if_pos rfl
theorem YD(P:Pl W)(m:c∈cJ W):sC W λi=>dB W i (gi (fB c) i):=by
 refine aW (VL m) λg n=>?_;have t:=Ey c (v9 W c m);have d:∀i∈r5,dB W i (gi (fB c) i)<4->gi (fB c) i≠i:=λi E h q=>by rewrite[q,wc]at h;exact sJ h
 refine⟨λi E=>?_,λi E o T F u e A=>?_,λi E k H V=>?_⟩
 .by_cases q:gi (fB c) i=i;.simp only[q,wc];exact iR (iO _) (t9 _)
  .have:=pL P E (t.ps i E).2 q;exact⟨this.1,kI this.2.1⟩
 .have I:=(pL P E (t.ps i E).2 (d i E F)).2.2.1;have N:=(pL P T (t.ps o T).2 (d o T u)).2.2.1;have e:bw W o (dB W o (gi (fB c) o))=bw W i (dB W i (gi (fB c) i)):=e;rewrite[I,N]at e;have:o=i:=by exact aR (t.ps o T).1 (O e (O (t.ps i E).1 rfl))
  rewrite[this]at A;exact sJ A
 .have V:k<dB W i (gi (fB c) i):=V;have v:k<4:=by
   by_cases q:gi (fB c) i=i;.rewrite[q,wc]at V;exact V
   .exact mY V (pL P E (t.ps i E).2 q).2.1
  refine aW (wV P E H v) λw b=>?_;have r:=AX P E H v;generalize Y:bw W i k=j at w b r⊢;have f:dB W i j=k:=(if_neg (gu b)).trans r;have S:=g i E;have Z:=n i E j w (gu b);have a:¬dB W j i<dB W j (gi (fj c) j):=λq=>Z ⟨O f (qs V (fD.mp S)),q⟩;refine aW (t.sp j w) λs1 T=>?_;have l:=pL P w E (gu b);have X:gi (fj c) j≠j:=λq=>by rewrite[q,wc]at a;exact absurd l.2.1 a
  have s:=pL P w T X;have p:=pL P T (a:=j) w (gu X);refine⟨gi (fj c) j,T,?_,?_,?_⟩;.show dB W _ (gi (fB c) (gi (fj c) j))<4;exact O s1 p.2.1
  .show bw W _ (dB W _ (gi (fB c) (gi (fj c) j)))=j;exact O s1 p.2.2.1
  .have x:gi (fj c) j≠i:=λq=>by rewrite[q]at s1;rewrite[s1,f]at V;exact sJ V
   have:eG W j (gi (fj c) j)≠eG W j i:=λq=>x (Ew P w T E X (gu b) q);exact jc (s.2.2.2▸l.2.2.2▸fD.mp a) this
theorem Fin.odd(z:Fin W G M)(P:Pl W):za W M:=by
 obtain⟨id,J,⟨c,Q⟩,hr,K,kK,V,e⟩:=xaj P;refine aW (Ow id J) λB hl=>?_;have lk:=V.length_eq;have H:=YD P Q;have t:=Ey c (v9 W c Q);have Z:=hr c Q;have R:=(z.al P).1;have m:=(qC W).1.le _ H;have L:∀i∈r5,gi (rounds W) i=4->ring c=[i]:=λi E h=>by
  have h1:=m i E;have h2:=(H.bd i E).2;have h3:dB W i (gi (fB c) i)=4:=yd h2 (h▸h1);refine(t.fx i E).mp ?_;by_cases q:gi (fB c) i=i;.exact q
  .exact rt (pL P E (t.ps i E).2 q).2.1 h3
 have T:∀i∈M.alone,ring c=[i]:=λi E=>by rewrite[R]at E;refine aW (d7.mp E) λa b=>?_;exact L i a (of_decide_eq_true b)
 refine⟨?_,?_,λp mp=>?_,?_⟩;.refine O e (O (uw ..) (O lk ?_));rcases hl with h|h|h<;>rw[h]<;>decide
 .refine O e (O (uw ..) ?_);unfold cu;exact O bO (List.map_const ..)
 .rewrite[e]at mp;refine aH (bF.mp mp) λi E u=>?_;subst u;exact(GN i (kK.2 i E)).2
 .unfold IJ;refine O e (O (uw ..) (O lk ?_));by_cases h1:id.length=1
  .refine O (if_pos h1) ?_;refine aE (Jd.mp h1) λx u=>?_;subst u;have Y:=Jz.mp Z;have kx:=Jz.mp V;have S:x∈r5:=B.2 x (aX.mpr rfl);refine O kx ?_;show M.alone=[(gJ.idxOf (bC x):Int)];refine O (GN x S).1 ?_;have F:=(t.fx x S).mpr Y;have D:∀i∈M.alone,i=x:=λi E=>by have:=T i E;rewrite[Y]at this;exact(Ka this).1.symm
   have j:x∈M.alone:=by
    by_cases q:x∈M.alone;.exact q
    .exfalso;have a0:M.alone=[]:=IU.mpr λi E=>q (D i E▸E);obtain⟨v,⟨n,r⟩,mo,f⟩:=id z;have p:=v.perm;rewrite[f,a0,tQ,tQ]at p;have k:=List.length_filter_eq_length_iff.mp (p.length_eq.trans r.held.symm);have h0:=of_decide_eq_true (k _ (AA r S));refine qH (z.kept S h0) λI q2 U C q5=>?_;have N:=m _ I;rewrite[z.le P _ I]at U C;have N:gi (rounds W) (gi M.held x)<=dB W (gi M.held x) (gi (fB c) (gi M.held x)):=N;have no:gi (fB c) (gi M.held x)≠x:=λy=>by have d:=(t.ps _ I).1;have l:=(t.ps x S).1;rewrite[y]at d;rewrite[F,d]at l;exact q2 l
     by_cases y:gi (rounds W) (gi M.held x)=dB W (gi M.held x) (gi (fB c) (gi M.held x))
     .have s:gi (fB c) (gi M.held x)≠gi M.held x:=λw=>by rewrite[w,wc]at y;exact rt U y
      have:=(pL P I (t.ps _ I).2 s).2.2.1;rewrite[<-y,C]at this;exact no this.symm
     .refine fU (H.su _ I _ ((qC W).1.ck.el _ (aF.mp I).1 (aF.mp I).2).1 (jc N y)) λo X A g _=>?_;rewrite[C]at g;have A:dB W o (gi (fB c) o)<4:=A;have g:bw W o (dB W o (gi (fB c) o))=x:=g;have s:gi (fB c) o≠o:=λw=>by rewrite[w,wc]at A;exact sJ A
      rewrite[(pL P X (t.ps _ X).2 s).2.2.1]at g;have d:=(t.ps _ X).1;have l:=(t.ps x S).1;rewrite[g]at d;rewrite[F,d]at l;rewrite[l]at s;exact s F
   have l1:=(z.al P).2;refine aE (Jd.mp (xaH l1 (List.length_pos_of_mem j))) λa R=>?_;rw[R]at j⊢;exact O (aX.mp j) rfl
  .refine O (if_neg h1) ?_;refine IU.mpr λi E=>h1 ?_;refine aR Z.length_eq (O (T i E) ?_);rfl
end
theorem YE(v:Int)(E:i∈r5):(cY v i).length=4/\(cY v i).Nodup/\∀x,x∈cY v i↔x∈r5/\x≠i:=by have p:=(yu (v:=v) E).1;refine⟨p.length_eq.trans (wD i E).1,p.nodup_iff.mpr (wD i E).2,λa=>?_⟩;rw[p.mem_iff];unfold cX;rw[d7];simp
theorem WM{F:List Int}(h:F.length=5):Pl (fK F):=by
 have f:∀i∈r5,∃v,bA (fK F) i=cY v i:=by refine n7 (oM h) λj I M J k q=>?_;subst q;exact Bc ⟨j,rfl⟩ ⟨I,rfl⟩ ⟨M,rfl⟩ ⟨J,rfl⟩ ⟨k,rfl⟩
 have V:(fK F).length=5:=by refine n7 (oM h) λj I M J k q=>?_;subst q;rfl
 have d:=λi(E:i∈r5)=>show(bA (fK F) i).length=4/\(bA (fK F) i).Nodup/\∀x,x∈bA (fK F) i↔x∈r5/\x≠i from by refine aE (f i E) λv e=>?_;exact O e (YE v E)
 refine⟨⟨V,λi a b=>(d i (aF.mpr ⟨a,b⟩)).1,λi a b x S=>?_,λi a b x g z u=>((d i (aF.mpr ⟨a,b⟩)).2.2 x).mpr ⟨aF.mpr ⟨g,z⟩,u⟩⟩,λi E=>(d i E).2.1⟩;refine aW (((d i (aF.mpr ⟨a,b⟩)).2.2 x).mp S) λc u=>?_;exact⟨(aF.mp c).1,(aF.mp c).2,u⟩
theorem xcf(t:TabOk S b){F:List Int}(h:F.length=5):Pg S b F:=by
 have P:=WM h;have a:(jt F).length=5:=by refine n7 (oM h) λl I M J k q=>?_;subst q;rfl
 have d:=xbS h;have K:∀i∈r5,∀n,n<4->nameOf S b (g6 (n+1) (bK (jt F) i))=bC i:=λi E n K=>by refine iT (d i E) λc w e f=>?_;exact f.name E t K
 have z:=λB=>xaa (turn:=B) P K a;have g:Fin (fK F) (jt F) (o9 S b (fK F) (jt F) 0):=z 0;have j:Fin (fK F) (jt F) (Bv S b (fK F) (jt F) F):=z (F.sum^2);exact⟨P.1,P.2,a,Z6 t d,xcb j g P ((j.bW P d).trans (g.bW P d).symm),g.odd P,g.ends P d,g.book P,g.tot P⟩
theorem ff{P:Prop}(h:ay=af):P:=YU h
theorem L2{X:List ah}{h:aB}:∀{K:List aj}{xs:List CC},WellAll w.params h K xs->J2 [] xs .int=af->∃s:List Int,xs=s.map .int/\az X h (s.map T.int) K|_,_,.nil,_=>⟨[],rfl,trivial⟩|_,_,.cons (d:=d) a b,c=>by have c:(WShape.has [] d .int&&J2 [] _ .int)=af:=c;rw[dZ]at c;obtain⟨s,rfl,r⟩:=L2 (X:=X) b c.2;cases a with|int i t=>exact⟨i::s,rfl,by exact⟨⟨t,rfl⟩,r⟩⟩|none|bool|str|float|bytes|bytearray|list|tuple|dict|set|frozenset|obj=>exact ff c.1
theorem YF(i:List CC):RL.claim.post i (.bool af) i=af:=by kernel_rfl
theorem xal{xs:List CC}(h:RL.pre.holds RL.records {args:=[.list xs]}=true):xs.length<=63:=by have h:(match(match(some (yp !decide ((63:Int)<xs.length)):Option CC)with|some (yp false)=>some (yp false)|some (yp true)=>some (yp true)|_=>ak)with|some (yp true)=>true|_=>false)=true:=h;cases q:decide ((63:Int)<xs.length)with|true=>rw[q]at h;cases h|false=>exact nV.mp (fD.mp (of_decide_eq_false q))
theorem xam{h:aB}{X:List ah}{K:List aj}{i:List CC}(R:WellAll w.params h K i)(f:RL.claim.pre i=af)(u:∀a∈X,∀o,h.get? a=aa o->o.cls≠.type "list"):∃p v,K=[v]/\Rep X h (LI p) v/\p.length<=63:=by obtain⟨W,Q⟩:=pre_splitW (r:=RL) f;obtain⟨d,r,rfl,h1,J⟩:=hasAllW_cons W;obtain rfl:=hasAllW_nil J;cases R with|cons a b=>cases b;cases a with|list g b=>rename_i a K xs;have h1:(J2 [] xs .int||ay)=af:=h1;rw[xcj]at h1;have c:=xal Q;obtain⟨s,rfl,r⟩:=L2 (X:=X) b h1;refine⟨s,_,rfl,?_,by simpa using c⟩;unfold LI;exact⟨a,K.toArray,rfl,λm=>u a m _ g rfl,⟨0,g⟩,by simpa using r⟩|none|bool|str|int|float|bytes|bytearray|tuple|dict|set|frozenset|obj=>exact ff h1
theorem xdL:cG callerA 8:=⟨rfl,by decide,by decide⟩
theorem xcg{s S:au}{q:ai}(k:Kp h1 s.heap)(x:bu [PL] s S)(t:dF [PL] jG q S.heap PL):OldK s.heap S.heap:=by
 obtain⟨ps,e,_⟩:=t;have E:s.heap.get? PL=aa (tabObj #[]):=k _ _ (by kernel_rfl);have X:s.heap.get? 240=aa MineH.wL:=k _ _ (by kernel_rfl);refine⟨λb o g=>?_,λb o g=>?_⟩
 .by_cases n:b=PL;.subst n;rw[E]at g;cases g;exact .inr (.inl ⟨⟨240,_,qd MineH.wL,X,rfl,rfl,rfl⟩,rfl,#[],ps,rfl,by rw[e,Array.empty_append]⟩)
  .exact .inl (x.kp b o (λm=>n (aX.mp m)) g)
 .by_cases n:b=PL;.subst n;exact⟨_,e⟩
  .exact⟨o,x.kp b o (λm=>n (aX.mp m)) g⟩
theorem xch:WalkAt w:=by
 intro S N U u Z G Y a o pm A W X kV ho hd k D h H i J T f F V R C;obtain⟨rfl,Y⟩:=Y;have Y:Kp h1 U.heap:=Y;have K:a=266:=by
  obtain⟨o1,Q,L,B,p,_,d⟩:=(JW (show h1.isNs 3=af by kernel_rfl)).keeps Y;obtain⟨M,P,I,r,c,_,n⟩:=G.T.g;have e:u "law"=h1.nsMap 3 "law":=by have r:U.heap.get? 3=aa M:=r;rw[B]at r;cases r;rw[p]at c;cases c;rw[<-d,<-n]
  have h:u "law"=aa (.ref a):=h;rw[e,show h1.nsMap 3 "law"=aa (.ref 266)by kernel_rfl]at h;cases h;rfl
 subst K;have E:U.heap.get? PL=aa (tabObj #[]):=Y _ _ (by kernel_rfl);obtain⟨s,v,rfl,j,l⟩:=xam (X:=[PL]) R f λa m o e=>by rw[aX]at m;rw[m,E]at e;cases e;exact λq=>by cases q
 have g:Kp hH (kQ U.heap [PL]):=λb o e=>rR _ (Y b o (wm _ e)) λm=>by rw[hH,vZ _ m]at e;cases e
 refine aC (xbW rfl xdL g (ptH Y _ _ _) j l (xcf xbU (DO s))) (λz s' x=>?_) λ_ _ e=>e;obtain⟨rfl,y,t⟩:=x;exact⟨.inl ⟨_,.bool af,[],rfl,λ_=>rfl,.bool af,YF _,λ_=>⟨tU,λa m=>absurd m cg⟩⟩,xcg Y y t,by rw[y.eq],by rw[y.eq];exact .of_eq H⟩
theorem walk:WalkO MineH.qV MineH.qP (λ_ _=>True) (λw h=>Kp (MineH.H1 w.params) h) RL dL.1 dL.2 λf K=>dP f K:=by intro w N U u j G Y;have h:=Xh xch w;unfold WalkAt at h;exact h w N U u j G (iR rfl Y)
end Mine
theorem PySem.Challenge.cw_wz0025_01_holds : PySem.Challenge.rw_wz0025_01.Holds :=
PySem.W.holds_law Mine.said fun k=>PySem.W.holds_open (q:=MineH.qV) (loose:=MineH.qP) (Xt:=fun _=>af) (XP:=fun _ _=>True) (YP:=fun w h=>Mine.Kp (MineH.H1 w.params) h) (d:=Mine.dL.1) (kwd:=Mine.dL.2) MineH.left
  (fun w s e b o g=>by rw[e];exact g) (fun w h h' y k=>fun b o e=>k _ _ (y b o e)) (fun _ _=>trivial) (fun _ _ _ _ _=>trivial)
  (by kernel_rfl) (by kernel_rfl) (by kernel_rfl) (fun s _=>PySem.W.recFacts_nil rfl) rfl k (by decide+kernel) ⟨rfl,rfl,rfl,rfl,rfl,by decide+kernel⟩ ⟨[.list []],by decide+kernel,by decide+kernel⟩ Mine.walk
