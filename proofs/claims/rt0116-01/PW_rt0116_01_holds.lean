import PyProof.Rows.All
import Wide.All
import OpenK.AllK
import Wide.FinOn
import PyProof.SeqRoads2
import KE.KSortTup
import PyProof.StrBlockL
import PyProof.StrCalls6
import PyProof.StrCalls2
import PyProof.Rows.RuleIs2
import PyProof.StrBlock2
import PyProof.IsiH_set
import PyProof.IsiH_dict
import PyProof.SetNew
import PyProof.SetRoads
import PyProof.DictCalls
import PyProof.Rows.SetObj
import PyProof.LetGo
import PyProof.Rules2
import PyProof.Rows.Nodes
import PyProof.ListIndex
import PyProof.TupleIter
import PyProof.Draws
import PyProof.EnumFor
import PyProof.EnumMake
import PyProof.RulesTry
import PyProof.Rows.TupDisplay
import KE.KxFormat
import PyProof.CallStr
import PyProof.TypeOfCall
import PyProof.RangeFor
import PyProof.IsiPairs
import PyProof.IsiHeapPairs
import PyProof.Methods
import PyProof.StrOps
import PyProof.WalkInts
import PyProof.Rows.RaiseClass
import ObjForm.ListNI
import PyProof.Rows.ListAppend
import PyProof.EqAt
import PyProof.MinMaxWalk
import KE.KDictSum
import PyProof.Rows.SortStr
import PyProof.Rows.SortWalk
import PyProof.ListIndexOut
import PyProof.RulesFinally
import PyProof.ListOps
import PyProof.FString5
import PyProof.Rows.SetFrom
import PyProof.ZipIter
import PyProof.ListNew
import PyProof.EnumIter
import Lean
import PySem.Challenge.RW_rt0116_01
set_option Elab.async false
set_option maxRecDepth 100000
set_option maxHeartbeats 0
set_option linter.all false
set_option tactic.hygienic false
set_option genSizeOf false
set_option genInjectivity false
open PySem PySem.W PySem.Calls
namespace Mine
noncomputable section
open _root_.And renaming intro->Ra
open _root_ renaming Array->BW,Bool->AK,Decidable->sH,False->Bi,ForInStep->sr,Int->AX,List->I,Nat->O,Option->AD,String->D9,True->PP,Unit->Do,and_congr->Hj,and_congr_right->uG,beq_eq_false_iff_ne->Ll,beq_iff_eq->Rc,beq_self_eq_true->fh,bne_self_eq_false->Y5,decide_eq_false->Rg,decide_eq_false_iff_not->gF,decide_eq_true->Rf,decide_eq_true_eq->PR,dif_neg->Cj,exists_congr->HO,if_false->Kj,if_neg->CS,if_pos->DF,if_true->Kk,not_or->gT,or_false->Jq,reduceIte->uW
open _root_.Array renaming any->sR,any_toList->bn4,eq_empty_of_size_eq_zero->bt2,forIn_toList->tq,getElem?_eq_getElem->Ro,getElem?_eq_some_iff->gG,getElem?_toList->Rs,length_toList->V8,mem_toList_iff->fy,mk->YP,toList_inj->sZ,toList_push->V7
open _root_.Bool renaming and_eq_true->D6,and_eq_true_iff->bm3,eq_false_iff->sY,false->A6,false_eq_true->Ki,false_ne_true->NU,false_or->bs9,noConfusion->Ug,not_eq_true->bo2,not_eq_true'->RS,not_true->bC0,or_eq_false_iff->bu7,or_eq_true->tP,or_false->bG6,rec->PM,true->M
open _root_.Classical renaming byContradiction->bx6
open _root_.Decidable renaming em->bR2
open _root_.Eq renaming trans->tv
open _root_.ForInStep renaming yield->G2
open _root_.Iff renaming rfl->VB
open _root_.Int renaming add_comm->bv7,add_mul_emod_self_left->bv8,emod_lt_of_pos->bw0,emod_nonneg->bv9,fdiv->sV,fmod->sW,le_of_lt->fK,lt_of_le_of_lt->by8,lt_of_lt_of_le->bm8,max_le->bn0,natAbs_of_nonneg->bn1,natCast_nonneg->fF,ne_of_gt->br2,not_lt->sM,ofNat->fN,ofNat_le->sP,ofNat_lt->fH,toNat_le->bn2,toNat_lt->sK,toNat_natCast->g7,toNat_of_nonneg->tR
open _root_.Int.ofNat renaming inj->bS4
open _root_.List.Pairwise renaming imp_of_mem->bN7
open _root_.List.Perm renaming cons_inv->bR0,eq_of_pairwise->bz9,swap->bS2
open _root_.List renaming all_cons->sj,all_eq_true->Bq,any_cons->sQ,any_eq_false->Y4,any_eq_true->ID,append_assoc->Uj,append_nil->HL,cons->bm4,cons_prefix_cons->by4,drop->bq4,drop_drop->bq5,drop_eq_getElem_cons->YF,drop_eq_nil_of_le->bz6,drop_length->Jr,drop_zero->YI,eq_nil_of_length_eq_zero->gi,filterMap_cons->RP,filterMap_cons_some->bx5,filter_cons->bC2,find?_cons->bs8,findIdx?_eq_none_iff->by9,flatMap_append->bv3,flatMap_cons->YY,foldl_cons->tQ,forIn_cons->Rb,forIn_nil->gb,getD->Kn,getElem?_append_left->Y',getElem?_append_right->VA,getElem?_cons_zero->bt3,getElem?_drop->to,getElem?_eq_getElem->Hi,getElem?_eq_none->V9,getElem?_eq_none_iff->fY,getElem?_eq_some_iff->HJ,getElem?_inj->RQ,getElem?_map->VC,getElem?_nil->u9,getElem?_range'->uK,getElem?_take_of_lt->bC6,getElem_mem->gH,isEmpty_iff->YX,isEmpty_nil->bw4,le_antisymm->bA0,le_trans->bz8,length->Rm,length_append->FC,length_cons->Uv,length_drop->V1,length_eraseIdx_of_lt->bG0,length_filterMap_le->bx4,length_map->Jl,length_range->bv1,length_range'->uL,length_singleton->tj,length_take->Pa,lookup->fj,lookup_append->bC3,lookup_cons->PS,lookup_cons_self->bC1,map->bD7,map_append->NX,map_congr_left->gh,map_cons->J',map_fst_zip->bC5,map_id->bB1,map_inj_left->H3,map_map->Jo,map_nil->t5,mem_append->Dp,mem_append_left->bD8,mem_append_right->Pe,mem_cons->Ck,mem_cons_of_mem->Cq,mem_cons_self->Cp,mem_flatMap->uH,mem_iff_getElem->bx8,mem_map->E',mem_map_of_mem->uA,mem_of_getElem?->Ev,mem_range->Pf,mem_range'_1->bE3,mem_singleton->CI,nil_append->tu,nodup_append->I9,nodup_cons->ET,nodup_iff_pairwise_ne->uF,nodup_nil->HK,not_lt->bz7,not_mem_nil->Jp,pairwise_cons->Uu,pairwise_map->fk,pairwise_singleton->gc,perm_ext_iff_of_nodup->bE2,perm_middle->bD5,range->DT,range'->gj,rec->Kc,replicate->Xy,replicate_succ->bv5,reverse_cons->YN,take_length->bE9,take_of_length_le->gC,zip_cons_cons->bx7,zip_nil_right->uB
open _root_.Nat renaming add_assoc->NM,add_comm->Lj,add_le_add->Uh,add_le_add_left->HI,add_le_add_right->Xt,add_right_comm->Xx,add_sub_assoc->sJ,add_sub_cancel->bm5,add_sub_cancel_left->bD6,add_sub_of_le->bv4,beq->BC,beq_refl->Iy,ble->EP,ble_eq_true_of_le->uI,blt->G0,blt_eq->Rt,div_lt_of_lt_mul->gL,dvd_of_mod_eq_zero->bv6,eq_of_beq_eq_true->CD,eq_sub_of_add_eq'->bm6,le_add_left->fC,le_add_right->H2,le_antisymm->Xw,le_of_ble_eq_true->Dj,le_of_eq->Ej,le_of_lt->Gg,le_of_not_le->uJ,le_of_not_lt->fB,le_of_sub_eq_zero->bz3,le_of_succ_le->uP,le_of_succ_le_succ->sN,le_refl->DE,le_succ->PN,le_succ_of_le->ge,le_trans->B4,log2_lt->br4,lt_irrefl->Ix,lt_min->bm9,lt_of_le_of_lt->H',lt_of_lt_of_le->Iw,lt_of_not_le->bn3,lt_of_succ_le->gM,lt_or_ge->bz5,lt_succ_of_le->fG,lt_succ_of_lt->fE,lt_succ_self->PO,min_eq_left->bE1,min_eq_right->bE0,min_le_left->Xv,min_le_right->sO,mod_lt->bF9,mul_le_mul_left->sI,ne_of_gt->PT,ne_of_lt->EQ,noConfusion->bx9,not_lt->Ul,pos_of_ne_zero->fA,rec->RN,sub_add_cancel->Xu,sub_le->gK,sub_le_of_le_add->bm7,sub_le_sub_left->f9,sub_sub_right->bC4,sub_sub_self->uC,succ_le_succ->Lk,succ_ne_self->t_,zero_add->Ui,zero_le->Nf
open _root_.Nat.succ renaming inj->YM
open _root_.Ne renaming symm->CX
open _root_.Option renaming bind_eq_some_iff->bB6,bind_some->tB,elim->bq3,isSome_iff_exists->uD,map->gJ,map_eq_some_iff->uE,none->L,rec->f6,some->G
open _root_.Option.some renaming inj->Bl,injEq->bQ6
open _root_.Prod renaming ext->NO,ext_iff->bv0,fst->bu9
open _root_.Prod.mk renaming injEq->bD9
open PyProof.Rows.Copied renaming pop_at->bQ3
open PyProof.Rows.F renaming entry_set_update_loop->bF3
open PyProof.Rows renaming IntsAre->Pd,SortSt->YV,SortSt->bQ7,StrsAre->M1,Subscript_->YJ,add_bool->bO4,append_at->bz0,args_list_sort->u5,args_sorted1->bA5,arrOf->bB0,collect_list->bQ5,entry_list_sort->u4,entry_sorted->bA4,is_none_ne->bP0,is_none_none->bO9,isnot_none_ne->bP2,isnot_none_none->bP1,issubclass_outer->bP9,keyKind_strs->bA8,kind_sorted->bA2,listUpdate_at->bB8,list_addW->br9,list_sort_treeK->bA6,ltCps_eq->bQ4,mul_bool->bO6,not_of->bP6,plain_sorted->bA3,seqObj->YW,seqObj->tz,slot_list_sort->u0,sortRuns'->u8,sortRuns'->bQ8,sortedHeap->bQ9,sortedHeap_at->u6,sortedHeap_old->u7,sorted_out_str->bA9,strKind_oneLt->bA7,subscriptTail->tK,tail_any->Km,truthy_none->bN8
open PyProof.Rows.SortSt renaming mk'->bB7
open PySem renaming Addr->A8,Around->CK,Builtin->EA,CmpOp->PL,Comprehension->FP,Const->f7,Const->sG,Data->NN,DictEntry->G',Env->Gf,ExceptHandler->RM,Expr->AA,Flow->HM,FuncData->Kd,GenState->fO,Heap->BK,IsEnum->Lz,IsEnumOut->gV,Keyword->Xr,Meets->V5,Model->fP,NameKind->E2,Obj->Bm,Operator->Jg,OsState->Jh,Params->Dx,Pos->BA,Program->Hc,Result->Dr,Scope->BU,Sem->Dy,SetTable->G3,Shared->AR,Slot->Ly,Stmt->As,Stmt->E9,Str->U,StrKeys->t8,Tok->EO,UniqKeys->t9,Value->A4,World->F7,again->Kh,any_of_findIdx_some->bs4,argsOk->Jm,arm_eval_Call->bp8,assign->Ew,assignAll->fR,assignEach->GJ,assignInOrder->NR,backTo->F8,backToKw->Um,behindInMarks->sX,binaryOp->Ex,bindArgs->fb,bindC->RY,bindL->RX,bindName->gU,bindSpecialIfBound?->bu0,builtinKind->Rj,builtinLookup_eq_fast->J2,cLine->IE,call->CE,callAny->Uy,callGetattribute->bw1,callSpecial?->tG,callSpecialIfBoundUnlessNone?->bt9,callWith->PU,call_function_tree->by7,call_meets->tc,cameBackBy->uO,cellOf->Up,cellsFrom->Ji,checkBoundCall->bw2,checkBuiltinCall->g5,checkTypeCall->bF4,clipAt->Hg,clipAt->bo0,code->sS,codeAny->D7,codeAny_builtin->J0,codeAny_call_builtin->Lu,codeAny_loop'->fV,codeAny_mono->uS,codeAny_of_tree->RZ,collect->Y9,compPost->sx,compStart->ff,compTurn->Uo,compareOp->D_,comprehension->bq9,constantsAlone->YL,dictDisplay->YR,dictPut->tb,dictSet->Rd,dictSetDefault->ti,entriesT->bn5,entryFor->Lr,entryFor_alias->uU,entryFor_of_tree->Y8,evalPairs->ta,eval_ListComp->bq8,execs->Iz,fastTable_eq_tree->VG,field->Kl,firstArgMember->V',firstAsync->Uq,firstIter->Ur,fits_of_scanBound->gn,foldedSetIterable->sa,forTurn->bp0,getAttr->Uw,getAttrBy->gO,getAttrByItsOwn->gP,getItem->PX,getMethod->Jj,getMethod_builtin->gd,holding->Hd,importedModules->bE4,isInstance->Uz,isSubtype->Rp,isSubtype_stop->gB,isSubtype_type->J3,isTrue->NQ,isTrue->bq0,keys_map_store->bs6,keywordEach->Un,layNew->YZ,letOwnedTupleGo->Y0,methodCall->PV,methodCallForm->bp9,methodCallPos->Jk,model->AQ,newExc->g9,newList->sv,newObj->tF,newTuple->YE,noFill_list_add->br5,not_mem_of_findIdx_none->bs7,noteFrame->IA,notedBy->RT,nsFind->NY,partValue->V0,pickOrder->Yb,pick_run->bu5,plainId->YC,pyIter->PQ,pyNext->ER,raiseErrorWords->bE8,raiseNew->gm,rawInt->ES,relabel->su,relayAll->Rv,richCompare->tl,rule->YH,scanBound->Pg,seqIndex?->gD,seqItems?->Nb,setAdd->uR,setField->tZ,setFlight->gl,setItem->Rh,setNext->uV,signature?_of->gq,sizeLine->F9,slicePick->Hh,slicePick_plain->bu3,slicePicked->gE,sliceRange_one->bu4,slot_dict_setitem->bt0,slot_list_getitem->P_,slot_list_setitem->bx0,specialOf->Na,spliced->Lm,splitId->g6,standAt->Ke,starEach->Dz,storeAll->YQ,storeName->fS,stored->FA,strKind->Kp,strValues->V6,swappedStores->f_,swapsWith->Y3,swapsWithSole->by0,sysModules->NP,table->Ls,theTreesLotGoes->fW,theWindowsPlace->bq1,treeTable->VE,truthOfDropped->bB9,truthy->sd,typeIs_str->PZ,typeLookup->Pb,typeLookup_type->J1,typeOf->He,unsupported->RW,updateSeq->Rr,valueAt->Lp,wants->YU,whileTurn->bo9,wpAny->AH,wpAny_Assign_Name->bF0,wpAny_Assign_stores->fa,wpAny_AugAssign_Name->bp5,wpAny_BinOp->se,wpAny_Compare1->bo5,wpAny_Constant_bool->s_,wpAny_Constant_int->bo4,wpAny_Constant_str->fQ,wpAny_Expr_any->bp3,wpAny_For->Y2,wpAny_If->sh,wpAny_Return_some->si,wpAny_Slice->tN,wpAny_Try_except->by3,wpAny_UnaryOp->bw8,wpAny_While->sn,wpAny_alloc->YA,wpAny_askSetting->R_,wpAny_assign_Name->bp4,wpAny_assign_Tuple->bo8,wpAny_attempt->Rk,wpAny_bind->A5,wpAny_call->HN,wpAny_callSpecial?_slot->Lq,wpAny_call_entry->Gj,wpAny_comprehension_free->fq,wpAny_dictEntries->YT,wpAny_dictEpoch->tp,wpAny_dictFind_of->t3,wpAny_execs_cons->DH,wpAny_execs_nil->G1,wpAny_field->Gm,wpAny_forIn_list->gZ,wpAny_getItem_list->tL,wpAny_getItem_list_slice->tM,wpAny_handled->tJ,wpAny_holding->C0,wpAny_isInstance->Lw,wpAny_isTrue_Compare1->fU,wpAny_isTrue_value->sg,wpAny_ite->fg,wpAny_ite_split->PW,wpAny_items_cons->Ln,wpAny_items_nil->Uk,wpAny_letGo->Pc,wpAny_letTemporaryGo->bw9,wpAny_listSubscript_int->bx2,wpAny_load->NT,wpAny_loadPart->bt4,wpAny_loadPart'->YS,wpAny_mkText->tS,wpAny_mono->Ff,wpAny_newFunctionEnv->bq7,wpAny_newList->tw,wpAny_newObj_type->IB,wpAny_newTuple->gX,wpAny_notOrdered_dict->bt1,wpAny_noted->fX,wpAny_notedAt->bq2,wpAny_of_eq->NV,wpAny_onRaise->Y1,wpAny_pure->AW,wpAny_pyIter_dict->bp2,wpAny_pyIter_list->fZ,wpAny_pyIter_slot->uX,wpAny_pyNext_list_end->bp1,wpAny_pyNext_list_item->so,wpAny_release->bu2,wpAny_rule->Gi,wpAny_runValue->uN,wpAny_seqItemAt->bx3,wpAny_seqItems->Nc,wpAny_sequenceKey->t6,wpAny_setEntries_of->bG3,wpAny_setField->Lv,wpAny_setField_rec->YO,wpAny_setState_of->Ya,wpAny_specialOf->YG,wpAny_standAt->Ek,wpAny_storeName_cell->bo7,wpAny_storeName_local->bo6,wpAny_storeSet_of->bF2,wpAny_throw->gA,wpAny_truthy_bool->NS,wpAny_tryCatch->PY,wpAny_typeOf->Rq,wpAny_updateDict->bs5,wpAny_updateDictKeys->t4,wpAny_updateSeq->Nd
open PySem.Around renaming under_plainId->bw3
open PySem.AutoIntOps renaming add_0->bO1,floordiv_1->bO3,iadd_0->br1,isub_0->bN9,mod_1->bO0,sub_0->bO2
open PySem.Bind renaming checkArgs->tX,lastOf->V4
open PySem.Builtin.Builtins renaming bindParams->bz4
open PySem.Builtin.Dict renaming missed->bP5,notOrdered->bO7
open PySem.Builtin.Frozenset renaming oneOther->bP4,updateFrom->bF8
open PySem.Builtin.List renaming listExtendWith->Yc,listItems->bG7,listLengthHint->gt,listSameRef->gu,listSubscript?->bx1,listTooLong->bS1,listTouch->bS6,listUpdate->bS5
open PySem.Builtin.SmallTypes renaming ownedTupleHandOut->bP8,ownedTupleIsFree->bP7
open PySem.Builtin.Str renaming strSliceIndices->Rl,tooLong->bP3
open PySem.Builtin.Tuple renaming tupleCompareSizes->bz2
open PySem.Builtin renaming divisionGoesByPylong->br3
open PySem.Calls renaming Name_function_global->bw6,call_function_entry->bA1,evalArgs_plain->sq,loadGlobal_builtin->bw7
open PySem.Challenge renaming pw_rt0116_01->EF,rw_rt0116_01->M2
open PySem.Code renaming builtin->tC,quiet_builtin->tE
open PySem.Comprehension renaming mk->bR1
open PySem.Const.str renaming elim->bm2
open PySem.Data.dict renaming elim->bD3
open PySem.Data.fields renaming elim->bD2
open PySem.Data.func renaming elim->bD0
open PySem.Data renaming seq->gf
open PySem.Data.seq renaming elim->bD1
open PySem.DictEntry renaming refKey->bO8
open PySem.EntryCells renaming newEntry->bS0
open PySem.Expr.Attribute renaming elim->sE
open PySem.Expr.BinOp renaming elim->bl1
open PySem.Expr.Call renaming elim->bk8
open PySem.Expr.Compare renaming elim->bl0
open PySem.Expr.Constant renaming elim->bk6
open PySem.Expr.ListComp renaming elim->bl2
open PySem.Expr.Name renaming elim->bk5
open PySem.Expr.Slice renaming elim->sF
open PySem.Expr.Subscript renaming elim->bk9
open PySem.Expr.Tuple renaming elim->bk7
open PySem.Expr renaming casesOn->bN5
open PySem.F renaming args_enumerate_next_1->by2,args_list_add_2->br8,args_str_split_2->te,args_tuple_iterator_next_1->bt8,called_set->bF5,entry_dict_get->bw5,entry_enumerate_next->by1,entry_list_add->br7,entry_max_loop->tm,entry_str_split->td,entry_tuple_iterator_next->bt7,plainAttrs_list->bB4,plain_extend_loop->uY,plain_extend_loop->bG8,plain_max_loop->g_,slot_dict_get->tY,slot_dict_getattribute->gQ,slot_dict_getitem->bu8,slot_dict_setdefault->bz1,slot_enumerate_next->gW,slot_list_add->br6,slot_list_append->bB2,slot_set_getattribute->gN,slot_set_iter->bG4,slot_str_getitem->bu6,slot_str_split->gY,slot_tuple_iterator_next->YD,type_list_append->bB3
open PySem.Heap.DictAt renaming nodup->Ut
open PySem.Heap renaming ExtBut->Dq,SameBut->E3,get?_none_of_le->gv,get?_push_of_some->C1,get?_push_size->CY,get?_update_other->GN,get?_update_self->FQ,lt_size->Dg,push->bG5,size_push->IC
open PySem.Heap.FunFrames renaming cons->bN6,of_keeps->bp6
open PySem.Heap.IsList renaming push->bF7
open PySem.Heap.SameBut renaming refl->fs,update->Fg
open PySem.IntBool renaming add_bool_int->bO5
open PySem.IsPart renaming none->gI
open PySem.IsiPair renaming dict_str->bQ0,str_bytes->bQ2,str_str->bQ1
open PySem.Made renaming str->sy
open PySem.Manifest renaming owners->bG1,signature?->gR,varargsMethods->tU
open PySem.MeetsSeq.EqGives renaming int->tO
open PySem.NameKind renaming cell->bq6,free->GK
open PySem.Obj renaming cls_mapFields->tI,data_mapDict->fw,data_mapDictKeys->Us,data_mapFields->g8,isFreed_of_dict->Y6,isFreed_of_fields->tH,mapFields->Ru,mapSeq->GL,putSet->Y_
open PySem.P renaming eq_str->bs2,gt_int->bs1,lt_int->bs0,lt_str->bs3
open PySem.SeqAt renaming EqAt->Rn
open PySem.SeqRoads2.EqGives renaming str->bv2
open PySem.SetTable renaming below->gr,fits->bG2,grown->VF,laid->bF1,orStandIn->uQ
open PySem.SetTable.below renaming go->bS3
open PySem.Shared renaming TypeIs->bF6
open PySem.Stmt.Assign renaming elim->bl7
open PySem.Stmt.AugAssign renaming elim->bl8
open PySem.Stmt.Break renaming elim->bm0
open PySem.Stmt.ClassDef renaming elim->bN4
open PySem.Stmt.Expr renaming elim->bl6
open PySem.Stmt.For renaming elim->bl3
open PySem.Stmt.FunctionDef renaming elim->bN1
open PySem.Stmt.If renaming elim->bl5
open PySem.Stmt.Return renaming elim->bm1
open PySem.Stmt.Try renaming elim->bl9
open PySem.Stmt.While renaming elim->bl4
open PySem.Str renaming append->br0,empty->RO,mk->th,ofString->Eu,ofString->M0
open PySem.Str.mk renaming injEq->bo3
open PySem.Txt renaming replace->bo1,split->Xz,startswith->by5
open PySem.Value renaming bool->NW,builtin->bu1,int->V2,isStr->tA,isStrOf->YK,noConfusion->V3,none->Hf,ref->Jn,str->Lx,type->Ko
open PySem.Value.bool renaming elim->bC8
open PySem.Value.builtin renaming elim->bn9
open PySem.Value.int renaming elim->bD4
open PySem.Value.none renaming elim->bC7
open PySem.Value.ref renaming elim->bn8,inj->bB5
open PySem.Value.str renaming elim->bC9
open PySem.Value.type renaming elim->bn7
open PySem.W.Fast renaming te10110043849684766642->bR3,te11892475500146522536->bR6,te12563942051412417395->bR4,te14082659384304107361->bR8,te14364793385576792824->fM,te14374325043358763698->bR7,te15667345088766844465->bR5,te4187177175401517315->bR9,te4202317264376624991->bN3,tw14364793385576792824->bN2,tw4202317264376624991->bn6
open PySem.W renaming Frag->Ge,Looks->Gh,boot_drawn->VD,boot_toks->uM,callWith_of->fc,check_slot->YB,emptyDict->g0,findCls->tD,findIn->Gk,instObj->g4,lookIn->fx,looks_findIn->NZ,looks_specialIn->bt6,looks_subIn->Ux,methodObj->gw,peek->Ri,readsAllW_cons_inv->bE7,readsAllW_nil_inv->bE6,subIn->Y7,topFrame->gk,typeIn->t7
open PySem.W.KFm renaming call_k->by6
open PySem.W.Looks renaming ld->Kg,of_peek->N_,of_pure->bp7
open PySem.W.WShape renaming hasAll->bE5
open PySem.callAny renaming viaDunder->bt5
open PySem.pickOrder renaming go->uT
open _root_.String renaming ofList->sU
noncomputable def oS{C J:Type}(o:AD C)(d:J)(k:C->J):J:=f6 (motive:=λ_=>J) d k o
noncomputable def H4{C EG J:Type}(k:C->EG->J)(p:C×EG):J:=Prod.rec (motive:=λ_=>J) k p
theorem oV{C J:Type}{o:AD C}{d:J}{k:C->J}{r:J}(e:o=L)(h:oS o d k=r):d=r:=by subst e;exact h
noncomputable def u_(e:AA):AD (U×BA):=if h:e.ctorIdx=23 then bk5 (motive_1:=λ_=>AD (U×BA)) e h (λa0 a1=>G (a0,a1))else L
noncomputable def DM{J:Type}(e:AA)(d:J)(k:U->BA->J):J:=oS (u_ e) d (H4 k)
theorem gx{J:Type}{e:AA}{d:J}{k:U->BA->J}{r:J}(h:DM e d k=r){P:AA->Prop}(c:∀a0 a1,k a0 a1=r->P (.Name a0 a1))(n:d=r->P e):P e:=if q:e.ctorIdx=23 then bk5 (motive_1:=λe=>DM e d k=r->P e) e q (λa0 a1 h=>c a0 a1 h) h else n (oV (Cj q) h)
theorem EU{J:Type}{e:AA}{d:J}{k:U->BA->J}{r:J}(h:DM e d k=r)(hd:d=r->Bi){P:AA->Prop}(c:∀a0 a1,k a0 a1=r->P (.Name a0 a1)):P e:=gx h c λe=>(hd e).elim
noncomputable def HP{J:Type}(e:AA)(d:J)(k:f7->O->BA->J):J:=if h:e.ctorIdx=19 then bk6 (motive_1:=λ_=>J) e h k else d
theorem J4{J:Type}{e:AA}{d:J}{k:f7->O->BA->J}{r:J}(h:HP e d k=r)(hd:d=r->Bi){P:AA->Prop}(c:∀a0 a1 a2,k a0 a1 a2=r->P (.Constant a0 a1 a2)):P e:=if q:e.ctorIdx=19 then bk6 (motive_1:=λe=>HP e d k=r->P e) e q (λa0 a1 a2 h=>c a0 a1 a2 h) h else(hd ((Cj q).symm.trans h)).elim
noncomputable def ua(e:AA):AD (I AA×O×BA):=if h:e.ctorIdx=25 then bk7 (motive_1:=λ_=>AD (I AA×O×BA)) e h (λa0 a1 a2=>G (a0,a1,a2))else L
noncomputable def Js{J:Type}(e:AA)(d:J)(k:I AA->O->BA->J):J:=oS (ua e) d (H4 λa=>H4 (k a))
theorem gy{J:Type}{e:AA}{d:J}{k:I AA->O->BA->J}{r:J}(h:Js e d k=r){P:AA->Prop}(c:∀a0 a1 a2,k a0 a1 a2=r->P (.Tuple a0 a1 a2))(n:d=r->P e):P e:=if q:e.ctorIdx=25 then bk7 (motive_1:=λe=>Js e d k=r->P e) e q (λa0 a1 a2 h=>c a0 a1 a2 h) h else n (oV (Cj q) h)
theorem Rw{J:Type}{e:AA}{d:J}{k:I AA->O->BA->J}{r:J}(h:Js e d k=r)(hd:d=r->Bi){P:AA->Prop}(c:∀a0 a1 a2,k a0 a1 a2=r->P (.Tuple a0 a1 a2)):P e:=gy h c λe=>(hd e).elim
noncomputable def ub(e:AA):AD (AA×I AA×I Xr×BA):=if h:e.ctorIdx=16 then bk8 (motive_1:=λ_=>AD (AA×I AA×I Xr×BA)) e h (λa0 a1 a2 a3=>G (a0,a1,a2,a3))else L
noncomputable def EB{J:Type}(e:AA)(d:J)(k:AA->I AA->I Xr->BA->J):J:=oS (ub e) d (H4 λa=>H4 λb=>H4 (k a b))
theorem M3{J:Type}{e:AA}{d:J}{k:AA->I AA->I Xr->BA->J}{r:J}(h:EB e d k=r)(hd:d=r->Bi){P:AA->Prop}(c:∀a0 a1 a2 a3,k a0 a1 a2 a3=r->P (.Call a0 a1 a2 a3)):P e:=if q:e.ctorIdx=16 then bk8 (motive_1:=λe=>EB e d k=r->P e) e q (λa0 a1 a2 a3 h=>c a0 a1 a2 a3 h) h else(hd (oV (Cj q) h)).elim
noncomputable def uc(e:AA):AD (AA×U×BA):=if h:e.ctorIdx=20 then sE (motive_1:=λ_=>AD (AA×U×BA)) e h (λa0 a1 a2=>G (a0,a1,a2))else L
noncomputable def H5{J:Type}(e:AA)(d:J)(k:AA->U->BA->J):J:=oS (uc e) d (H4 λa=>H4 (k a))
theorem Rx{J:Type}{e:AA}{d:J}{k:AA->U->BA->J}{r:J}(h:H5 e d k=r)(hd:d=r->Bi){P:AA->Prop}(c:∀a0 a1 a2,k a0 a1 a2=r->P (.Attribute a0 a1 a2)):P e:=if q:e.ctorIdx=20 then sE (motive_1:=λe=>H5 e d k=r->P e) e q (λa0 a1 a2 h=>c a0 a1 a2 h) h else(hd (oV (Cj q) h)).elim
noncomputable def ud(e:AA):AD (AA×AA×BA):=if h:e.ctorIdx=21 then bk9 (motive_1:=λ_=>AD (AA×AA×BA)) e h (λa0 a1 a2=>G (a0,a1,a2))else L
noncomputable def J5{J:Type}(e:AA)(d:J)(k:AA->AA->BA->J):J:=oS (ud e) d (H4 λa=>H4 (k a))
theorem ue{J:Type}{e:AA}{d:J}{k:AA->AA->BA->J}{r:J}(h:J5 e d k=r){P:AA->Prop}(c:∀a0 a1 a2,k a0 a1 a2=r->P (.Subscript a0 a1 a2))(n:d=r->P e):P e:=if q:e.ctorIdx=21 then bk9 (motive_1:=λe=>J5 e d k=r->P e) e q (λa0 a1 a2 h=>c a0 a1 a2 h) h else n (oV (Cj q) h)
theorem Ng{J:Type}{e:AA}{d:J}{k:AA->AA->BA->J}{r:J}(h:J5 e d k=r)(hd:d=r->Bi){P:AA->Prop}(c:∀a0 a1 a2,k a0 a1 a2=r->P (.Subscript a0 a1 a2)):P e:=ue h c λe=>(hd e).elim
noncomputable def Kq{J:Type}(e:AA)(d:J)(k:AA->I PL->I AA->BA->J):J:=if h:e.ctorIdx=15 then bl0 (motive_1:=λ_=>J) e h k else d
theorem Ry{J:Type}{e:AA}{d:J}{k:AA->I PL->I AA->BA->J}{r:J}(h:Kq e d k=r)(hd:d=r->Bi){P:AA->Prop}(c:∀a0 a1 a2 a3,k a0 a1 a2 a3=r->P (.Compare a0 a1 a2 a3)):P e:=if q:e.ctorIdx=15 then bl0 (motive_1:=λe=>Kq e d k=r->P e) e q (λa0 a1 a2 a3 h=>c a0 a1 a2 a3 h) h else(hd ((Cj q).symm.trans h)).elim
noncomputable def Nh{J:Type}(e:AA)(d:J)(k:AA->Jg->AA->BA->J):J:=if h:e.ctorIdx=2 then bl1 (motive_1:=λ_=>J) e h k else d
theorem gz{J:Type}{e:AA}{d:J}{k:AA->Jg->AA->BA->J}{r:J}(h:Nh e d k=r)(hd:d=r->Bi){P:AA->Prop}(c:∀a0 a1 a2 a3,k a0 a1 a2 a3=r->P (.BinOp a0 a1 a2 a3)):P e:=if q:e.ctorIdx=2 then bl1 (motive_1:=λe=>Nh e d k=r->P e) e q (λa0 a1 a2 a3 h=>c a0 a1 a2 a3 h) h else(hd ((Cj q).symm.trans h)).elim
noncomputable def IF{J:Type}(e:AA)(d:J)(k:AA->I FP->BU->BA->J):J:=if h:e.ctorIdx=8 then bl2 (motive_1:=λ_=>J) e h k else d
theorem Yd{J:Type}{e:AA}{d:J}{k:AA->I FP->BU->BA->J}{r:J}(h:IF e d k=r)(hd:d=r->Bi){P:AA->Prop}(c:∀a0 a1 a2 a3,k a0 a1 a2 a3=r->P (.ListComp a0 a1 a2 a3)):P e:=if q:e.ctorIdx=8 then bl2 (motive_1:=λe=>IF e d k=r->P e) e q (λa0 a1 a2 a3 h=>c a0 a1 a2 a3 h) h else(hd ((Cj q).symm.trans h)).elim
noncomputable def uf(e:AA):AD (AD AA×AD AA×AD AA×BA):=if h:e.ctorIdx=26 then sF (motive_1:=λ_=>AD (AD AA×AD AA×AD AA×BA)) e h (λa0 a1 a2 a3=>G (a0,a1,a2,a3))else L
noncomputable def Ni{J:Type}(e:AA)(d:J)(k:AD AA->AD AA->AD AA->BA->J):J:=oS (uf e) d (H4 λa=>H4 λb=>H4 (k a b))
theorem h'{J:Type}{e:AA}{d:J}{k:AD AA->AD AA->AD AA->BA->J}{r:J}(h:Ni e d k=r)(hd:d=r->Bi){P:AA->Prop}(c:∀a0 a1 a2 a3,k a0 a1 a2 a3=r->P (.Slice a0 a1 a2 a3)):P e:=if q:e.ctorIdx=26 then sF (motive_1:=λe=>Ni e d k=r->P e) e q (λa0 a1 a2 a3 h=>c a0 a1 a2 a3 h) h else(hd (oV (Cj q) h)).elim
noncomputable def G4{J:Type}(e:E9)(d:J)(k:AA->AA->I As->I As->BA->J):J:=if h:e.ctorIdx=9 then bl3 (motive_2:=λ_=>J) e h k else d
theorem hV{J:Type}{e:E9}{d:J}{k:AA->AA->I As->I As->BA->J}{r:J}(h:G4 e d k=r)(hd:d=r->Bi){P:E9->Prop}(c:∀a0 a1 a2 a3 a4,k a0 a1 a2 a3 a4=r->P (.For a0 a1 a2 a3 a4)):P e:=if q:e.ctorIdx=9 then bl3 (motive_2:=λe=>G4 e d k=r->P e) e q (λa0 a1 a2 a3 a4 h=>c a0 a1 a2 a3 a4 h) h else(hd ((Cj q).symm.trans h)).elim
noncomputable def Rz{J:Type}(e:E9)(d:J)(k:AA->I As->I As->BA->J):J:=if h:e.ctorIdx=11 then bl4 (motive_2:=λ_=>J) e h k else d
theorem hZ{J:Type}{e:E9}{d:J}{k:AA->I As->I As->BA->J}{r:J}(h:Rz e d k=r)(hd:d=r->Bi){P:E9->Prop}(c:∀a0 a1 a2 a3,k a0 a1 a2 a3=r->P (.While a0 a1 a2 a3)):P e:=if q:e.ctorIdx=11 then bl4 (motive_2:=λe=>Rz e d k=r->P e) e q (λa0 a1 a2 a3 h=>c a0 a1 a2 a3 h) h else(hd ((Cj q).symm.trans h)).elim
noncomputable def Jt{J:Type}(e:E9)(d:J)(k:AA->I As->I As->BA->J):J:=if h:e.ctorIdx=12 then bl5 (motive_2:=λ_=>J) e h k else d
theorem Ye{J:Type}{e:E9}{d:J}{k:AA->I As->I As->BA->J}{r:J}(h:Jt e d k=r)(hd:d=r->Bi){P:E9->Prop}(c:∀a0 a1 a2 a3,k a0 a1 a2 a3=r->P (.If a0 a1 a2 a3)):P e:=if q:e.ctorIdx=12 then bl5 (motive_2:=λe=>Jt e d k=r->P e) e q (λa0 a1 a2 a3 h=>c a0 a1 a2 a3 h) h else(hd ((Cj q).symm.trans h)).elim
noncomputable def Ph{J:Type}(e:E9)(d:J)(k:AA->BA->J):J:=if h:e.ctorIdx=24 then bl6 (motive_2:=λ_=>J) e h k else d
theorem Yf{J:Type}{e:E9}{d:J}{k:AA->BA->J}{r:J}(h:Ph e d k=r)(hd:d=r->Bi){P:E9->Prop}(c:∀a0 a1,k a0 a1=r->P (.Expr a0 a1)):P e:=if q:e.ctorIdx=24 then bl6 (motive_2:=λe=>Ph e d k=r->P e) e q (λa0 a1 h=>c a0 a1 h) h else(hd ((Cj q).symm.trans h)).elim
noncomputable def Pj{J:Type}(e:E9)(d:J)(k:I AA->AA->BA->J):J:=if h:e.ctorIdx=5 then bl7 (motive_2:=λ_=>J) e h k else d
theorem h_{J:Type}{e:E9}{d:J}{k:I AA->AA->BA->J}{r:J}(h:Pj e d k=r)(hd:d=r->Bi){P:E9->Prop}(c:∀a0 a1 a2,k a0 a1 a2=r->P (.Assign a0 a1 a2)):P e:=if q:e.ctorIdx=5 then bl7 (motive_2:=λe=>Pj e d k=r->P e) e q (λa0 a1 a2 h=>c a0 a1 a2 h) h else(hd ((Cj q).symm.trans h)).elim
noncomputable def VH{J:Type}(e:E9)(d:J)(k:AA->Jg->AA->BA->J):J:=if h:e.ctorIdx=7 then bl8 (motive_2:=λ_=>J) e h k else d
theorem i3{J:Type}{e:E9}{d:J}{k:AA->Jg->AA->BA->J}{r:J}(h:VH e d k=r)(hd:d=r->Bi){P:E9->Prop}(c:∀a0 a1 a2 a3,k a0 a1 a2 a3=r->P (.AugAssign a0 a1 a2 a3)):P e:=if q:e.ctorIdx=7 then bl8 (motive_2:=λe=>VH e d k=r->P e) e q (λa0 a1 a2 a3 h=>c a0 a1 a2 a3 h) h else(hd ((Cj q).symm.trans h)).elim
noncomputable def Nj{J:Type}(e:E9)(d:J)(k:I As->I RM->I As->I As->BA->J):J:=if h:e.ctorIdx=17 then bl9 (motive_2:=λ_=>J) e h k else d
theorem i4{J:Type}{e:E9}{d:J}{k:I As->I RM->I As->I As->BA->J}{r:J}(h:Nj e d k=r)(hd:d=r->Bi){P:E9->Prop}(c:∀a0 a1 a2 a3 a4,k a0 a1 a2 a3 a4=r->P (.Try a0 a1 a2 a3 a4)):P e:=if q:e.ctorIdx=17 then bl9 (motive_2:=λe=>Nj e d k=r->P e) e q (λa0 a1 a2 a3 a4 h=>c a0 a1 a2 a3 a4 h) h else(hd ((Cj q).symm.trans h)).elim
noncomputable def Yg{J:Type}(e:E9)(d:J)(k:BA->J):J:=if h:e.ctorIdx=26 then bm0 (motive_2:=λ_=>J) e h k else d
theorem ug{J:Type}{e:E9}{d:J}{k:BA->J}{r:J}(h:Yg e d k=r)(hd:d=r->Bi){P:E9->Prop}(c:∀a0,k a0=r->P (.Break a0)):P e:=if q:e.ctorIdx=26 then bm0 (motive_2:=λe=>Yg e d k=r->P e) e q (λa0 h=>c a0 h) h else(hd ((Cj q).symm.trans h)).elim
noncomputable def S'{J:Type}(e:E9)(d:J)(k:AD AA->BA->J):J:=if h:e.ctorIdx=3 then bm1 (motive_2:=λ_=>J) e h k else d
theorem uh{J:Type}{e:E9}{d:J}{k:AD AA->BA->J}{r:J}(h:S' e d k=r)(hd:d=r->Bi){P:E9->Prop}(c:∀a0 a1,k a0 a1=r->P (.Return a0 a1)):P e:=if q:e.ctorIdx=3 then bm1 (motive_2:=λe=>S' e d k=r->P e) e q (λa0 a1 h=>c a0 a1 h) h else(hd ((Cj q).symm.trans h)).elim
noncomputable def VI{J:Type}(e:E9)(d:J)(k:U->Arguments->I As->I AA->AD AA->I TypeParam->BU->AD BU->U->BA->J):J:=if h:e.ctorIdx=0 then bN1 (motive_2:=λ_=>J) e h k else d
noncomputable def Pk{J:Type}(e:sG)(d:J)(k:U->J):J:=if h:e.ctorIdx=5 then bm2 (motive:=λ_=>J) e h k else d
theorem Yh{J:Type}{e:sG}{d:J}{k:U->J}{r:J}(h:Pk e d k=r)(hd:d=r->Bi){P:sG->Prop}(c:∀a0,k a0=r->P (.str a0)):P e:=if q:e.ctorIdx=5 then bm2 (motive:=λe=>Pk e d k=r->P e) e q (λa0 h=>c a0 h) h else(hd ((Cj q).symm.trans h)).elim
theorem i5{J:Type}{e:AA}{d:J}{k:AA->U->BA->J}{r:J}(h:H5 e d k=r){P:AA->Prop}(c:∀a0 a1 a2,k a0 a1 a2=r->P (.Attribute a0 a1 a2))(e0:e.ctorIdx≠20->d=r->P e):P e:=if q:e.ctorIdx=20 then sE (motive_1:=λe=>H5 e d k=r->P e) e q (λa0 a1 a2 h=>c a0 a1 a2 h) h else e0 q (oV (Cj q) h)
theorem ui{J:Type}{e:AA}{d:J}{k:AD AA->AD AA->AD AA->BA->J}{r:J}(h:Ni e d k=r){P:AA->Prop}(c:∀a0 a1 a2 a3,k a0 a1 a2 a3=r->P (.Slice a0 a1 a2 a3))(e0:e.ctorIdx≠26->d=r->P e):P e:=if q:e.ctorIdx=26 then sF (motive_1:=λe=>Ni e d k=r->P e) e q (λa0 a1 a2 a3 h=>c a0 a1 a2 a3 h) h else e0 q (oV (Cj q) h)
theorem AF{J:Type}{x:J}(h:L=G x):Bi:=by contradiction
theorem B0(h:A6=M):Bi:=Ug h
noncomputable def l0{C J:Type}(l:I C)(d k:J):J:=Kc (motive:=λ_=>J) k (λ_ _ _=>d) l
noncomputable def l1{C J:Type}(l:I C)(d:J)(k:C->J):J:=Kc (motive:=λ_=>J) d (λx t _=>l0 t d (k x)) l
theorem EV{C J:Type}{l:I C}{d k r:J}(h:l0 l d k=r)(hd:d=r->Bi){P:I C->Prop}(c:k=r->P []):P l:=by cases l with
 |nil=>exact c h|cons x t=>exact(hd h).elim
theorem Ct{C J:Type}{l:I C}{d:J}{k:C->J}{r:J}(h:l1 l d k=r)(hd:d=r->Bi){P:I C->Prop}(c:∀x,k x=r->P [x]):P l:=by cases l with
 |nil=>exact(hd h).elim|cons x t=>cases t with
 |nil=>exact c x h|cons y t=>exact(hd h).elim
noncomputable def Yi{J:Type}(e:RM)(k:AD AA->AD U->I As->BA->J):J:=match e with|.ExceptHandler t n b p=>k t n b p
theorem uj{J:Type}{e:RM}{k:AD AA->AD U->I As->BA->J}{r:J}(h:Yi e k=r){P:RM->Prop}(c:∀t n b p,k t n b p=r->P (.ExceptHandler t n b p)):P e:=by cases e;exact c _ _ _ _ h
noncomputable def lC{C J:Type}(l:I C)(d:J)(k:C->I C->J):J:=Kc (motive:=λ_=>J) d (λx t _=>k x t) l
theorem FS{C J:Type}{l:I C}{d:J}{k:C->I C->J}{r:J}(h:lC l d k=r)(hd:d=r->Bi){P:I C->Prop}(c:∀x t,k x t=r->P (x::t)):P l:=by cases l with
 |nil=>exact(hd h).elim|cons x t=>exact c x t h
noncomputable def Yj{C J:Type}(l:I C)(d:J)(k:C->J)(k':C->C->J):J:=lC l d λx t=>match t with|[]=>k x|y::t=>l0 t d (k' x y)
theorem i6{C J:Type}{l:I C}{d:J}{k:C->J}{k':C->C->J}{r:J}(h:Yj l d k k'=r)(hd:d=r->Bi){P:I C->Prop}(c:∀x,k x=r->P [x])(c':∀x y,k' x y=r->P [x,y]):P l:=by
 apply FS h hd;intro x t h;cases t with
 |nil=>exact c x h|cons y t=>apply EV h hd;intro h;exact c' x y h
theorem Ju{a b:AK}{P:Prop}(h:(a||b)=M)(l:a=M->P)(r:b=M->P):P:=by cases a with
 |true=>exact l rfl|false=>exact r h
theorem GO{C:Type}{a b:AD C}{v:C}{P:Prop}(h:a.or b=G v)(l:a=G v->P)(r:b=G v->P):P:=by cases a with
 |some x=>exact l h|none=>exact r h
noncomputable def l2{C J:Type}(l:I C)(d:J)(k:C->C->J):J:=lC l d λx t=>l1 t d λy=>k x y
theorem Hk{C J:Type}{l:I C}{d:J}{k:C->C->J}{r:J}(h:l2 l d k=r)(hd:d=r->Bi){P:I C->Prop}(c:∀x y,k x y=r->P [x,y]):P l:=by
 apply FS h hd;intro x t h;apply Ct h hd;intro y h;exact c x y h
noncomputable def nS{J:Type}(n:O)(d:J)(k:O->J):J:=RN (motive:=λ_=>J) d (λm _=>k m) n
theorem Yk{J:Type}{n:O}{d:J}{k:O->J}{r:J}(h:nS n d k=r)(hd:d=r->Bi){P:Prop}(c:∀m,n=m+1->k m=r->P):P:=by cases n with
 |zero=>exact(hd h).elim|succ m=>exact c m rfl h
noncomputable def bC{J:Type}(b:AK)(x y:J):J:=PM (motive:=λ_=>J) y x b
theorem i7{J:Type}{x y:J}:bC M x y=x:=rfl
theorem S0{J:Type}{x y:J}:bC A6 x y=y:=rfl
theorem Nk{J:Type}{b:AK}{x y r:J}(h:bC b x y=r){P:Prop}(l:b=M->x=r->P)(m:y=r->P):P:=by cases b with
 |true=>exact l rfl h|false=>exact m h
noncomputable def B'{J EG:Type}(x:AD J)(k:J->AD EG):AD EG:=f6 (motive:=λ_=>AD EG) L k x
theorem BI{J EG:Type}{x:AD J}{k:J->AD EG}{y:EG}(h:B' x k=G y){P:Prop}(c:∀a,x=G a->k a=G y->P):P:=by cases x with
 |none=>exact(AF h).elim|some a=>exact c a rfl h
theorem Fh{J:Type}{c:Prop}[d:sH c]{a b r:J}(h:(if c then a else b)=r){P:Prop}(l:c->a=r->P)(m:b=r->P):P:=by cases d with
 |isTrue q=>exact l q h|isFalse q=>exact m h
theorem Nl{C J:Type}{o:AD C}{d:J}{k:C->J}{r:J}(h:oS o d k=r)(hd:d=r->Bi){P:AD C->Prop}(c:∀x,k x=r->P (G x)):P o:=by cases o with
 |none=>exact(hd h).elim|some x=>exact c x h
theorem M4{C J:Type}{o:AD C}{d:J}{k:C->J}{r:J}(h:oS o d k=r){P:Prop}(c:∀x,o=G x->k x=r->P)(e:o=L->d=r->P):P:=by cases o with
 |none=>exact e rfl h|some x=>exact c x rfl h
noncomputable def oN{C J:Type}(o:AD C)(d k:J):J:=f6 (motive:=λ_=>J) k (λ_=>d) o
theorem GP{C J:Type}{o:AD C}{d k r:J}(h:oN o d k=r)(hd:d=r->Bi){P:AD C->Prop}(c:k=r->P L):P o:=by cases o with
 |none=>exact c h|some x=>exact(hd h).elim
noncomputable def bT{J:Type}(b:AK)(d k:J):J:=PM (motive:=λ_=>J) d k b
theorem Ce{J:Type}{b:AK}{d k r:J}(h:bT b d k=r)(hd:d=r->Bi){P:Prop}(c:b=M->k=r->P):P:=by cases b with
 |true=>exact c rfl h|false=>exact(hd h).elim
theorem B1{a b:AK}(h:(a&&b)=M):a=M:=(bm3.mp h).1
theorem Ak{a b:AK}(h:(a&&b)=M):b=M:=(bm3.mp h).2
theorem Br{C:Type}{a x:C}(h:G a=G x){P:C->Prop}(k:P a):P x:=Bl h▸k
theorem uk{C J:Type}{a x:C}{b y:J}(h:G (a,b)=G (x,y)){P:C->J->Prop}(k:P a b):P x y:=Br h (P:=λz=>P z.1 z.2) k
theorem M5{C J EG:Type}{a x:C}{b y:J}{c z:EG}(h:G (a,b,c)=G (x,y,z)){P:C->J->EG->Prop}(k:P a b c):P x y z:=Br h (P:=λz=>P z.1 z.2.1 z.2.2) k
theorem ul{C J EG i8:Type}{a x:C}{b y:J}{c z:EG}{d w:i8}(h:G (a,b,c,d)=G (x,y,z,w)){P:C->J->EG->i8->Prop}(k:P a b c d):P x y z w:=Br h (P:=λz=>P z.1 z.2.1 z.2.2.1 z.2.2.2) k
theorem IG{C:Type}{a b:C}[sH (a=b)](h:decide (a=b)=M){P:C->Prop}(k:P b):P a:=of_decide_eq_true h▸k
theorem xA{P0:Prop}{AM:Prop}(h:P0/\(AM)){P:Prop}(k:P0->AM->P):P:=by obtain⟨h0,z⟩:=h;exact k h0 z
theorem xE{Ar:Sort _}{AM:Ar->Prop}(h:∃x0,AM x0){P:Prop}(k:∀x0,AM x0->P):P:=by obtain⟨x0,z⟩:=h;exact k x0 z
theorem G5{P0:Prop}{P1:Prop}{AM:Prop}(h:P0/\(P1/\(AM))){P:Prop}(k:P0->P1->AM->P):P:=by obtain⟨h0,h1,z⟩:=h;exact k h0 h1 z
theorem H6{B2:Sort _}{P0:Prop}{AM:B2->Prop}(h:P0/\(∃x1,AM x1)){P:Prop}(k:P0->∀x1,AM x1->P):P:=by obtain⟨h0,x1,z⟩:=h;exact k h0 x1 z
theorem AC{Ar:Sort _}{P1:Ar->Prop}{AM:Ar->Prop}(h:∃x0,P1 x0/\(AM x0)){P:Prop}(k:∀x0,P1 x0->AM x0->P):P:=by obtain⟨x0,h1,z⟩:=h;exact k x0 h1 z
theorem DA{Ar:Sort _}{B2:Sort _}{AM:Ar->B2->Prop}(h:∃x0,∃x1,AM x0 x1){P:Prop}(k:∀x0,∀x1,AM x0 x1->P):P:=by obtain⟨x0,x1,z⟩:=h;exact k x0 x1 z
theorem M6{P0:Prop}{P1:Prop}{P2:Prop}{AM:Prop}(h:P0/\(P1/\(P2/\(AM)))){P:Prop}(k:P0->P1->P2->AM->P):P:=by obtain⟨h0,h1,h2,z⟩:=h;exact k h0 h1 h2 z
theorem II{BH:Sort _}{P0:Prop}{P1:Prop}{AM:BH->Prop}(h:P0/\(P1/\(∃x2,AM x2))){P:Prop}(k:P0->P1->∀x2,AM x2->P):P:=by obtain⟨h0,h1,x2,z⟩:=h;exact k h0 h1 x2 z
theorem Hl{B2:Sort _}{P0:Prop}{P2:B2->Prop}{AM:B2->Prop}(h:P0/\(∃x1,P2 x1/\(AM x1))){P:Prop}(k:P0->∀x1,P2 x1->AM x1->P):P:=by obtain⟨h0,x1,h2,z⟩:=h;exact k h0 x1 h2 z
theorem CZ{Ar:Sort _}{P1:Ar->Prop}{P2:Ar->Prop}{AM:Ar->Prop}(h:∃x0,P1 x0/\(P2 x0/\(AM x0))){P:Prop}(k:∀x0,P1 x0->P2 x0->AM x0->P):P:=by obtain⟨x0,h1,h2,z⟩:=h;exact k x0 h1 h2 z
theorem uo{Ar:Sort _}{BH:Sort _}{P1:Ar->Prop}{AM:Ar->BH->Prop}(h:∃x0,P1 x0/\(∃x2,AM x0 x2)){P:Prop}(k:∀x0,P1 x0->∀x2,AM x0 x2->P):P:=by obtain⟨x0,h1,x2,z⟩:=h;exact k x0 h1 x2 z
theorem EW{Ar:Sort _}{B2:Sort _}{P2:Ar->B2->Prop}{AM:Ar->B2->Prop}(h:∃x0,∃x1,P2 x0 x1/\(AM x0 x1)){P:Prop}(k:∀x0,∀x1,P2 x0 x1->AM x0 x1->P):P:=by obtain⟨x0,x1,h2,z⟩:=h;exact k x0 x1 h2 z
theorem uq{Ar:Sort _}{B2:Sort _}{BH:Sort _}{AM:Ar->B2->BH->Prop}(h:∃x0,∃x1,∃x2,AM x0 x1 x2){P:Prop}(k:∀x0,∀x1,∀x2,AM x0 x1 x2->P):P:=by obtain⟨x0,x1,x2,z⟩:=h;exact k x0 x1 x2 z
theorem VJ{P0:Prop}{P1:Prop}{P2:Prop}{P3:Prop}{AM:Prop}(h:P0/\(P1/\(P2/\(P3/\(AM))))){P:Prop}(k:P0->P1->P2->P3->AM->P):P:=by obtain⟨h0,h1,h2,h3,z⟩:=h;exact k h0 h1 h2 h3 z
theorem Pl{BH:Sort _}{P0:Prop}{P1:Prop}{P3:BH->Prop}{AM:BH->Prop}(h:P0/\(P1/\(∃x2,P3 x2/\(AM x2)))){P:Prop}(k:P0->P1->∀x2,P3 x2->AM x2->P):P:=by obtain⟨h0,h1,x2,h3,z⟩:=h;exact k h0 h1 x2 h3 z
theorem Pm{Ar:Sort _}{Bj:Sort _}{P1:Ar->Prop}{P2:Ar->Prop}{AM:Ar->Bj->Prop}(h:∃x0,P1 x0/\(P2 x0/\(∃x3,AM x0 x3))){P:Prop}(k:∀x0,P1 x0->P2 x0->∀x3,AM x0 x3->P):P:=by obtain⟨x0,h1,h2,x3,z⟩:=h;exact k x0 h1 h2 x3 z
theorem ur{Ar:Sort _}{BH:Sort _}{P1:Ar->Prop}{P3:Ar->BH->Prop}{AM:Ar->BH->Prop}(h:∃x0,P1 x0/\(∃x2,P3 x0 x2/\(AM x0 x2))){P:Prop}(k:∀x0,P1 x0->∀x2,P3 x0 x2->AM x0 x2->P):P:=by obtain⟨x0,h1,x2,h3,z⟩:=h;exact k x0 h1 x2 h3 z
theorem Bv{Ar:Sort _}{B2:Sort _}{P2:Ar->B2->Prop}{P3:Ar->B2->Prop}{AM:Ar->B2->Prop}(h:∃x0,∃x1,P2 x0 x1/\(P3 x0 x1/\(AM x0 x1))){P:Prop}(k:∀x0,∀x1,P2 x0 x1->P3 x0 x1->AM x0 x1->P):P:=by obtain⟨x0,x1,h2,h3,z⟩:=h;exact k x0 x1 h2 h3 z
theorem Hm{Ar:Sort _}{B2:Sort _}{BH:Sort _}{P3:Ar->B2->BH->Prop}{AM:Ar->B2->BH->Prop}(h:∃x0,∃x1,∃x2,P3 x0 x1 x2/\(AM x0 x1 x2)){P:Prop}(k:∀x0,∀x1,∀x2,P3 x0 x1 x2->AM x0 x1 x2->P):P:=by obtain⟨x0,x1,x2,h3,z⟩:=h;exact k x0 x1 x2 h3 z
theorem ut{Ar:Sort _}{B2:Sort _}{BH:Sort _}{Bj:Sort _}{AM:Ar->B2->BH->Bj->Prop}(h:∃x0,∃x1,∃x2,∃x3,AM x0 x1 x2 x3){P:Prop}(k:∀x0,∀x1,∀x2,∀x3,AM x0 x1 x2 x3->P):P:=by obtain⟨x0,x1,x2,x3,z⟩:=h;exact k x0 x1 x2 x3 z
theorem S1{P0:Prop}{P1:Prop}{P2:Prop}{P3:Prop}{P4:Prop}{AM:Prop}(h:P0/\(P1/\(P2/\(P3/\(P4/\(AM)))))){P:Prop}(k:P0->P1->P2->P3->P4->AM->P):P:=by obtain⟨h0,h1,h2,h3,h4,z⟩:=h;exact k h0 h1 h2 h3 h4 z
theorem S2{Ar:Sort _}{P1:Ar->Prop}{P2:Ar->Prop}{P3:Ar->Prop}{P4:Ar->Prop}{AM:Ar->Prop}(h:∃x0,P1 x0/\(P2 x0/\(P3 x0/\(P4 x0/\(AM x0))))){P:Prop}(k:∀x0,P1 x0->P2 x0->P3 x0->P4 x0->AM x0->P):P:=by obtain⟨x0,h1,h2,h3,h4,z⟩:=h;exact k x0 h1 h2 h3 h4 z
theorem VK{Ar:Sort _}{BH:Sort _}{P1:Ar->Prop}{P3:Ar->BH->Prop}{P4:Ar->BH->Prop}{AM:Ar->BH->Prop}(h:∃x0,P1 x0/\(∃x2,P3 x0 x2/\(P4 x0 x2/\(AM x0 x2)))){P:Prop}(k:∀x0,P1 x0->∀x2,P3 x0 x2->P4 x0 x2->AM x0 x2->P):P:=by obtain⟨x0,h1,x2,h3,h4,z⟩:=h;exact k x0 h1 x2 h3 h4 z
theorem HQ{Ar:Sort _}{B2:Sort _}{P2:Ar->B2->Prop}{P3:Ar->B2->Prop}{P4:Ar->B2->Prop}{AM:Ar->B2->Prop}(h:∃x0,∃x1,P2 x0 x1/\(P3 x0 x1/\(P4 x0 x1/\(AM x0 x1)))){P:Prop}(k:∀x0,∀x1,P2 x0 x1->P3 x0 x1->P4 x0 x1->AM x0 x1->P):P:=by obtain⟨x0,x1,h2,h3,h4,z⟩:=h;exact k x0 x1 h2 h3 h4 z
theorem Gn{Ar:Sort _}{B2:Sort _}{BH:Sort _}{P3:Ar->B2->BH->Prop}{P4:Ar->B2->BH->Prop}{AM:Ar->B2->BH->Prop}(h:∃x0,∃x1,∃x2,P3 x0 x1 x2/\(P4 x0 x1 x2/\(AM x0 x1 x2))){P:Prop}(k:∀x0,∀x1,∀x2,P3 x0 x1 x2->P4 x0 x1 x2->AM x0 x1 x2->P):P:=by obtain⟨x0,x1,x2,h3,h4,z⟩:=h;exact k x0 x1 x2 h3 h4 z
theorem Jv{Ar:Sort _}{B2:Sort _}{BH:Sort _}{Bj:Sort _}{P4:Ar->B2->BH->Bj->Prop}{AM:Ar->B2->BH->Bj->Prop}(h:∃x0,∃x1,∃x2,∃x3,P4 x0 x1 x2 x3/\(AM x0 x1 x2 x3)){P:Prop}(k:∀x0,∀x1,∀x2,∀x3,P4 x0 x1 x2 x3->AM x0 x1 x2 x3->P):P:=by obtain⟨x0,x1,x2,x3,h4,z⟩:=h;exact k x0 x1 x2 x3 h4 z
theorem i9{P0:Prop}{P1:Prop}{P2:Prop}{P3:Prop}{P4:Prop}{P5:Prop}{AM:Prop}(h:P0/\(P1/\(P2/\(P3/\(P4/\(P5/\(AM))))))){P:Prop}(k:P0->P1->P2->P3->P4->P5->AM->P):P:=by obtain⟨h0,h1,h2,h3,h4,h5,z⟩:=h;exact k h0 h1 h2 h3 h4 h5 z
theorem iA{CT:Sort _}{P0:Prop}{P1:Prop}{P2:Prop}{P3:Prop}{P5:CT->Prop}{AM:CT->Prop}(h:P0/\(P1/\(P2/\(P3/\(∃x4,P5 x4/\(AM x4)))))){P:Prop}(k:P0->P1->P2->P3->∀x4,P5 x4->AM x4->P):P:=by obtain⟨h0,h1,h2,h3,x4,h5,z⟩:=h;exact k h0 h1 h2 h3 x4 h5 z
theorem uv{BH:Sort _}{Bj:Sort _}{P0:Prop}{P1:Prop}{P4:BH->Bj->Prop}{P5:BH->Bj->Prop}{AM:BH->Bj->Prop}(h:P0/\(P1/\(∃x2,∃x3,P4 x2 x3/\(P5 x2 x3/\(AM x2 x3))))){P:Prop}(k:P0->P1->∀x2,∀x3,P4 x2 x3->P5 x2 x3->AM x2 x3->P):P:=by obtain⟨h0,h1,x2,x3,h4,h5,z⟩:=h;exact k h0 h1 x2 x3 h4 h5 z
theorem J6{Ar:Sort _}{B2:Sort _}{BH:Sort _}{P3:Ar->B2->BH->Prop}{P4:Ar->B2->BH->Prop}{P5:Ar->B2->BH->Prop}{AM:Ar->B2->BH->Prop}(h:∃x0,∃x1,∃x2,P3 x0 x1 x2/\(P4 x0 x1 x2/\(P5 x0 x1 x2/\(AM x0 x1 x2)))){P:Prop}(k:∀x0,∀x1,∀x2,P3 x0 x1 x2->P4 x0 x1 x2->P5 x0 x1 x2->AM x0 x1 x2->P):P:=by obtain⟨x0,x1,x2,h3,h4,h5,z⟩:=h;exact k x0 x1 x2 h3 h4 h5 z
theorem uw{Ar:Sort _}{B2:Sort _}{BH:Sort _}{Bj:Sort _}{P4:Ar->B2->BH->Bj->Prop}{P5:Ar->B2->BH->Bj->Prop}{AM:Ar->B2->BH->Bj->Prop}(h:∃x0,∃x1,∃x2,∃x3,P4 x0 x1 x2 x3/\(P5 x0 x1 x2 x3/\(AM x0 x1 x2 x3))){P:Prop}(k:∀x0,∀x1,∀x2,∀x3,P4 x0 x1 x2 x3->P5 x0 x1 x2 x3->AM x0 x1 x2 x3->P):P:=by obtain⟨x0,x1,x2,x3,h4,h5,z⟩:=h;exact k x0 x1 x2 x3 h4 h5 z
theorem ux{Ar:Sort _}{B2:Sort _}{BH:Sort _}{Bj:Sort _}{CT:Sort _}{P5:Ar->B2->BH->Bj->CT->Prop}{AM:Ar->B2->BH->Bj->CT->Prop}(h:∃x0,∃x1,∃x2,∃x3,∃x4,P5 x0 x1 x2 x3 x4/\(AM x0 x1 x2 x3 x4)){P:Prop}(k:∀x0,∀x1,∀x2,∀x3,∀x4,P5 x0 x1 x2 x3 x4->AM x0 x1 x2 x3 x4->P):P:=by obtain⟨x0,x1,x2,x3,x4,h5,z⟩:=h;exact k x0 x1 x2 x3 x4 h5 z
theorem iB{P0:Prop}{P1:Prop}{P2:Prop}{P3:Prop}{P4:Prop}{P5:Prop}{P6:Prop}{AM:Prop}(h:P0/\(P1/\(P2/\(P3/\(P4/\(P5/\(P6/\(AM)))))))){P:Prop}(k:P0->P1->P2->P3->P4->P5->P6->AM->P):P:=by obtain⟨h0,h1,h2,h3,h4,h5,h6,z⟩:=h;exact k h0 h1 h2 h3 h4 h5 h6 z
theorem M7{Ar:Sort _}{B2:Sort _}{P2:Ar->B2->Prop}{P3:Ar->B2->Prop}{P4:Ar->B2->Prop}{P5:Ar->B2->Prop}{P6:Ar->B2->Prop}{AM:Ar->B2->Prop}(h:∃x0,∃x1,P2 x0 x1/\(P3 x0 x1/\(P4 x0 x1/\(P5 x0 x1/\(P6 x0 x1/\(AM x0 x1)))))){P:Prop}(k:∀x0,∀x1,P2 x0 x1->P3 x0 x1->P4 x0 x1->P5 x0 x1->P6 x0 x1->AM x0 x1->P):P:=by obtain⟨x0,x1,h2,h3,h4,h5,h6,z⟩:=h;exact k x0 x1 h2 h3 h4 h5 h6 z
theorem iC{Ar:Sort _}{B2:Sort _}{BH:Sort _}{P3:Ar->B2->BH->Prop}{P4:Ar->B2->BH->Prop}{P5:Ar->B2->BH->Prop}{P6:Ar->B2->BH->Prop}{AM:Ar->B2->BH->Prop}(h:∃x0,∃x1,∃x2,P3 x0 x1 x2/\(P4 x0 x1 x2/\(P5 x0 x1 x2/\(P6 x0 x1 x2/\(AM x0 x1 x2))))){P:Prop}(k:∀x0,∀x1,∀x2,P3 x0 x1 x2->P4 x0 x1 x2->P5 x0 x1 x2->P6 x0 x1 x2->AM x0 x1 x2->P):P:=by obtain⟨x0,x1,x2,h3,h4,h5,h6,z⟩:=h;exact k x0 x1 x2 h3 h4 h5 h6 z
theorem VL{Ar:Sort _}{B2:Sort _}{BH:Sort _}{Bj:Sort _}{P4:Ar->B2->BH->Bj->Prop}{P5:Ar->B2->BH->Bj->Prop}{P6:Ar->B2->BH->Bj->Prop}{AM:Ar->B2->BH->Bj->Prop}(h:∃x0,∃x1,∃x2,∃x3,P4 x0 x1 x2 x3/\(P5 x0 x1 x2 x3/\(P6 x0 x1 x2 x3/\(AM x0 x1 x2 x3)))){P:Prop}(k:∀x0,∀x1,∀x2,∀x3,P4 x0 x1 x2 x3->P5 x0 x1 x2 x3->P6 x0 x1 x2 x3->AM x0 x1 x2 x3->P):P:=by obtain⟨x0,x1,x2,x3,h4,h5,h6,z⟩:=h;exact k x0 x1 x2 x3 h4 h5 h6 z
theorem S3{Ar:Sort _}{B2:Sort _}{CT:Sort _}{Ds:Sort _}{P2:Ar->B2->Prop}{P3:Ar->B2->Prop}{P6:Ar->B2->CT->Ds->Prop}{P7:Ar->B2->CT->Ds->Prop}{AM:Ar->B2->CT->Ds->Prop}(h:∃x0,∃x1,P2 x0 x1/\(P3 x0 x1/\(∃x4,∃x5,P6 x0 x1 x4 x5/\(P7 x0 x1 x4 x5/\(AM x0 x1 x4 x5))))){P:Prop}(k:∀x0,∀x1,P2 x0 x1->P3 x0 x1->∀x4,∀x5,P6 x0 x1 x4 x5->P7 x0 x1 x4 x5->AM x0 x1 x4 x5->P):P:=by obtain⟨x0,x1,h2,h3,x4,x5,h6,h7,z⟩:=h;exact k x0 x1 h2 h3 x4 x5 h6 h7 z
theorem VM{Ar:Sort _}{B2:Sort _}{BH:Sort _}{Bj:Sort _}{P4:Ar->B2->BH->Bj->Prop}{P5:Ar->B2->BH->Bj->Prop}{P6:Ar->B2->BH->Bj->Prop}{P7:Ar->B2->BH->Bj->Prop}{AM:Ar->B2->BH->Bj->Prop}(h:∃x0,∃x1,∃x2,∃x3,P4 x0 x1 x2 x3/\(P5 x0 x1 x2 x3/\(P6 x0 x1 x2 x3/\(P7 x0 x1 x2 x3/\(AM x0 x1 x2 x3))))){P:Prop}(k:∀x0,∀x1,∀x2,∀x3,P4 x0 x1 x2 x3->P5 x0 x1 x2 x3->P6 x0 x1 x2 x3->P7 x0 x1 x2 x3->AM x0 x1 x2 x3->P):P:=by obtain⟨x0,x1,x2,x3,h4,h5,h6,h7,z⟩:=h;exact k x0 x1 x2 x3 h4 h5 h6 h7 z
theorem Kr{Ar:Sort _}{B2:Sort _}{BH:Sort _}{Bj:Sort _}{P4:Ar->B2->BH->Bj->Prop}{P5:Ar->B2->BH->Bj->Prop}{P6:Ar->B2->BH->Bj->Prop}{P7:Ar->B2->BH->Bj->Prop}{P8:Ar->B2->BH->Bj->Prop}{AM:Ar->B2->BH->Bj->Prop}(h:∃x0,∃x1,∃x2,∃x3,P4 x0 x1 x2 x3/\(P5 x0 x1 x2 x3/\(P6 x0 x1 x2 x3/\(P7 x0 x1 x2 x3/\(P8 x0 x1 x2 x3/\(AM x0 x1 x2 x3)))))){P:Prop}(k:∀x0,∀x1,∀x2,∀x3,P4 x0 x1 x2 x3->P5 x0 x1 x2 x3->P6 x0 x1 x2 x3->P7 x0 x1 x2 x3->P8 x0 x1 x2 x3->AM x0 x1 x2 x3->P):P:=by obtain⟨x0,x1,x2,x3,h4,h5,h6,h7,h8,z⟩:=h;exact k x0 x1 x2 x3 h4 h5 h6 h7 h8 z
theorem iD{Ar:Sort _}{B2:Sort _}{BH:Sort _}{Bj:Sort _}{CT:Sort _}{Ds:Sort _}{P6:Ar->B2->BH->Bj->CT->Ds->Prop}{P7:Ar->B2->BH->Bj->CT->Ds->Prop}{P8:Ar->B2->BH->Bj->CT->Ds->Prop}{AM:Ar->B2->BH->Bj->CT->Ds->Prop}(h:∃x0,∃x1,∃x2,∃x3,∃x4,∃x5,P6 x0 x1 x2 x3 x4 x5/\(P7 x0 x1 x2 x3 x4 x5/\(P8 x0 x1 x2 x3 x4 x5/\(AM x0 x1 x2 x3 x4 x5)))){P:Prop}(k:∀x0,∀x1,∀x2,∀x3,∀x4,∀x5,P6 x0 x1 x2 x3 x4 x5->P7 x0 x1 x2 x3 x4 x5->P8 x0 x1 x2 x3 x4 x5->AM x0 x1 x2 x3 x4 x5->P):P:=by obtain⟨x0,x1,x2,x3,x4,x5,h6,h7,h8,z⟩:=h;exact k x0 x1 x2 x3 x4 x5 h6 h7 h8 z
theorem iE{Ar:Sort _}{B2:Sort _}{BH:Sort _}{Bj:Sort _}{CT:Sort _}{P5:Ar->B2->BH->Bj->CT->Prop}{P6:Ar->B2->BH->Bj->CT->Prop}{P7:Ar->B2->BH->Bj->CT->Prop}{P8:Ar->B2->BH->Bj->CT->Prop}{P9:Ar->B2->BH->Bj->CT->Prop}{AM:Ar->B2->BH->Bj->CT->Prop}(h:∃x0,∃x1,∃x2,∃x3,∃x4,P5 x0 x1 x2 x3 x4/\(P6 x0 x1 x2 x3 x4/\(P7 x0 x1 x2 x3 x4/\(P8 x0 x1 x2 x3 x4/\(P9 x0 x1 x2 x3 x4/\(AM x0 x1 x2 x3 x4)))))){P:Prop}(k:∀x0,∀x1,∀x2,∀x3,∀x4,P5 x0 x1 x2 x3 x4->P6 x0 x1 x2 x3 x4->P7 x0 x1 x2 x3 x4->P8 x0 x1 x2 x3 x4->P9 x0 x1 x2 x3 x4->AM x0 x1 x2 x3 x4->P):P:=by obtain⟨x0,x1,x2,x3,x4,h5,h6,h7,h8,h9,z⟩:=h;exact k x0 x1 x2 x3 x4 h5 h6 h7 h8 h9 z
theorem iF{Ar:Sort _}{B2:Sort _}{BH:Sort _}{Bj:Sort _}{CT:Sort _}{Ds:Sort _}{P6:Ar->B2->BH->Bj->CT->Ds->Prop}{P7:Ar->B2->BH->Bj->CT->Ds->Prop}{P8:Ar->B2->BH->Bj->CT->Ds->Prop}{P9:Ar->B2->BH->Bj->CT->Ds->Prop}{AM:Ar->B2->BH->Bj->CT->Ds->Prop}(h:∃x0,∃x1,∃x2,∃x3,∃x4,∃x5,P6 x0 x1 x2 x3 x4 x5/\(P7 x0 x1 x2 x3 x4 x5/\(P8 x0 x1 x2 x3 x4 x5/\(P9 x0 x1 x2 x3 x4 x5/\(AM x0 x1 x2 x3 x4 x5))))){P:Prop}(k:∀x0,∀x1,∀x2,∀x3,∀x4,∀x5,P6 x0 x1 x2 x3 x4 x5->P7 x0 x1 x2 x3 x4 x5->P8 x0 x1 x2 x3 x4 x5->P9 x0 x1 x2 x3 x4 x5->AM x0 x1 x2 x3 x4 x5->P):P:=by obtain⟨x0,x1,x2,x3,x4,x5,h6,h7,h8,h9,z⟩:=h;exact k x0 x1 x2 x3 x4 x5 h6 h7 h8 h9 z
theorem Yl{Ar:Sort _}{B2:Sort _}{CT:Sort _}{Ds:Sort _}{Ym:Sort _}{Yn:Sort _}{P2:Ar->B2->Prop}{P3:Ar->B2->Prop}{P6:Ar->B2->CT->Ds->Prop}{P7:Ar->B2->CT->Ds->Prop}{M8:Ar->B2->CT->Ds->Ym->Yn->Prop}{M9:Ar->B2->CT->Ds->Ym->Yn->Prop}{AM:Ar->B2->CT->Ds->Ym->Yn->Prop}(h:∃x0,∃x1,P2 x0 x1/\(P3 x0 x1/\(∃x4,∃x5,P6 x0 x1 x4 x5/\(P7 x0 x1 x4 x5/\(∃x8,∃x9,M8 x0 x1 x4 x5 x8 x9/\(M9 x0 x1 x4 x5 x8 x9/\(AM x0 x1 x4 x5 x8 x9))))))){P:Prop}(k:∀x0,∀x1,P2 x0 x1->P3 x0 x1->∀x4,∀x5,P6 x0 x1 x4 x5->P7 x0 x1 x4 x5->∀x8,∀x9,M8 x0 x1 x4 x5 x8 x9->M9 x0 x1 x4 x5 x8 x9->AM x0 x1 x4 x5 x8 x9->P):P:=by obtain⟨x0,x1,h2,h3,x4,x5,h6,h7,x8,x9,S4,S5,z⟩:=h;exact k x0 x1 h2 h3 x4 x5 h6 h7 x8 x9 S4 S5 z
theorem iG{Ar:Sort _}{B2:Sort _}{BH:Sort _}{Bj:Sort _}{CT:Sort _}{P5:Ar->B2->BH->Bj->CT->Prop}{P6:Ar->B2->BH->Bj->CT->Prop}{P7:Ar->B2->BH->Bj->CT->Prop}{P8:Ar->B2->BH->Bj->CT->Prop}{P9:Ar->B2->BH->Bj->CT->Prop}{M8:Ar->B2->BH->Bj->CT->Prop}{M9:Ar->B2->BH->Bj->CT->Prop}{AM:Ar->B2->BH->Bj->CT->Prop}(h:∃x0,∃x1,∃x2,∃x3,∃x4,P5 x0 x1 x2 x3 x4/\(P6 x0 x1 x2 x3 x4/\(P7 x0 x1 x2 x3 x4/\(P8 x0 x1 x2 x3 x4/\(P9 x0 x1 x2 x3 x4/\(M8 x0 x1 x2 x3 x4/\(M9 x0 x1 x2 x3 x4/\(AM x0 x1 x2 x3 x4)))))))){P:Prop}(k:∀x0,∀x1,∀x2,∀x3,∀x4,P5 x0 x1 x2 x3 x4->P6 x0 x1 x2 x3 x4->P7 x0 x1 x2 x3 x4->P8 x0 x1 x2 x3 x4->P9 x0 x1 x2 x3 x4->M8 x0 x1 x2 x3 x4->M9 x0 x1 x2 x3 x4->AM x0 x1 x2 x3 x4->P):P:=by obtain⟨x0,x1,x2,x3,x4,h5,h6,h7,h8,h9,S4,S5,z⟩:=h;exact k x0 x1 x2 x3 x4 h5 h6 h7 h8 h9 S4 S5 z
theorem VN{Ar:Sort _}{B2:Sort _}{BH:Sort _}{Bj:Sort _}{CT:Sort _}{Ds:Sort _}{MA:Sort _}{P7:Ar->B2->BH->Bj->CT->Ds->MA->Prop}{P8:Ar->B2->BH->Bj->CT->Ds->MA->Prop}{P9:Ar->B2->BH->Bj->CT->Ds->MA->Prop}{M8:Ar->B2->BH->Bj->CT->Ds->MA->Prop}{M9:Ar->B2->BH->Bj->CT->Ds->MA->Prop}{iH:Ar->B2->BH->Bj->CT->Ds->MA->Prop}{iI:Ar->B2->BH->Bj->CT->Ds->MA->Prop}{AM:Ar->B2->BH->Bj->CT->Ds->MA->Prop}(h:∃x0,∃x1,∃x2,∃x3,∃x4,∃x5,∃x6,P7 x0 x1 x2 x3 x4 x5 x6/\(P8 x0 x1 x2 x3 x4 x5 x6/\(P9 x0 x1 x2 x3 x4 x5 x6/\(M8 x0 x1 x2 x3 x4 x5 x6/\(M9 x0 x1 x2 x3 x4 x5 x6/\(iH x0 x1 x2 x3 x4 x5 x6/\(iI x0 x1 x2 x3 x4 x5 x6/\(AM x0 x1 x2 x3 x4 x5 x6)))))))){P:Prop}(k:∀x0,∀x1,∀x2,∀x3,∀x4,∀x5,∀x6,P7 x0 x1 x2 x3 x4 x5 x6->P8 x0 x1 x2 x3 x4 x5 x6->P9 x0 x1 x2 x3 x4 x5 x6->M8 x0 x1 x2 x3 x4 x5 x6->M9 x0 x1 x2 x3 x4 x5 x6->iH x0 x1 x2 x3 x4 x5 x6->iI x0 x1 x2 x3 x4 x5 x6->AM x0 x1 x2 x3 x4 x5 x6->P):P:=by obtain⟨x0,x1,x2,x3,x4,x5,x6,h7,h8,h9,S4,S5,uy,uz,z⟩:=h;exact k x0 x1 x2 x3 x4 x5 x6 h7 h8 h9 S4 S5 uy uz z
noncomputable def all2{C J:Type}(f:C->J->AK):I C->I J->AK
 |[],l=>l.isEmpty|a::x,l=>match l with
 |[]=>A6|b::y=>f a b&&all2 f x y
theorem VO{C J:Type}{f:C->J->AK}{P:I C->I J->Prop}(n:P [] [])(c:∀a b x y,f a b=M->P x y->P (a::x) (b::y)){x:I C}:∀{y:I J},all2 f x y=M->P x y:=by induction x with
 |nil=>intro y h;cases y with
  |nil=>exact n|cons _ _=>exact(B0 h).elim
 |cons a x ih=>intro y h;cases y with
 |nil=>exact(B0 h).elim|cons b y=>exact c a b x y (B1 h) (ih (Ak h))
theorem Nm{C:Type}{f:C->C->AK}(hf:∀a b,f a b=M->a=b)(x y:I C)(h:all2 f x y=M):x=y:=VO (P:=λx y=>x=y) rfl (λa b _ _ q ih=>congr (congrArg bm4 (hf a b q)) ih) h
theorem v7{C J:Type}{f:C->J->AK}{g:J->C}(hf:∀a b,f a b=M->a=g b){x:I C}{y:I J}(h:all2 f x y=M):x=y.map g:=VO (P:=λx y=>x=y.map g) rfl (λa b _ _ q ih=>congr (congrArg bm4 (hf a b q)) ih) h
theorem all_cons{J:Type}{p:J->Prop}{x:J}{l:I J}(h:p x)(t:∀o∈l,p o):∀o∈x::l,p o:=λo m=>(Ck.mp m).elim (λe=>e▸h) (t o)
theorem EC{J:Type}{p:J->Prop}:∀o∈([]:I J),p o:=λ_ m=>nomatch m
theorem VP{C J:Type}{o:AD C}{d:J}{k:C->J}{r:J}(h:oS o d k=r)(hd:d=r->Bi){P:Prop}(c:∀x,o=G x->k x=r->P):P:=by cases o with
 |none=>exact(hd h).elim|some x=>exact c x rfl h
theorem yT{a b c:O}(h:a=b)(k:b<=c):a<=c:=h▸k
theorem yS{a b c:O}(h:b=a)(k:b<=c):a<=c:=h▸k
theorem yQ{a b c:O}(h:c=b)(k:a<b):a<c:=h▸k
theorem yU{u k c e:O}(h:u+10*k<9000)(q:9000+c<=e):u+c<e:=Iw (Nat.add_lt_add_right (H' (H2 u _) h) c) q
theorem yW{a n d k m:O}(e:d<=k)(h:a+n*k<m):a+n*d<m:=H' (HI (sI n e) a) h
theorem yV{x a c n d m:O}(e:x<=a+c)(h:a+n*(d+1)<m)(q:c<=n):x+n*d<m:=H' (B4 (Xt e _) (B4 (Ej (NM a c _)) (HI (B4 (Xt q _) (Ej (Lj n _))) a))) h
theorem yK{a c n d k m:O}(e:k=d+1)(h:a+n*k<m)(q:c<=n):a+c+n*d<m:=yV (DE _) (e▸h) q
theorem yJ{a n d k m:O}(e:k=d+1)(h:a+n*k<m):a+n*d<m:=yW (e▸PN d) h
theorem yI{k:O}(h:0<k):k=k-1+1:=(Xu h).symm
theorem yH{k m:O}(h:m+1<=k):k=k-1+1:=yI (Iw (Nat.succ_pos m) h)
theorem yX{n i k:O}(h:n-i=k+1):n-(i+1)=k:=congrArg Nat.pred h
theorem yC{r c l:O}(h:l<=c):r+(c-l)-c=r-l:=by rw[<-sJ h,Nat.sub_right_comm,bm5]
theorem yD{r c l:O}(h:l<=c)(k:l<=r):c<=r+(c-l):=B4 (Ej (Xu h).symm) (B4 (HI k _) (Ej (Lj _ _)))
theorem v8{r o AG c:O}(k:o<=15)(q:AG+(r-o)<=c):AG+(r-15)<=c:=B4 (HI (f9 k r) AG) q
theorem v9{a b c s:O}(h:a+b=c):s+b=s+(c-a):=congrArg (s+·) (bm6 h)
theorem iJ{a p b q Av:O}(h:a+p<=Av)(k:b+q<=Av)(j:Av<=p+q):a+b+(p+q-Av)<=Av:=B4 (Ej (sJ j (a+b)).symm) (bm7 (B4 (Ej (Nat.add_add_add_comm a b p q)) (Uh h k)))
theorem vA{a b:O}(h:b=1):a+2=a+1+(b+1-1):=by subst h;rfl
theorem vB{x o A9:O}(h:x<=100000)(k:100002<=A9)(q:o<=x+1-0):o+1<=A9:=B4 (Lk (B4 q (Lk h))) k
theorem vC(AG An:O):AG-0+(An-0)<=AG+An:=DE _
theorem vD{l:O}{AS:Prop}(h:l<30)(k:l/30+1>300/\AS):Bi:=absurd (show 0+1>300 from Nat.div_eq_of_lt h▸k.1) (by decide)
theorem vE{m p A1:O}(h:m+p=A1)(k:p<A1):m=m-1+1:=(Xu (fA λe=>Ix p (Iw k (Ej (h.symm.trans ((congrArg (·+p) e).trans (Ui p))))))).symm
theorem vF{AG:AX}{m l:O}(h:0<=AG)(k:AG<(m:AX))(e:m=l):AG.toNat<l:=e▸(sK h).mpr k
theorem vG{a b T AS:O}(h:a+b=0+0+T)(k:T=min 3 AS):a+b<=3:=B4 (Ej (h.trans (Ui T))) (k▸Xv 3 AS)
theorem vH{l hi lo i:AX}(e:l=max (hi-lo) 0-i)(h:lo+i<hi):0<l:=e▸Int.sub_pos_of_lt (bm8 (Int.lt_sub_left_of_add_lt h) (Int.le_max_left _ _))
theorem vI{AG m i Av:O}(h:AG<=100000)(k:m+1<=200000)(j:i<=AG)(l:Av<=i):Av+(m+1)<=90000+900000:=B4 (Uh (B4 l (B4 j h)) k) (by decide)
theorem vJ{AG i Av:O}(h:AG<=100000)(j:i<=AG)(l:Av<=i):Av+0<=90000+900000:=B4 l (B4 j (B4 h (by decide)))
theorem vK{j m:O}(h:¬j<m):6+m+(j-m)=6+j:=(NM 6 m _).trans (congrArg (6+·) (Nat.add_sub_cancel' (fB h)))
theorem vL{e p:O}(h:e<=1)(k:p=e)(n:¬e=0):p=1:=k.trans (Xw h (fA n))
theorem vM{l n:O}(h:l=n+1):l-1=n:=h▸rfl
theorem iK{k:AX}{l:O}(h:¬k<0)(j:k.toNat<l):0<=k/\k<(l:AX):=⟨sM.mp h,(sK (sM.mp h)).mp j⟩
theorem vN{l m a b:O}(k:l+m<=3)(h:a+b=0+0+l)(q:1<=m):b<=2:=B4 (B4 (fC b a) (Ej (h.trans (Ui l)))) (sN (B4 (HI q l) k))
theorem vO{i k a:O}(h:k<a)(q:i=k\/i=a):i<a+1:=q.elim (λe=>e▸fE h) (λe=>e▸PO i)
theorem vP{l Av:AX}{i:O}(e:l=Av-(i:AX)):l-1=Av-((i+1:O):AX):=(congrArg (·-1) e).trans (Int.sub_sub Av i 1)
theorem vQ{l:AX}{i:O}:l+((i+1:O):AX)=l+(i:AX)+1:=(Int.add_assoc l i 1).symm
theorem vR{x z:O}(h:x<=100000)(k:(x+1)*z<=(x+1)*100):x+(x+1)*z<=16777216:=B4 (Uh h (B4 k (Nat.mul_le_mul_right 100 (Lk h)))) (by decide)
theorem vS{a b l:O}:a+1+b+l=a+b+(l+1):=(congrArg (·+l) (Xx a 1 b)).trans (Xx (a+b) 1 l)
theorem vT{d u:O}(h:42<=d)(k:u+10*d<9000):u+4<9000:=H' (HI (B4 (by decide) (sI 10 h)) u) k
theorem vU{l A1:O}(h:l<=A1-1)(k:0<A1):l+1<=A1:=B4 (Lk h) (Ej (Xu k))
theorem vV{e i:O}(h:e<=1)(k:i<e):i=0:=Nat.lt_one_iff.mp (Iw k h)
theorem vW{e p:O}(h:e<=1)(k:p=e)(n:0<e):p=1:=k.trans (Xw h n)
theorem vX{p i b:O}{AS:Prop}(h:p<=i/\AS)(k:i<p+b):i-p<b:=Nat.sub_lt_left_of_lt_add h.1 k
theorem vY{x y u v c:O}(e:x=u)(f:y=v)(h:x+y<=c):u+v<=c:=e▸f▸h
theorem vZ{a b i:O}(e:a=b)(h:i<a):i<min a b:=bm9.mpr ⟨h,e▸h⟩
theorem iL{u v p:O}(h:v<=100000)(k:u<=1000000)(q:p<=v):u+p<=1100000:=B4 (Uh k (B4 q h)) (by decide)
theorem v_{l hi lo:AX}{i:O}(e:l=max (hi-lo) 0-(i:AX))(h:¬lo+(i:AX)<hi):l<=0:=e▸Int.sub_nonpos_of_le (bn0.mpr ⟨Int.sub_left_le_of_le_add (sM.mp h),fF i⟩)
theorem vc{m p A1:O}(h:m+1+p=A1):m+(p+1)=A1:=(Xx m p 1).trans h
theorem vd{u c:O}(h:u+4<c):u+1+2<c:=H' (PN (u+3)) h
theorem ve{i a b:O}{AS:Prop}(h:AS/\i<6+(a+b)):i<6+a+b:=(NM 6 a b).symm▸h.2
theorem vf{b y:AX}(k:y<b):y<(b.toNat:AX):=bm8 k (Int.self_le_toNat b)
theorem vg{a b:O}(h:a+b<=3):b<4-a:=Nat.lt_sub_of_add_lt (fG (B4 (Ej (Lj b a)) h))
theorem vh{i:AX}(h:0<=i)(k:i<100):i.toNat<100:=(sK h).mpr k
theorem Yo{s r c:O}(h:s+(r+1)<=c):s+1+r<=c:=B4 (Ej (Xx s 1 r)) h
theorem vk{s r c u:O}(h:s+(r+1)<=c)(e:s=u):u<=c:=e▸B4 (H2 _ _) h
theorem vl{A1 Av m:O}(h:A1<=20)(k:m<=Av)(e:Av=A1):m<60:=H' (B4 k (B4 (Ej e) h)) (by decide)
theorem vm{p s:O}(h:p=min p s):p<=s:=B4 (Ej h) (sO p s)
theorem vn{u c:O}(h:u+10<c):u+1<c:=H' (HI (by decide) u) h
theorem vo{u d:O}(e:u=d+1){a:O}(h:a+10*u<9000):a+1+1+1+10*d<9000:=H' (show a+3+10*d<=a+10*u from e▸B4 (Ej (NM a 3 _)) (HI (B4 (Ej (Lj 3 _)) (HI (by decide) _)) a)) h
theorem vp{i:AX}(h:0<=i)(k:i<100):i.natAbs<100:=fH.mp ((bn1 h).symm▸k)
theorem iM{a b c d:O}(k:c+b<=a+d)(h:a<=b):c<=d:=Nat.le_of_add_le_add_right (B4 k (B4 (Xt h d) (Ej (Lj b d))))
theorem vq{a p b q Av u v:O}(e:a=u)(f:b=v)(h:a+p<=Av)(k:b+q<=Av)(j:Av<=p+q):u+v<=Av:=e▸f▸B4 (H2 _ _) (iJ h k j)
theorem vt{a k m u c:O}(e:u=a)(h:a<=k)(q:k+(m+1)<=c):u<=c:=B4 (Ej e) (B4 h (B4 (H2 k _) q))
theorem vx{p e z:O}(q:z<=p)(h:p<=e+1)(k:e<=100000):z<=16777216+1:=B4 q (B4 h (B4 (Lk k) (by decide)))
theorem vy{AG i Av:O}(l:Av<=i)(j:i<=AG)(h:AG<=100000):Av+0<=90000+900000:=B4 l (B4 j (B4 h (by decide)))
theorem vz{x y:O}(e:y=x)(h:x<60):y<64:=H' (Ej e) (Nat.lt_trans h (by decide))
theorem w2{b:AX}(h:0<b/\b<=1000000000):b.natAbs<=1000000000:=sP.mp ((bn1 (fK h.1)).symm▸h.2)
theorem w3{n:AX}(h:n<=1000):n.toNat<=1000:=bn2.mpr h
theorem yG{m n:O}(h:m<=n+1)(k:¬m<=n):m=n+1:=Xw h (bn3 k)
theorem yF{m n:O}(h:m<=n)(k:¬m<n):m=n:=Xw h (fB k)
section
open PyProof.Rows
noncomputable def VQ{C:Type u}(p:C->AK)(l:I C):AK:=Kc A6 (λa _ ih=>PM ih M (p a)) l
theorem w4{C:Type u}(p:C->AK)(l:I C):VQ p l=l.any p:=by induction l with
 |nil=>rfl|cons a l ih=>
 rw[sQ,<-ih];show(PM (motive:=λ_=>AK) (VQ p l) M (p a))=_;cases p a<;>rfl
noncomputable def iN{C:Type u}(as:BW C)(p:C->AK)(i j:O):AK:=PM (sR as p i j) (PM (sR as p i j) (VQ p as.toList) (BC j as.size)) (BC i 0)
theorem w5:@sR.{u}=@iN.{u}:=by
 funext C as p i j;unfold iN;cases hi:BC i 0 with
 |false=>rfl|true=>cases hj:BC j as.size with
 |false=>rfl|true=>
 have e1:=CD hi;have e2:=CD hj;subst e1;subst e2;show _=VQ p as.toList;rw[w4,bn4]
noncomputable def iO(tn:EA)(id:D9):AD EA:=PM (motive:=λ_=>AD EA) (bN2 id) (G tn) (BC (sS id) 29827186395103491166823348853)
theorem w6:bn5.find 29827186395103491166823348853=G PySem.Builtin.«type.__new__»:=by kernel_rfl
theorem w7:PySem.treeTable=iO bn6:=by
 funext id;unfold iO;cases h:BC (sS id) 29827186395103491166823348853 with
 |false=>exact congrFun fM id|true=>
 have e:=CD h;show bn5.find (sS id)=G _;rw[e,w6,<-bN3]
noncomputable def Yp{J:Type}(e:As)(d:J)(k:U->I AA->I Xr->I As->I AA->I TypeParam->BU->AD BU->U->I U->BA->J):J:=if h:e.ctorIdx=2 then bN4 (motive_2:=λ_=>J) e h k else d
noncomputable def VS{J:Type}(e:As)(d:J)(k:U->O->BA->BA->J):J:=Ph e d λc q=>HP c d λc n p=>Pk c d λs=>k s n p q
noncomputable def docOf(s:As):U:=Yp s RO λ_ _ _ b _ _ _ _ _ _ _=>lC b RO λe _=>VS e RO λs _ _ _=>s
noncomputable def w8(d:U)(s:As):As:=Yp s s λa b c l e f g h i j z=>lC l s λx r=>VS x s λ_ k p q=>.ClassDef a b c (.Expr (.Constant (.str d) k p) q::r) e f g h i j z
noncomputable def VT:As:=(EF.main.body)[5]?.getD (.Pass ⟨0,0,0,0⟩)
noncomputable def iP:{d:U//docOf VT=d}:=⟨_,(Fast.ofString_ofList _:docOf VT=_)⟩
noncomputable def Yq(d:U):Hc:={EF with main:={EF.main with body:=EF.main.body.set 5 (w8 d VT)}}
theorem w9:EF=Yq (docOf VT):=by kernel_rfl
noncomputable def S6:Hc:=Yq iP.1
theorem J7:EF=S6:=w9.trans (congrArg Yq iP.2)
end
section
open PyProof.Rows
open PySem.Str(ofString)
open PySem.PyData(keyHash)
noncomputable abbrev bS7:Hc:=EF
noncomputable def Ba(k:O):As:=(S6.main.body)[k]?.getD (.Pass ⟨0,0,0,0⟩)
noncomputable def DB(k j:O):As:=Yp (Ba k) (Ba k) λ_ _ _ b _ _ _ _ _ _ _=>b[j]?.getD (.Pass ⟨0,0,0,0⟩)
noncomputable def iQ(s:As):U:=VI s RO λn _ _ _ _ _ _ _ _ _=>n
noncomputable def S7(s:As):Arguments:=VI s ⟨[],[],L,[],[],L,[]⟩ λ_ a _ _ _ _ _ _ _ _=>a
noncomputable def Fi(s:As):I As:=VI s [] λ_ _ b _ _ _ _ _ _ _=>b
noncomputable def BV(s:As):BU:=VI s default λ_ _ _ _ _ _ sc _ _ _=>sc
noncomputable def G6(st:As)(qual:U)(globals:A8)(closure:I (U×A8))(dflt kw doc pm:A4)(iR:AD A8)(code ct:A4)(bi:A8):Kd:={name:=iQ st,qualname:=qual,params:=S7 st,body:=.stmts (Fi st),scope:=BV st,globals,closure,defaults:=dflt,kwdefaults:=kw,doc,pyModule:=pm,annotations:=iR,code,closureTuple:=ct,builtins:=bi}
noncomputable def S8(name:U)(bases mro:I A4)(ns:A8)(qual:U)(hasDict:AK)(slotNames:I U)(sub:I A4)(abs:AK)(wA:AD AK)(wB:AK):ClassData:={name,bases,mro,ns,qualname:=qual,hasDict,slotNames,subclasses:=sub,abstract:=abs,collection:=wA,hasDel:=wB}
noncomputable def Yr(s:As):U:=lC (Fi s) RO λe _=>VS e RO λs _ _ _=>s
noncomputable def iS(k:O):U:=VS (DB k 0) RO λs _ _ _=>s
noncomputable def BL(c:A4)(d:NN):Bm:=⟨c,L,d,#[]⟩
noncomputable def sL(f:O):O->I O->I O:=RN (λ_ l=>l) (λ_ ih n l=>bC (BC n 0) l (ih (n/256) (n%256::l))) f
noncomputable def sD(n:O):U:=⟨⟨sL 64 n []⟩⟩
noncomputable def s0:U:=sD 0x5f5f6e616d655f5f
noncomputable def s1:U:=sD 0x6275696c74696e73
noncomputable def s2:U:=sD 0x5f5f646f635f5f
noncomputable def s3:U:=sD 0x5f5f7061636b6167655f5f
noncomputable def s4:U:=sD 0x5f5f6c6f616465725f5f
noncomputable def s5:U:=sD 0x5f5f737065635f5f
noncomputable def iU:U:=sD 0x456c6c6970736973
noncomputable def iV:U:=sD 0x4e6f74496d706c656d656e746564
noncomputable def S9:U:=sD 0x5f5f6d61696e5f5f
noncomputable def J8:U:=sD 0x6c61775f7274303131365f3031
noncomputable def Ys:U:=sD 0x5f5f616e6e6f746174696f6e735f5f
noncomputable def iW:U:=sD 0x5f5f6275696c74696e735f5f
noncomputable def iX:U:=sD 0x5f5f66696c655f5f
noncomputable def Ey:U:=sD 0x2f636c61696d2f6375742e7079
noncomputable def iY:U:=sD 0x5f5f6361636865645f5f
noncomputable def Yt:U:=sD 0x5f77616c6c
noncomputable def Nn:U:=sD 0x5f7475706c65676574746572
noncomputable def No:U:=sD 0x4d61746368
noncomputable def Yu:U:=sD 0x5f63616c63756c6174655f726174696f
noncomputable def Np:U:=sD 0x53657175656e63654d617463686572
noncomputable def Yv:U:=sD 0x5f666f726d61745f72616e67655f756e6966696564
noncomputable def Yw:U:=sD 0x5f706c61696e5f6e616d65
noncomputable def Nq:U:=sD 0x4142434d657461
noncomputable def Nr:U:=sD 0x5f4142434c696b65
noncomputable def Yx:U:=sD 0x5f6162635f706c61696e5f6d657461
noncomputable def Yy:U:=sD 0x667370617468
noncomputable def SA:U:=sD 0x5f636865636b5f6172675f7479706573
noncomputable def Yz:U:=sD 0x5f6765745f736570
noncomputable def SE:U:=sD 0x6a6f696e
noncomputable def Z':U:=sD 0x73706c6974726f6f74
noncomputable def Z0:U:=sD 0x626173656e616d65
noncomputable def Z1:U:=sD 0x6469726e616d65
noncomputable def Z2:U:=sD 0x6e6f726d70617468
noncomputable def Z3:U:=sD 0x736f727465645f6c6973745f646966666572656e6365
noncomputable def SF:U:=sD 0x5f6c61775f7472656573
noncomputable def SG:U:=sD 0x5f6c61775f7374726169676874
noncomputable def Z4:U:=sD 0x5f6c61775f696e6e6572
noncomputable def SH:U:=sD 0x5f6c61775f746f6c64
noncomputable def Z5:U:=sD 0x5f6c61775f67726f776e
noncomputable def SI:U:=sD 0x5f6c61775f7061697273
noncomputable def Z6:U:=sD 0x5f6c61775f72616e6765
noncomputable def Z7:U:=sD 0x5f6c61775f6368616e676573
noncomputable def SJ:U:=sD 0x5f6c61775f77616c6b6564
noncomputable def Z8:U:=sD 0x6c6177
noncomputable def iZ:U:=sD 0x3c6d6f64756c653e
noncomputable def VU:U:=sD 0x6b
noncomputable def J9:U:=sD 0x5f5f6d6f64756c655f5f
noncomputable def DU:U:=sD 0x6370793331332e646966666c6962
noncomputable def Pn:U:=sD 0x5f5f7175616c6e616d655f5f
noncomputable def Jw:U:=sD 0x5f5f66697273746c696e656e6f5f5f
noncomputable def Po:U:=sD 0x5f5f696e69745f5f
noncomputable def Z9:U:=sD 0x5f5f6765745f5f
noncomputable def ZA:U:=sD 0x5f5f7365745f5f
noncomputable def ZB:U:=sD 0x5f5f64656c6574655f5f
noncomputable def Jx:U:=sD 0x5f5f7374617469635f617474726962757465735f5f
noncomputable def El:U:=sD 0x73656c66
noncomputable def MB:U:=sD 0x696e646578
noncomputable def VV:U:=sD 0x646f63
noncomputable def ZC:U:=sD 0x6f626a
noncomputable def VW:U:=sD 0x5f5f646963745f5f
noncomputable def VX:U:=sD 0x5f5f7765616b7265665f5f
noncomputable def i_:U:=sD 0x4d6174636828612c20622c2073697a6529
noncomputable def ia:U:=sD 0x5f5f736c6f74735f5f
noncomputable def ib:U:=sD 0x5f6669656c6473
noncomputable def ic:U:=sD 0x5f6669656c645f64656661756c7473
noncomputable def ZD:U:=sD 0x5f5f6e65775f5f
noncomputable def VY:U:=sD 0x5f6d616b65
noncomputable def ZE:U:=sD 0x5f7265706c616365
noncomputable def ig:U:=sD 0x5f5f7265706c6163655f5f
noncomputable def ZF:U:=sD 0x5f5f726570725f5f
noncomputable def ZG:U:=sD 0x5f617364696374
noncomputable def ZH:U:=sD 0x5f5f6765746e6577617267735f5f
noncomputable def ii:U:=sD 0x5f5f6d617463685f617267735f5f
noncomputable def Hn:U:=sD 0x61
noncomputable def Ho:U:=sD 0x62
noncomputable def Pp:U:=sD 0x73697a65
noncomputable def SM:U:=sD 0x636c73
noncomputable def ik:U:=sD 0x726573756c74
noncomputable def il:U:=sD 0x4d617463682e5f6d616b65
noncomputable def ip:U:=sD 0x5f5f636c6173735f5f
noncomputable def ZI:U:=sD 0x4d617463682e5f7265706c616365
noncomputable def iq:U:=sD 0x416c69617320666f72206669656c64206e756d6265722030
noncomputable def ir:U:=sD 0x416c69617320666f72206669656c64206e756d6265722031
noncomputable def iu:U:=sD 0x416c69617320666f72206669656c64206e756d6265722032
noncomputable def iv:U:=sD 0x6d617463686573
noncomputable def iw:U:=sD 0x6c656e677468
noncomputable def ZJ:U:=sD 0x7365745f73657173
noncomputable def ZK:U:=sD 0x7365745f73657131
noncomputable def ZL:U:=sD 0x7365745f73657132
noncomputable def ix:U:=sD 0x5f53657175656e63654d6174636865725f5f636861696e5f62
noncomputable def ZM:U:=sD 0x66696e645f6c6f6e676573745f6d61746368
noncomputable def ZN:U:=sD 0x6765745f6d61746368696e675f626c6f636b73
noncomputable def ZO:U:=sD 0x6765745f6f70636f646573
noncomputable def ZP:U:=sD 0x6765745f67726f757065645f6f70636f646573
noncomputable def ZQ:U:=sD 0x726174696f
noncomputable def ZR:U:=sD 0x717569636b5f726174696f
noncomputable def ZS:U:=sD 0x7265616c5f717569636b5f726174696f
noncomputable def iy:U:=sD 0x0
noncomputable def ZT:U:=sD 0x69736a756e6b
noncomputable def iz:U:=sD 0x6175746f6a756e6b
noncomputable def ZU:U:=sD 0x62326a
noncomputable def MC:U:=sD 0x69
noncomputable def j0:U:=sD 0x6e
noncomputable def j2:U:=sD 0x616c6f
noncomputable def j3:U:=sD 0x616869
noncomputable def j4:U:=sD 0x626c6f
noncomputable def j5:U:=sD 0x626869
noncomputable def SN:U:=sD 0x6a
noncomputable def j6:U:=sD 0x6d61746368696e675f626c6f636b73
noncomputable def j7:U:=sD 0x78
noncomputable def j8:U:=sD 0x7374617274
noncomputable def j9:U:=sD 0x6b696e64
noncomputable def jA:U:=sD 0x6f73
noncomputable def VZ:U:=sD 0x616263
noncomputable def Pq:U:=sD 0x7265676973746572
noncomputable def jB:U:=sD 0x737562636c617373
noncomputable def Nt:U:=sD 0x636f6c6c656374696f6e732e616263
noncomputable def ZV:U:=sD 0x5f5f696e7374616e6365636865636b5f5f
noncomputable def ZW:U:=sD 0x5f5f737562636c617373636865636b5f5f
noncomputable def ZX:U:=sD 0x43
noncomputable def Pr:U:=sD 0x70617468
noncomputable def Ps:U:=sD 0x6370793331332e706f73697870617468
noncomputable def V_:U:=sD 0x70
noncomputable def SO:U:=sD 0x736570
noncomputable def jC:U:=sD 0x74726565
noncomputable def E(P:Dx)(s:U)(t:EO)(v:A4):G':=⟨keyHash P s,.str s t,v⟩
noncomputable def wC(ns:I U):EO->I A4:=Kc (λ_=>[]) (λs _ ih t=>.str s t::ih (t+1)) ns
noncomputable def fo(k:O)(st:As)(n q:U)(ns:I U)(t ln ac:O)(df:A4)(doc:AK)(md:A4)(an:AD A8):I Bm:=[BL (.type "tuple") (.seq #[] 0),BL .none (.fields #[]),BL (.type "tuple") (.seq ⟨wC ns (t+3)⟩ 0),BL (.type "tuple") (.seq #[] 0),BL .none (.func (G6 st q 0 [] .none .none .none .none L .none .none 0)),BL (.type "code") (.fields #[.str n t,.str q (t+1),.str Ey (t+2),.int (.ofNat ln) 0,.int (.ofNat ac) 0,.int 0 0,.int 0 0,.int 3 0,.ref k,.bool M,.int 181 0,.ref (k+1),.none,.ref (k+2),.ref (k+3),.ref (k+4),.int (.ofNat (t+3+ns.length)) 0,.int (.ofNat ln) 0,.str Ey (t+4+ns.length)]),BL (.type "function") (.func (G6 st q 3 [] df .none (bC doc (.str (Yr st) (t+5+ns.length)) .none) md an (.ref (k+5)) .none 0))]
noncomputable def Ad(n:O):A4:=.int (.ofNat n) 0
noncomputable def AI(n:A8):A4:=.ref n
noncomputable def Aj(s:U)(t:EO):A4:=.str s t
noncomputable def Db(s:D9):A4:=.builtin s
noncomputable def DC(l:BW A4):Bm:=BL (.type "tuple") (.seq l 0)
noncomputable def FD(n:O)(l:BW G'):Bm:=BL (.type "dict") (.dict l n)
noncomputable def Go(l:BW A4):Bm:=BL .none (.fields l)
noncomputable def Dt(s:D9)(l:BW A4):Bm:=BL (.type s) (.fields l)
noncomputable def CO(v:A4):AD A4:=G v
noncomputable def Nu(s:U)(a:O)(l r i j:O)(e:O):Bm:=Dt "code" #[Aj s a,Aj s (a+1),Aj Ey (a+2),Ad l,Ad 0,Ad 0,Ad 0,Ad 0,AI r,.bool A6,Ad i,AI (r+1),.none,.none,.none,.none,Ad j,Ad l,Aj Ey e]
noncomputable def jD(P:Dx):Bm:=⟨(.type "type"),L,.cls (S8 No [.type "tuple"] [AI 135,.type "tuple",.type "object"] 134 No A6 [] [] A6 L A6),#[CO (AI 65),L,CO (Aj No 253),CO (Aj No 261),G .none,G (.bool A6)]⟩
noncomputable def jE(l:I Bm):I Bm:=Kc (λ_=>[]) (λx _ ih b=>bC b (x::ih A6) (ih M)) l M
noncomputable def jF(n:O):D9:=sU ((sL 64 n []).map Char.ofNat)
noncomputable def Cu(P:Dx)(n:O)(t:EO):G':=E P (sD n) t (.builtin (jF n))
noncomputable def BO(P:Dx)(n:O)(t:EO):G':=E P (sD n) t (.type (jF n))
noncomputable def p0(P:Dx):Bm:=FD 159 #[E P s0 1 (Aj s1 160),E P s2 2 (Db "builtins.__doc__:str#opaque"),E P s3 3 (Db "builtins.__package__:str#opaque"),E P s4 4 (Db "builtins.__loader__:shared#opaque"),E P s5 5 (Db "builtins.__spec__#opaque"),Cu P 0x5f5f6275696c645f636c6173735f5f 6,Cu P 0x5f5f696d706f72745f5f 7,Cu P 0x616273 8,Cu P 0x616c6c 9,Cu P 0x616e79 10,Cu P 0x6173636969 11,Cu P 0x62696e 12,Cu P 0x627265616b706f696e74 13,Cu P 0x63616c6c61626c65 14,Cu P 0x636872 15,Cu P 0x636f6d70696c65 16,Cu P 0x64656c61747472 17,Cu P 0x646972 18,Cu P 0x6469766d6f64 19,Cu P 0x6576616c 20,Cu P 0x65786563 21,Cu P 0x666f726d6174 22,Cu P 0x67657461747472 23,Cu P 0x676c6f62616c73 24,Cu P 0x68617361747472 25,Cu P 0x68617368 26,Cu P 0x686578 27,Cu P 0x6964 28,Cu P 0x696e707574 29,Cu P 0x6973696e7374616e6365 30,Cu P 0x6973737562636c617373 31,Cu P 0x69746572 32,Cu P 0x6169746572 33,Cu P 0x6c656e 34,Cu P 0x6c6f63616c73 35,Cu P 0x6d6178 36,Cu P 0x6d696e 37,Cu P 0x6e657874 38,Cu P 0x616e657874 39,Cu P 0x6f6374 40,Cu P 0x6f7264 41,Cu P 0x706f77 42,Cu P 0x7072696e74 43,Cu P 0x72657072 44,Cu P 0x726f756e64 45,Cu P 0x73657461747472 46,Cu P 0x736f72746564 47,Cu P 0x73756d 48,Cu P 0x76617273 49,E P (sD 0x4e6f6e65) 50 .none,⟨keyHash P iU,.str iU 51,.ellipsis⟩,⟨keyHash P iV,.str iV 52,.notImplemented⟩,E P (sD 0x46616c7365) 53 (.bool A6),E P (sD 0x54727565) 54 (.bool M),BO P 0x626f6f6c 55,BO P 0x6d656d6f727976696577 56,BO P 0x627974656172726179 57,BO P 0x6279746573 58,BO P 0x636c6173736d6574686f64 59,BO P 0x636f6d706c6578 60,BO P 0x64696374 61,BO P 0x656e756d6572617465 62,BO P 0x66696c746572 63,BO P 0x666c6f6174 64,BO P 0x66726f7a656e736574 65,BO P 0x70726f7065727479 66,BO P 0x696e74 67,BO P 0x6c697374 68,BO P 0x6d6170 69,BO P 0x6f626a656374 70,BO P 0x72616e6765 71,BO P 0x7265766572736564 72,BO P 0x736574 73,BO P 0x736c696365 74,BO P 0x7374617469636d6574686f64 75,BO P 0x737472 76,BO P 0x7375706572 77,BO P 0x7475706c65 78,BO P 0x74797065 79,BO P 0x7a6970 80,E P (sD 0x5f5f64656275675f5f) 81 (.bool M),BO P 0x42617365457863657074696f6e 82,BO P 0x42617365457863657074696f6e47726f7570 83,BO P 0x457863657074696f6e 84,BO P 0x47656e657261746f7245786974 85,BO P 0x4b6579626f617264496e74657272757074 86,BO P 0x53797374656d45786974 87,BO P 0x41726974686d657469634572726f72 88,BO P 0x417373657274696f6e4572726f72 89,BO P 0x4174747269627574654572726f72 90,BO P 0x4275666665724572726f72 91,BO P 0x454f464572726f72 92,BO P 0x496d706f72744572726f72 93,BO P 0x4c6f6f6b75704572726f72 94,BO P 0x4d656d6f72794572726f72 95,BO P 0x4e616d654572726f72 96,BO P 0x4f534572726f72 97,BO P 0x5265666572656e63654572726f72 98,BO P 0x52756e74696d654572726f72 99,BO P 0x53746f704173796e63497465726174696f6e 100,BO P 0x53746f70497465726174696f6e 101,BO P 0x53796e7461784572726f72 102,BO P 0x53797374656d4572726f72 103,BO P 0x547970654572726f72 104,BO P 0x56616c75654572726f72 105,BO P 0x5761726e696e67 106,BO P 0x466c6f6174696e67506f696e744572726f72 107,BO P 0x4f766572666c6f774572726f72 108,BO P 0x5a65726f4469766973696f6e4572726f72 109,BO P 0x42797465735761726e696e67 110,BO P 0x4465707265636174696f6e5761726e696e67 111,BO P 0x456e636f64696e675761726e696e67 112,BO P 0x4675747572655761726e696e67 113,BO P 0x496d706f72745761726e696e67 114,BO P 0x50656e64696e674465707265636174696f6e5761726e696e67 115,BO P 0x5265736f757263655761726e696e67 116,BO P 0x52756e74696d655761726e696e67 117,BO P 0x53796e7461785761726e696e67 118,BO P 0x556e69636f64655761726e696e67 119,BO P 0x557365725761726e696e67 120,BO P 0x426c6f636b696e67494f4572726f72 121,BO P 0x4368696c6450726f636573734572726f72 122,BO P 0x436f6e6e656374696f6e4572726f72 123,BO P 0x46696c654578697374734572726f72 124,BO P 0x46696c654e6f74466f756e644572726f72 125,BO P 0x496e7465727275707465644572726f72 126,BO P 0x4973414469726563746f72794572726f72 127,BO P 0x4e6f74414469726563746f72794572726f72 128,BO P 0x5065726d697373696f6e4572726f72 129,BO P 0x50726f636573734c6f6f6b75704572726f72 130,BO P 0x54696d656f75744572726f72 131,BO P 0x496e64656e746174696f6e4572726f72 132,BO P 0x5f496e636f6d706c657465496e7075744572726f72 133,BO P 0x496e6465784572726f72 134,BO P 0x4b65794572726f72 135,BO P 0x4d6f64756c654e6f74466f756e644572726f72 136,BO P 0x4e6f74496d706c656d656e7465644572726f72 137,BO P 0x507974686f6e46696e616c697a6174696f6e4572726f72 138,BO P 0x526563757273696f6e4572726f72 139,BO P 0x556e626f756e644c6f63616c4572726f72 140,BO P 0x556e69636f64654572726f72 141,BO P 0x42726f6b656e506970654572726f72 142,BO P 0x436f6e6e656374696f6e41626f727465644572726f72 143,BO P 0x436f6e6e656374696f6e526566757365644572726f72 144,BO P 0x436f6e6e656374696f6e52657365744572726f72 145,BO P 0x5461624572726f72 146,BO P 0x556e69636f64654465636f64654572726f72 147,BO P 0x556e69636f6465456e636f64654572726f72 148,BO P 0x556e69636f64655472616e736c6174654572726f72 149,BO P 0x457863657074696f6e47726f7570 150,E P (sD 0x456e7669726f6e6d656e744572726f72) 151 (.type "OSError"),E P (sD 0x494f4572726f72) 152 (.type "OSError"),Cu P 0x6f70656e 153,E P (sD 0x71756974) 154 (Db "builtins.quit#opaque"),E P (sD 0x65786974) 155 (Db "builtins.exit#opaque"),E P (sD 0x636f70797269676874) 156 (Db "builtins.copyright#opaque"),E P (sD 0x63726564697473) 157 (Db "builtins.credits#opaque"),E P (sD 0x6c6963656e7365) 158 (Db "builtins.license#opaque"),E P (sD 0x68656c70) 159 (Db "builtins.help#opaque")]
noncomputable def p1(P:Dx):Bm:=FD 2 #[E P s1 162 (AI 4),E P S9 163 (AI 5)]
noncomputable def p2(P:Dx):Bm:=BL .none (.dict #[] 0)
noncomputable def p3(P:Dx):Bm:=FD 9 #[E P s0 165 (Aj S9 164),E P s2 166 .none,E P s3 167 .none,E P s4 168 (Db "__main__.__loader__#opaque"),E P s5 169 .none,E P Ys 170 (AI 6),E P iW 171 (AI 4),E P iX 173 (Aj Ey 172),E P iY 174 .none]
noncomputable def p4(P:Dx):Bm:=⟨(.type "module"),G 0,.plain,#[]⟩
noncomputable def p5(P:Dx):Bm:=⟨(.type "module"),G 3,.plain,#[]⟩
noncomputable def p6(P:Dx):Bm:=FD 0 #[]
noncomputable def p7(P:Dx):Bm:=DC #[]
noncomputable def p8(P:Dx):Bm:=Go #[]
noncomputable def p9(P:Dx):Bm:=Nu iZ 176 1 7 175 179 180
noncomputable def jG(P:Dx):Bm:=⟨(.type "frame"),L,.plain,#[CO (AI 9),CO (AI 3),CO (AI 3),L,CO (Aj S9 164),L,CO (AI 0)]⟩
noncomputable def jH(P:Dx):Bm:=DC #[]
noncomputable def wD(P:Dx):Bm:=Go #[]
noncomputable def jI(P:Dx):Bm:=Nu iZ 182 1 11 181 185 186
noncomputable def jJ(P:Dx):Bm:=⟨(.type "frame"),L,.plain,#[CO (AI 13),CO (AI 3),CO (AI 3),L,CO (Aj S9 164),L,CO (AI 0)]⟩
noncomputable def jK(P:Dx):I Bm:=[[p0 P,p1 P,p2 P,FD 38 #[E P s0 165 (Aj J8 791),E P s2 166 .none,E P s3 167 .none,E P s4 168 (Db "__main__.__loader__#opaque"),E P s5 169 .none,E P Ys 170 (AI 6),E P iW 171 (AI 4),E P iX 173 (Aj Ey 172),E P iY 174 .none,E P Yt 193 (AI 21),E P Nn 252 (AI 60),E P No 380 (AI 135),E P Yu 388 (AI 145),E P Np 582 (AI 242),E P Yv 593 (AI 253),E P Yw 604 (AI 260),E P Nq 630 (AI 277),E P Nr 673 (AI 310),E P Yx 680 (AI 319),E P Yy 692 (AI 326),E P SA 705 (AI 333),E P Yz 714 (AI 340),E P SE 726 (AI 347),E P Z' 736 (AI 354),E P Z0 746 (AI 361),E P Z1 757 (AI 368),E P Z2 773 (AI 375),E P Z3 790 (AI 382),E P SF 798 (AI 387),E P SG 804 (AI 392),E P Z4 814 (AI 399),E P SH 820 (AI 404),E P Z5 831 (AI 411),E P SI 837 (AI 416),E P Z6 845 (AI 423),E P Z7 860 (AI 430),E P SJ 866 (AI 435),E P Z8 875 (AI 442)],p4 P,p5 P,p6 P,p7 P,p8 P,p9 P,jG P,jH P,Go #[Ad 1,Ad 0,AI 20,Ad 5,Ad 0,AI 27,Ad 23,Ad 0,AI 71,Ad 66,Ad 0,AI 144,Ad 70,Ad 0,AI 151,Ad 462,Ad 0,AI 252,Ad 472,Ad 0,AI 259,Ad 478,Ad 0,AI 266,Ad 483,Ad 0,AI 285,Ad 498,Ad 0,AI 318,Ad 502,Ad 0,AI 325,Ad 519,Ad 0,AI 332,Ad 531,Ad 0,AI 339,Ad 536,Ad 0,AI 346,Ad 557,Ad 0,AI 353,Ad 574,Ad 0,AI 360,Ad 580,Ad 0,AI 367,Ad 589,Ad 0,AI 374,Ad 616,Ad 0,AI 381,Ad 656,Ad 0,AI 386,Ad 666,Ad 0,AI 391,Ad 668,Ad 0,AI 398,Ad 676,Ad 0,AI 403,Ad 691,Ad 0,AI 410,Ad 699,Ad 0,AI 415,Ad 705,Ad 0,AI 422,Ad 707,Ad 0,AI 429,Ad 716,Ad 0,AI 434,Ad 725,Ad 0,AI 441],jI P,jJ P],fo 15 (Ba 0) Yt Yt [VU] 187 1 1 .none A6 (Aj S9 164) L,[DC #[],Dt "builtin_function_or_method" #[Db "type.__prepare__",.type "type"],FD 8 #[E P J9 203 (Aj DU 194),E P Pn 205 (Aj Nn 204),E P Jw 207 (.int 5 206),E P Po 216 (AI 35),E P Z9 225 (AI 43),E P ZA 234 (AI 50),E P ZB 242 (AI 57),E P Jx 245 (AI 58)],DC #[],Go #[Ad 7,Ad 4,AI 34,Ad 11,Ad 4,AI 42,Ad 18,Ad 4,AI 49,Ad 21,Ad 4,AI 56],Nu Nn 198 5 25 181 201 202,⟨(.type "frame"),L,.plain,#[CO (AI 27),CO (AI 3),CO (AI 24),L,CO (Aj DU 194),L,CO (AI 0)]⟩],fo 29 (DB 2 0) Po (sD 0x5f7475706c656765747465722e5f5f696e69745f5f) [El,MB,VV] 208 7 3 .none A6 (Aj DU 194) L,[DC #[.none]],fo 37 (DB 2 1) Z9 (sD 0x5f7475706c656765747465722e5f5f6765745f5f) [El,ZC,sD 0x6f626a74797065] 217 11 3 (AI 36) A6 (Aj DU 194) L,fo 44 (DB 2 2) ZA (sD 0x5f7475706c656765747465722e5f5f7365745f5f) [El,ZC,sD 0x76616c7565] 226 18 3 .none A6 (Aj DU 194) L,fo 51 (DB 2 3) ZB (sD 0x5f7475706c656765747465722e5f5f64656c6574655f5f) [El,ZC] 235 21 2 .none A6 (Aj DU 194) L,[DC #[Aj s2 243,Aj MB 244],FD 4 #[E P J9 203 (Aj DU 194),E P Jw 207 (.int 5 206),E P Po 216 (AI 35),E P Z9 225 (AI 43),E P ZA 234 (AI 50),E P ZB 242 (AI 57),E P Jx 245 (AI 58),E P VW 247 (AI 61),E P VX 249 (AI 62),E P s2 250 .none],⟨(.type "type"),L,.cls (S8 Nn [.type "object"] [AI 60,.type "object"] 59 Nn M [] [] A6 L A6),#[L,L,CO (Aj Nn 196),CO (Aj Nn 204),CO (Db "object.__new__"),G (.bool M)]⟩,Dt "getset_descriptor" #[Aj VW 246,AI 60,Db "function.__dict__",Db "function.__dict__#set"],Dt "getset_descriptor" #[Aj VX 248,AI 60,Db "ExceptionGroup.__weakref__",.none],Dt "super" #[AI 60,AI 60,AI 60],Dt "builtin_function_or_method" #[Db "object.__init_subclass__",AI 60],DC #[.type "tuple"],Dt "builtin_function_or_method" #[Db "type.__prepare__",.type "type"],FD 20 #[E P J9 260 (Aj DU 194),E P Pn 262 (Aj No 261),E P Jw 264 (.int 23 263),E P s2 266 (Aj i_ 265),E P ia 268 (AI 73),E P ib 272 (AI 74),E P ic 273 (AI 75),E P ZD 284 (AI 82),E P VY 306 (AI 91),E P ZE 317 (AI 100),E P ig 318 (AI 100),E P ZF 326 (AI 107),E P ZG 333 (AI 114),E P ZH 341 (AI 121),E P ii 345 (AI 122),E P Hn 355 (AI 124),E P Ho 365 (AI 127),E P Pp 375 (AI 130),E P Jx 376 (AI 132),E P (sD 0x5f5f636c61737363656c6c5f5f) 377 (AI 68)],BL (.type "cell") (.cell (CO (AI 135))),DC #[],Go #[Ad 29,Ad 4,AI 81,Ad 34,Ad 4,AI 88,Ad 41,Ad 4,AI 99,Ad 52,Ad 4,AI 106,Ad 56,Ad 4,AI 113,Ad 59,Ad 4,AI 120],Nu No 255 23 69 181 258 259,⟨(.type "frame"),L,.plain,#[CO (AI 71),CO (AI 3),CO (AI 67),L,CO (Aj DU 194),L,CO (AI 0)]⟩,DC #[],DC #[Aj Hn 269,Aj Ho 270,Aj Pp 271],FD 0 #[]],fo 76 (DB 3 4) ZD (sD 0x4d617463682e5f5f6e65775f5f) [sD 0x5f636c73,Hn,Ho,Pp] 274 29 4 .none M (Aj DU 194) L,fo 83 (DB 3 5) VY il [SM,sD 0x6974657261626c65,ik] 285 33 2 .none M (Aj DU 194) (G 92),[FD 5 #[E P J9 295 (Aj DU 194),E P s0 298 (Aj VY 297),E P Pn 301 (Aj il 300),E P s2 303 (Aj (sD 0x4d616b652061206e6577204d61746368206f626a6563742066726f6d20612073657175656e6365206f72206974657261626c65) 293),E P Ys 305 (AI 92)],⟨(.type "classmethod"),G 90,(.fields #[AI 89,.bool A6]),#[]⟩,FD 0 #[],DC #[AI 68],DC #[Aj ip 310],Go #[],DC #[Aj El 311,Aj (sD 0x6b776473) 312,Aj ik 313],DC #[],BL .none (.func (G6 (DB 3 6) ZI 0 [] .none .none .none .none L .none .none 0)),Dt "code" #[Aj ZE 307,Aj ZI 308,Aj Ey 309,Ad 41,Ad 1,Ad 1,Ad 0,Ad 11,AI 94,.bool M,Ad 181,AI 95,.none,AI 96,AI 97,AI 98,Ad 314,Ad 41,Aj Ey 315],BL (.type "function") (.func (G6 (DB 3 6) ZI 3 [(ip,68)] .none .none (.str (Yr (DB 3 6)) 316) (Aj DU 194) L (AI 99) (AI 93) 0))],fo 101 (DB 3 8) ZF (sD 0x4d617463682e5f5f726570725f5f) [El] 319 52 1 .none M (Aj DU 194) L,fo 108 (DB 3 9) ZG (sD 0x4d617463682e5f617364696374) [El] 327 56 1 .none A6 (Aj DU 194) L,fo 115 (DB 3 10) ZH (sD 0x4d617463682e5f5f6765746e6577617267735f5f) [El] 334 59 1 .none M (Aj DU 194) L,[DC #[Aj Hn 342,Aj Ho 343,Aj Pp 344],FD 2 #[E P MB 352 (.int 0 346),E P s2 354 (Aj iq 347)],⟨(AI 60),G 123,.plain,#[]⟩,BL (.type "frame") (.dict #[E P El 348 (AI 124),E P MB 349 (.int 0 346),E P VV 350 (Aj iq 347)] 3),FD 2 #[E P MB 362 (.int 1 356),E P s2 364 (Aj ir 357)],⟨(AI 60),G 126,.plain,#[]⟩,BL (.type "frame") (.dict #[E P El 358 (AI 127),E P MB 359 (.int 1 356),E P VV 360 (Aj ir 357)] 3),FD 2 #[E P MB 372 (.int 2 366),E P s2 374 (Aj iu 367)],⟨(AI 60),G 129,.plain,#[]⟩,BL (.type "frame") (.dict #[E P El 368 (AI 130),E P MB 369 (.int 2 366),E P VV 370 (Aj iu 367)] 3),DC #[],BL (.type "list") (.seq #[] 0),FD 2 #[E P J9 260 (Aj DU 194),E P Jw 264 (.int 23 263),E P s2 266 (Aj i_ 265),E P ia 268 (AI 73),E P ib 272 (AI 74),E P ic 273 (AI 75),E P ZD 284 (AI 136),E P VY 306 (AI 91),E P ZE 317 (AI 100),E P ig 318 (AI 100),E P ZF 326 (AI 107),E P ZG 333 (AI 114),E P ZH 341 (AI 121),E P ii 345 (AI 122),E P Hn 355 (AI 124),E P Ho 365 (AI 127),E P Pp 375 (AI 130),E P Jx 376 (AI 132)],jD P,Dt "staticmethod" #[AI 82],Dt "super" #[AI 135,AI 135,AI 135],Dt "builtin_function_or_method" #[Db "object.__init_subclass__",AI 135]],fo 139 (Ba 4) Yu Yu [iv,iw] 381 66 2 .none A6 (Aj DU 194) L,[DC #[],Dt "builtin_function_or_method" #[Db "type.__prepare__",.type "type"],FD 17 #[E P J9 396 (Aj DU 194),E P Pn 398 (Aj Np 397),E P Jw 400 (.int 70 399),E P s2 402 (.str (iS 5) 401),E P Po 417 (AI 160),E P ZJ 427 (AI 167),E P ZK 436 (AI 174),E P ZL 445 (AI 181),E P ix 463 (AI 188),E P ZM 491 (AI 196),E P ZN 518 (AI 203),E P ZO 533 (AI 210),E P ZP 542 (AI 218),E P ZQ 551 (AI 225),E P ZR 558 (AI 232),E P ZS 565 (AI 239),E P Jx 576 (AI 240)],DC #[],Go #[Ad 145,Ad 4,AI 159,Ad 173,Ad 4,AI 166,Ad 184,Ad 4,AI 173,Ad 209,Ad 4,AI 180,Ad 236,Ad 4,AI 187,Ad 260,Ad 4,AI 195,Ad 335,Ad 4,AI 202,Ad 383,Ad 4,AI 209,Ad 430,Ad 4,AI 217,Ad 433,Ad 4,AI 224,Ad 457,Ad 4,AI 231,Ad 460,Ad 4,AI 238],Nu Np 391 70 149 181 394 395,⟨(.type "frame"),L,.plain,#[CO (AI 151),CO (AI 3),CO (AI 148),L,CO (Aj DU 194),L,CO (AI 0)]⟩,DC #[.none,Aj iy 404,Aj iy 405,.bool M]],fo 154 (DB 5 1) Po (sD 0x53657175656e63654d6174636865722e5f5f696e69745f5f) [El,ZT,Hn,Ho,iz] 406 145 5 (AI 153) M (Aj DU 194) L,fo 161 (DB 5 2) ZJ (sD 0x53657175656e63654d6174636865722e7365745f73657173) [El,Hn,Ho] 418 173 3 .none M (Aj DU 194) L,fo 168 (DB 5 3) ZK (sD 0x53657175656e63654d6174636865722e7365745f73657131) [El,Hn] 428 184 2 .none M (Aj DU 194) L,fo 175 (DB 5 4) ZL (sD 0x53657175656e63654d6174636865722e7365745f73657132) [El,Ho] 437 209 2 .none M (Aj DU 194) L,fo 182 (DB 5 5) (sD 0x5f5f636861696e5f62) (sD 0x53657175656e63654d6174636865722e5f5f636861696e5f62) [El,Ho,ZU,MC,sD 0x656c74,sD 0x696e6469636573,sD 0x6a756e6b,ZT,sD 0x706f70756c6172,j0,sD 0x6e74657374,sD 0x69647873] 446 236 1 .none A6 (Aj DU 194) L,[DC #[.int 0 464,.none,.int 0 465,.none]],fo 190 (DB 5 6) ZM (sD 0x53657175656e63654d6174636865722e66696e645f6c6f6e676573745f6d61746368) [El,j2,j3,j4,j5,Hn,Ho,ZU,sD 0x6973626a756e6b,sD 0x6265737469,sD 0x626573746a,sD 0x6265737473697a65,sD 0x6a326c656e,sD 0x6e6f7468696e67,MC,sD 0x6a326c656e676574,sD 0x6e65776a326c656e,SN,VU] 466 260 5 (AI 189) M (Aj DU 194) L,fo 197 (DB 5 7) ZN (sD 0x53657175656e63654d6174636865722e6765745f6d61746368696e675f626c6f636b73) [El,sD 0x6c61,sD 0x6c62,sD 0x7175657565,j6,j2,j3,j4,j5,MC,SN,VU,j7,sD 0x6931,sD 0x6a31,sD 0x6b31,sD 0x6e6f6e5f61646a6163656e74,sD 0x6932,sD 0x6a32,sD 0x6b32] 492 335 1 .none M (Aj DU 194) L,fo 204 (DB 5 8) ZO (sD 0x53657175656e63654d6174636865722e6765745f6f70636f646573) [El,MC,SN,sD 0x616e73776572,sD 0x6169,sD 0x626a,Pp,sD 0x746167] 519 383 1 .none M (Aj DU 194) L,[DC #[.int 3 534]],fo 212 (DB 5 9) ZP (sD 0x53657175656e63654d6174636865722e6765745f67726f757065645f6f70636f646573) [El,j0] 535 430 2 (AI 211) A6 (Aj DU 194) L,fo 219 (DB 5 10) ZQ (sD 0x53657175656e63654d6174636865722e726174696f) [El,iv] 543 433 1 .none M (Aj DU 194) L,fo 226 (DB 5 11) ZR (sD 0x53657175656e63654d6174636865722e717569636b5f726174696f) [El] 552 457 1 .none A6 (Aj DU 194) L,fo 233 (DB 5 12) ZS (sD 0x53657175656e63654d6174636865722e7265616c5f717569636b5f726174696f) [El] 559 460 1 .none A6 (Aj DU 194) L,[DC #[Aj Hn 566,Aj iz 567,Aj Ho 568,Aj ZU 569,Aj (sD 0x626a756e6b) 570,Aj (sD 0x62706f70756c6172) 571,Aj (sD 0x66756c6c62636f756e74) 572,Aj ZT 573,Aj j6 574,Aj (sD 0x6f70636f646573) 575],FD 3 #[E P J9 396 (Aj DU 194),E P Jw 400 (.int 70 399),E P s2 402 (.str (iS 5) 401),E P Po 417 (AI 160),E P ZJ 427 (AI 167),E P ZK 436 (AI 174),E P ZL 445 (AI 181),E P ix 463 (AI 188),E P ZM 491 (AI 196),E P ZN 518 (AI 203),E P ZO 533 (AI 210),E P ZP 542 (AI 218),E P ZQ 551 (AI 225),E P ZR 558 (AI 232),E P ZS 565 (AI 239),E P Jx 576 (AI 240),E P VW 578 (AI 243),E P VX 580 (AI 244)],⟨(.type "type"),L,.cls (S8 Np [.type "object"] [AI 242,.type "object"] 241 Np M [] [] A6 L A6),#[L,L,CO (Aj Np 389),CO (Aj Np 397),CO (Db "object.__new__"),G (.bool M)]⟩,Dt "getset_descriptor" #[Aj VW 577,AI 242,Db "function.__dict__",Db "function.__dict__#set"],Dt "getset_descriptor" #[Aj VX 579,AI 242,Db "ExceptionGroup.__weakref__",.none],Dt "super" #[AI 242,AI 242,AI 242],Dt "builtin_function_or_method" #[Db "object.__init_subclass__",AI 242]],fo 247 (Ba 6) Yv Yv [j8,sD 0x73746f70,sD 0x626567696e6e696e67,iw] 583 462 2 .none M (Aj DU 194) L,fo 254 (Ba 8) Yw Yw [j7,sD 0x77686174,j9] 596 472 2 .none A6 (Aj jA 594) L,[DC #[.type "type"],Dt "builtin_function_or_method" #[Db "type.__prepare__",.type "type"],FD 5 #[E P J9 614 (Aj VZ 605),E P Pn 616 (Aj Nq 615),E P Jw 618 (.int 478 617),E P Pq 626 (AI 274),E P Jx 627 (AI 275)],DC #[],Go #[Ad 480,Ad 4,AI 273],Nu Nq 609 478 264 181 612 613,⟨(.type "frame"),L,.plain,#[CO (AI 266),CO (AI 3),CO (AI 263),L,CO (Aj VZ 605),L,CO (AI 0)]⟩],fo 268 (DB 10 0) Pq (sD 0x4142434d6574612e7265676973746572) [SM,jB] 619 480 2 .none A6 (Aj VZ 605) L,[DC #[],FD 2 #[E P J9 614 (Aj VZ 605),E P Jw 618 (.int 478 617),E P Pq 626 (AI 274),E P Jx 627 (AI 275),E P s2 628 .none],⟨(.type "type"),L,.cls (S8 Nq [.type "type"] [AI 277,.type "type",.type "object"] 276 Nq M [] [AI 310] A6 L A6),#[CO (AI 261),L,CO (Aj Nq 607),CO (Aj Nq 615),CO (Db "type.__new__"),G (.bool M)]⟩,Dt "super" #[AI 277,AI 277,AI 277],Dt "builtin_function_or_method" #[Db "object.__init_subclass__",AI 277],DC #[AI 277],Dt "builtin_function_or_method" #[Db "type.__prepare__",.type "type"],FD 7 #[E P J9 640 (Aj Nt 631),E P Pn 642 (Aj Nr 641),E P Jw 644 (.int 483 643),E P ZV 653 (AI 293),E P ZW 661 (AI 300),E P Pq 669 (AI 307),E P Jx 670 (AI 308)],DC #[],Go #[Ad 485,Ad 4,AI 292,Ad 491,Ad 4,AI 299,Ad 496,Ad 4,AI 306],Nu Nr 635 483 283 181 638 639,⟨(.type "frame"),L,.plain,#[CO (AI 285),CO (AI 3),CO (AI 282),L,CO (Aj Nt 631),L,CO (AI 0)]⟩],fo 287 (DB 12 0) ZV (sD 0x5f4142434c696b652e5f5f696e7374616e6365636865636b5f5f) [SM,sD 0x696e7374616e6365,ZX] 645 485 2 .none A6 (Aj Nt 631) L,fo 294 (DB 12 1) ZW (sD 0x5f4142434c696b652e5f5f737562636c617373636865636b5f5f) [SM,ZX] 654 491 2 .none A6 (Aj Nt 631) L,fo 301 (DB 12 2) Pq (sD 0x5f4142434c696b652e7265676973746572) [SM,jB] 662 496 2 .none A6 (Aj Nt 631) L,[DC #[],FD 2 #[E P J9 640 (Aj Nt 631),E P Jw 644 (.int 483 643),E P ZV 653 (AI 293),E P ZW 661 (AI 300),E P Pq 669 (AI 307),E P Jx 670 (AI 308),E P s2 671 .none],⟨(.type "type"),L,.cls (S8 Nr [AI 277] [AI 310,AI 277,.type "type",.type "object"] 309 Nr M [] [] A6 L A6),#[CO (AI 280),L,CO (Aj Nr 633),CO (Aj Nr 641),CO (Db "type.__new__"),G (.bool M)]⟩,Dt "super" #[AI 310,AI 310,AI 310],Dt "builtin_function_or_method" #[Db "object.__init_subclass__",AI 310]],fo 313 (Ba 13) Yx Yx [ZX] 674 498 1 .none A6 (Aj Nt 631) L,fo 320 (Ba 15) Yy Yy [Pr,j9,sD 0x686f6f6b,sD 0x676976656e] 683 502 1 .none A6 (Aj jA 681) L,[DC #[],Go #[],DC #[Aj (sD 0x66756e636e616d65) 698,Aj (sD 0x61726773) 699,Aj (sD 0x686173737472) 700,Aj (sD 0x6861736279746573) 701,Aj (sD 0x73) 702],DC #[],BL .none (.func (G6 (Ba 17) SA 0 [] .none .none .none .none L .none .none 0)),Dt "code" #[Aj SA 695,Aj SA 696,Aj Ey 697,Ad 519,Ad 1,Ad 0,Ad 0,Ad 7,AI 327,.bool M,Ad 181,AI 328,.none,AI 329,AI 330,AI 331,Ad 703,Ad 519,Aj Ey 704],BL (.type "function") (.func (G6 (Ba 17) SA 3 [] .none .none .none (Aj (sD 0x6370793331332e67656e6572696370617468) 693) L (AI 332) .none 0))],fo 334 (Ba 19) Yz Yz [Pr] 708 531 1 .none A6 (Aj Ps 706) L,[DC #[],Go #[],DC #[Aj Hn 718,Aj V_ 719,Aj SO 720,Aj Pr 721,Aj Ho 722],DC #[],BL .none (.func (G6 (Ba 20) SE 0 [] .none .none .none .none L .none .none 0)),Dt "code" #[Aj SE 715,Aj SE 716,Aj Ey 717,Ad 536,Ad 1,Ad 0,Ad 0,Ad 7,AI 341,.bool M,Ad 181,AI 342,.none,AI 343,AI 344,AI 345,Ad 723,Ad 536,Aj Ey 724],BL (.type "function") (.func (G6 (Ba 20) SE 3 [] .none .none (.str (Yr (Ba 20)) 725) (Aj Ps 706) L (AI 346) .none 0))],fo 348 (Ba 21) Z' Z' [V_,SO,sD 0x656d707479] 727 557 1 .none M (Aj Ps 706) L,fo 355 (Ba 22) Z0 Z0 [V_,SO,MC] 737 574 1 .none M (Aj Ps 706) L,fo 362 (Ba 23) Z1 Z1 [V_,SO,MC,sD 0x68656164] 747 580 1 .none M (Aj Ps 706) L,fo 369 (Ba 24) Z2 Z2 [Pr,SO,sD 0x646f74,sD 0x646f74646f74,sD 0x5f,sD 0x696e697469616c5f736c6173686573,sD 0x636f6d7073,sD 0x6e65775f636f6d7073,sD 0x636f6d70] 758 589 1 .none M (Aj Ps 706) L,fo 376 (Ba 26) Z3 Z3 [sD 0x6578706563746564,sD 0x61637475616c,MC,SN,sD 0x6d697373696e67,sD 0x756e6578706563746564,sD 0x65,Hn] 776 616 2 .none M (Aj (sD 0x6370793331332e756e6974746573742e7574696c) 774) L,[DC #[],Go #[],BL .none (.func (G6 (Ba 28) SF 0 [] .none .none .none .none L .none .none 0)),Dt "code" #[Aj SF 793,Aj SF 794,Aj Ey 795,Ad 656,Ad 1,Ad 0,Ad 0,Ad 3,AI 383,.bool M,Ad 181,AI 384,.none,.none,.none,AI 385,Ad 796,Ad 656,Aj Ey 797],BL (.type "function") (.func (G6 (Ba 28) SF 3 [] .none .none .none (Aj J8 791) L (AI 386) .none 0)),DC #[],Go #[],BL .none (.func (G6 (Ba 29) SG 0 [] .none .none .none .none L .none .none 0)),Dt "code" #[Aj SG 799,Aj SG 800,Aj Ey 801,Ad 666,Ad 1,Ad 0,Ad 0,Ad 3,AI 388,.bool M,Ad 181,AI 389,.none,.none,.none,AI 390,Ad 802,Ad 666,Aj Ey 803],BL (.type "function") (.func (G6 (Ba 29) SG 3 [] .none .none .none (Aj J8 791) L (AI 391) .none 0))],fo 393 (Ba 30) Z4 Z4 [jC,sD 0x706c616365,sD 0x696e6e6572,Pr] 805 668 2 .none A6 (Aj J8 791) L,[DC #[],Go #[],BL .none (.func (G6 (Ba 31) SH 0 [] .none .none .none .none L .none .none 0)),Dt "code" #[Aj SH 815,Aj SH 816,Aj Ey 817,Ad 676,Ad 3,Ad 0,Ad 0,Ad 3,AI 400,.bool M,Ad 181,AI 401,.none,.none,.none,AI 402,Ad 818,Ad 676,Aj Ey 819],BL (.type "function") (.func (G6 (Ba 31) SH 3 [] .none .none .none (Aj J8 791) L (AI 403) .none 0))],fo 405 (Ba 32) Z5 Z5 [jC,sD 0x746f70,Pr,sD 0x6e6f6465,sD 0x70617274] 821 691 1 .none A6 (Aj J8 791) L,[DC #[],Go #[],BL .none (.func (G6 (Ba 33) SI 0 [] .none .none .none .none L .none .none 0)),Dt "code" #[Aj SI 832,Aj SI 833,Aj Ey 834,Ad 699,Ad 2,Ad 0,Ad 0,Ad 3,AI 412,.bool M,Ad 181,AI 413,.none,.none,.none,AI 414,Ad 835,Ad 699,Aj Ey 836],BL (.type "function") (.func (G6 (Ba 33) SI 3 [] .none .none .none (Aj J8 791) L (AI 415) .none 0))],fo 417 (Ba 34) Z6 Z6 [j8,sD 0x636f756e74] 838 705 2 .none A6 (Aj J8 791) L,fo 424 (Ba 35) Z7 Z7 [Hn,Ho,sD 0x7061697273,sD 0x726f7773,VU,MC,SN,sD 0x6c6f7374,sD 0x776f6e] 846 707 2 .none A6 (Aj J8 791) L,[DC #[],Go #[],BL .none (.func (G6 (Ba 36) SJ 0 [] .none .none .none .none L .none .none 0)),Dt "code" #[Aj SJ 861,Aj SJ 862,Aj Ey 863,Ad 716,Ad 3,Ad 0,Ad 0,Ad 3,AI 431,.bool M,Ad 181,AI 432,.none,.none,.none,AI 433,Ad 864,Ad 716,Aj Ey 865],BL (.type "function") (.func (G6 (Ba 36) SJ 3 [] .none .none .none (Aj J8 791) L (AI 434) .none 0))],fo 436 (Ba 37) Z8 Z8 [sD 0x736372697074,sD 0x647261776e,sD 0x746f6c645f736f] 867 725 1 .none A6 (Aj J8 791) L].flatten
noncomputable def wE(f:O):I Bm->BT:=RN (λ_=>.nil) (λ_ ih l=>lC l .nil λx r=>.node x (ih (jE r)) (ih (jE (r.drop 1)))) f
noncomputable def jL(P:Dx):BT:=wE 12 (jK P)
noncomputable def wF(P:Dx):BT:=(.node (p0 P) (.node (p1 P) (.node (p3 P) (.node (p7 P) .nil .nil) (.node (jH P) .nil .nil)) (.node (p5 P) (.node (p9 P) .nil .nil) (.node (jI P) .nil .nil))) (.node (p2 P) (.node (p4 P) (.node (p8 P) .nil .nil) (.node (wD P) .nil .nil)) (.node (p6 P) (.node (jG P) .nil .nil) (.node (jJ P) .nil .nil))))
noncomputable def Bb(P:Dx):Ge:=(jK P).zipIdx.map λp=>(p.2,p.1)
end
section
noncomputable abbrev Tx:=I O
noncomputable def CU(a b:Tx):AK:=Kc (motive:=λ_=>Tx->AK) (λb=>l0 b A6 M) (λx _ ih b=>lC b A6 λy t=>bT (BC x y) A6 (ih t)) a b
noncomputable def Bn:AK->I Tx
 |false=>[[],[120],[120,121],[121,120],[120,121,122],[122,120,121],[121,121],[120,122,120,121],[120,118,121,122,117,119],[118,121,122],[120,120]]|true=>[[],[120],[120,121],[121,120],[120,121,122],[122,120,121],[121,121],[120,122,120,121],[120,119,121,122,116,119],[119,121,122,118]]
noncomputable def IJ:I Tx:=[[],[120],[120,121],[121,120],[120,121,122],[122,120,121],[121,121],[120,122,120,121]]
inductive V where|none|bool(b:AK)|int(i:AX)|str(s:Tx)|tup(c:AD A8)(Y:I V)|top(v:A4)|ref(i:O)|H7(lo hi:AX)|B'(k:O)(i:O)|sym(k:AK)(t:Tx)(ok:t∈Bn k)|IK(m r:O)|Nv(n:O)|any deriving Inhabited
noncomputable def wG(v:V):AD (AK):=if h:v.ctorIdx=1 then V.bool.elim (motive_1:=λ_=>AD (AK)) v h G else L
noncomputable def vBool{J:Type}(v:V)(d:J)(k:AK->J):J:=oS (wG v) d k
theorem jM{J:Type}{v:V}{d:J}{k:AK->J}{r:J}(h:vBool v d k=r){P:V->Prop}(c:∀x,k x=r->P (.bool x))(e:d=r->P v):P v:=if q:v.ctorIdx=1 then V.bool.elim (motive_1:=λv=>vBool v d k=r->P v) v q (λx h=>c x h) h else e (oV (Cj q) h)
theorem SP{J:Type}{v:V}{d:J}{k:AK->J}{r:J}(h:vBool v d k=r)(hd:d=r->Bi){P:V->Prop}(c:∀x,k x=r->P (.bool x)):P v:=jM h c λe=>(hd e).elim
noncomputable def wH(v:V):AD (AX):=if h:v.ctorIdx=2 then V.int.elim (motive_1:=λ_=>AD (AX)) v h G else L
noncomputable def vInt{J:Type}(v:V)(d:J)(k:AX->J):J:=oS (wH v) d k
theorem Pt{J:Type}{v:V}{d:J}{k:AX->J}{r:J}(h:vInt v d k=r){P:V->Prop}(c:∀x,k x=r->P (.int x))(e:d=r->P v):P v:=if q:v.ctorIdx=2 then V.int.elim (motive_1:=λv=>vInt v d k=r->P v) v q (λx h=>c x h) h else e (oV (Cj q) h)
theorem Cv{J:Type}{v:V}{d:J}{k:AX->J}{r:J}(h:vInt v d k=r)(hd:d=r->Bi){P:V->Prop}(c:∀x,k x=r->P (.int x)):P v:=Pt h c λe=>(hd e).elim
noncomputable def wI(v:V):AD (Tx):=if h:v.ctorIdx=3 then V.str.elim (motive_1:=λ_=>AD (Tx)) v h G else L
noncomputable def vStr{J:Type}(v:V)(d:J)(k:Tx->J):J:=oS (wI v) d k
theorem Nw{J:Type}{v:V}{d:J}{k:Tx->J}{r:J}(h:vStr v d k=r){P:V->Prop}(c:∀x,k x=r->P (.str x))(e:d=r->P v):P v:=if q:v.ctorIdx=3 then V.str.elim (motive_1:=λv=>vStr v d k=r->P v) v q (λx h=>c x h) h else e (oV (Cj q) h)
theorem Dc{J:Type}{v:V}{d:J}{k:Tx->J}{r:J}(h:vStr v d k=r)(hd:d=r->Bi){P:V->Prop}(c:∀x,k x=r->P (.str x)):P v:=Nw h c λe=>(hd e).elim
noncomputable def wJ(v:V):AD (AD A8×I V):=if h:v.ctorIdx=4 then V.tup.elim (motive_1:=λ_=>AD (AD A8×I V)) v h (λa0 a1=>G (a0,a1))else L
noncomputable def FT{J:Type}(v:V)(d:J)(k:AD A8->I V->J):J:=oS (wJ v) d (H4 k)
theorem jN{J:Type}{v:V}{d:J}{k:AD A8->I V->J}{r:J}(h:FT v d k=r){P:V->Prop}(c:∀x y,k x y=r->P (.tup x y))(e:d=r->P v):P v:=if q:v.ctorIdx=4 then V.tup.elim (motive_1:=λv=>FT v d k=r->P v) v q (λx y h=>c x y h) h else e (oV (Cj q) h)
theorem IL{J:Type}{v:V}{d:J}{k:AD A8->I V->J}{r:J}(h:FT v d k=r)(hd:d=r->Bi){P:V->Prop}(c:∀x y,k x y=r->P (.tup x y)):P v:=jN h c λe=>(hd e).elim
noncomputable def wK(v:V):AD (A4):=if h:v.ctorIdx=5 then V.top.elim (motive_1:=λ_=>AD (A4)) v h G else L
noncomputable def IM{J:Type}(v:V)(d:J)(k:A4->J):J:=oS (wK v) d k
theorem ZY{J:Type}{v:V}{d:J}{k:A4->J}{r:J}(h:IM v d k=r){P:V->Prop}(c:∀x,k x=r->P (.top x))(e:d=r->P v):P v:=if q:v.ctorIdx=5 then V.top.elim (motive_1:=λv=>IM v d k=r->P v) v q (λx h=>c x h) h else e (oV (Cj q) h)
theorem Ny{J:Type}{v:V}{d:J}{k:A4->J}{r:J}(h:IM v d k=r)(hd:d=r->Bi){P:V->Prop}(c:∀x,k x=r->P (.top x)):P v:=ZY h c λe=>(hd e).elim
noncomputable def wL(v:V):AD (O):=if h:v.ctorIdx=6 then V.ref.elim (motive_1:=λ_=>AD (O)) v h G else L
noncomputable def DN{J:Type}(v:V)(d:J)(k:O->J):J:=oS (wL v) d k
theorem Va{J:Type}{v:V}{d:J}{k:O->J}{r:J}(h:DN v d k=r){P:V->Prop}(c:∀x,k x=r->P (.ref x))(e:d=r->P v):P v:=if q:v.ctorIdx=6 then V.ref.elim (motive_1:=λv=>DN v d k=r->P v) v q (λx h=>c x h) h else e (oV (Cj q) h)
theorem EH{J:Type}{v:V}{d:J}{k:O->J}{r:J}(h:DN v d k=r)(hd:d=r->Bi){P:V->Prop}(c:∀x,k x=r->P (.ref x)):P v:=Va h c λe=>(hd e).elim
noncomputable def SQ{J:Type}(v:V)(d:J)(k:O->O->J):J:=if h:v.ctorIdx=10 then V.IK.elim (motive_1:=λ_=>J) v h k else d
theorem wM{J:Type}{v:V}{d:J}{k:O->O->J}{r:J}(h:SQ v d k=r){P:V->Prop}(c:∀x y,k x y=r->P (.IK x y))(e:d=r->P v):P v:=if q:v.ctorIdx=10 then V.IK.elim (motive_1:=λv=>SQ v d k=r->P v) v q (λx y h=>c x y h) h else e ((Cj q).symm.trans h)
theorem jO{J:Type}{v:V}{d:J}{k:O->O->J}{r:J}(h:SQ v d k=r)(hd:d=r->Bi){P:V->Prop}(c:∀x y,k x y=r->P (.IK x y)):P v:=wM h c λe=>(hd e).elim
noncomputable def Vb{J:Type}(v:V)(d:J)(k:O->J):J:=if h:v.ctorIdx=11 then V.Nv.elim (motive_1:=λ_=>J) v h k else d
theorem wN{J:Type}{v:V}{d:J}{k:O->J}{r:J}(h:Vb v d k=r){P:V->Prop}(c:∀x,k x=r->P (.Nv x))(e:d=r->P v):P v:=if q:v.ctorIdx=11 then V.Nv.elim (motive_1:=λv=>Vb v d k=r->P v) v q (λx h=>c x h) h else e ((Cj q).symm.trans h)
theorem wO{J:Type}{v:V}{d:J}{k:O->J}{r:J}(h:Vb v d k=r)(hd:d=r->Bi){P:V->Prop}(c:∀x,k x=r->P (.Nv x)):P v:=wN h c λe=>(hd e).elim
noncomputable def wP(v:A4):AD (D9):=if h:v.ctorIdx=8 then bn7 (motive:=λ_=>AD (D9)) v h G else L
noncomputable def Ks{J:Type}(v:A4)(d:J)(k:D9->J):J:=oS (wP v) d k
theorem jP{J:Type}{v:A4}{d:J}{k:D9->J}{r:J}(h:Ks v d k=r){P:A4->Prop}(c:∀x,k x=r->P (.type x))(e:d=r->P v):P v:=if q:v.ctorIdx=8 then bn7 (motive:=λv=>Ks v d k=r->P v) v q (λx h=>c x h) h else e (oV (Cj q) h)
theorem SR{J:Type}{v:A4}{d:J}{k:D9->J}{r:J}(h:Ks v d k=r)(hd:d=r->Bi){P:A4->Prop}(c:∀x,k x=r->P (.type x)):P v:=jP h c λe=>(hd e).elim
noncomputable def IN{J:Type}(v:V)(d k:J):J:=if v.ctorIdx=0 then k else d
theorem ZZ{J:Type}{v:V}{d k r:J}(h:IN v d k=r){P:V->Prop}(c:k=r->P .none)(e:d=r->P v):P v:=if q:v.ctorIdx=0 then V.none.elim (motive_1:=λv=>IN v d k=r->P v) v q c h else e ((CS q).symm.trans h)
theorem Pu{J:Type}{v:V}{d k r:J}(h:IN v d k=r)(hd:d=r->Bi){P:V->Prop}(c:k=r->P .none):P v:=ZZ h c λe=>(hd e).elim
noncomputable def wQ{J:Type}(v:V)(d:J)(k:AX->AX->J):J:=if h:v.ctorIdx=7 then V.H7.elim (motive_1:=λ_=>J) v h k else d
noncomputable def Vc{J:Type}(v:V)(d:J)(k:O->O->J):J:=if h:v.ctorIdx=8 then V.B'.elim (motive_1:=λ_=>J) v h k else d
theorem wR{J:Type}{v:V}{d:J}{k:O->O->J}{r:J}(h:Vc v d k=r){P:V->Prop}(c:∀x y,k x y=r->P (.B' x y))(e:d=r->P v):P v:=if q:v.ctorIdx=8 then V.B'.elim (motive_1:=λv=>Vc v d k=r->P v) v q (λx y h=>c x y h) h else e ((Cj q).symm.trans h)
theorem wS{J:Type}{v:V}{d:J}{k:O->O->J}{r:J}(h:Vc v d k=r)(hd:d=r->Bi){P:V->Prop}(c:∀x y,k x y=r->P (.B' x y)):P v:=wR h c λe=>(hd e).elim
noncomputable def wT(v:A4):AD (A8):=if h:v.ctorIdx=10 then bn8 (motive:=λ_=>AD (A8)) v h G else L
noncomputable def Kt{J:Type}(v:A4)(d:J)(k:A8->J):J:=oS (wT v) d k
theorem wU{J:Type}{v:A4}{d:J}{k:A8->J}{r:J}(h:Kt v d k=r){P:A4->Prop}(c:∀x,k x=r->P (.ref x))(e:d=r->P v):P v:=if q:v.ctorIdx=10 then bn8 (motive:=λv=>Kt v d k=r->P v) v q (λx h=>c x h) h else e (oV (Cj q) h)
theorem Pw{J:Type}{v:A4}{d:J}{k:A8->J}{r:J}(h:Kt v d k=r)(hd:d=r->Bi){P:A4->Prop}(c:∀x,k x=r->P (.ref x)):P v:=wU h c λe=>(hd e).elim
noncomputable def wV(v:A4):AD (D9):=if h:v.ctorIdx=9 then bn9 (motive:=λ_=>AD (D9)) v h G else L
noncomputable def Z_{J:Type}(v:A4)(d:J)(k:D9->J):J:=oS (wV v) d k
theorem wW{J:Type}{v:A4}{d:J}{k:D9->J}{r:J}(h:Z_ v d k=r){P:A4->Prop}(c:∀x,k x=r->P (.builtin x))(e:d=r->P v):P v:=if q:v.ctorIdx=9 then bn9 (motive:=λv=>Z_ v d k=r->P v) v q (λx h=>c x h) h else e (oV (Cj q) h)
inductive Sg where|it(l:I Tx)|tx(t:Tx)|run(p a b:Tx)
inductive Ob where|list(Y:I V)|dict(N:I (V×V))|HR|inst(c:A8)(d:O)|EX(N:I (U×V))|B3(N:I (V×V))|rows(r:O)(Y:I Sg)deriving Inhabited
noncomputable def wX(v:Ob):AD (I V):=if h:v.ctorIdx=0 then Ob.list.elim (motive:=λ_=>AD (I V)) v h G else L
noncomputable def EI{J:Type}(v:Ob)(d:J)(k:I V->J):J:=oS (wX v) d k
theorem Jy{J:Type}{v:Ob}{d:J}{k:I V->J}{r:J}(h:EI v d k=r){P:Ob->Prop}(c:∀x,k x=r->P (.list x))(e:d=r->P v):P v:=if q:v.ctorIdx=0 then Ob.list.elim (motive:=λv=>EI v d k=r->P v) v q (λx h=>c x h) h else e (oV (Cj q) h)
theorem IP{J:Type}{v:Ob}{d:J}{k:I V->J}{r:J}(h:EI v d k=r)(hd:d=r->Bi){P:Ob->Prop}(c:∀x,k x=r->P (.list x)):P v:=Jy h c λe=>(hd e).elim
noncomputable def wY(v:Ob):AD (I (V×V)):=if h:v.ctorIdx=1 then Ob.dict.elim (motive:=λ_=>AD (I (V×V))) v h G else L
noncomputable def FU{J:Type}(v:Ob)(d:J)(k:I (V×V)->J):J:=oS (wY v) d k
theorem SU{J:Type}{v:Ob}{d:J}{k:I (V×V)->J}{r:J}(h:FU v d k=r){P:Ob->Prop}(c:∀x,k x=r->P (.dict x))(e:d=r->P v):P v:=if q:v.ctorIdx=1 then Ob.dict.elim (motive:=λv=>FU v d k=r->P v) v q (λx h=>c x h) h else e (oV (Cj q) h)
theorem JA{J:Type}{v:Ob}{d:J}{k:I (V×V)->J}{r:J}(h:FU v d k=r)(hd:d=r->Bi){P:Ob->Prop}(c:∀x,k x=r->P (.dict x)):P v:=SU h c λe=>(hd e).elim
noncomputable def MD{J:Type}(v:Ob)(d:J)(k:I (V×V)->J):J:=if h:v.ctorIdx=5 then Ob.B3.elim (motive:=λ_=>J) v h k else d
theorem wZ{J:Type}{v:Ob}{d:J}{k:I (V×V)->J}{r:J}(h:MD v d k=r){P:Ob->Prop}(c:∀x,k x=r->P (.B3 x))(e:d=r->P v):P v:=if q:v.ctorIdx=5 then Ob.B3.elim (motive:=λv=>MD v d k=r->P v) v q (λx h=>c x h) h else e ((Cj q).symm.trans h)
theorem SV{J:Type}{v:Ob}{d:J}{k:I (V×V)->J}{r:J}(h:MD v d k=r)(hd:d=r->Bi){P:Ob->Prop}(c:∀x,k x=r->P (.B3 x)):P v:=wZ h c λe=>(hd e).elim
noncomputable def Px{J:Type}(v:Ob)(d k:J):J:=if v.ctorIdx=2 then k else d
theorem jQ{J:Type}{v:Ob}{d k r:J}(h:Px v d k=r){P:Ob->Prop}(c:k=r->P .HR)(e:d=r->P v):P v:=if q:v.ctorIdx=2 then Ob.HR.elim (motive:=λv=>Px v d k=r->P v) v q c h else e ((CS q).symm.trans h)
theorem w_{J:Type}{v:Ob}{d k r:J}(h:Px v d k=r)(hd:d=r->Bi){P:Ob->Prop}(c:k=r->P .HR):P v:=jQ h c λe=>(hd e).elim
noncomputable def wa(v:Ob):AD (A8×O):=if h:v.ctorIdx=3 then Ob.inst.elim (motive:=λ_=>AD (A8×O)) v h (λa0 a1=>G (a0,a1))else L
noncomputable def Py{J:Type}(v:Ob)(d:J)(k:A8->O->J):J:=oS (wa v) d (H4 k)
theorem jR{J:Type}{v:Ob}{d:J}{k:A8->O->J}{r:J}(h:Py v d k=r){P:Ob->Prop}(c:∀x y,k x y=r->P (.inst x y))(e:d=r->P v):P v:=if q:v.ctorIdx=3 then Ob.inst.elim (motive:=λv=>Py v d k=r->P v) v q (λx y h=>c x y h) h else e (oV (Cj q) h)
theorem jS{J:Type}{v:Ob}{d:J}{k:A8->O->J}{r:J}(h:Py v d k=r)(hd:d=r->Bi){P:Ob->Prop}(c:∀x y,k x y=r->P (.inst x y)):P v:=jR h c λe=>(hd e).elim
noncomputable def wb(v:Ob):AD (I (U×V)):=if h:v.ctorIdx=4 then Ob.EX.elim (motive:=λ_=>AD (I (U×V))) v h G else L
noncomputable def Pz{J:Type}(v:Ob)(d:J)(k:I (U×V)->J):J:=oS (wb v) d k
theorem wc{J:Type}{v:Ob}{d:J}{k:I (U×V)->J}{r:J}(h:Pz v d k=r){P:Ob->Prop}(c:∀x,k x=r->P (.EX x))(e:d=r->P v):P v:=if q:v.ctorIdx=4 then Ob.EX.elim (motive:=λv=>Pz v d k=r->P v) v q (λx h=>c x h) h else e (oV (Cj q) h)
theorem Za{J:Type}{v:Ob}{d:J}{k:I (U×V)->J}{r:J}(h:Pz v d k=r)(hd:d=r->Bi){P:Ob->Prop}(c:∀x,k x=r->P (.EX x)):P v:=wc h c λe=>(hd e).elim
noncomputable def Q0{J:Type}(v:Ob)(d:J)(k:O->I Sg->J):J:=if h:v.ctorIdx=6 then Ob.rows.elim (motive:=λ_=>J) v h k else d
theorem jT{J:Type}{v:Ob}{d:J}{k:O->I Sg->J}{r:J}(h:Q0 v d k=r){P:Ob->Prop}(c:∀x y,k x y=r->P (.rows x y))(e:d=r->P v):P v:=if q:v.ctorIdx=6 then Ob.rows.elim (motive:=λv=>Q0 v d k=r->P v) v q (λx y h=>c x y h) h else e ((Cj q).symm.trans h)
theorem jU{J:Type}{v:Ob}{d:J}{k:O->I Sg->J}{r:J}(h:Q0 v d k=r)(hd:d=r->Bi){P:Ob->Prop}(c:∀x y,k x y=r->P (.rows x y)):P v:=jT h c λe=>(hd e).elim
structure St where
 env:I (U×V)h:I (O×Ob)n:O deriving Inhabited
inductive Fl where|next|brk|cont|ret(v:V)
inductive AS where|v(v:V)|vs(l:I V)|b(b:AK)|f(f:Fl)|ps(l:I (V×V))
structure Fn where
 sc:BU
 ps:I U
 va:AD U
 body:I As
 dflt:I V
structure Kx where
 sc:BU
 d:O
noncomputable def Cy(a b:U):AK:=CU a.cps.toList b.cps.toList
noncomputable def EY:Tx->Tx->AK
 |_,[]=>A6|[],_::_=>M|a::x,b::y=>match BC a b with|true=>EY x y|false=>G0 a b
noncomputable def Ah{C:Type}(l:I (U×C))(x:U):AD C:=Kc (motive:=λ_=>AD C) L (λp _ ih=>bC (Cy p.1 x) (G p.2) ih) l
noncomputable def EZ{C:Type}(l:I (U×C))(x:U)(v:C):I (U×C):=Kc (motive:=λ_=>I (U×C)) [(x,v)] (λp l ih=>bC (Cy p.1 x) ((p.1,v)::l) (p::ih)) l
noncomputable def AL{C:Type}(l:I (O×C))(x:O):AD C:=Kc (motive:=λ_=>AD C) L (λp _ ih=>bC (BC p.1 x) (G p.2) ih) l
noncomputable def putN{C:Type}(l:I (O×C))(x:O)(v:C):I (O×C):=Kc (motive:=λ_=>I (O×C)) [] (λp l ih=>bC (BC p.1 x) ((p.1,v)::l) (p::ih)) l
noncomputable def Gp{C:Type}:I C->O->AD C
 |[],_=>L|a::l,n=>match n with|0=>G a|n+1=>Gp l n
noncomputable def Jz(f:V->V->AD AK):I V->I V->AD AK
 |[],[]=>G M|a::x,b::y=>B' (f a b) λp=>B' (Jz f x y) λq=>G (p&&q)|[],_::_=>G A6|_::_,[]=>G A6
noncomputable def Q1(a b:V):AD AK:=vInt a (vStr a L λx=>vStr b L λy=>G (CU x y)) λx=>vInt b L λy=>G (decide (x=y))
noncomputable def G7(a b:V):AD AK:=vInt a (vStr a (FT a L λc x=>oN c L (FT b L λc' y=>oN c' L (Jz Q1 x y))) λx=>vStr b L λy=>G (CU x y)) λx=>vInt b L λy=>G (decide (x=y))
noncomputable def Zc(x y:I V):AD AK:=Jz G7 x y
noncomputable def JB:I AX->I AX->AK
 |a::x,b::y=>if a=b then JB x y else decide (a<b)|_,_=>A6
noncomputable def jV(v:V):AX:=vInt v 0 λi=>i
noncomputable def SX(v w:V):AD AK:=FT v L λ_ l=>FT w L λ_ m=>G (JB (l.map jV) (m.map jV))
noncomputable def D0:I (V×V)->V->AD V
 |[],_=>L|p::l,x=>match G7 p.1 x with|some M=>G p.2|_=>D0 l x
noncomputable def Em:I (V×V)->V->V->I (V×V)
 |[],x,v=>[(x,v)]|p::l,x,v=>match G7 p.1 x with|some M=>(p.1,v)::l|_=>p::Em l x v
noncomputable def Hp:I Tx->I Tx
 |[]=>[]|x::l=>match(Hp l).any (CU x)with|true=>Hp l|false=>x::Hp l
noncomputable def Zd:V->I V->AD V
 |x,[]=>G x|x,y::l=>B' (SX x y) λb=>Zd (bC b y x) l
noncomputable def Hq{C:Type}(l:I C)(lo hi:AD AX):I C:=let n:=l.length;let a:=match lo with|some i=>bo0 n i|none=>0;let b:=match hi with|some i=>bo0 n i|none=>n;(l.take b).drop a
noncomputable def Q2{C:Type}(l:I C)(i:AX):AD C:=if i<0 then(if i+l.length<0 then L else Gp l (i+l.length).toNat)else Gp l i.toNat
noncomputable def K0:Tx->Tx->AK
 |[],_=>M|_::_,[]=>A6|a::x,b::y=>match BC a b with|true=>K0 x y|false=>A6
noncomputable def Q3(n:O):Tx:=match G0 n 10 with|true=>[48+n]|false=>[48+n/10,48+n%10]
noncomputable def Nz(i:AX):AK:=decide (0<=i)&&decide (i<100)
noncomputable def JC(i:AX):Tx:=Q3 i.toNat
noncomputable def HS:I V->AD (I Tx)
 |[]=>G []|v::l=>vStr v L λt=>B' (HS l) λr=>G (t::r)
noncomputable def CH{C:Type}(l:I C):AK:=EP l.length 100000
noncomputable def truthy(v:V)(h:I (O×Ob)):AD AK:=IN v (vBool v (vInt v (vStr v (DN v L λi=>B' (AL h i) λo=>EI o L λY=>bT (CH Y) L (G (!Y.isEmpty))) λs=>bT (CH s) L (G (!s.isEmpty))) λi=>G (decide (i≠0))) G) (G A6)
noncomputable def Ze(i:AX):AK:=decide (0<=i)&&decide (i<=1000)
noncomputable def b2i(b:AK):AX:=if b then 1 else 0
noncomputable def jW(a b:V):AD V:=(vInt a L λa=>(vInt b L λb=>G (.int (a+b))).or (vBool b L λb=>G (.int (a+b2i b)))).or ((vBool a L λa=>(vInt b L λb=>G (.int (b2i a+b))).or (vBool b L λb=>G (.int (b2i a+b2i b)))).or (vStr a L λa=>vStr b L λb=>bT (CH (a++b)) L (G (.str (a++b)))))
noncomputable def Zf(b:AX):AK:=decide (0<b)&&decide (b<=1000000000)
noncomputable def Vd(m r:O)(b:AX):AK:=BC (m%b.toNat) 0&&G0 r m
noncomputable def jX(a b:V):AD V:=vInt b L λb=>bT (Zf b) L ((vInt a L λa=>G (.int (sV a b))).or (SQ a L λm r=>bT (Vd m r b) L (G (.IK (m/b.toNat) (r/b.toNat)))))
noncomputable def jY(a b:V):AD V:=vInt b L λb=>bT (Zf b) L ((vInt a L λa=>G (.int (sW a b))).or (SQ a L λm r=>G (match Vd m r b with|true=>.int (fN (r%b.toNat))|false=>.Nv b.toNat)))
noncomputable def jZ(a b:V):AD V:=(vBool a L λa=>vBool b L λb=>G (.int (b2i a*b2i b))).or (vStr a L λa=>l1 a L λc=>vInt b L λn=>bT (Ze n) L (G (.str (Xy n.toNat c))))
noncomputable def Zg(a b:V):AD V:=vInt a L λa=>vInt b L λb=>G (.int (a-b))
noncomputable def wd(a b:V):AD V:=(vInt a L λa=>vInt b L λb=>G (.int (a+b))).or (vStr a L λa=>vStr b L λb=>bT (CH (a++b)) L (G (.str (a++b))))
noncomputable def Zh(op:Jg)(a b:V):AD V:=if op=.Add then wd a b else if op=.Sub then Zg a b else L
noncomputable def Dd(N:I (V×V))(k:V):AK:=(vStr k A6 λ_=>l0 N (lC N A6 λp _=>vStr p.1 A6 λ_=>M) M)||(vInt k A6 λ_=>l0 N (lC N A6 λp _=>vInt p.1 A6 λ_=>M) M)
noncomputable def O':I V->V->AD AK
 |[],v=>vStr v L λ_=>G A6|y::l,v=>vStr y L λb=>vStr v L λa=>B' (O' l v) λr=>G (CU b a||r)
noncomputable def j_(a b:V)(h:I (O×Ob)):AD AK:=(vInt a L λx=>vInt b L λy=>G (decide (x=y))).or ((vStr a L λx=>vStr b L λy=>G (CU x y)).or (DN a L λi=>DN b L λj=>B' (AL h i) λo=>B' (AL h j) λo'=>EI o L λx=>EI o' L λy=>Zc x y))
noncomputable def we(a b:V):AD AK:=(vInt a L λx=>vInt b L λy=>G (!decide (x=y))).or (vStr a L λx=>vStr b L λy=>G (!CU x y))
noncomputable def wf(a b:V):AD AK:=(vInt a L λx=>vInt b L λy=>G (decide (x<y))).or (vStr a L λx=>vStr b L λy=>G (EY x y))
noncomputable def Ve(f:AX->AX->AK)(a b:V):AD AK:=vInt a L λx=>vInt b L λy=>G (f x y)
noncomputable def Zi(t:AK)(a b:V):AD AK:=IN b L ((IN a L (G t)).or ((vStr a L λ_=>G !t).or ((DN a L λ_=>G !t).or (vInt a L λ_=>G !t))))
noncomputable def SY(f:AK->AK)(a b:V)(h:I (O×Ob)):AD AK:=DN b L λj=>B' (AL h j) λo=>(FU o L λN=>bT (Dd N a) L (G (f (D0 N a).isSome))).or ((MD o L λN=>bT (Dd N a) L (G (f (D0 N a).isSome))).or (EI o L λY=>B' (O' Y a) λr=>G (f r)))
noncomputable def Vf(op:PL)(a b:V)(h:I (O×Ob)):AD AK:=match op with
 |.Eq=>j_ a b h|.NotEq=>we a b|.Lt=>wf a b|.Gt=>Ve (λx y=>decide (y<x)) a b|.LtE=>Ve (λx y=>decide (x<=y)) a b|.GtE=>Ve (λx y=>decide (y<=x)) a b|.Is=>Zi M a b|.IsNot=>Zi A6 a b|.In=>SY (λb=>b) a b h|.NotIn=>SY (λb=>!b) a b h
noncomputable def O0:f7->AD V
 |.none=>G .none|.bool b=>G (.bool b)|.int i=>G (.int i)|.str s=>G (.str s.cps.toList)|_=>L
inductive It where|tup(Y:I V)|H7(lo hi:AX)|lst(k:O)|keys(k n:O)|K1(s:Tx)
noncomputable def JD(i:AX):AK:=decide (-1000000000<=i)&&decide (i<=1000000000)
noncomputable def Q4(v:V)(h:I (O×Ob)):AD It:=FT v (wQ v (DN v L λi=>B' (AL h i) λo=>EI o (FU o L λN=>G (.keys i N.length)) λ_=>G (.lst i)) λlo hi=>bT (JD lo&&JD hi) L (G (.H7 lo hi))) λc Y=>oN c L (G (.tup Y))
noncomputable def IQ(it:It)(i:O)(h:I (O×Ob)):AD (AD V):=match it with
 |.tup Y=>G (Gp Y i)|.H7 lo hi=>G (if lo+fN i<hi then G (.int (lo+fN i))else L)|.lst k=>B' (AL h k) λo=>EI o L λY=>G (Gp Y i)|.keys k n=>B' (AL h k) λo=>FU o L λN=>bT (BC N.length n) L (G ((Gp N i).map (·.1)))|.K1 s=>G ((Gp s i).map λc=>.tup L [.int (fN i),.str [c]])
noncomputable def St.new(H:St)(o:Ob):V×St:=(.ref H.n,⟨H.env,(H.n,o)::H.h,H.n+1⟩)
noncomputable def St.set(H:St)(i:O)(o:Ob):St:=⟨H.env,putN H.h i o,H.n⟩
noncomputable def S_(F:Fn)(args:I V):I V:=args.take F.ps.length++F.dflt.drop (F.dflt.length-(F.ps.length-args.length))
noncomputable def JE(F:Fn)(args:I V):AD (I (U×V)):=bT (EP args.length (bC F.va.isSome 1000 F.ps.length)&&BC F.ps.length (S_ F args).length) L (G (F.ps.zip (S_ F args)++F.va.toList.map λx=>(x,V.tup L (args.drop F.ps.length))))
noncomputable def DG(e:Tx):I Tx->I Tx
 |[]=>[]|x::l=>match CU x e with|true=>DG e l|false=>x::l
noncomputable def D4:O->I Tx->I Tx->I Tx×I Tx
 |0,Y,ys=>(Y,ys)|_+1,[],ys=>([],ys)|_+1,Y,[]=>(Y,[])|n+1,e::Y,a::ys=>match EY e a with
 |true=>let r:=D4 n (DG e Y) (a::ys);(e::r.1,r.2)|false=>match EY a e with
 |true=>let r:=D4 n (e::Y) (DG a ys);(r.1,a::r.2)|false=>D4 n (DG e Y) (DG a ys)
inductive A0 where|ok(r:AS)(H:St)|bad
inductive MK where|str|lst|Ez|fn(a:A8)|tup
inductive Cd where|e(x:AA)|N(l:I AA)|t(x:AA)|ts(and:AK)(l:I AA)|s(x:As)|ss(l:I As)|asg(t:AA)(v:V)|ME(ts:I AA)(vs:I V)|GQ(ts:I AA)(v:V)|loop(t:AA)(it:It)(i:O)(body:I As)|MF(Zj:AA)(body:I As)|call(f:V)(args:I V)|HT(kd:MK)(o:V)(m:U)(args:I V)|GR(C_:AA)(g:FP)(gens:I FP)(it:It)(i:O)(Am:I V)|Sa(k v:AA)(g:FP)(it:It)(i:O)(d:O)|pairs(ks:I (AD AA))(vs:I AA)(Am:I (V×V))
structure Ctx where
 glob:I (U×V)fn:A8->AD Fn
 Bo:A8
 Sb:A8
 ja:A8
 Dk:A8
 Q5:A8
 Gq:A8
 Vg:AK
 HT:I (U×A8)CR:Kx->Cd->St->AD A0
noncomputable def A0.V(o:A0)(k:Mine.V->St->A0):A0:=A0.rec (motive:=λ_=>A0) (λr H=>AS.rec (motive:=λ_=>A0) (λv=>k v H) (λ_=>.bad) (λ_=>.bad) (λ_=>.bad) (λ_=>.bad) r) .bad o
noncomputable def A0.A1(o:A0)(k:I Mine.V->St->A0):A0:=A0.rec (motive:=λ_=>A0) (λr H=>AS.rec (motive:=λ_=>A0) (λ_=>.bad) (λv=>k v H) (λ_=>.bad) (λ_=>.bad) (λ_=>.bad) r) .bad o
noncomputable def A0.B(o:A0)(k:AK->St->A0):A0:=A0.rec (motive:=λ_=>A0) (λr H=>AS.rec (motive:=λ_=>A0) (λ_=>.bad) (λ_=>.bad) (λv=>k v H) (λ_=>.bad) (λ_=>.bad) r) .bad o
noncomputable def A0.F(o:A0)(k:Fl->St->A0):A0:=A0.rec (motive:=λ_=>A0) (λr H=>AS.rec (motive:=λ_=>A0) (λ_=>.bad) (λ_=>.bad) (λ_=>.bad) (λv=>k v H) (λ_=>.bad) r) .bad o
noncomputable def A0.of{C:Type}(o:AD C)(k:C->A0):A0:=f6 (motive:=λ_=>A0) .bad k o
noncomputable def A0.lst(h:I (O×Ob))(v:Mine.V)(k:O->I Mine.V->A0):A0:=DN v .bad λi=>oS (AL h i) .bad λo=>EI o .bad (k i)
noncomputable def A0.Ez(h:I (O×Ob))(v:Mine.V)(k:O->I (Mine.V×Mine.V)->A0):A0:=DN v .bad λi=>oS (AL h i) .bad λo=>FU o .bad (k i)
noncomputable def Dl:O:=1000000
noncomputable def jb(v:Mine.V):AD (I Tx):=FT v L λo vs=>oN o L (HS vs)
noncomputable def Vh(v:Mine.V):AD Sg:=vStr v (B' (jb v) λl=>G (.it l)) λt=>G (.tx t)
noncomputable def Q6:I Mine.V->AD (I Sg)
 |[]=>G []|v::l=>B' (Vh v) λt=>B' (Q6 l) λr=>G (t::r)
noncomputable def FV(o:Ob):AD (O×I Sg):=EI o (Q0 o L λr Y=>G (r,Y)) λY=>bT (CH Y) L (B' (Q6 Y) λl=>G (Dl-Y.length,l))
noncomputable def A0.iff(b:AK)(o:A0):A0:=PM (motive:=λ_=>A0) .bad o b
noncomputable def O1(x:AA)(n:D9):AK:=DM x A6 λid _=>Cy id (Eu n)
noncomputable def Sd(x:AA):AD AA:=EB x L λf a k _=>l1 a L λx=>l0 k L (bT (O1 f "enumerate") L (G x))
noncomputable def Q7:U:=⟨⟨[115,111,114,116,101,100]⟩⟩
noncomputable def Zk:U:=⟨⟨[115,101,116]⟩⟩
noncomputable def Zl:U:=⟨⟨[108,105,115,116]⟩⟩
noncomputable def Zm:U:=⟨⟨[109,97,112]⟩⟩
noncomputable def Sf:U:=⟨⟨[77,97,116,99,104]⟩⟩
noncomputable def Zn(f:AA)(a:I AA):AD AA:=l1 a L λc=>EB c L λg a k _=>l1 a L λx=>l0 k L (bT (O1 f "sorted"&&O1 g "set") L (G x))
noncomputable def Zo(f:AA)(a:I AA):AD AA:=l1 a L λc=>EB c L λg a k _=>lC a L λm a=>l1 a L λx=>H5 m L λo a _=>l0 k L (bT (O1 f "list"&&(O1 g "map"&&(O1 o "Match"&&Cy a (Eu "_make")))) L (G x))
noncomputable def Sh(sc:BU)(x:U):AD E2:=Ah sc.names x
noncomputable def isIn(l:I E2)(o:AD E2):AK:=o.any l.contains
noncomputable def G8(sc:BU)(x:U):AK:=isIn [.local,.cell] (Sh sc x)
noncomputable def D1(sc:BU)(x:U):AK:=isIn [.local,.cell,.free] (Sh sc x)
noncomputable def Dh(sc:BU)(x:U):AK:=isIn [.globalImplicit] (Sh sc x)
noncomputable def Q8(sc:BU):AK:=sc.names.all λp=>!Cy p.1 (Eu "__debug__")&&!Cy p.1 (Eu "__classdict__")
noncomputable def Zp(sc:BU)(x:U):AK:=isIn [.cell,.free] (Sh sc x)
noncomputable def Si{C:Type}:I (U×C)->AK
 |[]=>M|p::l=>match Ah l p.1 with|none=>Si l|some _=>A6
noncomputable def Ku(sc IR:BU)(env:I (U×Mine.V)):AK:=(match IR.kind with|.function=>M|_=>A6)&&Q8 IR&&Si IR.names&&IR.names.all λx=>match x.2 with
 |.local=>(match Ah env x.1 with|none=>M|some _=>A6)|.free=>Zp sc x.1|.globalImplicit=>M|_=>A6
noncomputable def Vi(o:AA):AK:=EB o M λ_ args _ _=>!args.isEmpty
noncomputable def CP(e:AA):AK:=!(BC e.ctorIdx 22||BC e.ctorIdx 7)
noncomputable def MG(g:FP):AK:=CP g.iter&&match g.is_async with|.ofNat 0=>M|_=>A6
noncomputable def wg:I FP->AK
 |[]=>M|g::_=>MG g
noncomputable def Zq(ih:Cd->St->A0)(l:I AA)(H:St):A0:=match l with
 |[]=>.ok (.b M) H|[c]=>ih (.t c) H|_=>.bad
section
variable(A3:Ctx)
noncomputable def Fj(v:AD V)(H:St):A0:=A0.of v λv=>.ok (.v v) H
noncomputable def Zr(v:AD AK)(H:St):A0:=A0.of v λv=>.ok (.b v) H
noncomputable def FW(p:V×St):A0:=.ok (.v p.1) p.2
noncomputable def Q9(x:Tx):I Tx->I Tx
 |[]=>[x]|y::l=>match EY x y with|true=>x::y::l|false=>y::Q9 x l
noncomputable def E_:I Tx->I Tx
 |[]=>[]|x::l=>Q9 x (E_ l)
noncomputable def O2(Y:I V)(H:St):A0:=A0.of (HS Y) λl=>A0.iff (G0 l.length 60) (FW (H.new (.list ((E_ l).map .str))))
noncomputable def O3(v:V):AK:=FT v A6 λo l=>oN o A6 (lC l A6 λa l=>lC l A6 λb l=>l1 l A6 λc=>vInt a A6 λ_=>vInt b A6 λ_=>vInt c A6 λ_=>M)
noncomputable def JF(v:V):AK:=FT v A6 λo l=>oS o A6 λ_=>lC l A6 λa l=>lC l A6 λb l=>l1 l A6 λc=>vInt a A6 λ_=>vInt b A6 λ_=>vInt c A6 λ_=>M
noncomputable def jc(v:V)(H:St):A0:=bC (JF v) (.ok (.v (.int 3)) H) (vStr v (A0.lst H.h v λ_ Y=>A0.iff (CH Y) (.ok (.v (.int Y.length)) H)) λs=>A0.iff (CH s) (.ok (.v (.int s.length)) H))
noncomputable def jd(v:V)(H:St):A0:=A0.lst H.h v λ_ Y=>lC Y .bad λx Y=>A0.iff (O3 x&&Y.all O3&&CH Y) (Fj (Zd x Y) H)
noncomputable def je(i:O)(H:St):A0:=A0.of (AL H.h i) λo=>EI o (FU o (MD o .bad λN=>O2 (N.map (·.1)) H) λN=>O2 (N.map (·.1)) H) λY=>O2 Y H
noncomputable def Vj(v:V):AK:=BC v.ctorIdx 3||BC v.ctorIdx 9
noncomputable def jf(v:V)(t:D9)(H:St):A0:=A0.iff (t=="str"||t=="bytes") (DN v (A0.iff (Vj v) (.ok (.v (.bool (t=="str"))) H)) λi=>A0.of (AL H.h i) λo=>A0.iff (FU o (MD o A6 λ_=>M) (λ_=>M)&&t=="str") (.ok (.v (.bool A6)) H))
noncomputable def Zs(id:D9)(args:I V)(H:St):A0:=if id="len"then l1 args .bad λv=>jc v H else if id="min"then lC args .bad λa l=>l1 l .bad λb=>vInt a .bad λa=>vInt b .bad λb=>.ok (.v (.int (if b<a then b else a))) H else if id="max"then l1 args .bad λv=>jd v H else if id="sorted"then l1 args .bad λv=>DN v .bad λi=>je i H else if id="isinstance"then lC args .bad λv l=>l1 l .bad λt=>IM t .bad λt=>Ks t .bad λt=>jf v t H else if id="issubclass"then lC args .bad λt l=>l1 l .bad λp=>IM t .bad λt=>Ks t .bad λt=>FT p .bad λo l=>oN o .bad (lC l .bad λa l=>l1 l .bad λb=>IM a .bad λa=>Ks a .bad λa=>IM b .bad λb=>Ks b .bad λb=>bT (decide (t="str")&&(decide (a="str")&&decide (b="bytes"))) .bad (.ok (.v (.bool M)) H))else .bad
noncomputable def Zt(t:D9)(args:I V)(H:St):A0:=if t="type"then l1 args .bad λv=>vStr v .bad λ_=>.ok (.v (.top (.type "str"))) H else if t="range"then Yj args .bad (λn=>vInt n .bad λn=>.ok (.v (.H7 0 n)) H) λa b=>vInt a .bad λa=>vInt b .bad λb=>.ok (.v (.H7 a b)) H else if t="set"then l0 args .bad (FW (H.new .HR))else if t="str"then l1 args .bad λv=>vInt v .bad λi=>A0.iff (Nz i) (.ok (.v (.str (JC i))) H)else .bad
inductive SK where|sw|ew|split|rfind|rstrip|fmt|join
inductive LK where|append|pop|sort
inductive DK where|Sj|get
noncomputable def Vk:I (U×SK):=[(⟨⟨[115,116,97,114,116,115,119,105,116,104]⟩⟩,.sw),(⟨⟨[101,110,100,115,119,105,116,104]⟩⟩,.ew),(⟨⟨[115,112,108,105,116]⟩⟩,.split),(⟨⟨[114,102,105,110,100]⟩⟩,.rfind),(⟨⟨[114,115,116,114,105,112]⟩⟩,.rstrip),(⟨⟨[102,111,114,109,97,116]⟩⟩,.fmt),(⟨⟨[106,111,105,110]⟩⟩,.join)]
noncomputable def Sk(m:U):AD SK:=Ah Vk m
noncomputable def Vl:I (U×LK):=[(⟨⟨[97,112,112,101,110,100]⟩⟩,.append),(⟨⟨[112,111,112]⟩⟩,.pop),(⟨⟨[115,111,114,116]⟩⟩,.sort)]
noncomputable def Vm(m:U):AD LK:=Ah Vl m
noncomputable def Vn:I (U×DK):=[(⟨⟨[115,101,116,100,101,102,97,117,108,116]⟩⟩,.Sj),(⟨⟨[103,101,116]⟩⟩,.get)]
noncomputable def Vo(m:U):AD DK:=Ah Vn m
noncomputable def jg(s:Tx)(k:SK)(args:I V)(H:St):A0:=A0.iff (CH s)<|match k with
 |.sw=>l1 args .bad λp=>vStr p .bad λp=>.ok (.v (.bool (K0 p s))) H|.ew=>l1 args .bad λp=>vStr p .bad λp=>.ok (.v (.bool (Txt.endswith ⟨⟨s⟩⟩ ⟨⟨p⟩⟩))) H|.split=>l1 args .bad λp=>vStr p .bad λp=>l1 p .bad λc=>FW (H.new (.list ((Xz ⟨⟨s⟩⟩ ⟨⟨[c]⟩⟩).map λx=>.str x.cps.toList)))|.rfind=>l1 args .bad λp=>vStr p .bad λp=>.ok (.v (.int (Txt.rfind ⟨⟨s⟩⟩ ⟨⟨p⟩⟩))) H|.rstrip=>l1 args .bad λp=>vStr p .bad λp=>.ok (.v (.str (Txt.rstripChars ⟨⟨s⟩⟩ ⟨⟨p⟩⟩).cps.toList)) H|.fmt=>Yj args .bad (λv=>vInt v .bad λi=>A0.iff (CU s [123,125]&&Nz i) (.ok (.v (.str (JC i))) H)) λv w=>vInt v .bad λi=>vInt w .bad λj=>A0.iff (CU s [123,125,44,123,125]&&(Nz i&&Nz j)) (.ok (.v (.str (JC i++44::JC j))) H)|.join=>l1 args .bad λv=>A0.lst H.h v λ_ Y=>A0.of (HS Y) λl=>A0.iff (PySem.JoinOk ⟨⟨s⟩⟩ (l.map λx=>⟨⟨x⟩⟩)) (.ok (.v (.str (Txt.join ⟨⟨s⟩⟩ (l.map λx=>⟨⟨x⟩⟩)).cps.toList)) H)
noncomputable def Zu{J:Type}(lt:O->O->AD AK)(t:KasT J):AD J:=KasT.rec (motive:=λ_=>AD J) G (λi j _ ih=>(lt i j).bind ih) t
noncomputable def jh(Y:I V)(i j:O):AD AK:=bT (JF (Y.getD i .none)&&JF (Y.getD j .none)) L (SX (Y.getD i .none) (Y.getD j .none))
noncomputable def Zv(Y:I V):AD (I V):=bT (G0 Y.length 64) L (bC (G0 Y.length 2) (G Y) (B' (Zu (jh Y) (kas_sort Y.length)) λp=>bT (G0 p.size 64) L (G (p.toList.map λi=>Y.getD i .none))))
noncomputable def wh(i:O)(Y:I V)(m:LK)(args:I V)(H:St):A0:=match m with
 |.append=>l1 args .bad λv=>A0.iff (CH Y) (.ok (.v .none) (H.set i (.list (Y++[v]))))|.pop=>l0 args .bad (A0.iff (CH Y) (A0.of Y.getLast? λx=>.ok (.v x) (H.set i (.list Y.dropLast))))|.sort=>l0 args .bad (A0.iff (Y.all JF) (A0.of (Zv Y) λl=>.ok (.v .none) (H.set i (.list l))))
noncomputable def O4(i:O)(N:I (V×V))(m:DK)(args:I V)(H:St):A0:=l2 args .bad λk d=>match m with
 |.Sj=>A0.iff (Dd N k&&CH N) (match D0 N k with
 |some v=>.ok (.v v) H|none=>.ok (.v d) (H.set i (.dict (Em N k d))))|.get=>A0.iff (Dd N k) (.ok (.v ((D0 N k).getD d)) H)
noncomputable def wj:V->AK|.str s=>IJ.any (CU s)|_=>A6
noncomputable def wk(Y:I V)(k:V)(H:St):A0:=vInt k (Vb k .bad λn=>A0.iff (BC n Y.length&&(EP n 1000&&Y.all wj)) (.ok (.v .any) H)) λk=>A0.iff (JD k&&CH Y) (Fj (Q2 Y k) H)
noncomputable def ji(a:O)(k:V)(H:St):A0:=A0.of (AL H.h a) λo=>EI o (FU o (MD o .bad λN=>A0.iff (Dd N k) (Fj (D0 N k) H)) λN=>A0.iff (Dd N k) (Fj (D0 N k) H)) λY=>wk Y k H
noncomputable def Zw(o i:V)(H:St):A0:=vStr o (FT o (DN o .bad λa=>ji a i H) λc Y=>oN c .bad (vInt i .bad λk=>A0.iff (JD k&&CH Y) (Fj (Q2 Y k) H))) λs=>vInt i .bad λk=>A0.iff (JD k&&CH s) (Fj ((Q2 s k).map λc=>.str [c]) H)
noncomputable def Sl(v:V):AD (AD AX):=IN v (vInt v L λi=>bT (JD i) L (G (G i))) (G L)
noncomputable def Zx(o lo hi:V)(H:St):A0:=A0.of (Sl lo) λa=>A0.of (Sl hi) λb=>vStr o (A0.lst H.h o λ_ Y=>A0.iff (CH Y) (FW (H.new (.list (Hq Y a b))))) λs=>A0.iff (CH s) (.ok (.v (.str (Hq s a b))) H)
noncomputable def jj:V->AK|.top _=>A6|_=>M
noncomputable def Zy:I U:=[⟨⟨[105,115,106,117,110,107]⟩⟩,⟨⟨[97]⟩⟩,⟨⟨[98]⟩⟩,⟨⟨[97,117,116,111,106,117,110,107]⟩⟩,⟨⟨[109,97,116,99,104,105,110,103,95,98,108,111,99,107,115]⟩⟩,⟨⟨[111,112,99,111,100,101,115]⟩⟩,⟨⟨[102,117,108,108,98,99,111,117,110,116]⟩⟩,⟨⟨[98,50,106]⟩⟩,⟨⟨[98,106,117,110,107]⟩⟩,⟨⟨[98,112,111,112,117,108,97,114]⟩⟩]
noncomputable def Sm(a:U):AK:=Zy.any (Cy a)
noncomputable def jk(o:V)(a:U)(H:St):A0:=DN o .bad λi=>A0.of (AL H.h i) λob=>Py ob (Px ob (FU ob .bad λ_=>A0.iff (Cy a (Eu "get")) (.ok (.v (.B' 1 i)) H)) (A0.iff (Cy a (Eu "__contains__")) (.ok (.v (.B' 0 i)) H))) λc d=>A0.iff (BC c A3.Dk&&Sm a) (A0.of (AL H.h d) λo=>Pz o .bad λN=>A0.of (Ah N a) λv=>A0.iff (jj v) (.ok (.v v) H))
noncomputable def Sn(i j:O)(H:St):A0:=A0.of (AL H.h i) λo=>A0.of (AL H.h j) λo'=>let rr:=A0.of (FV o) λx=>A0.of (FV o') λy=>A0.iff (EP Dl (x.1+y.1)) (FW (H.new (.rows (x.1+y.1-Dl) (x.2++y.2))));EI o rr λx=>EI o' rr λy=>A0.iff (CH (x++y)) (FW (H.new (.list (x++y))))
noncomputable def Vp(op:Jg)(a b:V)(H:St):A0:=if op=.Add then DN a (Fj (jW a b) H) λi=>DN b .bad λj=>Sn i j H else if op=.Sub then Fj (Zg a b) H else if op=.FloorDiv then Fj (jX a b) H else if op=.Mod then Fj (jY a b) H else if op=.Mult then Fj (jZ a b) H else .bad
noncomputable def wl(m:U):AK:=(Sk m).isSome
noncomputable def jl(m:U):AK:=(Vm m).isSome
noncomputable def wm(m:U):AK:=(Vo m).isSome
noncomputable def wn(o:Ob)(m:U)(h:I (O×Ob)):AD MK:=EI o (Q0 o (FU o (Py o L λc d=>bT (BC c A3.Dk) L (B' (AL h d) λo=>Pz o L λN=>oN (Ah N m) L (B' (Ah A3.HT m) λa=>G (.fn a)))) λ_=>bT (wm m) L (G .Ez)) λ_ _=>bT (jl m) L (G .lst)) λ_=>bT (jl m) L (G .lst)
noncomputable def QA(v:V)(m:U)(h:I (O×Ob)):AD MK:=vStr v (IM v (DN v L λi=>B' (AL h i) λo=>wn A3 o m h) λw=>Ks w L λt=>bT (decide (t="tuple")&&Cy m (Eu "__new__")) L (G .tup)) λ_=>bT (wl m) L (G .str)
noncomputable def MH:I (AD AA)->I AA->AD (I (V×V))
 |[],vs=>l0 vs L (G [])|k::ks,vs=>oS k L λx=>HP x L λc _ _=>lC vs L λy vs=>HP y L λc' _ _=>B' (O0 c) λk=>B' (O0 c') λv=>B' (MH ks vs) λl=>G ((k,v)::l)
noncomputable def So(N:I (V×V)):AK:=N.all λp=>match p.1 with|.str _=>M|_=>A6
noncomputable def Kv:I (V×V)->I (V×V)->AD (I (V×V))
 |[],Am=>G Am|p::l,Am=>bC (Dd Am p.1&&CH Am) (Kv l (Em Am p.1 p.2)) L
noncomputable def Sp(l:AA)(op:Jg)(r:AA):AD (Tx×U×Tx×Tx):=HP l L λc _ _=>Pk c L λc=>EB r L λf a k pos=>H5 f L λo m Fk=>DM o L λid _=>lC a L λy a=>l1 a L λz=>HP y L λy _ _=>Pk y L λy=>HP z L λz _ _=>Pk z L λz=>l0 k L (bT (decide (op=.Add)&&(Cy m (⟨⟨[114,101,112,108,97,99,101]⟩⟩:U)&&BC Fk.endLine pos.line)) L (G (c.cps.toList,id,y.cps.toList,z.cps.toList)))
noncomputable def Vq(N Am:I (V×V)):AD (I (V×V)):=match So N&&So Am with|true=>Kv N Am|false=>L
noncomputable def JG(K:Kx)(Ap:Kx->Cd->St->A0)(F:Fn)(args:I V)(H:St):A0:=A0.of (JE F args) λb=>match K.d with
 |0=>.bad|d+1=>(Ap ⟨F.sc,d⟩ (.ss F.body) ⟨b,H.h,H.n⟩).F λf A7=>match f with
 |.ret v=>.ok (.v v) ⟨H.env,A7.h,A7.n⟩|.next=>.ok (.v .none) ⟨H.env,A7.h,A7.n⟩|_=>.bad
noncomputable def Vr(K:Kx)(Ap:Kx->Cd->St->A0)(i:O):O->O->I V->St->A0
 |0,_,_,_=>.bad|m+1,k,Am,H=>A0.of (IQ (.lst i) k H.h) λr=>match r with
 |none=>.ok (.vs Am) H|some x=>(A0.of (A3.fn A3.ja) λfn=>JG K Ap fn [.top (.ref A3.Bo),x] H).V λv H=>Vr K Ap i m (k+1) (Am++[v]) H
noncomputable def wo(ks:I (AD AA))(vs:I AA):AD (AA×AA×AA):=l2 ks L λa b=>oN a L (oS b L λk=>l2 vs L λv0 v=>G (v0,k,v))
noncomputable def wq(Ap:Kx->Cd->St->A0)(K:Kx)(v0 k v:AA)(H:St):A0:=let ih:=Ap K;(ih (.e v0) (H.new (.dict [])).2).V λw AB=>A0.Ez AB.h w λwi N=>A0.iff (!BC wi H.n)<|A0.Ez AB.h (.ref H.n) λ_ Am=>A0.of (Vq N Am) λAm=>(ih (.e k) ((AB.set H.n (.dict Am)).new (.dict [])).2).V λkv Bc=>(ih (.e v) Bc).V λvv Bc=>A0.Ez Bc.h (.ref AB.n) λ_ sub=>A0.iff (Dd sub kv&&CH sub)<|A0.Ez Bc.h (.ref H.n) λ_ Am=>A0.of (Vq (Em sub kv vv) Am) λAm=>.ok (.v (.ref H.n)) ((Bc.set AB.n (.dict (Em sub kv vv))).set H.n (.dict Am))
noncomputable def HU:(Ctx->Kx->(Kx->Cd->St->A0)->St->A0)×Do:=⟨λ_ _ _ _=>.bad,()⟩
noncomputable def wt(K:Kx)(H:St)(p:Tx×U×Tx×Tx):A0:=A0.iff (D1 K.sc p.2.1&&CH p.1) (A0.of (Ah H.env p.2.1) λv=>vStr v .bad λs=>A0.iff (CH s&&!CU p.2.2.1 p.2.2.2&&EP p.2.2.2.length 100&&CH (p.1++(bo1 ⟨⟨s⟩⟩ ⟨⟨p.2.2.1⟩⟩ ⟨⟨p.2.2.2⟩⟩).cps.toList)) (.ok (.v (.str (p.1++(bo1 ⟨⟨s⟩⟩ ⟨⟨p.2.2.1⟩⟩ ⟨⟨p.2.2.2⟩⟩).cps.toList))) H))
noncomputable abbrev IH:=Kx->Cd->St->A0
noncomputable abbrev ST:=Ctx->Kx->IH->St->A0
noncomputable def wu(A3:Ctx)(K:Kx)(Ap:IH)(x:AA)(H:St):A0:=A0.iff (Dh K.sc Zl&&Dh K.sc Zm&&Dh K.sc Sf&&CP x)<|(Ap K (.e x) H).V λv H=>A0.lst H.h v λi Y=>A0.iff (CH Y)<|match K.d with
 |d+1=>(Vr A3 ⟨K.sc,d⟩ Ap i 60 0 [] H).A1 λl H=>FW (H.new (.list l))|0=>.bad
noncomputable def ww(K:Kx)(ih:Cd->St->A0)(x:AA)(H:St):A0:=A0.iff (Dh K.sc Q7&&Dh K.sc Zk&&CP x)<|(ih (.e x) H).V λv H=>A0.lst H.h v λ_ Y=>A0.of (HS Y) λl=>A0.iff (G0 l.length 60) (FW (H.new (.list ((E_ (Hp l)).map .str))))
noncomputable def jm(x:AA):ST×Do:=bN5 (motive_1:=λ_=>ST×Do) x (λop Y _=>⟨λ_ K Ap H=>bT (decide (op=.Or)) .bad (l2 Y .bad λa b=>(Ap K (.e a) H).V λv H=>A0.of (truthy v H.h) λt=>bC t (.ok (.v v) H) (Ap K (.e b) H)),()⟩) (λ_ _ _=>HU) (λl op r _=>⟨λ_ K Ap H=>oS (Sp l op r) ((Ap K (.e l) H).V λa H=>(Ap K (.e r) H).V λb H=>Vp op a b H) λp=>wt K H p,()⟩) (λop x _=>⟨λ_ K Ap H=>match op with
 |.USub=>(Ap K (.e x) H).V λv H=>vInt v .bad λi=>.ok (.v (.int (-i))) H|.Not=>(Ap K (.e x) H).V λv H=>A0.of (truthy v H.h) λb=>.ok (.v (.bool !b)) H|_=>.bad,()⟩) (λ_ _ _ _=>HU) (λt a b _=>⟨λ_ K Ap H=>(Ap K (.t t) H).B λc H=>bC c (Ap K (.e a) H) (Ap K (.e b) H),()⟩) (λks vs _=>⟨λ_ K Ap H=>bC (ks.isEmpty&&vs.isEmpty) (FW (H.new (.dict [])))<|oS (wo ks vs) (A0.of (MH ks vs) λps=>A0.iff (EP ps.length 15) (A0.of (Kv ps []) λN=>FW (H.new (.dict N)))) λp=>wq Ap K p.1 p.2.1 p.2.2 H,()⟩) (λ_ _ _=>HU) (λC_ gs IR _=>⟨λ_ K Ap H=>lC gs .bad λg gens=>A0.iff (MG g) ((Ap K (.e g.iter) H).V λit H=>A0.iff (Ku K.sc IR H.env) (A0.of (Q4 it H.h) λit=>(Ap ⟨IR,K.d⟩ (.GR C_ g gens it 0 []) H).A1 λl A7=>FW (St.new ⟨H.env,A7.h,A7.n⟩ (.list l)))),()⟩) (λ_ _ _ _=>HU) (λk v gs IR _=>⟨λ_ K Ap H=>l1 gs .bad λg=>A0.iff (MG g) ((Ap K (.e g.iter) H).V λit H=>A0.iff (Ku K.sc IR H.env) (A0.of (Q4 it H.h) λit=>(Ap ⟨IR,K.d⟩ (.Sa k v g it 0 H.n) (H.new (.dict [])).2).F λ_ A7=>.ok (.v (.ref H.n)) ⟨H.env,A7.h,A7.n⟩)),()⟩) (λ_ _ _ _=>HU) (λ_ _=>HU) (λ_ _=>HU) (λ_ _=>HU) (λl CN rs _=>⟨λ_ K Ap H=>l1 CN .bad λop=>l1 rs .bad λr=>A0.iff (!sX op r)<|(Ap K (.e l) H).V λa H=>(Ap K (.e r) H).V λb H=>A0.of (Vf op a b H.h) λb=>.ok (.v (.bool b)) H,()⟩) (λf args kw pos=>⟨λA3 K Ap H=>l0 kw .bad<|A0.iff (args.all CP)<|H5 f (oS (Zn f args) (oS (Zo f args) ((Ap K (.e f) H).V λfv H=>(Ap K (.N args) H).A1 λvs H=>Ap K (.call fv vs) H) λx=>wu A3 K Ap x H) λx=>ww K (Ap K) x H) λo m Fk=>A0.iff (Vi o&&BC Fk.endLine pos.line&&G0 args.length 30) ((Ap K (.e o) H).V λv H=>A0.of (QA A3 v m H.h) λkd=>(Ap K (.N args) H).A1 λvs H=>Ap K (.HT kd v m vs) H),()⟩) (λ_ _ _ _=>HU) (λ_ _=>HU) (λk _ _=>⟨λ_ _ _ H=>Fj (O0 k) H,()⟩) (λo a _=>⟨λA3 K Ap H=>A0.iff (Vi o) ((Ap K (.e o) H).V λv H=>jk A3 v a H),()⟩) (λo i _=>⟨λ_ K Ap H=>(Ap K (.e o) H).V λv H=>Ni i ((Ap K (.e i) H).V λk H=>Zw v k H) λlo hi st _=>oN st .bad<|(oS lo (A0.ok (.v .none) H) λx=>Ap K (.e x) H).V λa H=>(oS hi (A0.ok (.v .none) H) λx=>Ap K (.e x) H).V λb H=>Zx v a b H,()⟩) (λ_ _=>HU) (λid _=>⟨λA3 K _ H=>bC (D1 K.sc id) (Fj (Ah H.env id) H) (bC (Dh K.sc id) (Fj (Ah A3.glob id) H) .bad),()⟩) (λY _=>⟨λ_ K Ap H=>(Ap K (.N Y) H).A1 λvs H=>A0.iff (CH vs) (FW (H.new (.list vs))),()⟩) (λY _ _=>⟨λ_ K Ap H=>(Ap K (.N Y) H).A1 λvs H=>A0.iff (CH vs) (.ok (.v (.tup L vs)) H),()⟩) (λ_ _ _ _=>HU)
noncomputable def Fo(K:Kx)(Ap:IH)(x:AA)(H:St):A0:=(jm x).1 A3 K Ap H
noncomputable def stepT(K:Kx)(Ap:Kx->Cd->St->A0)(a:A8)(args:I V)(H:St):A0:=bC (BC a A3.Dk) (nS K.d .bad λd=>(A0.of (A3.fn A3.Q5) λfn=>JG ⟨K.sc,d⟩ Ap fn (.ref (H.n+1)::args) ⟨H.env,(H.n+1,.inst a H.n)::(H.n,.EX [])::H.h,H.n+2⟩).V λr A7=>IN r .bad (.ok (.v (.ref (H.n+1))) A7))<|bC (BC a A3.Gq&&A3.Vg) (l2 args .bad λx y=>A0.lst H.h x λi Y=>A0.lst H.h y λj ys=>A0.iff (!BC i j&&CH Y&&CH ys&&G0 0 K.d)<|A0.of (HS Y) λY=>A0.of (HS ys) λys=>.ok (.v (.tup L [.ref H.n,.ref (H.n+1)])) ((H.new (.list ((D4 (Y.length+ys.length) Y ys).1.map V.str))).2.new (.list ((D4 (Y.length+ys.length) Y ys).2.map V.str))).2)<|bC (BC a A3.Bo) (nS K.d .bad λd=>(A0.of (A3.fn A3.Sb) λF=>JG ⟨K.sc,d⟩ Ap F (.top (.ref A3.Bo)::args) H).V λr A7=>FT r .bad λo Y=>oS o .bad λc=>lC args .bad λ_ l=>l2 l .bad λ_ _=>A0.iff (BC c A3.Bo) (.ok (.v (.tup (G c) Y)) A7))<|A0.of (A3.fn a) λF=>JG K Ap F args H
noncomputable def jn(K:Kx)(Ap:Kx->Cd->St->A0)(f:V)(args:I V)(H:St):A0:=IM f (Vc f .bad λk i=>if k=0 then l1 args .bad λv=>vStr v .bad λ_=>A0.of (AL H.h i) λo=>Px o .bad (.ok (.v (.bool A6)) H)else if k=1 then A0.Ez H.h (.ref i) λi N=>O4 i N .get args H else .bad) λw=>Z_ w (Ks w (Kt w .bad λa=>stepT A3 K Ap a args H) λt=>Zt t args H) λid=>Zs id args H
noncomputable def jp(K:Kx)(Ap:Kx->Cd->St->A0)(kd:MK)(o:V)(m:U)(args:I V)(H:St):A0:=match kd with
 |.str=>vStr o .bad λs=>A0.of (Sk m) λk=>jg s k args H|.lst=>DN o .bad λi=>A0.of (AL H.h i) λob=>A0.of (Vm m) λk=>EI ob (Q0 ob .bad λr Y=>match k with
 |.append=>l1 args .bad λv=>nS r .bad λr=>A0.of (Vh v) λl=>.ok (.v .none) (H.set i (.rows r (Y++[l])))|.pop=>.bad|.sort=>.bad) λY=>wh i Y k args H|.Ez=>DN o .bad λi=>A0.of (Vo m) λk=>A0.Ez H.h (.ref i) λi N=>O4 i N k args H|.fn a=>Ap K (.call (.top (.ref a)) (o::args)) H|.tup=>l2 args .bad λa b=>IM a .bad λw=>Kt w .bad λc=>FT b .bad λo Y=>oN o .bad (A0.iff (BC c A3.Bo&&CH Y) (.ok (.v (.tup (G c) Y)) H))
noncomputable def Kw(K:Kx)(Ap:Kx->Cd->St->A0)(t:AA)(v:V)(H:St):A0:=let ih:=Ap K;DM t (Js t (H5 t (J5 t .bad λo i _=>(ih (.e o) H).V λw H=>(ih (.e i) H).V λk H=>DN w .bad λa=>A0.of (AL H.h a) λob=>EI ob (FU ob .bad λN=>A0.iff (Dd N k&&CH N) (.ok (.f .next) (H.set a (.dict (Em N k v))))) λY=>vInt k .bad λk=>A0.iff (JD k&&decide (0<=k)&&decide (k<Y.length)) (.ok (.f .next) (H.set a (.list (Y.set k.toNat v))))) λo a _=>(ih (.e o) H).V λw H=>DN w .bad λi=>A0.of (AL H.h i) λob=>Py ob .bad λc d=>A0.iff (BC c A3.Dk&&Sm a) (A0.of (AL H.h d) λo=>Pz o .bad λN=>A0.iff (CH N) (.ok (.f .next) (H.set d (.EX (EZ N a v)))))) λts _ _=>FT v .bad λ_ vs=>A0.iff (BC vs.length ts.length&&ts.all CP) (ih (.ME ts vs) H)) λid _=>A0.iff (G8 K.sc id) (.ok (.f .next) ⟨EZ H.env id v,H.h,H.n⟩)
noncomputable def JH(e:AA):AK:=BC e.ctorIdx 8||(BC e.ctorIdx 9||BC e.ctorIdx 10)
noncomputable def MI(ts:I AA)(e:AA):AK:=l1 ts A6 λt=>Js e A6 λ_ _ _=>BC t.ctorIdx 25||BC t.ctorIdx 24
noncomputable def wx(ts:I AA)(e:AA):AK:=l1 ts A6 λt=>DM t A6 λ_ _=>IF e A6 λ_ _ _ _=>M
noncomputable def MJ:O->AA->AK
 |_,.Call ..=>M|_,.Attribute ..=>M|_,.Name id _=>!Cy id ⟨⟨[95,95,100,101,98,117,103,95,95]⟩⟩|n+1,.BinOp l _ r _=>MJ n l||MJ n r|n+1,.UnaryOp _ e _=>MJ n e|n+1,.Subscript v _ _=>MJ n v|_,_=>A6
noncomputable def Sq:I AA->AD (I U)
 |[]=>G []|t::l=>DM t L λid _=>B' (Sq l) λl=>G (id::l)
noncomputable def QB:I U->AK
 |[]=>M|x::l=>!l.any (Cy x)&&QB l
noncomputable def putAll:I (U×V)->I U->I V->I (U×V)
 |env,x::Y,v::vs=>putAll (EZ env x v) Y vs|env,_,_=>env
noncomputable def Vs(ts:I AA)(e:AA):AD (I U):=l1 ts L λt=>Js t L λts _ _=>Js e L λvs _ _=>bT (vs.any (MJ 4)) L (Sq ts)
noncomputable def A0.nx(o:A0):A0:=o.F λ_ H=>.ok (.f .next) H
noncomputable abbrev SS:=Kx->IH->St->A0
noncomputable def GS:SS×Do:=⟨λ_ _ _=>.bad,()⟩
noncomputable def jq(x:As):SS×Do:=Stmt.casesOn (motive_2:=λ_=>SS×Do) x (λ_ _ _ _ _ _ _ _ _ _=>GS) (λ_ _ _ _ _ _ _ _ _ _=>GS) (λ_ _ _ _ _ _ _ _ _ _ _=>GS) (λe _=>⟨λK Ap H=>oS e (.ok (.f (.ret .none)) H) λe=>(Ap K (.e e) H).V λv H=>.ok (.f (.ret v)) H,()⟩) (λ_ _=>GS) (λts e _=>⟨λK Ap H=>bC (MI ts e) (A0.of (Vs ts e) λBf=>(Ap K (.e e) H).V λv H=>FT v .bad λo vs=>oN o .bad (A0.iff (BC Bf.length vs.length&&Bf.all (G8 K.sc)&&QB Bf) (.ok (.f .next) ⟨putAll H.env Bf vs,H.h,H.n⟩))) (A0.iff (!JH e||wx ts e) ((Ap K (.e e) H).V λv H=>(Ap K (.GQ ts v) H).nx)),()⟩) (λ_ _ _ _ _ _ _=>GS) (λt op e _=>⟨λK Ap H=>DM t .bad λid p=>A0.iff (D1 K.sc id)<|A0.of (Ah H.env id) λa=>(Ap K (.e e) H).V λb H=>A0.of (Zh op a b) λv=>(Ap K (.asg (.Name id p) v) H).nx,()⟩) (λ_ _ _ _ _=>GS) (λt it b e _=>⟨λK Ap H=>l0 e .bad<|oS (Sd it) (A0.iff (CP it) ((Ap K (.e it) H).V λv H=>A0.of (Q4 v H.h) λit=>Ap K (.loop t it 0 b) H)) λx=>Js t .bad λts k p=>A0.iff (Dh K.sc ⟨⟨[101,110,117,109,101,114,97,116,101]⟩⟩&&CP x) ((Ap K (.e x) H).V λv H=>vStr v .bad λs=>A0.iff (s.all λc=>G0 c 128) (Ap K (.loop (.Tuple ts k p) (.K1 s) 0 b) H)),()⟩) (λ_ _ _ _ _=>GS) (λt b e _=>⟨λK Ap H=>l0 e .bad (Ap K (.MF t b) H),()⟩) (λt a b _=>⟨λK Ap H=>(Ap K (.t t) H).B λc H=>bC c (Ap K (.ss a) H) (Ap K (.ss b) H),()⟩) (λ_ _ _=>GS) (λ_ _ _=>GS) (λ_ _ _=>GS) (λ_ _ _=>GS) (λbody hs e f _=>⟨λK Ap H=>lC hs .bad λ_ _=>l0 e .bad (l0 f .bad (Ap K (.ss body) H)),()⟩) (λ_ _ _ _ _=>GS) (λ_ _ _=>GS) (λ_ _=>GS) (λ_ _ _ _=>GS) (λ_ _=>GS) (λ_ _=>GS) (λe _=>⟨λK Ap H=>A0.iff (!JH e)<|(Ap K (.e e) H).V λ_ H=>.ok (.f .next) H,()⟩) (λ_=>⟨λ_ _ H=>.ok (.f .next) H,()⟩) (λ_=>⟨λ_ _ H=>.ok (.f .brk) H,()⟩) (λ_=>⟨λ_ _ H=>.ok (.f .cont) H,()⟩)
noncomputable def IS(K:Kx)(Ap:IH)(x:As)(H:St):A0:=(jq x).1 K Ap H
noncomputable def tV(x:AA):ST×Do:=match x with
 |.UnaryOp .Not x _=>⟨λ_ K Ap H=>(Ap K (.t x) H).B λb H=>.ok (.b !b) H,()⟩|.BoolOp op Y _=>⟨λ_ K Ap H=>Ap K (.ts (match op with|.And=>M|.Or=>A6) Y) H,()⟩|.IfExp ..=>HU|.Compare l [op] [r] _=>⟨λ_ K Ap H=>A0.iff (!sX op r)<|(Ap K (.e l) H).V λa H=>(Ap K (.e r) H).V λb H=>Zr (Vf op a b H.h) H,()⟩|.Compare ..=>HU|x=>⟨λ_ K Ap H=>(Ap K (.e x) H).V λv H=>Zr (truthy v H.h) H,()⟩
noncomputable def jr(c:Cd):ST:=Cd.rec (motive:=λ_=>ST) (λx A3 K Ap H=>(jm x).1 A3 K Ap H) (λl _ K Ap H=>lC l (.ok (.vs []) H) λx l=>A0.iff (CP x) ((Ap K (.e x) H).V λv H=>(Ap K (.N l) H).A1 λvs H=>.ok (.vs (v::vs)) H)) (λx A3 K Ap H=>(tV x).1 A3 K Ap H) (λand l _ K Ap H=>lC l (.ok (.b and) H) λx l=>(Ap K (.t x) H).B λb H=>if b==and then Ap K (.ts and l) H else .ok (.b b) H) (λx _ K Ap H=>(jq x).1 K Ap H) (λl _ K Ap H=>lC l (.ok (.f .next) H) λx l=>(Ap K (.s x) H).F λf H=>match f with
 |.next=>Ap K (.ss l) H|f=>.ok (.f f) H) (λt v A3 K Ap H=>Kw A3 K Ap t v H) (λts vs _ K Ap H=>match ts,vs with
 |[],[]=>.ok (.f .next) H|t::ts,v::vs=>A0.iff (CP t) ((Ap K (.asg t v) H).F λ_ H=>Ap K (.ME ts vs) H)|_,_=>.bad) (λts v _ K Ap H=>lC ts (.ok (.f .next) H) λt ts=>A0.iff (CP t) ((Ap K (.asg t v) H).F λ_ H=>Ap K (.GQ ts v) H)) (λt it i body _ K Ap H=>A0.of (IQ it i H.h) λr=>oS r (.ok (.f .next) H) λx=>(Ap K (.asg t x) H).F λ_ H=>(Ap K (.ss body) H).F λf H=>match f with
 |.brk=>.ok (.f .next) H|.ret v=>.ok (.f (.ret v)) H|_=>Ap K (.loop t it (i+1) body) H) (λZj body _ K Ap H=>(Ap K (.t Zj) H).B λb H=>bC b ((Ap K (.ss body) H).F λf H=>match f with
 |.brk=>.ok (.f .next) H|.ret v=>.ok (.f (.ret v)) H|_=>Ap K (.MF Zj body) H) (.ok (.f .next) H)) (λf args A3 K Ap H=>jn A3 K Ap f args H) (λkd o m args A3 K Ap H=>jp A3 K Ap kd o m args H) (λC_ g gens it i Am _ K Ap H=>A0.of (IQ it i H.h) λr=>oS r (.ok (.vs Am) H) λx=>A0.iff (CH Am&&wg gens) ((Ap K (.asg g.target x) H).F λ_ H=>(Zq (Ap K) g.ifs H).B λb H=>bC b (match gens with
 |[]=>(Ap K (.e C_) H).V λv H=>Ap K (.GR C_ g gens it (i+1) (Am++[v])) H|g'::js=>(Ap K (.e g'.iter) H).V λw H=>A0.of (Q4 w H.h) λVt=>(Ap K (.GR C_ g' js Vt 0 Am) H).A1 λAm H=>Ap K (.GR C_ g gens it (i+1) Am) H) (Ap K (.GR C_ g gens it (i+1) Am) H))) (λk v g it i d _ K Ap H=>A0.of (IQ it i H.h) λr=>oS r (.ok (.f .next) H) λx=>(Ap K (.asg g.target x) H).F λ_ H=>(Zq (Ap K) g.ifs H).B λb H=>bC b ((Ap K (.e k) H).V λkv H=>(Ap K (.e v) H).V λvv H=>A0.Ez H.h (.ref d) λ_ Am=>A0.iff (Dd Am kv&&CH Am) (Ap K (.Sa k v g it (i+1) d) (H.set d (.dict (Em Am kv vv))))) (Ap K (.Sa k v g it (i+1) d) H)) (λks vs Am _ K Ap H=>match ks,vs with
 |[],[]=>FW (H.new (.dict Am))|none::ks,v::vs=>(Ap K (.e v) H).V λw H=>A0.Ez H.h w λ_ N=>Ap K (.pairs ks vs (N.foldl (λa p=>Em a p.1 p.2) Am)) H|some k::ks,v::vs=>(Ap K (.e k) H).V λkv H=>(Ap K (.e v) H).V λvv H=>A0.iff (Dd Am kv) (Ap K (.pairs ks vs (Em Am kv vv)) H)|_,_=>.bad) c
noncomputable def step(K:Kx)(Ap:IH)(c:Cd)(H:St):A0:=jr c A3 K Ap H
noncomputable def ev(n:O):IH:=RN (motive:=λ_=>IH) (λ_ _ _=>.bad) (λ_ ih K c H=>oS (A3.CR K c H) (jr c A3 K ih H) λo=>o) n
end
theorem Ac{r:Mine.AS}{H:Mine.St}(h:A0.bad=.ok r H):Bi:=A0.noConfusion h
theorem BE{J:Type}{x:J}(h:L=G x):Bi:=by contradiction
theorem E4(h:A6=M):Bi:=Ug h
end
local macro_rules |`(tactic|show$t)=>`(tactic|refine(?_:$t))
local macro_rules |`(tactic|omega)=>`(tactic|first|with_reducible(first|exact Nat.zero_le _|exact Nat.le_refl _|exact Nat.le_add_left _ _)|omega(config:={}))
noncomputable def jt:AD A8->A4
 |none=>.type "tuple"|some c=>.ref c
noncomputable def wy:O->D9
 |0=>"set.__contains__"|_=>"dict.get"
noncomputable def Vu:A4->AK
 |.type t=>t=="tuple"||t=="builtin_function_or_method"||t=="range"|.ref c=>c==135|_=>A6
noncomputable def Vv:AD A8->AK
 |none=>M|some c=>c==135
noncomputable def C2(o:Bm):AK:=Vu o.cls&&match o.data with|.seq ..=>M|.fields ..=>M|_=>A6
noncomputable def wz(c:AD A8)(o:Bm):Prop:=Vv c=M/\(c=L->o.dict=L/\o.slots=#[])
theorem x7{c:AD A8}(h:Vv c=M):Vu (jt c)=M:=by cases c with
 |none=>rfl|some c=>exact h
mutual
noncomputable def VR(h:BK)(C:I A8):V->A4->Prop
 |.none,u=>u=.none|.bool b,u=>u=.bool b|.int i,u=>∃t,u=.int i t|.str s,u=>∃t,u=.str ⟨⟨s⟩⟩ t|.sym _ s _,u=>∃t,u=.str ⟨⟨s⟩⟩ t|.IK m r,u=>∃AG t,u=.int AG t/\AG%(m:AX)=r|.Nv m,u=>∃AG t,u=.int AG t/\0<=AG/\AG<(m:AX)|.any,u=>∃s t,u=.str ⟨⟨s⟩⟩ t/\s∈IJ|.top v,u=>u=v|.ref i,u=>∃a,C[i]?=G a/\u=.ref a|.H7 lo hi,u=>∃a t t' H8,u=.ref a/\h.get? a=G {cls:=.type "range",data:=.fields #[.int lo t,.int hi t',.int 1 H8]}|.B' k i,u=>∃a d,u=.ref a/\C[i]?=G d/\h.get? a=G {cls:=.type "builtin_function_or_method",data:=.fields #[.builtin (wy k),.ref d]}|.tup c Y,u=>∃a o us n,u=.ref a/\h.get? a=G o/\wz c o/\o.cls=jt c/\o.data=.seq us n/\Aa h C Y us.toList
noncomputable def Aa(h:BK)(C:I A8):I V->I A4->Prop
 |[],l=>l=[]|x::Y,l=>∃u us,l=u::us/\VR h C x u/\Aa h C Y us
end
noncomputable def Du(h Q:BK):Prop:=∀b o,h.get? b=G o->C2 o=M->Q.get? b=G o
theorem Du.refl(h:BK):Du h h:=λ_ _ e _=>e
theorem Du.trans{AP BD C3:BK}(x:Du AP BD)(y:Du BD C3):Du AP C3:=λb o e c=>y b o (x b o e c) c
theorem FX{C J:I A8}{i:O}{a:A8}(h:C[i]?=G a):(C++J)[i]?=G a:=by
 refine xE (HJ.mp h) ?_;intro hl _;rw[Y' hl];exact h
theorem Aa.cons{h:BK}{C:I A8}{v:V}{u:A4}{vs:I V}{us:I A4}(a:VR h C v u)(b:Aa h C vs us):Aa h C (v::vs) (u::us):=⟨u,us,rfl,a,b⟩
theorem Aa.Sr{h:BK}{C:I A8}{v:V}{vs:I V}{us:I A4}(r:Aa h C (v::vs) us){P:I A4->Prop}(k:∀u us,VR h C v u->Aa h C vs us->P (u::us)):P us:=Bv r λu us e a b=>e▸k u us a b
theorem Aa.ind{h:BK}{C:I A8}{P:I V->I A4->Prop}(n:P [] [])(c:∀v u vs us,VR h C v u->Aa h C vs us->P vs us->P (v::vs) (u::us)){vs:I V}:∀{us:I A4},Aa h C vs us->P vs us:=by induction vs with
 |nil=>intro us e;cases e;exact n|cons v vs ih=>intro us r;exact r.Sr λu us a b=>c v u vs us a b (ih b)
theorem Aa.imp{h Q:BK}{C J:I A8}{vs:I V}{us:I A4}(r:Aa h C vs us):(∀v∈vs,∀u,VR h C v u->VR Q J v u)->Aa Q J vs us:=Aa.ind (P:=λvs us=>(∀v∈vs,∀u,VR h C v u->VR Q J v u)->Aa Q J vs us) (λ_=>rfl) (λv u vs us a _ ih k=>.cons (k v Cp u a) (ih λw m=>k w (Cq _ m))) r
theorem V.ind{P:V->Prop}(a:∀v,(∀h C Q J u,VR h C v u->VR Q J v u)->P v)(r:∀lo hi,P (.H7 lo hi))(b:∀i,P (.ref i))(c:∀k i,P (.B' k i))(d:∀c Y,(∀v∈Y,P v)->P (.tup c Y))(v:V):P v:=V.rec (motive_1:=P) (motive_2:=λY=>∀v∈Y,P v) (a _ λ_ _ _ _ _ e=>e) (λ_=>a _ λ_ _ _ _ _ e=>e) (λ_=>a _ λ_ _ _ _ _ e=>e) (λ_=>a _ λ_ _ _ _ _ e=>e) (λc Y ih=>d c Y ih) (λ_=>a _ λ_ _ _ _ _ e=>e) b r c (λ_ _ _=>a _ λ_ _ _ _ _ e=>e) (λ_ _=>a _ λ_ _ _ _ _ e=>e) (λ_=>a _ λ_ _ _ _ _ e=>e) (a _ λ_ _ _ _ _ e=>e) (λ_ m=>nomatch m) (λ_ _ x y _ m=>(Ck.mp m).elim (λe=>e▸x) (y _)) v
theorem VR.mono{h Q:BK}{C J:I A8}(hi:Du h Q){v:V}{u:A4}:VR h C v u->VR Q (C++J) v u:=V.ind (P:=λv=>∀u,VR h C v u->VR Q (C++J) v u) (λ_ k u e=>k _ _ _ _ u e) (λ_ _ _ e=>Jv e λa t t' H8 q z=>⟨a,t,t',H8,q,hi _ _ z rfl⟩) (λ_ _ e=>AC e λa e q=>⟨a,FX e,q⟩) (λ_ _ _ e=>Bv e λa d q e z=>⟨a,d,q,FX e,hi _ _ z rfl⟩) (λ_ _ ih _ e=>Kr e λa o us n q e t c d x=>⟨a,o,us,n,q,hi _ _ e (by unfold C2;rw[c,d,x7 t.1];rfl),t,c,d,x.imp ih⟩) v u
theorem Aa.mono{h Q:BK}{C J:I A8}(hi:Du h Q){v:I V}{u:I A4}(r:Aa h C v u):Aa Q (C++J) v u:=r.imp λ_ _ _=>VR.mono hi
theorem Ea{J:Type}{b:AK}{x y r:J}(h:bC b x y=r){P:Prop}(l:b=M->x=r->P)(m:b=A6->y=r->P):P:=by cases b with
 |true=>exact l rfl h|false=>exact m rfl h
theorem Ss{C:Type}{p:U×C}{l:I (U×C)}{x:U}:Ah (p::l) x=bC (Cy p.1 x) (G p.2) (Ah l x):=rfl
theorem IT{C:Type}{p:O×C}{l:I (O×C)}{x:O}:AL (p::l) x=bC (BC p.1 x) (G p.2) (AL l x):=rfl
theorem xB{C:Type}{p:U×C}{l:I (U×C)}{x:U}{v:C}:EZ (p::l) x v=bC (Cy p.1 x) ((p.1,v)::l) (p::EZ l x v):=rfl
theorem QC{C:Type}{p:O×C}{l:I (O×C)}{x:O}{v:C}:putN (p::l) x v=bC (BC p.1 x) ((p.1,v)::l) (p::putN l x v):=rfl
theorem JI{C:Type}{i:O}{o:C}{l:I (O×C)}:AL ((i,o)::l) i=G o:=by rw[IT,Iy];rfl
theorem Vw{i j:O}(h:i≠j):BC i j=A6:=sY.mpr λq=>h (CD q)
theorem IU{C:Type}{i j:O}(h:i≠j){o:C}{l:I (O×C)}:AL ((i,o)::l) j=AL l j:=by rw[IT,Vw h];rfl
theorem Zz{C:Type}{i j:O}{o w:C}{l:I (O×C)}(h:AL ((i,o)::l) j=G w){P:O->C->Prop}(a:P i o)(b:i≠j->AL l j=G w->P j w):P j w:=by
 refine Ea (show bC (BC i j) (G o) (AL l j)=G w from h) (λq e=>?_) λq e=>b (Nat.ne_of_beq_eq_false q) e;have :=CD q;clear q b h;subst this;exact Br e a
theorem Su{J:Type}{x:O}{v:J}{l:I (O×J)}:AL l x=G v->(x,v)∈l:=by induction l with
 |nil=>exactλh=>(AF h).elim|cons p l ih=>exactλh=>Zz (P:=λx v=>(x,v)∈p::l) h Cp λ_ e=>Cq _ (ih e)
theorem ML{J:Type}{i:O}{o w:J}{h:I (O×J)}:AL h i=G w->AL (putN h i o) i=G o:=by induction h with
 |nil=>exactλh=>(AF h).elim|cons p h ih=>
 intro e;rw[IT]at e;rw[QC];refine Ea e (λq _=>?_) λq e=>?_;. rw[q];show bC (BC p.1 i) _ _=_;rw[q];rfl
 . rw[q];show bC (BC p.1 i) _ _=_;rw[q];exact ih e
theorem xC{J:Type}{i:O}{x y:J}{h:I (O×J)}:putN (putN h i x) i y=putN h i y:=by induction h with
 |nil=>rfl|cons p h ih=>
 rw[QC,QC];cases q:BC p.1 i with
 |true=>show bC (BC p.1 i) _ _=_;rw[q];rfl|false=>show bC (BC p.1 i) _ _=_;rw[q];exact congrArg (p::·) ih
theorem MM{J:Type}{i j:O}{o:J}(hj:j≠i){l:I (O×J)}:AL (putN l i o) j=AL l j:=by induction l with
 |nil=>rfl|cons p l ih=>
 rw[QC,IT];cases q:BC p.1 i with
 |true=>
  show bC (BC p.1 j) _ _=_;rw[Vw λz=>hj (z.symm.trans (CD q))];rfl|false=>exact congrArg (bC (BC p.1 j) (G p.2)) ih
theorem xF{J:Type}{i:O}{o:J}{h:I (O×J)}:AL h i=G o->putN h i o=h:=by induction h with
 |nil=>exactλh=>(AF h).elim|cons p h ih=>
 intro e;rw[IT]at e;rw[QC];refine Ea e (λq e=>?_) λq e=>?_;. rw[q];exact congrArg (·::h) (NO rfl (Bl e).symm)
 . rw[q];exact congrArg (p::·) (ih e)
noncomputable def rV{J:Type}(r:AS)(d:J)(k:V->J):J:=match r with|.v v=>k v|.vs _=>d|.b _=>d|.f _=>d|.ps _=>d
theorem xG{J:Type}{x:AS}{d:J}{k:V->J}{r:J}(h:rV x d k=r)(hd:d=r->Bi){P:AS->Prop}(c:∀v,k v=r->P (.v v)):P x:=by cases x with
 |v v=>exact c v h|_=>exact(hd h).elim
noncomputable def rF{J:Type}(r:AS)(d:J)(k:Fl->J):J:=match r with|.f f=>k f|.vs _=>d|.b _=>d|.v _=>d|.ps _=>d
theorem xH{J:Type}{x:AS}{d:J}{k:Fl->J}{r:J}(h:rF x d k=r)(hd:d=r->Bi){P:AS->Prop}(c:∀v,k v=r->P (.f v)):P x:=by cases x with
 |f v=>exact c v h|_=>exact(hd h).elim
noncomputable def ju{J:Type}(f:Fl)(d k:J):J:=match f with|.next=>k|.brk=>d|.cont=>d|.ret _=>d
theorem xI{J:Type}{f:Fl}{d k r:J}(h:ju f d k=r)(hd:d=r->Bi){P:Fl->Prop}(c:k=r->P .next):P f:=by cases f with
 |next=>exact c h|_=>exact(hd h).elim
noncomputable def a5{J:Type}(o:A0)(d:J)(k:AS->Mine.St->J):J:=match o with|.ok r H=>k r H|.bad=>d
theorem jv{J:Type}{o:A0}{d:J}{k:AS->Mine.St->J}{r:J}(h:a5 o d k=r)(hd:d=r->Bi){P:A0->Prop}(c:∀x H,k x H=r->P (.ok x H)):P o:=by cases o with
 |bad=>exact(hd h).elim|ok x H=>exact c x H h
noncomputable def K2{J:Type}(o:A0)(d:J)(k:V->Mine.St->J):J:=a5 o d λr H=>rV r d λv=>k v H
theorem Vx{J:Type}{o:A0}{d:J}{k:V->Mine.St->J}{r:J}(h:K2 o d k=r)(hd:d=r->Bi){P:A0->Prop}(c:∀v H,k v H=r->P (.ok (.v v) H)):P o:=by apply jv h hd;intro x H h;exact xG (P:=λx=>P (.ok x H)) h hd λv h=>c v H h
theorem Vy{J:Type}{o:A0}{d:J}{k:V->Mine.St->J}{r:J}(h:K2 o d k=r)(hd:d=r->Bi){P:Prop}(c:∀v H,o=.ok (.v v) H->k v H=r->P):P:=Vx (P:=λo'=>o=o'->P) h hd (λv H h e=>c v H e h) rfl
theorem a6{h:BK}{C:I A8}{us:I A4}(rs:Aa h C [] us){P:I A4->Prop}(k:P []):P us:=by cases rs;exact k
theorem MN{h:BK}{C:I A8}{v:V}{us:I A4}(rs:Aa h C [v] us){P:I A4->Prop}(k:∀u,VR h C v u->P [u]):P us:=by refine Bv rs ?_;(try clear rs);intro u l Aw r e;subst Aw;cases e;exact k u r
theorem Sv{h:BK}{C:I A8}{v w:V}{us:I A4}(rs:Aa h C [v,w] us){P:I A4->Prop}(k:∀u u',VR h C v u->VR h C w u'->P [u,u']):P us:=by refine S3 rs ?_;(try clear rs);intro u l B6 r u' l' BJ r' e;subst B6;subst BJ;cases e;exact k u u' r r'
theorem QD{h:BK}{C:I A8}{x:Tx}{us:I A4}(rs:Aa h C [.str x] us){P:I A4->Prop}(k:∀t,P [.str ⟨⟨x⟩⟩ t]):P us:=MN rs λu r=>by refine xE r ?_;(try clear r);intro t BP;subst BP;exact k t
theorem a7{h:BK}{C:I A8}{x:AX}{us:I A4}(rs:Aa h C [.int x] us){P:I A4->Prop}(k:∀t,P [.int x t]):P us:=MN rs λu r=>by refine xE r ?_;(try clear r);intro t Bp;subst Bp;exact k t
theorem jw{h:BK}{C:I A8}{x y:AX}{us:I A4}(rs:Aa h C [.int x,.int y] us){P:I A4->Prop}(k:∀t t',P [.int x t,.int y t']):P us:=Sv rs λu u' r r'=>by refine xE r ?_;(try clear r);intro t Bg;subst Bg;refine xE r' ?_;(try clear r');intro t' Bu;subst Bu;exact k t t'
theorem Aa.length{h:BK}{C:I A8}{v:I V}{u:I A4}(r:Aa h C v u):v.length=u.length:=Aa.ind (P:=λv u=>v.length=u.length) rfl (λ_ _ _ _ _ _ ih=>congrArg (·+1) ih) r
theorem Aa.get{h:BK}{C:I A8}{v:I V}{u:I A4}{i:O}{x:V}(r:Aa h C v u)(e:v[i]?=G x):∃y,u[i]?=G y/\VR h C x y:=by
 revert i;refine Aa.ind (P:=λv u=>∀{i},v[i]?=G x->∃y,u[i]?=G y/\VR h C x y) (λe=>(AF e).elim) (λv u vs us a _ ih i q=>?_) r;cases i with
 |zero=>exact Br q (P:=λx=>∃y,G u=G y/\VR h C x y) ⟨u,rfl,a⟩|succ i=>exact ih q
theorem Aa.app{h:BK}{C:I A8}{v v':I V}{u u':I A4}(x:Aa h C v u)(y:Aa h C v' u'):Aa h C (v++v') (u++u'):=Aa.ind (P:=λv u=>Aa h C (v++v') (u++u')) y (λ_ _ _ _ a _ ih=>.cons a ih) x
noncomputable def Vz(BN N:I (V×V)):Prop:=BN.Perm N/\PP
noncomputable def a8:Tx->Tx->O
 |a::x,b::y=>match BC a b with|true=>a8 x y+1|false=>0
 |_,_=>0
noncomputable def jx(a:Tx)(i:O):Tx->O->O×O×O->O×O×O
 |[],_,r=>r|c::y,j,r=>jx a i y (j+1) (match G0 r.1 (a8 a (c::y))with|true=>(a8 a (c::y),i,j)|false=>r)
noncomputable def jy(b:Tx):Tx->O->O×O×O->O×O×O
 |[],_,r=>r|c::x,i,r=>jy b x (i+1) (jx (c::x) i b 0 r)
noncomputable def a9:O->Tx->Tx->O->O->I (O×O×O)
 |0,_,_,_,_=>[]|n+1,a,b,p,q=>match jy b a 0 (0,0,0)with
 |(0,_,_)=>[]|(k+1,i,j)=>a9 n (a.take i) (b.take j) p q++(k+1,p+i,q+j)::a9 n (a.drop (i+k+1)) (b.drop (j+k+1)) (p+i+k+1) (q+j+k+1)
noncomputable def W0(s n:O):Tx:=match n with
 |0=>Q3 s++[44,48]|1=>Q3 (s+1)|n=>Q3 (s+1)++44::Q3 n
noncomputable def jz(i j i' j':O):I (I Tx):=let f:=W0 i (i'-i);let g:=W0 j (j'-j);match i'-i,j'-j with
 |0,0=>[]|0,_=>[[[105,110,115,101,114,116],f,g]]|_,0=>[[[100,101,108,101,116,101],f,g]]|_,_=>[[[114,101,112,108,97,99,101],f,g]]
noncomputable def k3(la lb:O):I (O×O×O)->O->O->I (I Tx)
 |[],i,j=>jz i j la lb|(k,p,q)::l,i,j=>jz i j p q++k3 la lb l (p+k) (q+k)
noncomputable def C8(a b:Tx):I (I Tx):=k3 a.length b.length (a9 20 a b 0 0) 0 0
noncomputable def O5(p:Tx):I Tx->V
 |t::r=>.tup L (.str t::.str p::r.map .str)|[]=>.tup L [.str p]
noncomputable def IV:Sg->I V
 |.it l=>[.tup L (l.map .str)]|.tx t=>[.str t]|.run p a b=>(C8 a b).map (O5 p)
noncomputable def DO(l:I Sg):I V:=l.flatMap IV
section
variable(prog:Hc)(w:F7)
noncomputable def DR{K:Type}(key:K->V)(h:BK)(C:I A8):I (V×V)->I (K×A4)->Prop
 |[],l=>l=[]|e::N,l=>∃k u r,l=(k,u)::r/\e.1=key k/\VR h C e.2 u/\DR key h C N r
noncomputable def GU(x:U):V:=.str x.cps.toList
noncomputable def Sw(i:AX):V:=.int i
noncomputable def Dm(h:BK)(C:I A8)(a:A8)(N:I (V×V)):Prop:=(∃Az,h.DictAt (strKind prog w) a Az Az.length/\DR GU h C N Az)\/(∃Az,h.DictAt (intKind prog w) a Az Az.length/\DR Sw h C N Az)
noncomputable def Ca(h:BK)(C:I A8)(a:A8):Ob->Prop
 |.list Y=>∃us,h.PlainList a us/\Aa h C Y us.toList|.dict N=>Dm prog w h C a N|.B3 N=>∃BN,Vz BN N/\Dm prog w h C a BN|.EX N=>∃m,h.Ns1 a m/\∀x,match Ah N x with|some v=>∃u,m x=G u/\VR h C v u|none=>m x=L
 |.rows r Y=>∃us,h.PlainList a us/\Aa h C (DO Y) us.toList/\(DO Y).length+r<=Dl|.HR=>∃led,h.get? a=G {cls:=.type "set",dict:=L,data:=.set #[] 0 (.fresh 0 0 led)}|.inst c d=>∃da,C[d]?=G da/\h.get? a=G {cls:=.ref c,dict:=G da,data:=.plain}
end
theorem DR.cons{K:Type}{key:K->V}{h:BK}{C:I A8}{k:K}{v:V}{u:A4}{N:I (V×V)}{r:I (K×A4)}(a:VR h C v u)(d:DR key h C N r):DR key h C ((key k,v)::N) ((k,u)::r):=⟨k,u,r,rfl,rfl,a,d⟩
theorem DR.ind{K:Type}{key:K->V}{h:BK}{C:I A8}{P:I (V×V)->I (K×A4)->Prop}(n:P [] [])(c:∀k v u N r,VR h C v u->DR key h C N r->P N r->P ((key k,v)::N) ((k,u)::r)){N:I (V×V)}:∀{l:I (K×A4)},DR key h C N l->P N l:=by induction N with
 |nil=>intro l e;cases e;exact n|cons e N ih=>
 intro l e';refine J6 e' ?_;clear e';intro k u r q e1 a d;subst q;rw[show e=(key k,e.2)from NO e1 rfl];exact c k e.2 u N r a d (ih d)
theorem DR.mono{K:Type}{key:K->V}{h Q:BK}{C J:I A8}(hi:Du h Q){N:I (V×V)}{l:I (K×A4)}(d:DR key h C N l):DR key Q (C++J) N l:=DR.ind (P:=DR key Q (C++J)) rfl (λ_ _ _ _ _ a _ ih=>DR.cons (a.mono hi) ih) d
theorem Dm.mono{prog:Hc}{w:F7}{h Q:BK}{C J:I A8}{a:A8}{N:I (V×V)}(hi:Du h Q)(ha:∀x,h.get? a=G x->Q.get? a=G x)(x:Dm prog w h C a N):Dm prog w Q (C++J) a N:=by
 rcases x with C9|Cn;refine AC C9 ?_;(try clear C9);intro Az D8 v;obtain⟨o,BN,e,r⟩:=D8;rotate_left;refine AC Cn ?_;(try clear Cn);intro Az DW v;obtain⟨o,BN,e,r⟩:=DW;rotate_left;. exact .inl ⟨Az,⟨o,BN,ha _ e,r⟩,v.mono hi⟩
 . exact .inr ⟨Az,⟨o,BN,ha _ e,r⟩,v.mono hi⟩
theorem Ca.mono{prog:Hc}{w:F7}{h Q:BK}{C J:I A8}{a:A8}{o:Ob}(hi:Du h Q)(ha:∀x,h.get? a=G x->Q.get? a=G x)(x:Ca prog w h C a o):Ca prog w Q (C++J) a o:=by cases o with
 |list Y=>refine AC x ?_;(try clear x);intro us p v;exact⟨us,p.at ha,v.mono hi⟩|dict N=>exact Dm.mono hi ha x|B3 N=>refine AC x ?_;(try clear x);intro BN p y;exact⟨BN,p,y.mono hi ha⟩|EX N=>
  refine AC x ?_;(try clear x);intro m ns r;refine⟨m,ns.at ha,λy=>?_⟩;have :=r y;revert this;split;. rintro⟨u,e,v⟩;exact⟨u,e,v.mono hi⟩
  . exact id|rows r Y=>refine CZ x ?_;(try clear x);intro us p v l;exact⟨us,p.at ha,v.mono hi,l⟩|HR=>refine xE x ?_;(try clear x);intro l e;exact⟨l,ha _ e⟩|inst c d=>refine AC x ?_;(try clear x);intro da e g;exact⟨da,FX e,ha _ g⟩
noncomputable def H9(o:Bm):AK:=match o.data with|.dict ..=>M|_=>A6
structure Nx(AM A_:I A8)(h Q:BK)(C AT:I A8):Prop where
 pre:∃J,AT=C++J/\∀b∈J,h.get? b=L
 live:∀b o,h.get? b=G o->∃o',Q.get? b=G o'
 Bw:Du h Q
 same:∀b o,h.get? b=G o->b∉C->b∉A_->∃sl,Q.get? b=G {o with slots:=sl}/\((b∈AM->H9 o=A6)->sl=o.slots)
theorem Nx.refl(AM A_:I A8)(h:BK)(C:I A8):Nx AM A_ h h C C:=⟨⟨[],by simp,λ_ hb=>by simp at hb⟩,λ_ o e=>⟨o,e⟩,Du.refl h,λ_ o e _ _=>⟨o.slots,e,λ_=>rfl⟩⟩
theorem Nx.data{A_:I A8}{h Q:BK}{C AT:I A8}(x:Nx AM A_ h Q C AT)(b:A8)(o:Bm)(e:h.get? b=G o)(n:b∉C)(m:b∉A_):∃sl,Q.get? b=G {o with slots:=sl}:=let⟨sl,q,_⟩:=x.same b o e n m;⟨sl,q⟩
theorem Nx.keep{A_:I A8}{h Q:BK}{C AT:I A8}(x:Nx AM A_ h Q C AT)(b:A8)(o:Bm)(e:h.get? b=G o)(n:b∉C)(m:b∉A_)(z:b∈AM->H9 o=A6):Q.get? b=G o:=by
 refine AC (x.same b o e n m) ?_;intro sl q r;rw[r z]at q;exact q
theorem HA{h Q:BK}{b:A8}(l:∀b o,h.get? b=G o->∃o',Q.get? b=G o')(n:Q.get? b=L):h.get? b=L:=by cases e:h.get? b with
 |none=>rfl|some o=>refine xE (l b o e) ?_;intro o' e';rw[n]at e';cases e'
theorem Nx.out{A_:I A8}{h Q:BK}{C AT:I A8}(x:Nx AM A_ h Q C AT){b:A8}{o:Bm}(g:h.get? b=G o)(n:b∉C):b∉AT:=by
 refine AC x.pre ?_;intro J e hb;intro m;rw[e]at m;rcases Dp.mp m with m|m;. exact n m
 . rw[hb b m]at g;cases g
theorem Nx.trans{A_:I A8}{AP BD C3:BK}{AZ Au BS:I A8}(x:Nx AM A_ AP BD AZ Au)(y:Nx AM A_ BD C3 Au BS):Nx AM A_ AP C3 AZ BS:=by
 refine AC x.pre ?_;intro J e hb;refine AC y.pre ?_;intro EG e' hc;refine⟨⟨J++EG,by rw[e',e,Uj],λb m=>?_⟩,λb o g=>?_,x.Bw.trans y.Bw,λb o g n m=>?_⟩
 . rcases Dp.mp m with m|m;. exact hb b m
   . exact HA x.live (hc b m)
 . refine xE (x.live b o g) ?_;intro o' g';exact y.live b o' g'
 . refine AC (x.same b o g n m) ?_;intro s1 q1 r1;refine AC (y.same b _ q1 (x.out g n) m) ?_;intro s2 q2 r2;exact⟨s2,q2,λz=>by have e2:=r2 z;rw[r1 z]at e2;exact e2⟩
theorem VR.nx{A_:I A8}{h Q:BK}{C AT:I A8}(x:Nx AM A_ h Q C AT){v:V}{u:A4}(r:VR h C v u):VR Q AT v u:=by refine AC x.pre ?_;intro J e _;rw[e];exact r.mono x.Bw
theorem Aa.nx{A_:I A8}{h Q:BK}{C AT:I A8}(x:Nx AM A_ h Q C AT){v:I V}{u:I A4}(r:Aa h C v u):Aa Q AT v u:=by refine AC x.pre ?_;intro J e _;rw[e];exact r.mono x.Bw
structure Fm where
 env:Gf
 A_:I A8
 outs:I Gf
noncomputable def Fm.D(F:Fm):I A8:=F.outs.filterMap (·.frame)
structure Bs where
 prog:Hc
 w:F7
 base:BK
 os:Jh
 gens:BW fO
noncomputable def K3(F:Fm)(x:U):Prop:=F.env.kindOf x=G .local\/F.env.kindOf x=G .cell\/F.env.kindOf x=G .free
noncomputable def Sx(F:Fm)(h:BK)(m:U->AD A4)(x:U)(u:A4):Prop:=(F.env.kindOf x=G .local->m x=G u)/\(F.env.kindOf x=G .cell\/F.env.kindOf x=G .free->∃c,F.env.cells.lookup x=G c/\h.IsCell c (G u))
noncomputable def Cf(F:Fm)(h:BK)(C:I A8)(env:I (U×V)):Prop:=∃m,h.Ns F.env.locals m/\(∀c∈F.env.cells,∃u,h.IsCell c.2 u)/\∀x v,Ah env x=G v->K3 F x->∃u,Sx F h m x u/\VR h C v u
noncomputable def k5(F:Fm)(x:U):E2->Prop
 |.local=>F.env.kindOf x=G .local|.cell=>F.env.kindOf x=G .cell/\∃c,F.env.cells.lookup x=G c/\c∈F.A_|.free=>(F.env.kindOf x=G .cell\/F.env.kindOf x=G .free)/\∃c,F.env.cells.lookup x=G c|.globalImplicit=>F.env.kindOf x=G .globalImplicit|.globalExplicit=>PP
structure G9(K:Kx)(F:Fm):Prop where
 fn:F.env.scope.kind=.function
 sc:Q8 K.sc=M
 kd:∀x k,Ah K.sc.names x=G k->k5 F x k
 g3:F.env.globals=3b0:F.env.builtins=0cells:F.env.cells.Pairwise λx y=>x.2≠y.2IW:F.env.locals∈F.A_
 MO:∀c∈F.env.cells,c.2≠F.env.locals
theorem W1{l:I E2}{o:AD E2}(h:isIn l o=M){P:E2->Prop}(c:∀k∈l,P k):∃k,o=G k/\P k:=by cases o with
 |none=>exact(B0 h).elim|some k=>exact⟨k,rfl,c k (List.elem_iff.mp h)⟩
theorem G9.at{K:Kx}{F:Fm}(g:G9 K F){l:I E2}{x:U}(h:isIn l (Sh K.sc x)=M){P:Prop}(c:∀k∈l,k5 F x k->P):P:=AC (W1 h c) λk e c=>c (g.kd x k e)
theorem G9.loc{K:Kx}{F:Fm}(g:G9 K F)(x:U)(h:D1 K.sc x=M):K3 F x:=g.at h (all_cons .inl (all_cons (λz=>.inr (.inl z.1)) (all_cons (λz=>.inr z.1) EC)))
theorem G9.own{K:Kx}{F:Fm}(g:G9 K F)(x:U)(h:G8 K.sc x=M):F.env.kindOf x=G .local\/(F.env.kindOf x=G .cell/\∃c,F.env.cells.lookup x=G c/\c∈F.A_):=g.at h (all_cons .inl (all_cons .inr EC))
theorem G9.glob{K:Kx}{F:Fm}(g:G9 K F)(x:U)(h:Dh K.sc x=M):F.env.kindOf x=G .globalImplicit:=g.at h (all_cons id EC)
theorem G9.cf{K:Kx}{F:Fm}(g:G9 K F)(x:U)(h:Zp K.sc x=M):(F.env.kindOf x=G .cell\/F.env.kindOf x=G .free)/\∃c,F.env.cells.lookup x=G c:=g.at h (all_cons (λz=>⟨.inl z.1,AC z.2 λc e _=>⟨c,e⟩⟩) (all_cons id EC))
theorem Sy{F:Fm}{x:U}(h:F.env.kindOf x=G .cell\/F.env.kindOf x=G .free)(z:F.env.kindOf x=G .local){P:Prop}:P:=h.elim (λe=>nomatch z.symm.trans e) λe=>nomatch z.symm.trans e
structure Gd(B:Bs)(F:Fm)(K:Kx)(A:CK)(H:St)(C:I A8)(s:AR):Prop where
 kinds:G9 K F
 len:C.length=H.n
 nodup:C.Nodup
 fresh:∀a∈C,B.base.get? a=L
 live:∀a∈C,∃o,s.heap.get? a=G o
 D5:∀a∈F.A_,B.base.get? a=L/\a∉C/\∃o,s.heap.get? a=G o
 D2:∀c∈F.env.cells,c.2∉C/\∃o,s.heap.get? c.2=G o
 objs:∀i o,AL H.h i=G o->∃a,C[i]?=G a/\Ca B.prog B.w s.heap C a o
 env:Cf F s.heap C H.env
 base:B.base.StaysIn s.heap
 os:s.os=B.os
 gens:s.gens=B.gens
 frames:A.frames=G F.outs
 DP:s.heap.FunFrames B.base F.outs
 Cz:∀A1∈F.outs.filterMap (·.frame),A1∉C/\(A1∈F.A_->A1=F.env.locals)/\∃o,s.heap.get? A1=G o/\H9 o=M
 mods:∃o,B.base.get? NP=G o
 handled:A.handled=L
 depth:A.depth+3*K.d<900units:A.units+10*K.d<9000
theorem Gd.obj{B:Bs}{F:Fm}{K:Kx}{A:CK}{H:St}{C:I A8}{s:AR}(g:Gd B F K A H C s){i:O}{o:Ob}(h:AL H.h i=G o){a:A8}(ha:C[i]?=G a):Ca B.prog B.w s.heap C a o:=AC (g.objs i o h) λ_ e r=>Bl (e.symm.trans ha)▸r
variable{C AT BG AZ A_ Au AM:I A8}{h Q Af:BK}{v v' k:Mine.V}{A A':CK}{s s' AJ:AR}{A7 H AB Bc DI:Mine.St}{i n d j r m tk ep kd k0 depth:O}{B:Bs}{K K':Kx}{F F':Fm}{u u' ku vu fu c fl fv du:A4}{A3:Mine.Ctx}{E A2:A4->AR->Prop}{a AE D z TI a0 E0:A8}{J T EG:Type}{pos p p2 p1 p3 p4:BA}{us first:I A4}{N ps BN:I (Mine.V×Mine.V)}{x id name:U}{prog:Hc}{w:F7}{f:Fl}{t t':EO}{Y args vs Am ys MP:I Mine.V}{env:Gf}{A1 l AG An CL L0 L1:I Tx}{P:Dx}{b led ex on:AK}{o ob o':Ob}{Kf:Ge}{sc:BU}{B9:O->O}{B7 rs Dv:I O}{Av:fP}{A9 JJ JK K4 ext2 brk tf Ky:As}{y q:Tx}{fd:Kd}{g:FP}{ts:I AA}{e C_:AA}{it:It}{BF hp:I (O×Ob)}{gens:I FP}{C4:I Gf}{names:I U}{Cb:BW A4}{op:Jg}{pl:Dy AK}{ord:I (AX×A4)}{CV K5:I (U×Mine.V)}
theorem Eb{a b:Tx}:CU a b=M↔a=b:=by induction a generalizing b with
 |nil=>cases b with
  |nil=>exact⟨λ_=>rfl,λ_=>rfl⟩|cons y t=>exact⟨λh=>(B0 h).elim,λh=>nomatch h⟩
 |cons x l ih=>cases b with
 |nil=>exact⟨λh=>(B0 h).elim,λh=>nomatch h⟩|cons y t=>
  refine⟨λh=>Ce (k:=CU l t) h B0 λe h=>by rw[CD e,ih.mp h],λh=>?_⟩;injection h with h1 h2;subst h1;show bT (BC x x) A6 (CU l t)=M;rw[Iy,ih.mpr h2];rfl
theorem k6{a b:Tx}:CU a b=A6↔a≠b:=by rw[<-bo2,Eb]
theorem E1{a b:U}:Cy a b=M↔a=b:=by
 unfold Cy;rw[Eb];constructor;. intro e;cases a;cases b;simp only[bo3];exact sZ.mp e
 . intro e;rw[e]
theorem aA{a b:U}(h:Cy a b=M){P:U->Prop}(k:P b):P a:=E1.mp h▸k
theorem xJ{a b:U}(h:Cy a b=M){P:U->Prop}(k:P a):P b:=E1.mp h▸k
theorem Kz{a b:U}:Cy a b=A6↔a≠b:=by rw[<-bo2,E1]
theorem QE{C:Type}{v:C}{y:U}{l:I (U×C)}:Ah (EZ l x v) y=if x=y then G v else Ah l y:=by induction l with
 |nil=>
  show bC (Cy x y) (G v) L=_;by_cases h:x=y;. rw[DF h,E1.mpr h];rfl
  . rw[CS h,Kz.mpr h];rfl|cons p l ih=>
  rw[xB,Ss];by_cases h:p.1=x
  . rw[E1.mpr h];show bC (Cy p.1 y) (G v) (Ah l y)=_;rw[h];by_cases Q:x=y;. rw[DF Q,E1.mpr Q];rfl
    . rw[CS Q,Kz.mpr Q];rfl
  . rw[Kz.mpr h];show bC (Cy p.1 y) (G p.2) (Ah (EZ l x v) y)=_;by_cases Q:p.1=y;. rw[E1.mpr Q,CS λq=>h (Q.trans q.symm)];rfl
    . rw[Kz.mpr Q];exact ih
theorem aB{C:Type}{v:C}{l:I (O×C)}:∀{w:C},AL (putN l i v) j=G w->(j=i/\w=v)\/(j≠i/\AL l j=G w):=by induction l with
 |nil=>exactλh=>(AF h).elim|cons p l ih=>
 intro w h;rw[QC]at h;rw[IT];by_cases e:p.1=i
 . rw[show BC p.1 i=M from e▸Iy _]at h;by_cases q:p.1=j
   . subst q;rw[show bC M ((p.1,v)::l) (p::putN l i v)=(p.1,v)::l from rfl,JI]at h;exact .inl ⟨e,(Bl h).symm⟩
   . rw[show bC M ((p.1,v)::l) (p::putN l i v)=(p.1,v)::l from rfl,IU q]at h;rw[Vw q];exact .inr ⟨λz=>q (e.trans z.symm),h⟩
 . rw[Vw e]at h;have h:bC (BC p.1 j) (G p.2) (AL (putN l i v) j)=G w:=h;refine Ea h (λq e'=>.inr ⟨λz=>e ((CD q).trans z),by rw[q];exact e'⟩) λq e'=>?_;rw[q];exact ih e'
theorem Nx.ext(k:∀b o,h.get? b=G o->Q.get? b=G o):Nx AM A_ h Q C C:=⟨⟨[],by simp,λ_ hb=>by simp at hb⟩,λb o e=>⟨o,k b o e⟩,λb o e _=>k b o e,λb o e _ _=>⟨o.slots,k b o e,λ_=>rfl⟩⟩
theorem Nx.add(J:I A8)(k:∀b o,h.get? b=G o->Q.get? b=G o)(n:∀b∈J,h.get? b=L):Nx AM A_ h Q C (C++J):=⟨⟨J,rfl,n⟩,λb o e=>⟨o,k b o e⟩,λb o e _=>k b o e,λb o e _ _=>⟨o.slots,k b o e,λ_=>rfl⟩⟩
theorem Nx.but(ha:a∈C\/a∈A_)(k:Dq a h Q)(hc:∀o,h.get? a=G o->C2 o=A6)(hl:∃o,Q.get? a=G o):Nx AM A_ h Q C C:=by
 refine⟨⟨[],by simp,λ_ hb=>by simp at hb⟩,λb o e=>?_,λb o e c=>?_,λb o e n m=>⟨o.slots,?_,λ_=>rfl⟩⟩
 . by_cases q:b=a;. clear ha hc k;subst q;exact hl
   . exact⟨o,k b o q e⟩
 . by_cases q:b=a;. clear ha hl k;subst q;rw[hc o e]at c;exact(E4 c).elim
   . exact k b o q e
 . exact k b o (λq=>by clear hc hl k;subst q;exact ha.elim n m) e
section
theorem Gd.of(g:Gd B F K A H C s){J:I A8}(x:Nx F.D F.A_ s.heap Q C (C++J))(GA:J.Nodup)(hn:∀b∈J,s.heap.get? b=L)(hl:∀b∈J,∃o,Q.get? b=G o)(len:(C++J).length=A7.n)(objs:∀i o,AL A7.h i=G o->∃a,(C++J)[i]?=G a/\Ca B.prog B.w Q (C++J) a o)(env:Cf F Q (C++J) A7.env)(base:B.base.StaysIn Q):Gd B F K A A7 (C++J) {s with heap:=Q,toks:=tk}:=by
 have bn:∀b∈J,B.base.get? b=L:=λb m=>by cases e:B.base.get? b with
 |none=>rfl|some o=>have :=g.base b o e;rw[hn b m]at this;exact(BE this).elim
 refine⟨g.kinds,len,?_,?_,?_,?_,λc m=>⟨x.out (g.D2 c m).2.choose_spec (g.D2 c m).1,x.live _ _ (g.D2 c m).2.choose_spec⟩,objs,env,base,g.os,g.gens,g.frames,?_,?_,g.mods,g.handled,g.depth,g.units⟩
 . refine I9.mpr ⟨g.nodup,GA,λa ha b hb e=>?_⟩;subst e;refine xE (g.live a ha) ?_;intro o q;rw[hn a hb]at q;exact(BE q).elim
 . intro a m;rcases Dp.mp m with m|m;. exact g.fresh a m
   . exact bn a m
 . intro a m;rcases Dp.mp m with m|m;. refine xE (g.live a m) ?_;intro o q;exact x.live a o q
   . exact hl a m
 . intro a m;refine II (g.D5 a m) ?_;intro q r o l;exact⟨q,x.out l r,x.live a o l⟩
 . have hL:=g.DP;have fd:=g.Cz;refine CZ env ?_;(try clear env);intro mm ns _ _;revert hL fd;generalize F.outs=l;intro hL fd;show Q.FunFrames B.base l;induction l with
 |nil=>trivial|cons e r ih=>
     refine G5 hL ?_;(try clear hL);intro hk Aw hr;refine HQ Aw ?_;(try clear Aw);intro A1 o hf hb ho hd;have fL:=fd A1 (by simp[hf]);refine⟨hk,?_,ih hr λL' m'=>fd L' (by rw[RP,hf];exact Cq _ m')⟩;by_cases q:A1∈F.A_
     . have e:=fL.2.1 q;refine Gn ns ?_;(try clear ns);intro oL N ep hL aC _;rw[<-e]at hL;exact⟨A1,oL,hf,hb,hL,λvs z=>by rw[aC]at z;(exfalso;cases z)⟩
     . refine xE (x.data A1 o ho fL.1 q) ?_;intro sl z;exact⟨A1,_,hf,hb,z,hd⟩
 . intro A1 m;refine Pl (g.Cz A1 m) ?_;intro q r o ho hd;refine⟨x.out ho q,r,?_⟩;by_cases z:A1∈F.A_
   . refine AC env ?_;(try clear env);intro mm B6 _;refine Gn B6 ?_;(try clear B6);intro oL N ep hL aC _;rw[<-r z]at hL;exact⟨oL,hL,by unfold H9;rw[aC]⟩
   . refine xE (x.data A1 o ho q z) ?_;(try clear z);intro sl z;exact⟨_,z,hd⟩
theorem Cf.imp{env:I (U×V)}(x:Cf F h C env)(ns:∀m,h.Ns F.env.locals m->Q.Ns F.env.locals m)(ce:∀n c u,(n,c)∈F.env.cells->h.IsCell c u->Q.IsCell c u)(vr:∀v u,VR h C v u->VR Q AT v u):Cf F Q AT env:=CZ x λm n xK r=>⟨m,ns m n,λc hc=>xE (xK c hc) λu q=>⟨u,ce c.1 c.2 u hc q⟩,λx v e q=>AC (r x v e q) λu s r=>⟨u,⟨s.1,λz=>AC (s.2 z) λc e f=>⟨c,e,ce x c _ (mem_of_lookup e) f⟩⟩,vr v u r⟩⟩
theorem Cf.ext{env:I (U×V)}{J:I A8}(k:∀b o,h.get? b=G o->Q.get? b=G o)(x:Cf F h C env):Cf F Q (C++J) env:=x.imp (λ_ ns=>ns.at' λo e=>k _ o e) (λ_ _ _ _ q=>q.keeps k) λ_ _ r=>r.mono λb o e _=>k b o e
theorem Gd.tok(g:Gd B F K A H C s)(tk:O):Gd B F K A H C {s with toks:=tk}:=⟨g.kinds,g.len,g.nodup,g.fresh,g.live,g.D5,g.D2,g.objs,g.env,g.base,g.os,g.gens,g.frames,g.DP,g.Cz,g.mods,g.handled,g.depth,g.units⟩
theorem Gd.ext(g:Gd B F K A H C s)(k:∀b o,s.heap.get? b=G o->Q.get? b=G o):Gd B F K A H C {s with heap:=Q,toks:=tk}:=by
 have :=g.of (A7:=H) (Q:=Q) (tk:=tk) (J:=[]) (Nx.add [] k (λ_ hb=>by simp at hb)) HK (λ_ hb=>by simp at hb) (λ_ hb=>by simp at hb) (by simpa using g.len) (λi o e=>by refine AC (g.objs i o e) ?_;intro a p q;exact⟨a,by simpa using p,q.mono (λb o e _=>k b o e) (k a)⟩) (g.env.ext k) (λb o e=>k b o (g.base b o e));simpa using this
theorem Gd.new(g:Gd B F K A H C s)(k:∀b o,s.heap.get? b=G o->Q.get? b=G o)(hn:s.heap.get? a=L)(hl:∃o,Q.get? a=G o)(ho:Ca B.prog B.w Q (C++[a]) a o):Gd B F K A (H.new o).2 (C++[a]) {s with heap:=Q,toks:=tk}:=by
 have O6:∀b∈[a],s.heap.get? b=L:=λb hb=>by rw[CI.mp hb];exact hn
 refine g.of (Nx.add [a] k O6) (by simp) O6 (λb hb=>by rw[CI.mp hb];exact hl) (by simp[Mine.St.new,g.len]) (λi o' e=>?_) (g.env.ext k) (λb o e=>k b o (g.base b o e));simp only[Mine.St.new,AL]at e;cases q:BC H.n i with
 |true=>
  rw[q]at e;injection e with e;subst e;have :=CD q;exact⟨a,by rw[<-this,<-g.len];simp,ho⟩|false=>
  rw[q]at e;refine AC (g.objs i o' e) ?_;intro b p r;exact⟨b,FX p,r.mono (λb o e _=>k b o e) (k b)⟩
theorem Sz{p:I A8->Prop}(h:p (C++[])):p C:=by simpa using h
theorem Cf.but{env:I (U×V)}(ha:a≠F.env.locals)(hc:∀c∈F.env.cells,c.2≠a)(k:Dq a h Q)(hi:Du h Q)(x:Cf F h C env):Cf F Q C env:=x.imp (λ_ ns=>ns.extBut k (CX ha)) (λn c u m q=>AC q λo e d=>⟨o,k _ _ (hc _ m) e,d⟩) λv u r=>Sz (p:=λJ=>VR Q J v u) (r.mono hi)
theorem Gd.aD(g:Gd B F K A H C s)(x:Nx F.D F.A_ s.heap Q C C)(len:A7.n=H.n)(objs:∀i o,AL A7.h i=G o->∃a,C[i]?=G a/\Ca B.prog B.w Q C a o)(env:Cf F Q C A7.env)(base:B.base.StaysIn Q):Gd B F K A A7 C {s with heap:=Q,toks:=tk}:=by
 have e:C++[]=C:=HL C;have :=g.of (A7:=A7) (Q:=Q) (tk:=tk) (J:=[]) (by rw[e];exact x) HK (λ_ hb=>by simp at hb) (λ_ hb=>by simp at hb) (by rw[e,len];exact g.len) (by rw[e];exact objs) (by rw[e];exact env) base;rwa[e]at this
theorem Ca.C2(r:Ca prog w h C a o)(hi:∀c d,o=.inst c d->c≠135):∀x,h.get? a=G x->C2 x=A6:=by
 intro x e;cases o with
 |list Y=>refine AC r ?_;(try clear r);intro us BJ _;refine xE BJ ?_;(try clear BJ);intro n q;rw[q]at e;injection e with e;subst e;rfl|dict N=>(rcases r with Bu|C9;refine AC Bu ?_;(try clear Bu);intro _ FE _;obtain⟨o,_,q,⟨c,_⟩,_⟩:=FE;rotate_left;refine AC C9 ?_;(try clear C9);intro _ GB _;obtain⟨o,_,q,⟨c,_⟩,_⟩:=GB;rotate_left)<;>(rw[q]at e;injection e with e;subst e;unfold Mine.C2;rw[c];rfl)|B3 N=>
  refine AC r ?_;(try clear r);intro _ _ r;(rcases r with Cn|D8;refine AC Cn ?_;(try clear Cn);intro _ HB _;obtain⟨o,_,q,⟨c,_⟩,_⟩:=HB;rotate_left;refine AC D8 ?_;(try clear D8);intro _ Hr _;obtain⟨o,_,q,⟨c,_⟩,_⟩:=Hr;rotate_left)<;>(rw[q]at e;injection e with e;subst e;unfold Mine.C2;rw[c];rfl)|EX N=>refine AC r ?_;(try clear r);intro m BP _;refine Gn BP ?_;(try clear BP);intro o _ _ q d _;rw[q]at e;injection e with e;subst e;unfold Mine.C2;rw[d];simp|rows k Y=>refine AC r ?_;(try clear r);intro us Bp _;refine xE Bp ?_;(try clear Bp);intro n q;rw[q]at e;injection e with e;subst e;rfl|HR=>refine xE r ?_;(try clear r);intro l q;rw[q]at e;injection e with e;subst e;rfl|inst c d=>
  refine AC r ?_;(try clear r);intro da _ q;rw[q]at e;injection e with e;subst e;have :=hi c d rfl;show(c==135&&A6)=A6;simp
theorem Gd.set(g:Gd B F K A H C s)(hi:C[i]?=G a)(W2:AL H.h i=G o)(Cc:∀c d,o≠.inst c d)(k:Dq a s.heap Q)(hl:∃o,Q.get? a=G o)(ho:∀x:Du s.heap Q,Ca B.prog B.w Q C a o'):Gd B F K A (H.set i o') C {s with heap:=Q,toks:=tk}/\Nx F.D [] s.heap Q C C:=by
 have ha:a∈C:=Ev hi;refine AC (g.objs i o W2) ?_;intro a' QF r;rw[hi]at QF;injection QF with QF;subst QF;have x:Nx F.D F.A_ s.heap Q C C:=Nx.but (.inl ha) k (r.C2 λc d e=>absurd e (Cc c d)) hl;have x0:Nx F.D [] s.heap Q C C:=Nx.but (.inl ha) k (r.C2 λc d e=>absurd e (Cc c d)) hl;refine⟨g.aD x rfl (λj p e=>?_) (g.env.but ?_ ?_ k x.Bw) (λb p e=>?_),x0⟩
 . rcases aB e with DW|Ec;refine xA DW ?_;(try clear DW);intro L2 L3;subst L2;subst L3;rotate_left;refine xA Ec ?_;(try clear Ec);intro hj e;rotate_left;. exact⟨a,hi,ho x.Bw⟩
   . refine AC (g.objs j p e) ?_;intro b q r;refine⟨b,q,?_⟩;have hb:b≠a:=λz=>by
      clear ha hl ho k;subst z;refine xE (HJ.mp hi) ?_;intro l1 q1;refine xE (HJ.mp q) ?_;intro l2 q2;exact hj ((RQ l2 g.nodup).mp (q.trans hi.symm))
     have :=r.mono (J:=[]) x.Bw λy=>k b y hb;simpa using this
 . exactλz=>(g.D5 _ g.kinds.IW).2.1 (z▸ha)
 . exactλc m z=>(g.D2 c m).1 (z▸ha)
 . refine k b p (λz=>?_) (g.base b p e);clear hi hl ho k r;subst z;rw[g.fresh b ha]at e;exact(BE e).elim
theorem Gd.aE(g:Gd B F K A H C s)(ha:a∉C)(k:Dq a s.heap Q)(x:Du s.heap Q):∀i o,AL H.h i=G o->∃a,C[i]?=G a/\Ca B.prog B.w Q C a o:=λi o e=>by
 refine AC (g.objs i o e) ?_;intro b q r;have :=r.mono (J:=[]) x λy=>k b y (λz=>ha (z▸Ev q));exact⟨b,q,by simpa using this⟩
theorem Gd.xL(g:Gd B F K A H C s):∀o,s.heap.get? F.env.locals=G o->∃N ep,o.data=.dict N ep:=λo e=>by
 refine CZ g.env ?_;intro m Bg _ _;refine Gn Bg ?_;(try clear Bg);intro o' N ep q d _;rw[q]at e;injection e with e;subst e;exact⟨N,ep,d⟩
theorem Gd.k8(g:Gd B F K A H C s){m:U->AD A4}(hx:F.env.kindOf x=G .local)(hv:VR s.heap C v u)(er:∀y w,Ah H.env y=G w->K3 F y->∃u,Sx F s.heap m y u/\VR s.heap C w u)(hn:Q.Ns F.env.locals (λy=>if y=x then G u else m y))(k:E3 F.env.locals s.heap Q):Gd B F K A ⟨EZ H.env x v,H.h,H.n⟩ C {s with heap:=Q,toks:=tk}/\Nx F.D F.A_ s.heap Q C C:=by
 refine G5 (g.D5 _ g.kinds.IW) ?_;intro aF ha _;have xx:Nx F.D F.A_ s.heap Q C C:=Nx.but (.inr g.kinds.IW) k.extBut (λo e=>by
   refine DA (g.xL o e) ?_;intro N ep d;unfold C2;rw[d];simp) (by refine Hm hn ?_;(try clear hn);intro o _ _ e _;exact⟨o,e⟩);have hi:∀{v:V}{u:A4},VR s.heap C v u->VR Q C v u:=λq=>q.nx xx;refine⟨g.aD xx rfl (g.aE ha k.extBut xx.Bw) ⟨_,hn,λc m=>let⟨_,_,ce,_⟩:=g.env;let⟨u,e⟩:=ce c m;⟨u,e.sameBut k (g.kinds.MO c m)⟩,λy w l fr=>?_⟩ (λb p e=>k.extBut b p (λz=>by rw[z,aF]at e;exact(BE e).elim) (g.base b p e)),xx⟩;rw[QE]at l;by_cases q:x=y
 . rw[DF q]at l;exact⟨u,⟨λ_=>DF q.symm,λz=>Sy z (q▸hx)⟩,Bl l▸hi hv⟩
 . rw[CS q]at l;refine AC (er y w l fr) ?_;intro u' sl z;exact⟨u',⟨λz=>(CS λe=>q e.symm).trans (sl.1 z),λz=>AC (sl.2 z) λc e f=>⟨c,e,f.sameBut k (g.kinds.MO _ (mem_of_lookup e))⟩⟩,hi z⟩
theorem Gd.k9(g:Gd B F K A H C s){c:A8}{T1:AD A4}(hx:F.env.kindOf x=G .cell)(hc:F.env.cells.lookup x=G c)(hw:c∈F.A_)(hv:VR s.heap C v u)(W2:s.heap.IsCell c T1)(hn:Q.IsCell c (G u))(k:E3 c s.heap Q):Gd B F K A ⟨EZ H.env x v,H.h,H.n⟩ C {s with heap:=Q,toks:=tk}/\Nx F.D F.A_ s.heap Q C C:=by
 refine G5 (g.D5 _ hw) ?_;intro aF ha _;have xx:Nx F.D F.A_ s.heap Q C C:=Nx.but (.inr hw) k.extBut (λo e=>by
   refine AC W2 ?_;(try clear W2);intro o' e' d;rw[e']at e;injection e with e;subst e;unfold C2;rw[d];simp) (by refine AC hn ?_;(try clear hn);intro o e _;exact⟨o,e⟩);have hi:∀{v:V}{u:A4},VR s.heap C v u->VR Q C v u:=λq=>q.nx xx;refine CZ g.env ?_;intro kC ns ce r;have hL:F.env.locals≠c:=λz=>g.kinds.MO _ (mem_of_lookup hc) z.symm;refine⟨g.aD xx rfl (g.aE ha k.extBut xx.Bw) ⟨kC,ns.sameBut k hL,λc' m'=>if z:c'.2=c then⟨_,z▸hn⟩else let⟨u,e⟩:=ce c' m';⟨u,e.sameBut k z⟩,λy w l fr=>?_⟩ (λb p e=>k.extBut b p (λz=>?_) (g.base b p e)),xx⟩
 . rw[QE]at l;by_cases q:x=y
   . rw[DF q]at l;exact⟨u,⟨λz=>Sy (.inl (q▸hx)) z,λ_=>⟨c,q▸hc,hn⟩⟩,Bl l▸hi hv⟩
   . rw[CS q]at l;refine AC (r y w l fr) ?_;intro u' sl z;exact⟨u',⟨sl.1,λz=>AC (sl.2 z) λc' e f=>⟨c',e,f.sameBut k λz=>q (name_of_addr g.kinds.cells (mem_of_lookup hc) (z▸mem_of_lookup e))⟩⟩,hi z⟩
 . rw[z,aF]at e;exact(BE e).elim
end
noncomputable def W3(A_:I A8)(B:Bs)(F:Fm)(K:Kx)(A:CK)(A7:Mine.St)(C:I A8)(s:AR)(t:Dy J)(IX:BK->I A8->J->Prop):Prop:=∀(A2:J->AR->Prop)(E:A4->AR->Prop),(∀u AT s',Gd B F K A A7 AT s'->Nx F.D A_ s.heap s'.heap C AT->IX s'.heap AT u->A2 u s')->AH (AQ B.prog B.w) A t A2 E s
noncomputable abbrev CJ(B:Bs)(F:Fm)(K:Kx)(A:CK)(A7:Mine.St)(C:I A8)(s:AR)(t:Dy J)(IX:BK->I A8->J->Prop):Prop:=W3 F.A_ B F K A A7 C s t IX
noncomputable abbrev Ae(B:Bs)(F:Fm)(K:Kx)(A:CK)(A7:Mine.St)(C:I A8)(s:AR)(t:Dy J)(IX:BK->I A8->J->Prop):Prop:=W3 [] B F K A A7 C s t IX
theorem Nx.FY(x:Nx AM [] h Q C AT):Nx AM A_ h Q C AT:=⟨x.pre,x.live,x.Bw,λb o e n _=>x.same b o e n (by simp)⟩
theorem W3.T3{t:Dy J}{IX:BK->I A8->J->Prop}(d:Ae B F K A A7 C s t IX):CJ B F K A A7 C s t IX:=λA2 E k=>d A2 E λu AT s' g x r=>k u AT s' g x.FY r
noncomputable abbrev RV(v:V):BK->I A8->A4->Prop:=λh C u=>VR h C v u
noncomputable abbrev O7(v:I V):BK->I A8->I A4->Prop:=λh C u=>Aa h C v u
noncomputable abbrev RB(b:AK):BK->I A8->AK->Prop:=λ_ _ u=>u=b
noncomputable abbrev RU:BK->I A8->Do->Prop:=λ_ _ _=>PP
noncomputable def FR(f:Fl):BK->I A8->HM->Prop:=λh C u=>match f with
 |.next=>u=.next|.brk=>u=.brk|.cont=>u=.cont|.ret v=>∃x,u=.ret x/\VR h C v x
section
theorem CJ.pure{b:J}{IX:BK->I A8->J->Prop}(g:Gd B F K A H C s)(r:IX s.heap C b):W3 A_ B F K A H C s (Pure.pure b) IX:=λ_ _ k=>AW (k b C s g (Nx.refl ..) r)
theorem FF{v:J}{l:I (U×J)}:Ah l x=G v->(x,v)∈l:=by induction l with
 |nil=>exactλh=>(AF h).elim|cons p l ih=>
 intro h;refine Ea (Ss.symm.trans h) (λq h=>?_) λ_ h=>Cq _ (ih h);rw[<-E1.mp q,<-Bl h];exact Cp
theorem T4{l:I (U×J)}{env:I (U×EG)}{f:J->EG}(h:l.map (λp=>Ah env p.1)=l.map λp=>G (f p.2)){v:J}(e:Ah l x=G v):Ah env x=G (f v):=H3.mp h _ (FF e)
theorem aG(h:Q8 sc=M)(hl:D1 sc x=M):(x==("__debug__":U))=A6/\(x==("__classdict__":U))=A6:=by
 refine AC (W1 (P:=λ_=>PP) hl λ_ _=>trivial) ?_;intro k q _;have :=(Bq.mp h) _ (FF q);simp only[D6,RS,Kz]at this;exact⟨Ll.mpr this.1,Ll.mpr this.2⟩
theorem aH(g:Gd B F K A H C s)(hl:D1 K.sc x=M)(hv:Ah H.env x=G v)(k:∀u,VR s.heap C v u->A2 u s):AH (AQ B.prog B.w) A' (loadName F.env x) A2 E s:=by
 refine CZ g.env ?_;intro m ns _ r;refine AC (r x v hv (g.kinds.loc x hl)) ?_;intro u sl z;have ku:=k u z;rcases g.kinds.loc x hl with q|q|q;. exact wpAny_loadName_local g.kinds.fn q ns (sl.1 q) ku
 . exact AC (sl.2 (.inl q)) λc e f=>wpAny_loadName_cell g.kinds.fn q e f ku
 . exact AC (sl.2 (.inr q)) λc e f=>wpAny_loadName_free g.kinds.fn q e f ku (aG g.kinds.sc hl).2
theorem kD(g:Gd B F K A H C s)(hl:D1 K.sc id=M)(hv:Ah H.env id=G v):Ae B F K A H C s (loadName F.env id) (RV v):=λA2 E k=>aH g hl hv λu z=>k u C s g (Nx.refl ..) z
theorem aI(g:Gd B F K A H C s)(hl:D1 K.sc id=M)(hv:Ah H.env id=G v):Ae B F K A H C s (eval (.Name id pos) F.env) (RV v):=λA2 E k=>wpAny_Name (kD g hl hv A2 E k) (aG g.kinds.sc hl).1
theorem W4{c:f7}{L4:O}(g:Gd B F K A H C s)(hv:O0 c=G v):Ae B F K A H C s (eval (.Constant c L4 pos) F.env) (RV v):=by cases c with
 |none=>refine Br (P:=λv=>Ae B F K A H C s _ (RV v)) hv ?_;exactλ_ _ k=>wpAny_Constant_none (k _ C s g (Nx.refl ..) rfl)|bool b=>refine Br (P:=λv=>Ae B F K A H C s _ (RV v)) hv ?_;exactλ_ _ k=>s_ (k _ C s g (Nx.refl ..) rfl)|int i=>refine Br (P:=λv=>Ae B F K A H C s _ (RV v)) hv ?_;exactλ_ _ k=>bo4 (k _ C _ (g.tok _) (Nx.refl ..) ⟨_,rfl⟩)|str x=>refine Br (P:=λv=>Ae B F K A H C s _ (RV v)) hv ?_;exactλ_ _ k=>fQ (k _ C _ (g.tok _) (Nx.refl ..) ⟨_,rfl⟩)|_=>exact(AF hv).elim
end
structure CM(B:Bs)(F:Fm)(C:I A8)(h:BK)(AE:A8):Prop where
 C:AE∉C
 w:AE∉F.A_
 cells:∀c∈F.env.cells,c.2≠AE
 base:B.base.get? AE=L
 outs:AE∉F.outs.filterMap (·.frame)live:∃o,h.get? AE=G o
section
noncomputable def E5(h:BK)(C:I A8)(it:It)(i:O)(AE:A8):Prop:=match it with
 |.tup Y=>∃T us,T≠AE/\h.IsTupleIter AE T i/\h.IsTuple T us/\Aa h C Y us.toList|.H7 lo hi=>∃left,IsRangeIter h AE (lo+(i:AX)) left 1/\left=max (hi-lo) 0-(i:AX)|.lst k=>∃a,C[k]?=G a/\h.IsListIter AE a i|.keys k n=>∃a,C[k]?=G a/\h.IsKeyIter AE a i n n|.K1 _=>Bi
end
theorem FG{r r':AS}(h:A0.ok r H=.ok r' A7):r=r'/\H=A7:=by injection h with a b;exact⟨a,b⟩
theorem B5{v v':Mine.V}(h:A0.ok (.v v) H=.ok (.v v') A7){P:Mine.V->Mine.St->Prop}(k:P v H):P v' A7:=by injection h with a b;injection a with a;subst a;subst b;exact k
theorem BX{v v':Fl}(h:A0.ok (.f v) H=.ok (.f v') A7){P:Fl->Mine.St->Prop}(k:P v H):P v' A7:=by injection h with a b;injection a with a;subst a;subst b;exact k
theorem O8{r r':AS}(h:A0.ok r H=.ok r' A7){P:Mine.St->Prop}(k:P H):P A7:=(FG h).2▸k
theorem BY{v v':I Mine.V}(h:A0.ok (.vs v) H=.ok (.vs v') A7){P:I Mine.V->Mine.St->Prop}(k:P v H):P v' A7:=by injection h with a b;injection a with a;subst a;subst b;exact k
theorem BZ{v v':AK}(h:A0.ok (.b v) H=.ok (.b v') A7){P:AK->Mine.St->Prop}(k:P v H):P v' A7:=by injection h with a b;injection a with a;subst a;subst b;exact k
theorem A0.Cg{o:A0}{k:Mine.V->Mine.St->A0}{r:AS}(h:o.V k=.ok r A7){P:Prop}(c:∀v AB,o=.ok (.v v) AB->k v AB=.ok r A7->P):P:=by cases o with
 |bad=>exact(Ac h).elim|ok x AB=>cases x with
 |v v=>exact c v AB rfl h|_=>exact(Ac h).elim
theorem A0.L5{o:A0}{k:I Mine.V->Mine.St->A0}{r:AS}(h:o.A1 k=.ok r A7){P:Prop}(c:∀v AB,o=.ok (.vs v) AB->k v AB=.ok r A7->P):P:=by cases o with
 |bad=>exact(Ac h).elim|ok x AB=>cases x with
 |vs v=>exact c v AB rfl h|_=>exact(Ac h).elim
theorem A0.O9{o:A0}{k:AK->Mine.St->A0}{r:AS}(h:o.B k=.ok r A7){P:Prop}(c:∀v AB,o=.ok (.b v) AB->k v AB=.ok r A7->P):P:=by cases o with
 |bad=>exact(Ac h).elim|ok x AB=>cases x with
 |b v=>exact c v AB rfl h|_=>exact(Ac h).elim
theorem A0.Hs{o:A0}{k:Fl->Mine.St->A0}{r:AS}(h:o.F k=.ok r A7){P:Prop}(c:∀v AB,o=.ok (.f v) AB->k v AB=.ok r A7->P):P:=by cases o with
 |bad=>exact(Ac h).elim|ok x AB=>cases x with
 |f v=>exact c v AB rfl h|_=>exact(Ac h).elim
theorem A0.kE{o:A0}(h:o.nx=.ok (.f f) A7):f=.next/\∃f',o=.ok (.f f') A7:=A0.Hs h λf' _ e h=>BX h (P:=λf A7=>f=.next/\∃f',o=.ok (.f f') A7) ⟨rfl,f',e⟩
theorem A0.xM{o:A0}{k:Mine.V->Mine.St->A0}(h:(o.V λv H=>(k v H).nx)=.ok (.f f) A7):f=.next/\∃f',o.V k=.ok (.f f') A7:=A0.Cg h λv H e h=>by rw[e];exact A0.kE h
theorem A0.Bx{o:AD J}{k:J->A0}{r:AS}(h:A0.of o k=.ok r A7){P:Prop}(c:∀v,o=G v->k v=.ok r A7->P):P:=by cases o with
 |none=>exact(Ac h).elim|some v=>exact c v rfl h
theorem A0.Be{o:A0}{r:AS}(h:A0.iff b o=.ok r A7){P:Prop}(c:b=M->o=.ok r A7->P):P:=by cases b with
 |false=>exact(Ac h).elim|true=>exact c rfl h
theorem A0.MQ{v:Mine.V}{k:O->I Mine.V->A0}{r:AS}(h:A0.lst hp v k=.ok r A7){P:Mine.V->Prop}(c:∀i Y,AL hp i=G (.list Y)->k i Y=.ok r A7->P (.ref i)):P v:=by
 apply EH h Ac;intro i h;cases e:AL hp i with
 |none=>rw[e]at h;exact(Ac h).elim|some o=>rw[e]at h;cases o with
 |list Y=>exact c i Y e h|_=>exact(Ac h).elim
theorem A0.OA{k:O->I (Mine.V×Mine.V)->A0}{r:AS}(h:A0.Ez hp (.ref i) k=.ok r A7){P:Prop}(c:∀Y,AL hp i=G (.dict Y)->k i Y=.ok r A7->P):P:=by
 have h:(oS (AL hp i) .bad λo=>FU o .bad (k i))=A0.ok r A7:=h;cases e:AL hp i with
 |none=>rw[e]at h;exact(Ac h).elim|some o=>rw[e]at h;cases o with
 |dict Y=>exact c Y e h|_=>exact(Ac h).elim
theorem A0.xN{v:Mine.V}{k:O->I (Mine.V×Mine.V)->A0}{r:AS}(h:A0.Ez hp v k=.ok r A7){P:Mine.V->Prop}(c:∀i Y,AL hp i=G (.dict Y)->k i Y=.ok r A7->P (.ref i)):P v:=EH h Ac λi h=>A0.OA (hp:=hp) (i:=i) (k:=k) h (c i)
theorem MR{x:AD V}(h:Fj x H=.ok (.v v) A7):x=G v/\A7=H:=by
 refine A0.Bx h λw e h=>?_;apply B5 h;exact⟨e,rfl⟩
structure C5(B:Bs)(A3:Mine.Ctx)(n:O):Prop where
 e:∀{K:Kx}{x:AA}{H A7:Mine.St}{v:V},ev A3 n K (.e x) H=.ok (.v v) A7->∀{F:Fm}{A:CK}{C:I A8}{s:AR},Gd B F K A H C s->Ae B F K A A7 C s (eval x F.env) (RV v)N:∀{K:Kx}{l:I AA}{H A7:Mine.St}{v:I V},ev A3 n K (.N l) H=.ok (.vs v) A7->∀{F:Fm}{A:CK}{C:I A8}{s:AR}(pos:BA),Gd B F K A H C s->Ae B F K A A7 C s (Lm (F8 pos (Dz l F.env))) (O7 v)t:∀{K:Kx}{x:AA}{H A7:Mine.St}{v:AK},ev A3 n K (.t x) H=.ok (.b v) A7->∀{F:Fm}{A:CK}{C:I A8}{s:AR},Gd B F K A H C s->Ae B F K A A7 C s (NQ x F.env (eval x F.env)) (RB v)ts:∀{K:Kx}{a:AK}{l:I AA}{H A7:Mine.St}{v:AK},ev A3 n K (.ts a l) H=.ok (.b v) A7->∀{F:Fm}{A:CK}{C:I A8}{s:AR},Gd B F K A H C s->Ae B F K A A7 C s (allTrue (if a then .And else .Or) l F.env) (RB v)s:∀{K:Kx}{x:As}{H A7:Mine.St}{f:Fl},ev A3 n K (.s x) H=.ok (.f f) A7->∀{F:Fm}{A:CK}{C:I A8}{s:AR},Gd B F K A H C s->CJ B F K A A7 C s (exec x F.env) (FR f)ss:∀{K:Kx}{l:I As}{H A7:Mine.St}{f:Fl},ev A3 n K (.ss l) H=.ok (.f f) A7->∀{F:Fm}{A:CK}{C:I A8}{s:AR},Gd B F K A H C s->CJ B F K A A7 C s (Iz l F.env) (FR f)asg:∀{K:Kx}{t:AA}{v:V}{H A7:Mine.St}{f:Fl},ev A3 n K (.asg t v) H=.ok (.f f) A7->∀{F:Fm}{A:CK}{C:I A8}{s:AR}{u:A4},Gd B F K A H C s->VR s.heap C v u->CJ B F K A A7 C s (Ew t F.env u) RU
 ME:∀{K:Kx}{ts:I AA}{vs:I V}{H A7:Mine.St}{f:Fl},ev A3 n K (.ME ts vs) H=.ok (.f f) A7->∀{F:Fm}{A:CK}{C:I A8}{s:AR}{us:I A4},Gd B F K A H C s->Aa s.heap C vs us->CJ B F K A A7 C s (NR ((GJ ts F.env).map (·.2)) us) RU
 GQ:∀{K:Kx}{ts:I AA}{v:V}{H A7:Mine.St}{f:Fl},ev A3 n K (.GQ ts v) H=.ok (.f f) A7->∀{F:Fm}{A:CK}{C:I A8}{s:AR}{u:A4},Gd B F K A H C s->VR s.heap C v u->CJ B F K A A7 C s (fR u ((GJ ts F.env).map (·.2))) RU
 xO:∀{K:Kx}{v:V}{H A7:Mine.St}{r:AS},ev A3 n K (.GQ [] v) H=.ok r A7->A7=H
 xP:∀{K:Kx}{id:U}{pos:BA}{v:V}{H A7:Mine.St}{f:Fl},ev A3 n K (.asg (.Name id pos) v) H=.ok (.f f) A7->∀{F:Fm}{A:CK}{C:I A8}{s:AR}{u:A4},Gd B F K A H C s->VR s.heap C v u->CJ B F K A A7 C s (fS F.env id u) RU
 call:∀{K:Kx}{f:V}{args:I V}{H A7:Mine.St}{v:V},ev A3 n K (.call f args) H=.ok (.v v) A7->∀{F:Fm}{A:CK}{C:I A8}{s:AR}{fu:A4}{us:I A4},Gd B F K A H C s->VR s.heap C f fu->Aa s.heap C args us->Ae B F K A A7 C s (CE fu us) (RV v)MF:∀{K:Kx}{t:AA}{b:I As}{H A7:Mine.St}{f:Fl},ev A3 n K (.MF t b) H=.ok (.f f) A7->∀{F:Fm}{A:CK}{C:I A8}{s:AR}{AS:Dr->AR->Prop},Gd B F K A H C s->(∀u AT s',Gd B F K A A7 AT s'->Nx F.D F.A_ s.heap s'.heap C AT->FR f s'.heap AT u->AS (.ok u) s')->D7 (AQ B.prog B.w) A (.whileLoop t b [] F.env) AS s
 loop:∀{K:Kx}{t:AA}{it:It}{i:O}{b:I As}{H A7:Mine.St}{f:Fl},ev A3 n K (.loop t it i b) H=.ok (.f f) A7->∀{F:Fm}{A:CK}{C BG:I A8}{s:AR}{Af:BK}{AE:A8}{AS:Dr->AR->Prop},Gd B F K A H C s->Nx F.D F.A_ Af s.heap BG C->Af.get? AE=L->CM B F C s.heap AE->E5 s.heap C it i AE->(∀u AT s',Gd B F K A A7 AT s'->Nx F.D F.A_ Af s'.heap BG AT->FR f s'.heap AT u->AS (.ok u) s')->D7 (AQ B.prog B.w) A (.forLoop t (.ref AE) b [] F.env) AS s
theorem C5.eW(A9:C5 B A3 n){x:AA}(h:ev A3 n K (.e x) H=.ok (.v v) A7)(g:Gd B F K A H C s):CJ B F K A A7 C s (eval x F.env) (RV v):=(A9.e h g).T3
theorem C5.tW(A9:C5 B A3 n){x:AA}{v:AK}(h:ev A3 n K (.t x) H=.ok (.b v) A7)(g:Gd B F K A H C s):CJ B F K A A7 C s (NQ x F.env (eval x F.env)) (RB v):=(A9.t h g).T3
section
theorem xQ(A9:C5 B A3 n){t a b:AA}(h:Fo A3 K (ev A3 n) (.IfExp t a b pos) H=.ok (.v v) A7)(g:Gd B F K A H C s):Ae B F K A A7 C s (eval (.IfExp t a b pos) F.env) (RV v):=by
 refine A0.O9 h ?_;intro c AB AP BD;intro A2 E k;refine wpAny_IfExp (A9.t AP g _ _ λu AZ AJ AN Ab Aq=>?_);clear AP;subst Aq;cases u;. exact A9.e BD AN _ _ λu Au Ai AU Al BB=>k u Au Ai AU (Ab.trans Al) BB
 . exact A9.e BD AN _ _ λu Au Ai AU Al BB=>k u Au Ai AU (Ab.trans Al) BB
theorem aJ{x:AA}(h:CP x=M):(∀l env,Dz (x::l) env=(A6,eval x env)::Dz l env)/\(∀ts env,GJ (x::ts) env=(A6,Ew x env)::GJ ts env)/\∀env v,sa x env v=pure v:=by cases x<;>first|exact⟨λ_ _=>rfl,λ_ _=>rfl,λ_ _=>rfl⟩|exact(E4 h).elim
theorem K6{x:AA}(h:CP x=M){l:I AA}:Dz (x::l) env=(A6,eval x env)::Dz l env:=(aJ h).1 l env
theorem aK{t:AA}(h:CP t=M):GJ (t::ts) env=(A6,Ew t env)::GJ ts env:=(aJ h).2.1 ts env
theorem QG(h:CP e=M)(x:A4):sa e env x=pure x:=(aJ h).2.2 env x
theorem xR(A9:C5 B A3 n){l:I AA}{v:I V}(h:step A3 K (ev A3 n) (.N l) H=.ok (.vs v) A7)(pos:BA)(g:Gd B F K A H C s):Ae B F K A A7 C s (Lm (F8 pos (Dz l F.env))) (O7 v):=by
 intro A2 E k;cases l with
 |nil=>
  (first|(revert k;(first|apply BX h|apply B5 h|apply BY h|apply BZ h|apply B_ h);intro k)|apply BX h|apply B5 h|apply BY h|apply BZ h|apply B_ h);exact Uk (k [] C s g (Nx.refl ..) rfl)|cons x l=>
  refine A0.Be h ?_;clear h;intro hp h;refine A0.Cg h ?_;clear h;intro a AB AP h;refine A0.L5 h ?_;clear h;intro b Bc BD h;(first|(revert k;(first|apply BX h|apply B5 h|apply BY h|apply BZ h|apply B_ h);intro k)|apply BX h|apply B5 h|apply BY h|apply BZ h|apply B_ h);refine Ln (A9.e AP g _ _ λu AZ AJ AN Ab Aq=>A9.N BD pos AN _ _ λus Au Ai AU Al BB=>k _ Au Ai AU (Ab.trans Al) ⟨u,us,rfl,Aq.nx Al,BB⟩) (K6 hp)
theorem xS(A9:C5 B A3 n){l:I As}(h:step A3 K (ev A3 n) (.ss l) H=.ok (.f f) A7)(g:Gd B F K A H C s):CJ B F K A A7 C s (Iz l F.env) (FR f):=by
 intro A2 E k;cases l with
 |nil=>
  (first|(revert k;(first|apply BX h|apply B5 h|apply BY h|apply BZ h|apply B_ h);intro k)|apply BX h|apply B5 h|apply BY h|apply BZ h|apply B_ h);exact G1 (k .next C s g (Nx.refl ..) rfl)|cons x l=>
  refine A0.Hs h ?_;clear h;intro a AB AP h;refine DH (A9.s AP g _ _ λu AZ AJ AN Ab Aq=>?_);cases a with
 |next=>
   cases Aq;exact A9.ss h AN _ _ λus Au Ai AU Al BB=>k _ Au Ai AU (Ab.trans Al) BB|brk=>
   cases Aq;(first|(revert k;(first|apply BX h|apply B5 h|apply BY h|apply BZ h|apply B_ h);intro k)|apply BX h|apply B5 h|apply BY h|apply BZ h|apply B_ h);exact k _ AZ AJ AN Ab rfl|cont=>
   cases Aq;(first|(revert k;(first|apply BX h|apply B5 h|apply BY h|apply BZ h|apply B_ h);intro k)|apply BX h|apply B5 h|apply BY h|apply BZ h|apply B_ h);exact k _ AZ AJ AN Ab rfl|ret v=>
   refine AC Aq ?_;(try clear Aq);intro y Bg Aq;subst Bg;(first|(revert k;(first|apply BX h|apply B5 h|apply BY h|apply BZ h|apply B_ h);intro k)|apply BX h|apply B5 h|apply BY h|apply BZ h|apply B_ h);exact k _ AZ AJ AN Ab ⟨y,rfl,Aq⟩
structure Lf(B:Bs):Prop where
 truthy:∀{F:Fm}{K:Kx}{A:CK}{H:Mine.St}{C:I A8}{s:AR}{v:V}{u:A4}{b:AK},Gd B F K A H C s->VR s.heap C v u->Mine.truthy v H.h=G b->Ae B F K A H C s (sd u) (RB b)cmp:∀{F:Fm}{K:Kx}{A:CK}{H:Mine.St}{C:I A8}{s:AR}{op:PL}{v v':V}{u u':A4}{b:AK},Gd B F K A H C s->VR s.heap C v u->VR s.heap C v' u'->Vf op v v' H.h=G b->Ae B F K A H C s (D_ op u u') (λ_ _ r=>r=.bool b)xT:∀{F:Fm}{K:Kx}{A:CK}{H:Mine.St}{C:I A8}{s:AR}{op:Jg}{v v' r:V}{u u':A4},Gd B F K A H C s->VR s.heap C v u->VR s.heap C v' u'->Zh op v v'=G r->Ae B F K A H C s (inplaceOp op u u') (RV r)bin:∀{F:Fm}{K:Kx}{A:CK}{H A7:Mine.St}{C:I A8}{s:AR}{op:Jg}{v v' r:V}{u u':A4},Gd B F K A H C s->VR s.heap C v u->VR s.heap C v' u'->Vp op v v' H=.ok (.v r) A7->Ae B F K A A7 C s (Ex op u u') (RV r)
theorem xU(A9:C5 B A3 n)(Lo:Lf B){l r:AA}(hr:Sp l op r=L)(h:Fo A3 K (ev A3 n) (.BinOp l op r pos) H=.ok (.v v) A7)(g:Gd B F K A H C s):Ae B F K A A7 C s (eval (.BinOp l op r pos) F.env) (RV v):=by
 refine M4 h (λx e _=>by rw[hr]at e;exact(AF e).elim) λ_ h=>?_;refine A0.Cg h ?_;clear h;intro a AB AP h;refine A0.Cg h ?_;clear h;intro b Bc BD h;intro A2 E k;exact se (A9.e AP g _ _ λu AZ AJ AN Ab Aq=>A9.e BD AN _ _ λu' Au Ai AU Al BB=>Lo.bin AU (Aq.nx Al) BB h _ _ λy BS Ax Ao B8 BQ=>k y BS Ax Ao (Ab.trans (Al.trans B8)) BQ)
theorem xV(A9:C5 B A3 n)(Lo:Lf B){l r:AA}{op:PL}(h:Fo A3 K (ev A3 n) (.Compare l [op] [r] pos) H=.ok (.v v) A7)(g:Gd B F K A H C s):Ae B F K A A7 C s (eval (.Compare l [op] [r] pos) F.env) (RV v):=by
 refine A0.Be h ?_;clear h;intro hm h;refine A0.Cg h ?_;clear h;intro a AB AP h;refine A0.Cg h ?_;clear h;intro b Bc BD h;refine A0.Bx h ?_;clear h;intro c C3 h;(first|(revert k;(first|apply BX h|apply B5 h|apply BY h|apply BZ h|apply B_ h);intro k)|apply BX h|apply B5 h|apply BY h|apply BZ h|apply B_ h);intro A2 E k;refine bo5 (A9.e AP g _ _ λu AZ AJ AN Ab Aq=>A9.e BD AN _ _ λu' Au Ai AU Al BB=>Lo.cmp AU (Aq.nx Al) BB C3 _ _ λy BS Ax Ao B8 BQ=>k y BS Ax Ao (Ab.trans (Al.trans B8)) BQ) (by simpa using hm)
theorem xW(A9:C5 B A3 n)(Lo:Lf B){a b:AA}(h:Fo A3 K (ev A3 n) (.BoolOp .Or [a,b] pos) H=.ok (.v v) A7)(g:Gd B F K A H C s):Ae B F K A A7 C s (eval (.BoolOp .Or [a,b] pos) F.env) (RV v):=by
 refine A0.Cg h ?_;clear h;intro x AB AP h;refine A0.Bx h ?_;clear h;intro c C3 h;intro A2 E k;refine wpAny_Or2 (A9.e AP g _ _ λu AZ AJ AN Ab Aq=>Lo.truthy AN Aq C3 _ _ λy BS Ax Ao B8 BQ=>?_);clear C3;subst BQ;cases y with
 |true=>
  (first|(revert k;(first|apply BX h|apply B5 h|apply BY h|apply BZ h|apply B_ h);intro k)|apply BX h|apply B5 h|apply BY h|apply BZ h|apply B_ h);exact k u BS Ax Ao (Ab.trans B8) (Aq.nx B8)|false=>exact A9.e h Ao _ _ λu' Au Ai AU Al BB=>k u' Au Ai AU (Ab.trans (B8.trans Al)) BB
theorem xX(A9:C5 B A3 n){l:I AA}(h:Fo A3 K (ev A3 n) (.Tuple l kd pos) H=.ok (.v v) A7)(g:Gd B F K A H C s):Ae B F K A A7 C s (eval (.Tuple l kd pos) F.env) (RV v):=by
 refine A0.L5 h ?_;clear h;intro a AB AP h;refine A0.Be h ?_;clear h;intro hf h;(first|(revert k;(first|apply BX h|apply B5 h|apply BY h|apply BZ h|apply B_ h);intro k)|apply BX h|apply B5 h|apply BY h|apply BZ h|apply B_ h);intro A2 E k;refine wpAny_Tuple (A9.N AP pos g _ _ λus AZ AJ AN Ab Aq=>⟨?_,?_⟩)
 . rw[<-Aq.length];exact B4 (Dj hf) (by decide)
 . have kp:∀b o,AJ.heap.get? b=G o->(AJ.heap.push {cls:=.type "tuple",data:=.seq us.toArray}).get? b=G o:=λb o e=>C1 _ e;refine k _ AZ _ (AN.ext (tk:=AJ.toks) kp) (Ab.trans (Nx.ext kp)) ⟨_,_,us.toArray,0,rfl,CY _ rfl,⟨rfl,λ_=>⟨rfl,rfl⟩⟩,rfl,rfl,?_⟩;have :=Aq.mono (J:=[]) (Q:=AJ.heap.push {cls:=.type "tuple",data:=.seq us.toArray}) (λb o e _=>kp b o e);simpa using this
theorem xY(A9:C5 B A3 n){l:I AA}(h:Fo A3 K (ev A3 n) (.List l pos) H=.ok (.v v) A7)(g:Gd B F K A H C s):Ae B F K A A7 C s (eval (.List l pos) F.env) (RV v):=by
 refine A0.L5 h ?_;clear h;intro a AB AP h;refine A0.Be h ?_;clear h;intro hf h;(first|(revert k;(first|apply BX h|apply B5 h|apply BY h|apply BZ h|apply B_ h);intro k)|apply BX h|apply B5 h|apply BY h|apply BZ h|apply B_ h);intro A2 E k;refine wpAny_List (A9.N AP pos g _ _ λus AZ AJ AN Ab Aq=>⟨?_,?_⟩)
 . rw[<-Aq.length];exact B4 (Dj hf) (by decide)
 . have kp:∀b o,AJ.heap.get? b=G o->(AJ.heap.push {cls:=.type "list",data:=.seq us.toArray}).get? b=G o:=λb o e=>C1 _ e;have hn:AJ.heap.get? AJ.heap.objs.size=L:=by cases e:AJ.heap.get? AJ.heap.objs.size with
 |none=>rfl|some o=>exact absurd (Dg e) (Ix _)
   have hg:=CY AJ.heap (o:={cls:=.type "list",data:=.seq us.toArray}) rfl;refine k _ (AZ++[AJ.heap.objs.size]) _ (AN.new (tk:=AJ.toks) kp hn ⟨_,hg⟩ (o:=.list a) ⟨us.toArray,⟨_,hg⟩,?_⟩) (Ab.trans (Nx.add [_] kp λb hb=>by rw[CI.mp hb];exact hn)) ⟨_,?_,rfl⟩;. exact Aq.mono (λb o e _=>kp b o e)
   . rw[<-AN.len];simp
end
section
theorem xZ(A9:C5 B A3 n){a:AK}{l:I AA}{v:AK}(h:step A3 K (ev A3 n) (.ts a l) H=.ok (.b v) A7)(g:Gd B F K A H C s):Ae B F K A A7 C s (allTrue (if a then .And else .Or) l F.env) (RB v):=by
 intro A2 E k;cases l with
 |nil=>
  (first|(revert k;(first|apply BX h|apply B5 h|apply BY h|apply BZ h|apply B_ h);intro k)|apply BX h|apply B5 h|apply BY h|apply BZ h|apply B_ h);cases a;. exact wpAny_allTrue_Or_nil (k _ C s g (Nx.refl ..) rfl)
  . exact wpAny_allTrue_And_nil (k _ C s g (Nx.refl ..) rfl)|cons x l=>
  refine A0.O9 h ?_;clear h;intro b AB AP h;cases a
  . refine wpAny_allTrue_Or_cons (A9.t AP g _ _ λu AZ AJ AN Ab Aq=>?_);clear AP;subst Aq;cases u;. exact A9.ts (a:=A6) h AN _ _ λu' Au Ai AU Al BB=>k u' Au Ai AU (Ab.trans Al) BB
    . (first|(revert k;(first|apply BX h|apply B5 h|apply BY h|apply BZ h|apply B_ h);intro k)|apply BX h|apply B5 h|apply BY h|apply BZ h|apply B_ h);exact k _ AZ AJ AN Ab rfl
  . refine wpAny_allTrue_And_cons (A9.t AP g _ _ λu AZ AJ AN Ab Aq=>?_);clear AP;subst Aq;cases u
    . (first|(revert k;(first|apply BX h|apply B5 h|apply BY h|apply BZ h|apply B_ h);intro k)|apply BX h|apply B5 h|apply BY h|apply BZ h|apply B_ h);exact k _ AZ AJ AN Ab rfl
    . exact A9.ts (a:=M) h AN _ _ λu' Au Ai AU Al BB=>k u' Au Ai AU (Ab.trans Al) BB
theorem kF(A9:C5 B A3 n)(Lo:Lf B){x:AA}{v:AK}(h:((ev A3 n K (.e x) H).V λv H=>Zr (truthy v H.h) H)=.ok (.b v) A7)(g:Gd B F K A H C s)(he:NQ x F.env (eval x F.env)=(do let v<-eval x F.env;Ke x.pos;Hd [v] (sd v))):Ae B F K A A7 C s (NQ x F.env (eval x F.env)) (RB v):=by
 intro A2 E k;refine A0.Cg h ?_;clear h;intro a AB AP h;refine A0.Bx h ?_;clear h;intro b BD h;(first|(revert k;(first|apply BX h|apply B5 h|apply BY h|apply BZ h|apply B_ h);intro k)|apply BX h|apply B5 h|apply BY h|apply BZ h|apply B_ h);exact sg (A9.e AP g _ _ λu AZ AJ AN Ab Aq=>Lo.truthy AN Aq BD _ _ λy Au Ai AU Al BB=>k y Au Ai AU (Ab.trans Al) BB) he
theorem x_(A9:C5 B A3 n)(Lo:Lf B){x:AA}{v:AK}(h:step A3 K (ev A3 n) (.t x) H=.ok (.b v) A7)(g:Gd B F K A H C s):Ae B F K A A7 C s (NQ x F.env (eval x F.env)) (RB v):=by cases x with
 |UnaryOp op x pos=>cases op with
  |Not=>
   intro A2 E k;refine A0.O9 h ?_;clear h;intro b AB AP h;(first|(revert k;(first|apply BX h|apply B5 h|apply BY h|apply BZ h|apply B_ h);intro k)|apply BX h|apply B5 h|apply BY h|apply BZ h|apply B_ h);refine wpAny_isTrue_Not (A9.t AP g _ _ λu AZ AJ AN Ab Aq=>?_);clear h AP;subst Aq;exact k _ AZ AJ AN Ab rfl|_=>exact kF A9 Lo h g rfl
 |BoolOp op Y pos=>
  intro A2 E k;refine wpAny_isTrue_BoolOp ?_;have :=A9.ts h g A2 E k;cases op<;>exact this|IfExp=>exact(Ac h).elim|Compare l CN rs pos=>cases CN with
  |nil=>exact(Ac h).elim|cons op CN=>cases CN with
  |cons _ _=>exact(Ac h).elim|nil=>cases rs with
  |nil=>exact(Ac h).elim|cons r rs=>cases rs with
  |cons _ _=>exact(Ac h).elim|nil=>
   refine A0.Be h ?_;clear h;intro hm h;refine A0.Cg h ?_;clear h;intro a AB AP h;refine A0.Cg h ?_;clear h;intro b Bc BD h;refine A0.Bx h ?_;clear h;intro c C3 h;(first|(revert k;(first|apply BX h|apply B5 h|apply BY h|apply BZ h|apply B_ h);intro k)|apply BX h|apply B5 h|apply BY h|apply BZ h|apply B_ h);intro A2 E k;refine fU (A9.e AP g _ _ λu AZ AJ AN Ab Aq=>A9.e BD AN _ _ λu' Au Ai AU Al BB=>Lo.cmp AU (Aq.nx Al) BB C3 _ _ λy BS Ax Ao B8 BQ=>?_) (by simpa using hm);subst BQ;exact NS (k _ BS Ax Ao (Ab.trans (Al.trans B8)) rfl)
 |_=>exact kF A9 Lo h g rfl
theorem xa(A9:C5 B A3 n){t:AA}{a b:I As}(h:IS K (ev A3 n) (.If t a b pos) H=.ok (.f f) A7)(g:Gd B F K A H C s):CJ B F K A A7 C s (exec (.If t a b pos) F.env) (FR f):=by
 refine A0.O9 h ?_;intro c AB AP BD;intro A2 E k;refine sh (A9.tW AP g _ _ λu AZ AJ AN Ab Aq=>?_);clear AP;subst Aq;cases u;. exact A9.ss BD AN _ _ λu Au Ai AU Al BB=>k u Au Ai AU (Ab.trans Al) BB
 . exact A9.ss BD AN _ _ λu Au Ai AU Al BB=>k u Au Ai AU (Ab.trans Al) BB
theorem xc(A9:C5 B A3 n)(h:IS K (ev A3 n) (.Return (G e) pos) H=.ok (.f f) A7)(g:Gd B F K A H C s):CJ B F K A A7 C s (exec (.Return (G e) pos) F.env) (FR f):=by
 refine A0.Cg h ?_;clear h;intro a AB AP h;(first|(revert k;(first|apply BX h|apply B5 h|apply BY h|apply BZ h|apply B_ h);intro k)|apply BX h|apply B5 h|apply BY h|apply BZ h|apply B_ h);intro A2 E k;exact si (A9.eW AP g _ _ λu AZ AJ AN Ab Aq=>k _ AZ AJ AN Ab ⟨u,rfl,Aq⟩)
theorem xd(h:IS K (ev A3 n) (.Return L pos) H=.ok (.f f) A7)(g:Gd B F K A H C s):CJ B F K A A7 C s (exec (.Return L pos) F.env) (FR f):=by
 (first|(revert k;(first|apply BX h|apply B5 h|apply BY h|apply BZ h|apply B_ h);intro k)|apply BX h|apply B5 h|apply BY h|apply BZ h|apply B_ h);intro A2 E k;exact wpAny_Return_none (k _ C s g (Nx.refl ..) ⟨.none,rfl,rfl⟩)
theorem xe(h:IS K (ev A3 n) (.Pass pos) H=.ok (.f f) A7)(g:Gd B F K A H C s):CJ B F K A A7 C s (exec (.Pass pos) F.env) (FR f):=by
 (first|(revert k;(first|apply BX h|apply B5 h|apply BY h|apply BZ h|apply B_ h);intro k)|apply BX h|apply B5 h|apply BY h|apply BZ h|apply B_ h);exactλA2 E k=>wpAny_Pass (k _ C s g (Nx.refl ..) rfl)
theorem xf(h:IS K (ev A3 n) (.Break pos) H=.ok (.f f) A7)(g:Gd B F K A H C s):CJ B F K A A7 C s (exec (.Break pos) F.env) (FR f):=by
 (first|(revert k;(first|apply BX h|apply B5 h|apply BY h|apply BZ h|apply B_ h);intro k)|apply BX h|apply B5 h|apply BY h|apply BZ h|apply B_ h);exactλA2 E k=>wpAny_Break (k _ C s g (Nx.refl ..) rfl)
theorem xg(h:IS K (ev A3 n) (.Continue pos) H=.ok (.f f) A7)(g:Gd B F K A H C s):CJ B F K A A7 C s (exec (.Continue pos) F.env) (FR f):=by
 (first|(revert k;(first|apply BX h|apply B5 h|apply BY h|apply BZ h|apply B_ h);intro k)|apply BX h|apply B5 h|apply BY h|apply BZ h|apply B_ h);exactλA2 E k=>wpAny_Continue (k _ C s g (Nx.refl ..) rfl)
theorem kI(g:Gd B F K A H C s):(F.env.scope.kind==.class||(F.env.scope.kind==.module&&F.env.locals !=F.env.globals))=A6:=by rw[g.kinds.fn];rfl
theorem aL(h:Kw A3 K (ev A3 n) (.Name id pos) v H=.ok (.f f) A7)(g:Gd B F K A H C s)(r:VR s.heap C v u):CJ B F K A A7 C s (fS F.env id u) RU:=by
 intro A2 E k;refine A0.Be (b:=G8 K.sc id) h ?_;clear h;intro ho h;(first|(revert k;apply O8 h;intro k)|apply O8 h);refine CZ g.env ?_;intro m ns ce er;rcases g.kinds.own id ho with q|Aw;rotate_left;refine Hl Aw ?_;(try clear Aw);intro q c hc hw;rotate_left
 . refine bo6 q ns (λQ hn hs=>?_) (kI g);refine xA (g.k8 (Q:=Q) (tk:=s.toks+1) q r er hn hs) ?_;intro g' x';exact k () C _ g' x' trivial
 . have hv:∃T1,s.heap.IsCell c T1:=ce _ (mem_of_lookup hc);refine xE hv ?_;(try clear hv);intro T1 hv;refine bo7 g.kinds.fn q hc hv (λQ hn hs=>?_);refine xA (g.k9 (Q:=Q) (tk:=s.toks) q hc hw r hv hn hs) ?_;intro g' x';exact k () C _ g' x' trivial
end
theorem W5:(GJ ts env).length=ts.length:=by induction ts with
 |nil=>rfl|cons t ts ih=>cases t<;>exact congrArg Nat.succ ih
section
theorem xh(A9:C5 B A3 n)(h:step A3 K (ev A3 n) (.ME ts vs) H=.ok (.f f) A7)(g:Gd B F K A H C s)(r:Aa s.heap C vs us):CJ B F K A A7 C s (NR ((GJ ts F.env).map (·.2)) us) RU:=by
 intro A2 E k;cases ts with
 |nil=>cases vs with
  |cons _ _=>exact(Ac h).elim|nil=>
  (first|(revert k;apply O8 h;intro k)|apply O8 h);cases r;exact AW (k () C s g (Nx.refl ..) trivial)
 |cons t ts=>cases vs with
 |nil=>exact(Ac h).elim|cons v vs=>
  refine A0.Be h ?_;clear h;intro hp h;refine A0.Hs h ?_;clear h;intro _ AB AP h;refine Bv r ?_;(try clear r);intro u us B6 r rs;subst B6;rw[aK hp];show AH _ A (do Hd us (Ew t F.env u);NR ((GJ ts F.env).map (·.2)) us) A2 E s;exact A5 (C0 (A9.asg AP g r _ _ λ_ AZ AJ AN Ab _=>A9.ME h AN (rs.nx Ab) _ _ λ_ Au Ai AU Al _=>k () Au Ai AU (Ab.trans Al) trivial))
theorem xj(A9:C5 B A3 n)(h:step A3 K (ev A3 n) (.GQ ts v) H=.ok (.f f) A7)(g:Gd B F K A H C s)(r:VR s.heap C v u):CJ B F K A A7 C s (fR u ((GJ ts F.env).map (·.2))) RU:=by
 intro A2 E k;cases ts with
 |nil=>
  (first|(revert k;apply O8 h;intro k)|apply O8 h);exact AW (k () C s g (Nx.refl ..) trivial)|cons t ts=>
  refine A0.Be h ?_;clear h;intro hp h;refine A0.Hs h ?_;clear h;intro _ AB AP h;rw[aK hp];cases ts with
 |nil=>
   show AH _ A (Ew t F.env u) A2 E s;refine A9.asg AP g r _ _ λ_ AZ AJ AN Ab _=>?_;obtain rfl:=A9.xO h;exact k () AZ AJ AN Ab trivial|cons t' ts=>
   have e':((A6,Ew t F.env)::GJ (t'::ts) F.env).map (·.2)=Ew t F.env::(GJ (t'::ts) F.env).map (·.2):=rfl;rw[e'];have Cc:∃y ys,(GJ (t'::ts) F.env).map (·.2)=y::ys:=by
    have :=W5 (ts:=t'::ts) (env:=F.env);cases q:GJ (t'::ts) F.env with
 |nil=>rw[q]at this;(exfalso;cases this)|cons y ys=>exact⟨_,_,rfl⟩
   have step:fR u (Ew t F.env::(GJ (t'::ts) F.env).map (·.2))=(do Hd [u] (Ew t F.env u);fR u ((GJ (t'::ts) F.env).map (·.2))):=by
    refine DA Cc ?_;(try clear Cc);intro y ys q;rw[q];rfl
   rw[step];exact A5 (C0 (A9.asg AP g r _ _ λ_ AZ AJ AN Ab _=>A9.GQ h AN (r.nx Ab) _ _ λ_ Au Ai AU Al _=>k () Au Ai AU (Ab.trans Al) trivial))
theorem QH(r:VR h C (.tup L Y) u):∃a us,u=.ref a/\h.IsTuple a us/\Aa h C Y us.toList:=by
 refine Kr r ?_;(try clear r);intro a o us n BP e _ c d v;subst BP;exact⟨a,us,rfl,⟨o,e,c,n,d⟩,v⟩
theorem W6:∀{ts:I AA},ts.all CP=M->(GJ ts env).findIdx? (·.1)=L
 |[],_=>rfl|t::ts,h=>by
  simp only[sj,D6]at h;rw[aK h.1,List.findIdx?_cons];simp[W6 h.2]
theorem xk(A9:C5 B A3 n)(h:Kw A3 K (ev A3 n) (.Tuple ts kd pos) (.tup L Y) H=.ok (.f f) A7)(g:Gd B F K A H C s)(r:VR s.heap C (.tup L Y) u):CJ B F K A A7 C s (Ew (.Tuple ts kd pos) F.env u) RU:=by
 refine A0.Be h ?_;clear h;intro hl h;simp only[D6]at hl;refine xA hl ?_;(try clear hl);intro hl hp;have hl:=CD hl;refine Bv (QH r) ?_;intro a us Bp ht rs;clear r;subst Bp;intro A2 E k;have Ch:ts.length=us.size:=by rw[<-hl,rs.length];simp
 refine bo8 g.handled ht (by rw[W5,Ch]) (W6 hp) λQ hx=>?_;have kp:∀b o,s.heap.get? b=G o->Q.get? b=G o:=λb o e=>hx b o (EQ (Dg e)) e;have Ab:Nx F.D F.A_ s.heap Q C C:=Nx.ext kp;exact A9.ME h (g.ext (tk:=s.toks) kp) (rs.nx Ab) _ _ λ_ Au Ai AU Al _=>k () Au Ai AU (Ab.trans Al) trivial
theorem W7{t:AA}{b:I As}{AS:Dr->AR->Prop}(h:AH (AQ prog w) A (NQ t env (eval t env)) (λc AJ=>if c then AH (AQ prog w) A (Iz b env) (λf Ai=>match f with
 |.next|.cont=>D7 (AQ prog w) A (.whileLoop t b [] env) AS Ai|.brk=>AS (.ok .next) Ai|.ret v=>AS (.ok (.ret v)) Ai) (RT (AQ prog w) A env λe s'=>AS (.error e) s') AJ else AS (.ok .next) AJ) (RT (AQ prog w) A env λe s'=>AS (.error e) s') s):D7 (AQ prog w) A (.whileLoop t b [] env) AS s:=by
 refine fV rfl (λ_ s'=>s'=s) (λn s' e=>?_) 0 rfl;subst e;show AH _ A ((bo9 t b [] env).onRaise (λx=>do IA x env;fW x)) _ _ _;refine fX ?_;simp only[bo9];refine A5 (Ff h (λc AJ AP=>?_) λ_ _ Q=>Q);cases c with
 |false=>exact A5 (G1 (AW AP))|true=>
 refine A5 (Ff AP (λf Ai BD=>?_) λ_ _ Q=>Q);cases f with
 |next=>exact AW (.inr ⟨rfl,BD⟩)|cont=>exact AW (.inr ⟨rfl,BD⟩)|brk=>exact AW BD|ret v=>exact AW BD
theorem xl(A9:C5 B A3 n){t:AA}{b:I As}(h:step A3 K (ev A3 n) (.MF t b) H=.ok (.f f) A7){AS:Dr->AR->Prop}(g:Gd B F K A H C s)(k:∀u AT s',Gd B F K A A7 AT s'->Nx F.D F.A_ s.heap s'.heap C AT->FR f s'.heap AT u->AS (.ok u) s'):D7 (AQ B.prog B.w) A (.whileLoop t b [] F.env) AS s:=by
 refine A0.O9 h ?_;clear h;intro c AB AP h;refine W7 (A9.tW AP g _ _ λu AZ AJ AN Ab Aq=>?_);clear AP;subst Aq;cases u with
 |false=>
  (first|(revert k;(first|apply BX h|apply B5 h|apply BY h|apply BZ h|apply B_ h);intro k)|apply BX h|apply B5 h|apply BY h|apply BZ h|apply B_ h);exact k _ AZ AJ AN Ab rfl|true=>
  refine A0.Hs h ?_;clear h;intro d Bc BD h;refine A9.ss BD AN _ _ λu Au Ai AU Al BB=>?_;cases d with
 |next=>cases BB;exact A9.MF h AU λu BS Ax Ao B8 BQ=>k u BS Ax Ao (Ab.trans (Al.trans B8)) BQ|cont=>cases BB;exact A9.MF h AU λu BS Ax Ao B8 BQ=>k u BS Ax Ao (Ab.trans (Al.trans B8)) BQ|brk=>
   cases BB;(first|(revert k;(first|apply BX h|apply B5 h|apply BY h|apply BZ h|apply B_ h);intro k)|apply BX h|apply B5 h|apply BY h|apply BZ h|apply B_ h);exact k _ Au Ai AU (Ab.trans Al) rfl|ret v=>
   refine AC BB ?_;(try clear BB);intro y C9 BB;subst C9;(first|(revert k;(first|apply BX h|apply B5 h|apply BY h|apply BZ h|apply B_ h);intro k)|apply BX h|apply B5 h|apply BY h|apply BZ h|apply B_ h);exact k _ Au Ai AU (Ab.trans Al) ⟨y,rfl,BB⟩
theorem xm(A9:C5 B A3 n){t:AA}{b:I As}(h:IS K (ev A3 n) (.While t b [] pos) H=.ok (.f f) A7)(g:Gd B F K A H C s):CJ B F K A A7 C s (exec (.While t b [] pos) F.env) (FR f):=λA2 E k=>sn (A9.MF h g λu AT s' g' x' r'=>k u AT s' g' x' r')
end
theorem Nx.kJ{W':I A8}(x:Nx AM A_ h Q C AT)(hw:∀b,b∈A_->b∈W'):Nx AM W' h Q C AT:=⟨x.pre,x.live,x.Bw,λb o e n m=>x.same b o e n λq=>m (hw b q)⟩
section
theorem Gd.freeOf(g:Gd B F K A H C s)(hI:s.heap.get? AE=L)(hl:∃o,Q.get? AE=G o):CM B F C Q AE where
 C:=λm=>by refine xE (g.live AE m) ?_;intro o e;rw[hI]at e;exact(BE e).elim
 w:=λm=>by refine II (g.D5 AE m) ?_;intro _ _ o e;rw[hI]at e;exact(BE e).elim
 cells:=λc m z=>by refine H6 (g.D2 c m) ?_;intro _ o e;rw[z,hI]at e;exact(BE e).elim
 base:=by cases e:B.base.get? AE with
 |none=>rfl|some o=>have :=g.base AE o e;rw[hI]at this;exact(BE this).elim
 outs:=λm=>by refine Hl (g.DP.mem m) ?_;intro _ o e _;rw[hI]at e;exact(BE e).elim
 live:=hl
theorem CM.nx(f:CM B F C h AE)(x:Nx AM A_ h Q C AT):CM B F AT Q AE:=by
 refine xE f.live ?_;intro o e;exact⟨x.out e f.C,f.w,f.cells,f.base,f.outs,x.live AE o e⟩
theorem Gd.move(g:Gd B F K A H C s)(f:CM B F C s.heap AE)(k:Dq AE s.heap Q)(hc:∀o,s.heap.get? AE=G o->C2 o=A6):Gd B F K A H C {s with heap:=Q,toks:=tk}:=by
 have xi:Du s.heap Q:=λb o e c=>k b o (λz=>by clear f k;subst z;rw[hc o e]at c;exact(E4 c).elim) e;have hL:AE≠F.env.locals:=λz=>f.w (z▸g.kinds.IW);refine⟨g.kinds,g.len,g.nodup,g.fresh,λa m=>?_,λa m=>?_,λc m=>?_,g.aE f.C k xi,g.env.but hL f.cells k xi,λb o e=>?_,g.os,g.gens,g.frames,?_,λA1 m=>?_,g.mods,g.handled,g.depth,g.units⟩;. refine xE (g.live a m) ?_;intro o e;exact⟨o,k _ _ (λz=>f.C (z▸m)) e⟩
 . refine II (g.D5 a m) ?_;intro p q o e;exact⟨p,q,o,k _ _ (λz=>f.w (z▸m)) e⟩
 . refine H6 (g.D2 c m) ?_;intro q o e;exact⟨q,o,k _ _ (f.cells c m) e⟩
 . exact k b o (λz=>by rw[z,f.base]at e;exact(BE e).elim) (g.base b o e)
 . have hf:=f.outs;have hL:=g.DP;revert hf hL;generalize F.outs=l;intro hf hL;show Q.FunFrames B.base l;induction l with
 |nil=>trivial|cons e r ih=>
   refine G5 hL ?_;(try clear hL);intro hk Aw hr;refine HQ Aw ?_;(try clear Aw);intro A1 o D3 hb ho hd;rw[RP,D3]at hf;exact⟨hk,⟨A1,o,D3,hb,k A1 o (λz=>hf (z▸Cp)) ho,hd⟩,ih (λm=>hf (Cq _ m)) hr⟩
 . refine Pl (g.Cz A1 m) ?_;intro p q o e d;exact⟨p,q,o,k _ _ (λz=>f.outs (z▸m)) e,d⟩
theorem Nx.F0(x:Nx AM A_ Af h BG C)(k:Dq AE h Q)(hI:Af.get? AE=L):Nx AM A_ Af Q BG C:=by
 have ne:∀{b:A8}{o:Bm},Af.get? b=G o->b≠AE:=λe z=>by rw[z,hI]at e;exact(BE e).elim
 refine⟨x.pre,λb o e=>?_,λb o e c=>k b o (ne e) (x.Bw b o e c),λb o e n m=>let⟨sl,q,r⟩:=x.same b o e n m;⟨sl,k b _ (ne e) q,r⟩⟩;. refine xE (x.live b o e) ?_;intro o' e';exact⟨o',k b o' (ne e) e'⟩
theorem MT{t:AA}{it:A4}{b:I As}{AS:Dr->AR->Prop}(h:AH (AQ prog w) A (ER it) (λr AJ=>match r with
 |none=>AS (.ok .next) AJ|some v=>AH (AQ prog w) A (Y0 t it v) (λ_ W8=>AH (AQ prog w) A (Ew t env v) (λ_ Ai=>AH (AQ prog w) A (Iz b env) (λf Ax=>match f with
 |.next|.cont=>D7 (AQ prog w) A (.forLoop t it b [] env) AS Ax|.brk=>AS (.ok .next) Ax|.ret v=>AS (.ok (.ret v)) Ax) (RT (AQ prog w) A env λe s'=>AS (.error e) s') Ai) (RT (AQ prog w) A env λe s'=>AS (.error e) s') W8) (RT (AQ prog w) A env λe s'=>AS (.error e) s') AJ) (RT (AQ prog w) A env λe s'=>AS (.error e) s') s):D7 (AQ prog w) A (.forLoop t it b [] env) AS s:=by
 refine fV rfl (λ_ s'=>s'=s) (λn s' e=>?_) 0 rfl;subst e;show AH _ A ((bp0 t it b [] env).onRaise (λx=>do IA x env;fW x)) _ _ _;refine fX ?_;simp only[bp0];refine A5 (Ek (A5 (Y1 (Ff h (λr AJ AP=>?_) λ_ _ Q=>Ek Q))));cases r with
 |none=>exact AW (.inr ⟨rfl,codeAny_block (G1 AP)⟩)|some v=>
 refine A5 (Ff AP (λ_ W8 xn=>A5 (Ff xn (λ_ Ai BD=>A5 (Ff BD (λf Ax C3=>?_) λ_ _ Q=>Q)) λ_ _ Q=>Q)) λ_ _ Q=>Q);cases f with
 |next=>exact AW (.inr ⟨rfl,C3⟩)|cont=>exact AW (.inr ⟨rfl,C3⟩)|brk=>exact AW C3|ret v=>exact AW C3
theorem HV:∀{l:I J}{i:O},Gp l i=l[i]?
 |[],i=>by cases i<;>rfl|a::l,0=>rfl|a::l,i+1=>HV (l:=l) (i:=i)
theorem E5.nx(r:E5 h C it i AE)(x:Nx AM A_ h Q C AT)(Di:AE∉C)(hw:AE∉A_):E5 Q AT it i AE:=by
 refine AC (id x.pre) ?_;intro J e _;cases it with
 |tup Y=>
  refine HQ r ?_;(try clear r);intro T us ne B6 BJ v;refine CZ B6 ?_;(try clear B6);intro o ho hc hd;refine Pm BJ ?_;(try clear BJ);intro o' IY GC n GV;refine⟨T,us,ne,⟨o,x.keep AE o ho Di hw (λ_=>by unfold H9;rw[hd]),hc,hd⟩,⟨o',x.Bw T o' IY (by unfold C2;rw[GC,GV];rfl),GC,n,GV⟩,v.nx x⟩|H7 lo hi=>
  refine AC r ?_;(try clear r);intro l a b;exact⟨l,x.keep AE _ a Di hw (λ_=>rfl),b⟩|lst k=>
  refine VK r ?_;(try clear r);intro a q o ho hc hd;exact⟨a,by rw[e];exact FX q,o,x.keep AE o ho Di hw (λ_=>by unfold H9;rw[hd]),hc,hd⟩|keys k n=>
  refine VK r ?_;(try clear r);intro a q o ho hc hd;exact⟨a,by rw[e];exact FX q,o,x.keep AE o ho Di hw (λ_=>by unfold H9;rw[hd]),hc,hd⟩|K1 s=>exact r
end
section
theorem Gr(k:Dq AE h Q)(hc:∀o,h.get? AE=G o->C2 o=A6):Du h Q:=λb o e c=>k b o (λz=>by clear k;subst z;rw[hc o e]at c;exact(E4 c).elim) e
theorem VR.Bw(r:VR h C v u)(x:Du h Q):VR Q C v u:=by
 have :=r.mono (J:=[]) x;simpa using this
theorem Aa.Bw{v:I V}{u:I A4}(r:Aa h C v u)(x:Du h Q):Aa Q C v u:=by
 have :=r.mono (J:=[]) x;simpa using this
theorem CM.at(f:CM B F C h AE)(l:∃o,Q.get? AE=G o):CM B F C Q AE:=⟨f.C,f.w,f.cells,f.base,f.outs,l⟩
theorem Aa.none{v:I V}{u:I A4}(r:Aa h C v u)(e:v[i]?=L):u[i]?=L:=by
 rw[fY]at e ⊢;rw[<-r.length];exact e
theorem DR.length{key:T->V}{l:I (T×A4)}(d:DR key h C N l):l.length=N.length:=DR.ind (P:=λN l=>l.length=N.length) rfl (λ_ _ _ _ _ _ _ ih=>congrArg (·+1) ih) d
theorem DR.get{key:T->V}{l:I (T×A4)}{p:V×V}(d:DR key h C N l)(q:N[i]?=G p):∃k u,l[i]?=G (k,u)/\p.1=key k/\VR h C p.2 u:=by
 revert i;refine DR.ind (P:=λN l=>∀{i},N[i]?=G p->∃k u,l[i]?=G (k,u)/\p.1=key k/\VR h C p.2 u) (λe=>(AF e).elim) (λk v u N r a _ ih i q=>?_) d;cases i with
 |zero=>exact Br q (P:=λp=>∃k' u',G (k,u)=G (k',u')/\p.1=key k'/\VR h C p.2 u') ⟨k,u,rfl,rfl,a⟩|succ i=>exact ih q
theorem kK[DecidableEq T]{By:KeyKind B.prog B.w T}{key:T->V}(g:Gd B F K A H C s)(f:CM B F C s.heap AE){Az:I (T×A4)}(ha:a≠AE)(hr:∀k u h,By.is k u=M->VR h C (key k) u)(hi:s.heap.IsKeyIter AE a i m m)(hm:s.heap.DictAt By a Az Az.length)(hd:DR key s.heap C N Az)(hl:N.length=m){A2:AD A4->AR->Prop}(ks:∀x,N[i]?=G x->∀u Q tk,Gd B F K A H C {s with heap:=Q,toks:=tk}->Dq AE s.heap Q->CM B F C Q AE->Q.IsKeyIter AE a (i+1) m m->VR Q C x.1 u->A2 (G u) {s with heap:=Q,toks:=tk})(kn:N[i]?=L->∀Q tk,Gd B F K A H C {s with heap:=Q,toks:=tk}->Dq AE s.heap Q->A2 L {s with heap:=Q,toks:=tk}):AH (AQ B.prog B.w) A (ER (.ref AE)) A2 E s:=by
 have xo:Az.length=m:=by rw[hd.length,hl]
 have hc:∀o,s.heap.get? AE=G o->C2 o=A6:=λo e=>by
  refine CZ hi ?_;(try clear hi);intro o' e' c _;rw[e']at e;injection e with e;subst e;unfold C2;rw[c];rfl
 clear hl;subst xo;cases q:N[i]? with
 |some x=>
  refine Bv (hd.get q) ?_;intro k u hk e1 _;refine wpAny_pyNext_dict_item hi hm hk λkv Q xp Bz hs=>?_;exact ks x q kv Q s.toks (g.move f hs.extBut hc) hs.extBut (f.at (by refine AC Bz ?_;(try clear Bz);intro o e _;exact⟨o,e⟩)) Bz (by rw[e1];exact hr k kv Q xp)|none=>
  have :Az[i]?=L:=by
   rw[fY]at q ⊢;rw[hd.length];exact q
  exact wpAny_pyNext_dict_end g.handled hi hm this λQ hs=>kn q Q s.toks (g.move f hs hc) hs
set_option tactic.hygienic true in
theorem K7(g:Gd B F K A H C s)(f:CM B F C s.heap AE)(r:E5 s.heap C it i AE){o:AD V}(h:IQ it i H.h=G o){A2:AD A4->AR->Prop}(ks:∀x,o=G x->∀u Q tk,Gd B F K A H C {s with heap:=Q,toks:=tk}->Dq AE s.heap Q->CM B F C Q AE->E5 Q C it (i+1) AE->VR Q C x u->A2 (G u) {s with heap:=Q,toks:=tk})(kn:o=L->∀Q tk,Gd B F K A H C {s with heap:=Q,toks:=tk}->Dq AE s.heap Q->A2 L {s with heap:=Q,toks:=tk}):AH (AQ B.prog B.w) A (ER (.ref AE)) A2 E s:=by cases it with
 |tup Y=>
  injection h with h;rw[HV]at h;refine HQ r ?_;(try clear r);intro T us ne hi ht v;have hc:∀o,s.heap.get? AE=G o->C2 o=A6:=λo e=>by
    refine CZ hi ?_;(try clear hi);intro o' e' c _;rw[e']at e;injection e with e;subst e;unfold C2;rw[c];rfl
  cases o with
  |some x=>
    refine AC (v.get h) ?_;intro u e w;refine wpAny_pyNext_tuple_item hi ht (by simpa using e) λQ Bz hs=>?_;have im:=Gr hs.extBut hc;exact ks x rfl u Q s.toks (g.move f hs.extBut hc) hs.extBut (f.at (by refine AC Bz ?_;(try clear Bz);intro o e _;exact⟨o,e⟩)) ⟨T,us,ne,Bz,ht.extBut hs.extBut ne,v.Bw im⟩ (w.Bw im)|none=>exact wpAny_pyNext_tuple_end g.handled hi ht (by have :=v.none h;simpa using this) λQ hs=>kn rfl Q s.toks (g.move f hs hc) hs
 |H7 lo hi=>
  refine AC r ?_;(try clear r);intro left hr hl;injection h with h;have hc:∀o,s.heap.get? AE=G o->C2 o=A6:=λo e=>by rw[hr]at e;injection e with e;subst e;rfl
  split at h
  . rename_i lt;clear kn;subst h;have lt':lo+(i:AX)<hi:=lt;refine wpAny_pyNext_range_item hr (by(with_reducible exact Mine.vH (by assumption) (by assumption))) λQ Bz hs=>?_;have e1:lo+((i+1:O):AX)=lo+(i:AX)+1:=by(with_reducible exact Mine.vQ)
    exact ks _ rfl _ Q (s.toks+1) (g.move f hs.extBut hc) hs.extBut (f.at ⟨_,Bz⟩) ⟨left-1,e1▸Bz,by(with_reducible exact Mine.vP (by assumption))⟩ ⟨_,rfl⟩
  . rename_i lt;clear ks;subst h;have lt':¬lo+(i:AX)<hi:=lt;exact wpAny_pyNext_range_end g.handled hr (by(with_reducible exact Mine.v_ (by assumption) (by assumption))) λQ hs=>kn rfl Q s.toks (g.move f hs hc) hs|lst k=>
  refine AC r ?_;(try clear r);intro a ha hi;refine BI h λob hx h=>?_;revert hx;apply IP h AF
  . intro Y h hx;injection h with h;rw[HV]at h;refine AC (g.obj hx ha) ?_;intro us hp v;have ne:a≠AE:=λz=>f.C (z▸Ev ha);have hc:∀o,s.heap.get? AE=G o->C2 o=A6:=λo e=>by
      refine CZ hi ?_;(try clear hi);intro o' e' c _;rw[e']at e;injection e with e;subst e;unfold C2;rw[c];rfl
    cases o with
  |some x=>
      refine AC (v.get h) ?_;intro u e w;refine so hi hp.isList (by simpa using e) λQ Bz hs=>?_;exact ks x rfl u Q s.toks (g.move f hs.extBut hc) hs.extBut (f.at (by refine AC Bz ?_;(try clear Bz);intro o e _;exact⟨o,e⟩)) ⟨a,ha,Bz⟩ (w.Bw (Gr hs.extBut hc))|none=>exact bp1 g.handled hi hp.isList (by have :=v.none h;simpa using this) λQ hs=>kn rfl Q s.toks (g.move f hs hc) hs
 |keys k m=>
  refine AC r ?_;(try clear r);intro a ha hi;refine BI h λob hx h=>?_;revert hx;apply JA h AF
  . intro N h hx;refine Ce h AF λhl h=>?_
    . have hl:=CD hl;injection h with h;rw[HV]at h;have ne:a≠AE:=λz=>f.C (z▸Ev ha);have hp:=g.obj hx ha;rcases hp with BJ|BP;refine AC BJ ?_;(try clear BJ);intro Az hm hd;rotate_left;refine AC BP ?_;(try clear BP);intro Az hm hd;rotate_left
      . refine kK (key:=GU) g f ne (λk u h hk=>?_) hi hm hd hl (λx hx u Q tk g' e' f' i' v'=>ks x.1 (by rw[<-h,hx];rfl) u Q tk g' e' f' ⟨a,ha,i'⟩ v') λhx Q tk g' e'=>kn (by rw[<-h,hx];rfl) Q tk g' e';refine xE (Value.isStrOf_shape hk) ?_;intro t Aw;clear hk;subst Aw;exact⟨t,by cases k;rfl⟩
      . refine kK (key:=Sw) g f ne (λk u h hk=>?_) hi hm hd hl (λx hx u Q tk g' e' f' i' v'=>ks x.1 (by rw[<-h,hx];rfl) u Q tk g' e' f' ⟨a,ha,i'⟩ v') λhx Q tk g' e'=>kn (by rw[<-h,hx];rfl) Q tk g' e';refine xE (Value.isInt_shape hk) ?_;intro t B6;clear hk;subst B6;exact⟨t,rfl⟩|K1 s=>exact r.elim
end
section
theorem GD(h:BK):h.get? h.objs.size=L:=by cases e:h.get? h.objs.size with
 |none=>rfl|some o=>exact absurd (Dg e) (Ix _)
theorem OB(g:Gd B F K A H C s)(r:VR s.heap C v u)(h:Q4 v H.h=G it)(k:∀AE Q tk,Gd B F K A H C {s with heap:=Q,toks:=tk}->Nx F.D [] s.heap Q C C->s.heap.get? AE=L->CM B F C Q AE->E5 Q C it 0 AE->A2 (.ref AE) {s with heap:=Q,toks:=tk}):AH (AQ B.prog B.w) A (PQ u) A2 E s:=by
 have put:∀(o:Bm),o.isFreed=A6->(∀Q,Q=s.heap.push o->E5 Q C it 0 s.heap.objs.size)->A2 (.ref s.heap.objs.size) {s with heap:=s.heap.push o}:=λo hf hr=>by
  have kp:∀b x,s.heap.get? b=G x->(s.heap.push o).get? b=G x:=λb x e=>C1 _ e;exact k _ _ s.toks (g.ext kp) (Nx.ext kp) (GD _) (g.freeOf (GD _) ⟨o,CY _ hf⟩) (hr _ rfl)
 cases v with
 |tup c Y=>cases c with
  |some _=>exact(BE h).elim|none=>
    injection h with h;clear k;subst h;refine Bv (QH r) ?_;intro T us Aw ht rs;clear r;subst Aw;refine wpAny_pyIter_tuple ht (put _ rfl λQ e=>?_);subst e;refine⟨T,us,?_,⟨_,CY _ rfl,rfl,rfl⟩,ht.push _,rs.Bw λb x e _=>C1 _ e⟩;refine AC ht ?_;(try clear ht);intro o e _;exact EQ (Dg e)
 |H7 lo hi=>
  refine Ce h AF λhb h=>?_
  . injection h with h;clear k;subst h;simp only[JD,D6,PR]at hb;refine Jv r ?_;(try clear r);intro a t t' H8 B6 ha;subst B6;refine wpAny_pyIter_range ha (small_one (by omega) (by omega) (by omega) (by omega)) ?_;rw[rangeSize_one];refine put _ rfl λQ e=>?_;subst e;refine⟨if lo<hi then hi-lo else 0,?_,?_⟩
    . have :lo+((0:O):AX)=lo:=by omega
      rw[this];exact CY _ rfl
    . split<;>omega|ref i=>
  refine AC r ?_;(try clear r);intro a ha BJ;subst BJ;refine BI h λob hx h=>?_;revert hx;apply Jy h
  . intro Y h hx;injection h with h;clear k;subst h;refine AC (g.obj hx ha) ?_;intro us hp _;refine fZ hp.isList (put _ rfl λQ e=>?_);subst e;exact⟨a,ha,_,CY _ rfl,rfl,rfl⟩
  . intro h;apply JA h AF;intro N h hx;injection h with h;clear k;subst h;have hp:=g.obj hx ha;have hd:(a==NP)=A6:=by
      refine xE g.mods ?_;intro o e;have :=g.fresh a (Ev ha);exact Ll.mpr λz=>by rw[z,e]at this;(exfalso;cases this)
    rcases hp with Bu|C9;refine AC Bu ?_;(try clear Bu);intro Az hm GV;rotate_left;refine AC C9 ?_;(try clear C9);intro Az hm GV;rotate_left
    . refine bp2 hd hm (put _ rfl λQ e=>?_);subst e;exact⟨a,ha,_,CY _ rfl,rfl,by rw[GV.length];rfl⟩
    . refine bp2 hd hm (put _ rfl λQ e=>?_);subst e;exact⟨a,ha,_,CY _ rfl,rfl,by rw[GV.length];rfl⟩|_=>exact(BE h).elim
theorem E5.cls(r:E5 h C it i AE):∃o nm vs,h.get? AE=G o/\o.cls=.type nm/\o.data=.fields vs/\(nm="tuple_iterator"\/nm="range_iterator"\/nm="list_iterator"\/nm="dict_keyiterator"):=by cases it with
 |tup Y=>refine Bv r ?_;(try clear r);intro T us _ BP _;refine CZ BP ?_;(try clear BP);intro o e c d;exact⟨o,_,_,e,c,d,.inl rfl⟩|H7 lo hi=>refine AC r ?_;(try clear r);intro l e _;exact⟨_,_,_,e,rfl,rfl,.inr (.inl rfl)⟩|lst k=>refine VK r ?_;(try clear r);intro a _ o e c d;exact⟨o,_,_,e,c,d,.inr (.inr (.inl rfl))⟩|keys k n=>refine VK r ?_;(try clear r);intro a _ o e c d;exact⟨o,_,_,e,c,d,.inr (.inr (.inr rfl))⟩|K1 s=>exact r.elim
theorem QI(r:E5 s.heap C it i AE){t:AA}{v:A4}{A2:Do->AR->Prop}(h:A2 () s):AH Av A (Y0 t (.ref AE) v) A2 E s:=by
 refine J6 r.cls ?_;intro o nm vs e c d hn;have main:∀x,AH Av A (do
 let o<-load AE match o.cls,o.data with
 |.type n,.fields vs=>if(["enumerate","zip","dict_itemiterator","dict_reverseitemiterator","odict_iterator","itertools.zip_longest","itertools.pairwise"].contains n&&vs.any (·==ES x))=M then RW "x"else pure ()|_,_=>pure ()) A2 E s:=λx=>by
  refine A5 (NT e ?_);rw[c,d];rcases hn with rfl|rfl|rfl|rfl<;>exact AW h
 cases t<;>first|exact AW h|skip
 all_goals
  cases v<;>first|exact AW h|skip
  unfold Y0;refine A5 (NT e ?_);rw[c,d];rcases hn with rfl|rfl|rfl|rfl<;>exact AW h
theorem xq(A9:C5 B A3 n){t:AA}{b:I As}(h:step A3 K (ev A3 n) (.loop t it i b) H=.ok (.f f) A7){AS:Dr->AR->Prop}(g:Gd B F K A H C s)(Cr:Nx F.D F.A_ Af s.heap BG C)(hI:Af.get? AE=L)(fr:CM B F C s.heap AE)(r:E5 s.heap C it i AE)(k:∀u AT s',Gd B F K A A7 AT s'->Nx F.D F.A_ Af s'.heap BG AT->FR f s'.heap AT u->AS (.ok u) s'):D7 (AQ B.prog B.w) A (.forLoop t (.ref AE) b [] F.env) AS s:=by
 refine A0.Bx h ?_;clear h;intro o AP h;refine MT (K7 g fr r AP (λx hx u Q tk AN DQ En Aq Ht=>?_) λhx Q tk AN DQ=>?_)
 . clear AP;subst hx;refine A0.Hs h ?_;clear h;intro _ Bc BD h;refine A0.Hs h ?_;clear h;intro d GW C3 h;have L6:=Cr.F0 DQ hI;refine QI Aq (A9.asg BD AN Ht _ _ λ_ Au Ai AU Al _=>A9.ss C3 AU _ _ λMU BS Ax Ao B8 BQ=>?_);have xx:=Al.trans B8;have ED:=En.nx xx;have Gs:=Aq.nx xx En.C En.w;have Eo:=L6.trans xx;cases d with
 |next=>cases BQ;exact A9.loop h Ao Eo hI ED Gs k|cont=>cases BQ;exact A9.loop h Ao Eo hI ED Gs k|brk=>
    cases BQ;(first|(revert k;(first|apply BX h|apply B5 h|apply BY h|apply BZ h|apply B_ h);intro k)|apply BX h|apply B5 h|apply BY h|apply BZ h|apply B_ h);exact k _ BS Ax Ao Eo rfl|ret v=>
    refine AC BQ ?_;(try clear BQ);intro y Bg BQ;subst Bg;(first|(revert k;(first|apply BX h|apply B5 h|apply BY h|apply BZ h|apply B_ h);intro k)|apply BX h|apply B5 h|apply BY h|apply BZ h|apply B_ h);exact k _ BS Ax Ao Eo ⟨y,rfl,BQ⟩
 . clear AP;subst hx;(first|(revert k;(first|apply BX h|apply B5 h|apply BY h|apply BZ h|apply B_ h);intro k)|apply BX h|apply B5 h|apply BY h|apply BZ h|apply B_ h);exact k _ C _ AN (Cr.F0 DQ hI) rfl
theorem xr(A9:C5 B A3 n){t it:AA}{b:I As}(he:Sd it=L)(h:IS K (ev A3 n) (.For t it b [] pos) H=.ok (.f f) A7)(g:Gd B F K A H C s):CJ B F K A A7 C s (exec (.For t it b [] pos) F.env) (FR f):=by
 refine M4 h (λx e _=>by rw[he]at e;exact(AF e).elim) λ_ h=>?_;refine A0.Be h ?_;clear h;intro hp h;refine A0.Cg h ?_;clear h;intro v AB AP h;refine A0.Bx h ?_;clear h;intro i BD h;intro A2 E k;refine Y2 (A9.eW AP g _ _ λu AZ AJ AN Ab Aq=>OB AN Aq BD λAE Q tk AU Al hI K8 T5=>A9.loop h AU Al.FY hI K8 T5 λu BS Ax Ao B8 BQ=>k u BS Ax Ao (Ab.trans B8) BQ) ?_;exact QG hp
end
section
theorem T6{t:AD AA}{l:O}(h:JH e=A6):Y3 e t l env=pure A6:=by cases e<;>first|rfl|(exfalso;cases h)
theorem xs(A9:C5 B A3 n)(h:IS K (ev A3 n) (.Expr e pos) H=.ok (.f f) A7)(g:Gd B F K A H C s):CJ B F K A A7 C s (exec (.Expr e pos) F.env) (FR f):=by
 refine A0.Be h ?_;clear h;intro hc h;refine A0.Cg h ?_;clear h;intro v AB AP h;(first|(revert k;(first|apply BX h|apply B5 h|apply BY h|apply BZ h|apply B_ h);intro k)|apply BX h|apply B5 h|apply BY h|apply BZ h|apply B_ h);intro A2 E k;refine bp3 (A9.eW AP g _ _ λu AZ AJ AN Ab _=>k _ AZ AJ AN Ab rfl) ?_ (T6 (by simpa using hc));have :=g.kinds.fn;unfold interactive;simp[this]
theorem xt(h:Kw A3 K (ev A3 n) (.Name id pos) v H=.ok (.f f) A7)(g:Gd B F K A H C s)(r:VR s.heap C v u):CJ B F K A A7 C s (Ew (.Name id pos) F.env u) RU:=λA2 E k=>bp4 (aL h g r A2 E k)
theorem xu(A9:C5 B A3 n)(Lo:Lf B)(h:IS K (ev A3 n) (.AugAssign (.Name id p) op e pos) H=.ok (.f f) A7)(g:Gd B F K A H C s):CJ B F K A A7 C s (exec (.AugAssign (.Name id p) op e pos) F.env) (FR f):=by
 refine A0.Be h ?_;clear h;intro hl h;refine A0.Bx h ?_;clear h;intro a AP h;refine A0.Cg h ?_;clear h;intro b Bc BD h;refine A0.Bx h ?_;clear h;intro v C3 h;refine H6 (A0.kE h) ?_;clear h;intro hf f' h;subst hf;intro A2 E k;exact bp5 ((kD g hl AP).T3 _ _ λu AZ AJ AN Ab Aq=>A9.eW BD AN _ _ λu' Au Ai AU Al BB=>(Lo.xT AU (Aq.nx Al) BB C3).T3 _ _ λy BS Ax Ao B8 BQ=>A9.xP h Ao BQ _ _ λ_ IZ EE CA D' _=>k _ IZ EE CA (Ab.trans (Al.trans (B8.trans D'))) rfl)
theorem aM(h:MI ts e=A6):f_ ts e env=pure L:=by cases ts with
 |nil=>rfl|cons t ts=>cases ts with
 |cons _ _=>cases t<;>rfl|nil=>cases t<;>first|rfl|(cases e<;>first|rfl|exact(Ug h))
theorem xv(A9:C5 B A3 n)(hc:JH e=A6)(ht:MI ts e=A6)(h:((ev A3 n K (.e e) H).V λv H=>ev A3 n K (.GQ ts v) H)=.ok (.f f) A7)(g:Gd B F K A H C s):CJ B F K A A7 C s (exec (.Assign ts e pos) F.env) (FR .next):=by
 refine A0.Cg h ?_;clear h;intro v AB AP h;intro A2 E k;refine fa (A9.eW AP g _ _ λu AZ AJ AN Ab Aq=>A9.GQ h AN Aq _ _ λ_ Au Ai AU Al _=>k _ Au Ai AU (Ab.trans Al) rfl) ?_ (aM ht);cases ts with
 |nil=>rfl|cons t ts=>cases ts with
 |nil=>exact T6 hc|cons _ _=>rfl
end
theorem aN{l:I (U×J)}:Ah l x=l.lookup x:=by induction l with
 |nil=>rfl|cons p l ih=>
 obtain⟨k,v⟩:=p;show bC (Cy k x) (G v) (Ah l x)=_;rw[PS,ih];cases q:Cy k x with
 |true=>have :=E1.mp q;subst this;simp;rfl|false=>
 have :(x==k)=A6:=Ll.mpr λz=>Kz.mp q z.symm;rw[this];rfl
section
theorem Ns.slots{m:U->AD A4}(x:h.Ns a m)(k:∀o,h.get? a=G o->∃sl,Q.get? a=G {o with slots:=sl}):Q.Ns a m:=by
 refine Gn x ?_;(try clear x);intro o N ep e d r;refine xE (k o e) ?_;intro sl e';exact⟨_,N,ep,e',d,r⟩
theorem Cf.Gu{env:I (U×V)}(g:Gd B F K A H C s)(y:Cf F s.heap C env)(x:Nx F.D [] s.heap s'.heap C AT):Cf F s'.heap AT env:=by
 refine G5 (g.D5 _ g.kinds.IW) ?_;intro _ hL _;exact y.imp (λ_ ns=>Ns.slots ns λo e=>x.data _ o e hL (λm=>nomatch m)) (λn c u hm q=>AC q λo e d=>xE (x.data _ o e (g.D2 _ hm).1 (λm=>nomatch m)) λsl e'=>⟨_,e',d⟩) λ_ _ r=>r.nx x
theorem FunFrames.Gu{l:I Gf}(hl:s.heap.FunFrames B.base l)(hn:∀A1∈l.filterMap (·.frame),A1∉C)(x:Nx F.D [] s.heap s'.heap C AT):s'.heap.FunFrames B.base l:=by induction l with
 |nil=>trivial|cons e r ih=>
 refine G5 hl ?_;(try clear hl);intro hk Aw hr;refine HQ Aw ?_;(try clear Aw);intro A1 o hf hb ho hd;refine xE (x.data A1 o ho (hn A1 (by simp[hf])) (by simp)) ?_;intro sl z;exact⟨hk,⟨A1,_,hf,hb,z,hd⟩,ih hr λL' m=>hn L' (by rw[RP,hf];exact Cq _ m)⟩
theorem Fm.xw{b:A8}(hf:env.frame=G env.locals)(hb:b≠env.locals)(z:b∈Fm.D ⟨env,A_,env::F.outs⟩):b∈F.D:=by
 unfold Fm.D at z ⊢;rw[RP,hf]at z;exact(Ck.mp z).resolve_left hb
theorem Gd.back(g:Gd B F K A H C s)(x:Nx F.D [] s.heap s'.heap C AT)(len:AT.length=A7.n)(nodup:AT.Nodup)(fresh:∀a∈AT,B.base.get? a=L)(live:∀a∈AT,∃o,s'.heap.get? a=G o)(objs:∀i o,AL A7.h i=G o->∃a,AT[i]?=G a/\Ca B.prog B.w s'.heap AT a o)(base:B.base.StaysIn s'.heap)(os:s'.os=B.os)(gens:s'.gens=B.gens)(env:Cf F s'.heap AT A7.env):Gd B F K A A7 AT s' where
 kinds:=g.kinds;len:=len;nodup:=nodup;fresh:=fresh;live:=live;D5:=λa m=>by refine II (g.D5 a m) ?_;intro p q o e;exact⟨p,x.out e q,x.live a o e⟩
 D2:=λc m=>by refine H6 (g.D2 c m) ?_;intro q o e;exact⟨x.out e q,x.live _ o e⟩
 objs:=objs;env:=env;base:=base;os:=os;gens:=gens;frames:=g.frames;DP:=FunFrames.Gu g.DP (λA1 m=>(g.Cz A1 m).1) x;Cz:=λA1 m=>by
  refine Pl (g.Cz A1 m) ?_;intro q r o ho hd;refine xE (x.data A1 o ho q (by simp)) ?_;intro sl z;exact⟨x.out ho q,r,_,z,hd⟩
 mods:=g.mods;handled:=g.handled;depth:=g.depth;units:=g.units
end
theorem aO:∀(names:I (U×E2))(n:O)(Am:I (U×A8))(x:U)(c:A8),(x,c)∈Am->(x,c)∈Ji n names Am
 |[],_,_,_,_,h=>h|(name,kind)::r,n,Am,x,c,h=>by
  unfold Ji;split;. exact aO r (n+1) _ x c (Cq _ h)
  . exact aO r n _ x c h
theorem T7:∀(names:I (U×E2))(n:O)(Am:I (U×A8))(x:U),(x,.cell)∈names->∃c,(x,c)∈Ji n names Am
 |(name,kind)::r,n,Am,x,h=>by
  unfold Ji;rcases Ck.mp h with q|q
  . injection q with q q';subst q;subst q';skip;exact⟨n,aO r (n+1) _ _ _ Cp⟩
  . split;. exact T7 r (n+1) _ x q
    . exact T7 r n _ x q
theorem aP:∀(names:I (U×E2))(n:O)(Am:I (U×A8)),(names.map (·.1)).Nodup->(Am.map (·.1)).Nodup->(∀x∈names.map (·.1),x∉Am.map (·.1))->((Ji n names Am).map (·.1)).Nodup
 |[],_,_,_,h,_=>h|(name,kind)::r,n,Am,hn,ha,hd=>by
  unfold Ji;refine xA (ET.mp hn) ?_;intro h1 h2;split
  . refine aP r (n+1) _ h2 (ET.mpr ⟨hd name Cp,ha⟩) λx hx hm=>?_;rcases Ck.mp hm with q|q;. exact h1 (q▸hx)
    . exact hd x (Cq _ hx) q
  . exact aP r n _ h2 ha λx hx=>hd x (Cq _ hx)
theorem aQ:∀{l:I (U×J)}{x:U}{c:J},(l.map (·.1)).Nodup->(x,c)∈l->l.lookup x=G c
 |(k,v)::r,x,c,hn,h=>by
  refine xA (ET.mp hn) ?_;intro h1 h2;rw[PS];rcases Ck.mp h with q|q;. injection q with q q';subst q;subst q';simp
  . have :(x==k)=A6:=Ll.mpr λz=>h1 (E'.mpr ⟨_,q,z⟩);rw[this];exact aQ h2 q
theorem W9{names:I (U×E2)}{c:A8}(hn:(names.map (·.1)).Nodup)(h:(x,c)∈Ji n names []):(Ji n names []).lookup x=G c:=aQ (aP names n [] hn HK λ_ _ hm=>by simp at hm) h
noncomputable def BR(h:BK)(C:I A8):I (U×V)->I (U×A4)->Prop
 |[],l=>l=[]|p::b,l=>∃u r,l=(p.1,u)::r/\VR h C p.2 u/\BR h C b r
theorem BR.cons{b:I (U×V)}{r:I (U×A4)}(a:VR h C v u)(y:BR h C b r):BR h C ((x,v)::b) ((x,u)::r):=⟨u,r,rfl,a,y⟩
theorem BR.ind{P:I (U×V)->I (U×A4)->Prop}(n:P [] [])(c:∀x v u b r,VR h C v u->BR h C b r->P b r->P ((x,v)::b) ((x,u)::r)){b:I (U×V)}:∀{l:I (U×A4)},BR h C b l->P b l:=by induction b with
 |nil=>intro l e;cases e;exact n|cons p b ih=>intro l e;refine Bv e ?_;clear e;intro u r q a y;subst q;exact c p.1 p.2 u b r a y (ih y)
theorem BR.nx(x:Nx AM A_ h Q C AT){b:I (U×V)}{l:I (U×A4)}(r:BR h C b l):BR Q AT b l:=BR.ind (P:=BR Q AT) rfl (λ_ _ _ _ _ a _ ih=>.cons (a.nx x) ih) r
theorem BR.keys{b:I (U×V)}{l:I (U×A4)}(r:BR h C b l):l.map (·.1)=b.map (·.1):=BR.ind (P:=λb l=>l.map (·.1)=b.map (·.1)) rfl (λx _ _ _ _ _ _ ih=>congrArg (x::·) ih) r
theorem kL{kd:U->AD E2}:∀{l:I (U×A4)}{m:U->AD A4},x∉l.map (·.1)->RX kd l m x=m x
 |[],_,_=>rfl|(n,v)::r,m,h=>by
  unfold RX;have h1:x≠n:=λe=>h (by rw[e];simp);have h2:x∉r.map (·.1):=λe=>h (by simp only[J'];exact Cq _ e);rw[kL h2];split;. simp[h1]
  . rfl
theorem kM{kd:U->AD E2}:∀{l:I (U×A4)}{m:U->AD A4},x∉l.map (·.1)->RY kd l m x=m x
 |[],_,_=>rfl|(n,v)::r,m,h=>by
  unfold RY;have h1:x≠n:=λe=>h (by rw[e];simp);have h2:x∉r.map (·.1):=λe=>h (by simp only[J'];exact Cq _ e);rw[kM h2];split;. rfl
  . simp[h1]
theorem BR.local{kd:U->AD E2}(hx:kd x=G .local){b:I (U×V)}{l:I (U×A4)}(r:BR h C b l):∀{m:U->AD A4}{v:V},(b.map (·.1)).Nodup->Ah b x=G v->∃u,RX kd l m x=G u/\VR h C v u:=BR.ind (P:=λb l=>∀{m:U->AD A4}{v:V},(b.map (·.1)).Nodup->Ah b x=G v->∃u,RX kd l m x=G u/\VR h C v u) (λ_ e=>(AF e).elim) (λx' w u b r a y ih m v hn hl=>by
 have hn:=ET.mp hn;rw[Ss]at hl;refine Ea hl (λq e=>?_) λ_ e=>ih hn.2 e;clear hl;have :=E1.mp q;subst this;refine Br e (P:=λv=>∃u',RX kd ((x',u)::r) m x'=G u'/\VR h C v u') ⟨u,?_,a⟩;unfold RX;rw[DF hx,kL (by rw[y.keys];exact hn.1)];exact DF rfl) r
theorem BR.cell{kd:U->AD E2}(hx:kd x≠G .local){b:I (U×V)}{l:I (U×A4)}(r:BR h C b l):∀{m:U->AD A4}{v:V},(b.map (·.1)).Nodup->Ah b x=G v->∃u,RY kd l m x=G u/\VR h C v u:=BR.ind (P:=λb l=>∀{m:U->AD A4}{v:V},(b.map (·.1)).Nodup->Ah b x=G v->∃u,RY kd l m x=G u/\VR h C v u) (λ_ e=>(AF e).elim) (λx' w u b r a y ih m v hn hl=>by
 have hn:=ET.mp hn;rw[Ss]at hl;refine Ea hl (λq e=>?_) λ_ e=>ih hn.2 e;clear hl;have :=E1.mp q;subst this;refine Br e (P:=λv=>∃u',RY kd ((x',u)::r) m x'=G u'/\VR h C v u') ⟨u,?_,a⟩;unfold RY;rw[CS hx,kM (by rw[y.keys];exact hn.1)];exact DF rfl) r
structure FnAt(B:Bs)(a:A8)(fn:Fn)(o:Bm)(fd:Kd):Prop where
 get:B.base.get? a=G o
 data:o.data=.func fd
 sc:fd.scope=fn.sc
 body:fd.body=.stmts fn.body
 closure:fd.closure=[]co:fd.scope.isCoroutine=A6
 gen:fd.scope.isGenerator=A6
 kind:fd.scope.kind=.function
 g3:fd.globals=3b0:fd.builtins=0
 xz:Q8 fn.sc=M
 nodup:(fn.sc.names.map (·.1)).Nodup
 kN:∀x,fn.sc.names.lookup x≠G .free
 code:B.base.CodeRec fd.code fd.qualname
 lim:B.base.NoLimit
 bind:∀{args:I V}{b:I (U×V)},JE fn args=G b->(b.map (·.1)).Nodup/\(∀x∈b.map (·.1),fn.sc.names.lookup x=G .local\/fn.sc.names.lookup x=G .cell)/\∀{s:AR}{C:I A8}{us:I A4},B.base.StaysIn s.heap->Aa s.heap C args us->∀{Av:fP}{A:CK}{A2:I (U×A4)->AR->Prop}{E:A4->AR->Prop},(∀K9 Q,(∀b o,s.heap.get? b=G o->Q.get? b=G o)->BR Q C b K9->A2 K9 {s with heap:=Q})->AH Av A (fb fd ⟨us,[]⟩) A2 E s
structure Ga(B:Bs)(F:Fm)(K:Kx)(A:CK)(H:St)(C:I A8)(s:AR):Prop where
 len:C.length=H.n
 nodup:C.Nodup
 fresh:∀a∈C,B.base.get? a=L
 live:∀a∈C,∃o,s.heap.get? a=G o
 objs:∀i o,AL H.h i=G o->∃a,C[i]?=G a/\Ca B.prog B.w s.heap C a o
 base:B.base.StaysIn s.heap
 os:s.os=B.os
 gens:s.gens=B.gens
 frames:A.frames=G F.outs
 DP:s.heap.FunFrames B.base F.outs
 Cz:∀A1∈F.outs.filterMap (·.frame),A1∉C/\(A1∈F.A_->A1=F.env.locals)/\∃o,s.heap.get? A1=G o/\H9 o=M
 mods:∃o,B.base.get? NP=G o
 handled:A.handled=L
 depth:A.depth+3*K.d<900units:A.units+10*K.d<9000
section
theorem KA(ha:h.objs.size<=a):h.get? a=L:=by cases e:h.get? a with
 |none=>rfl|some o=>exact absurd (Dg e) (Ul.mpr ha)
theorem Gd.ga(g:Gd B F K A H C s):Ga B F K A H C s:=⟨g.len,g.nodup,g.fresh,g.live,g.objs,g.base,g.os,g.gens,g.frames,g.DP,g.Cz,g.mods,g.handled,g.depth,g.units⟩
theorem Ga.enter(g:Ga B F K A H C s)(hd:K.d=d+1){fn:Fn}{o:Bm}(ok:FnAt B a fn o fd){b:I (U×V)}{K9:I (U×A4)}(hn:(b.map (·.1)).Nodup)(hk:∀x∈b.map (·.1),fn.sc.names.lookup x=G .local\/fn.sc.names.lookup x=G .cell)(L4:∀b o,s.heap.get? b=G o->Af.get? b=G o)(hb:BR Af C b K9)(he:env=newEnv fd.scope Af.objs.size fd.globals (Ji (Af.objs.size+1) fd.scope.names []) (fd.qualname++".<locals>.") (G a) fd.code L fd.builtins)(x:InCallC {s with heap:=Af} env.locals (RX env.kindOf K9 λ_=>L) env.cells (RY env.kindOf K9 λ_=>L) AJ):Gd B ⟨env,env.locals::env.cells.map (·.2),env::F.outs⟩ ⟨fn.sc,d⟩ (A.deeper env) ⟨b,H.h,H.n⟩ C AJ/\(∀b o,s.heap.get? b=G o->AJ.heap.get? b=G o)/\env.frame=G env.locals/\∀w∈env.locals::env.cells.map (·.2),s.heap.get? w=L:=by
 refine DA x.toInCall.same ?_;intro AP tk Aw;subst Aw;have kO:∀b o,Af.get? b=G o->AP.get? b=G o:=x.toInCall.keep;have keep:∀b o,s.heap.get? b=G o->AP.get? b=G o:=λb o e=>kO b o (L4 b o e);have T8:env.scope=fn.sc:=by rw[he];exact ok.sc
 have EJ:env.cells=Ji (Af.objs.size+1) fn.sc.names []:=by rw[he];show Ji _ fd.scope.names []=_;rw[ok.sc]
 have hL:env.locals=Af.objs.size:=by rw[he];rfl
 have aR:∀y,env.kindOf y=fn.sc.names.lookup y:=λy=>by show env.scope.names.lookup y=_;rw[T8]
 have D3:env.frame=G env.locals:=by rw[he];rfl
 have kP:∀c∈env.cells,env.locals<c.2:=λc m=>x.above c.1 c.2 m;have new:∀w∈env.locals::env.cells.map (·.2),s.heap.get? w=L:=λw m=>by
  have :Af.get? w=L:=by
   refine KA ?_;rw[<-hL];rcases Ck.mp m with e|m;. exact Ej e.symm
   . refine AC (E'.mp m) ?_;intro c hc B6;clear m;subst B6;exact Gg (kP c hc)
  cases e:s.heap.get? w with
 |none=>rfl|some o=>rw[L4 _ _ e]at this;(exfalso;cases this)
 have cl:∀c∈env.cells,∃u,AP.IsCell c.2 u:=λc m=>by
  rw[EJ]at m;have :=W9 ok.nodup m;rw[<-EJ]at this;exact⟨_,x.cell _ _ this⟩
 have im:Du s.heap AP:=λb o e _=>keep b o e;have nb:∀w,s.heap.get? w=L->B.base.get? w=L:=λw hw=>by cases e:B.base.get? w with
 |none=>rfl|some o=>rw[g.base w o e]at hw;(exfalso;cases hw)
 have aS:∀w,s.heap.get? w=L->w∉C:=λw hw m=>by refine xE (g.live w m) ?_;intro o e;rw[hw]at e;exact(BE e).elim
 have xb:Nx F.D [] Af AP C C:=Nx.ext kO;have GX:=hb.nx xb;refine Gn (id x.toInCall.ns) ?_;intro oL N ep KC y0 _;refine⟨?_,keep,D3,new⟩;exact{
  kinds:={
   fn:=by rw[T8,<-ok.sc];exact ok.kind
   sc:=ok.xz
   kd:=λy k hy=>by
     rw[aN]at hy;have e:env.kindOf y=G k:=(aR y).trans hy;revert e hy;cases k with
 |«local»=>exactλ_ e=>e|cell=>exactλhy e=>⟨e,xE (T7 fn.sc.names (Af.objs.size+1) [] y (mem_of_lookup hy)) λc hc=>⟨c,EJ▸W9 ok.nodup hc,Cq _ (E'.mpr ⟨_,EJ▸hc,rfl⟩)⟩⟩|free=>exactλhy _=>absurd hy (ok.kN y)|globalImplicit=>exactλ_ e=>e|globalExplicit=>exactλ_ _=>trivial
   g3:=by rw[he];exact ok.g3
   b0:=by rw[he];exact ok.b0
   cells:=x.apart
   IW:=Cp
   MO:=λc m=>PT (kP c m)}
  len:=g.len
  nodup:=g.nodup
  fresh:=g.fresh
  live:=λw m=>by refine xE (g.live w m) ?_;intro o e;exact⟨o,keep w o e⟩
  D5:=λw m=>⟨nb w (new w m),aS w (new w m),by
   rcases Ck.mp m with e|m;. rw[e];exact⟨_,KC⟩
   . refine AC (E'.mp m) ?_;intro c hc BJ;clear m;subst BJ;refine EW (cl c hc) ?_;intro u o e _;exact⟨o,e⟩⟩
  D2:=λc m=>⟨aS _ (new _ (Cq _ (E'.mpr ⟨c,m,rfl⟩))),by refine EW (cl c m) ?_;intro u o e _;exact⟨o,e⟩⟩
  objs:=λi o e=>by
   refine AC (g.objs i o e) ?_;intro a p r;have :=r.mono (J:=[]) im (keep a);exact⟨a,p,by simpa using this⟩
  env:=⟨_,x.toInCall.ns,cl,λy v l fr=>by
   rcases fr with q|q|q;. exact AC (GX.local q hn l) λu e r=>⟨u,⟨λ_=>e,λz=>Sy z q⟩,r⟩
   . refine AC (GX.cell (kd:=env.kindOf) (m:=λ_=>L) (λz=>Sy (.inl q) z) hn l) ?_;intro u e r;refine xE (T7 fn.sc.names (Af.objs.size+1) [] y (mem_of_lookup ((aR y).symm.trans q))) ?_;intro c hc;have e':=W9 ok.nodup hc;rw[<-EJ]at e';exact⟨u,⟨λz=>Sy (.inl q) z,λ_=>⟨c,e',e▸x.cell _ _ e'⟩⟩,r⟩
   . exact absurd ((aR y).symm.trans q) (ok.kN y)⟩
  base:=λw o e=>keep w o (g.base w o e)
  os:=g.os
  gens:=g.gens
  frames:=by show A.frames.map _=_;rw[g.frames];rfl
  DP:=by
   refine bN6 (by rw[T8,<-ok.sc,ok.kind];decide) D3 x.toInCall.ns (nb _ (new _ Cp)) ?_;exact bp6 (λb o e _=>⟨o,keep b o e,rfl⟩) g.DP
  Cz:=λA1 m=>by
   show A1∉C/\(A1∈env.locals::env.cells.map (·.2)->A1=env.locals)/\_;rw[RP,D3]at m;rcases Ck.mp m with e|m;. exact⟨e▸aS _ (new _ Cp),λ_=>e,_,e▸KC,by unfold H9;rw[y0]⟩
   . refine Pl (g.Cz A1 m) ?_;intro q _ o ho hd;exact⟨q,λz=>(by rw[new A1 z]at ho;exact(BE ho).elim),o,keep _ _ ho,hd⟩
  mods:=g.mods
  handled:=g.handled
  depth:=by have :=g.depth;show A.depth+1+3*d<900;(with_reducible exact Mine.yK (by assumption) (by assumption) (by decide))
  units:=by have :=g.units;show A.units+3+10*d<9000;(with_reducible exact Mine.yK (by assumption) (by assumption) (by decide))}
theorem Ga.into(g:Ga B F K A H C s)(hd:K.d=d+1){fn:Fn}{o:Bm}(ok:FnAt B a fn o fd){b:I (U×V)}(hb:JE fn args=G b)(rs:Aa s.heap C args us){AS:Dr->AR->Prop}(D:∀{env:Gf}{AJ:AR},Gd B ⟨env,env.locals::env.cells.map (·.2),env::F.outs⟩ ⟨fn.sc,d⟩ (A.deeper env) ⟨b,H.h,H.n⟩ C AJ->(∀b o,s.heap.get? b=G o->AJ.heap.get? b=G o)->env.frame=G env.locals->(∀w∈env.locals::env.cells.map (·.2),s.heap.get? w=L)->D7 (AQ B.prog B.w) A (.func fn.body env) AS AJ):D7 (AQ B.prog B.w) A (.call (.ref a) ⟨us,[]⟩) AS s:=by
 refine G5 (ok.bind hb) ?_;intro hn hk bd;have y1:A.depth<recursionLimit:=by have :=g.depth;exact Iw (show _<900 by(with_reducible exact H' (H2 _ _) (by assumption))) (by decide)
 refine codeAny_call_function y1 (g.base a o ok.get) ok.data ok.co ok.gen ok.body (ok.code.keeps g.base) (bd g.base rs λK9 Af L4 kQ=>?_);rw[ok.closure];refine wpAny_newFunctionEnv_cells ok.kind (λx hx=>?_) λenv he AJ x=>?_
 . have JL:x.1∈b.map (·.1):=by rw[<-kQ.keys];exact E'.mpr ⟨x,hx,rfl⟩
   rw[ok.sc];rcases hk x.1 JL with q|q;. exact .inl q
   . refine xE (T7 fn.sc.names (Af.objs.size+1) [] x.1 (mem_of_lookup q)) ?_;intro c hc;refine .inr ⟨q,?_⟩;show((Ji (Af.objs.size+1) fn.sc.names []).lookup x.1).isSome=M;rw[W9 ok.nodup hc];rfl
 . refine M6 (g.enter hd ok hn hk L4 kQ he x) ?_;intro AN keep D3 new;exact⟨ok.lim.keeps λw o e=>keep w o (g.base w o e),D AN keep D3 new⟩
theorem aT{fn:Fn}{o:Bm}(ok:FnAt B a fn o fd){b:I (U×V)}(hb:JE fn args=G b)(hd:K.d=d+1)(hf:f=.next/\v=.none\/f=.ret v)(D:∀{F:Fm}{A:CK}{C:I A8}{s:AR}{C4:I Gf},F.outs=F.env::C4->F.env.frame=G F.env.locals->Gd B F ⟨fn.sc,d⟩ A ⟨b,H.h,H.n⟩ C s->CJ B F ⟨fn.sc,d⟩ A AB C s (Iz fn.body F.env) (FR f))(g:Gd B F K A H C s)(rs:Aa s.heap C args us){AS:Dr->AR->Prop}(k:∀u AT s',Gd B F K A ⟨H.env,AB.h,AB.n⟩ AT s'->Nx F.D [] s.heap s'.heap C AT->VR s'.heap AT v u->AS (.ok (.ret u)) s'):D7 (AQ B.prog B.w) A (.call (.ref a) ⟨us,[]⟩) AS s:=by
 refine g.ga.into hd ok hb rs λ{env AJ}AN keep D3 new=>codeAny_func (D (C4:=F.outs) rfl D3 AN _ _ λu Au Ai AU Al BB=>?_);have xx:Nx F.D [] s.heap Ai.heap C Au:=by
   have y:=(Nx.ext (AM:=Fm.D ⟨env,env.locals::env.cells.map (·.2),env::F.outs⟩) (A_:=[]) (C:=C) keep).kJ (W':=env.locals::env.cells.map (·.2)) (λb m=>nomatch m)|>.trans Al;exact⟨y.pre,y.live,y.Bw,λb o e m _=>AC (y.same b o e m (λz=>by rw[new b z]at e;exact(BE e).elim)) λsl q r=>⟨sl,q,λhz=>r λz=>hz (Fm.xw D3 (λw=>by rw[new b (w▸Cp)]at e;exact(BE e).elim) z)⟩⟩
 have gg:Gd B F K A ⟨H.env,AB.h,AB.n⟩ Au Ai:=g.back (A7:=⟨H.env,AB.h,AB.n⟩) xx AU.len AU.nodup AU.fresh AU.live AU.objs AU.base AU.os AU.gens (Cf.Gu g g.env xx);rcases hf with C9|rfl;refine xA C9 ?_;(try clear C9);intro Cn D8;subst Cn;subst D8;rotate_left;rotate_left;. exact k _ Au Ai gg xx (by cases BB;rfl)
 . refine AC BB ?_;(try clear BB);intro y B6 BB;subst B6;exact k _ Au Ai gg xx BB
theorem aU(A9:C5 B A3 n){fn:Fn}{o:Bm}(ok:FnAt B a fn o fd)(h:JG K (ev A3 n) fn args H=.ok (.v v) A7)(g:Gd B F K A H C s)(rs:Aa s.heap C args us){AS:Dr->AR->Prop}(k:∀u AT s',Gd B F K A A7 AT s'->Nx F.D [] s.heap s'.heap C AT->VR s'.heap AT v u->AS (.ok (.ret u)) s'):D7 (AQ B.prog B.w) A (.call (.ref a) ⟨us,[]⟩) AS s:=by
 refine A0.Bx h ?_;clear h;intro b hb h;have key:∃d f AB,K.d=d+1/\ev A3 n ⟨fn.sc,d⟩ (.ss fn.body) ⟨b,H.h,H.n⟩=.ok (.f f) AB/\(f=.next/\v=.none\/f=.ret v)/\A7=⟨H.env,AB.h,AB.n⟩:=by cases hd:K.d with
 |zero=>rw[hd]at h;exact(Ac h).elim|succ d=>
  rw[hd]at h;refine A0.Hs h ?_;clear h;intro f AB AP h;cases f with
 |ret w=>(first|(revert k;(first|apply BX h|apply B5 h|apply BY h|apply BZ h|apply B_ h);intro k)|apply BX h|apply B5 h|apply BY h|apply BZ h|apply B_ h);exact⟨d,_,AB,rfl,AP,.inr rfl,rfl⟩|next=>refine xA (FG h) ?_;intro q Bp;clear h k;subst Bp;injection q with q;exact⟨d,_,AB,rfl,AP,.inl ⟨rfl,q.symm⟩,rfl⟩|brk=>exact(Ac h).elim|cont=>exact(Ac h).elim
 refine J6 key ?_;(try clear key);intro d f AB hd AP hf Bg;clear h;subst Bg;exact aT ok hb hd hf (λ_ _ g=>A9.ss AP g) g rs k
theorem kR(A9:C5 B A3 n){fn:Fn}{o:Bm}(ok:FnAt B a fn o fd)(h:JG K (ev A3 n) fn args H=.ok (.v v) A7)(g:Gd B F K A H C s)(rs:Aa s.heap C args us):Ae B F K A A7 C s (CE (.ref a) us) (RV v):=λA2 E k=>HN (aU A9 ok h g rs λu AT s' g' x' r'=>k u AT s' g' x' r')
end
noncomputable def MV:MK->U->A4->A4->I A4->Prop
 |.str,m,u,f,first=>f=.builtin ("str."++m.toString)/\first=[u]|.lst,m,u,f,first=>f=.builtin ("list."++m.toString)/\first=[u]|.Ez,m,u,f,first=>f=.builtin ("dict."++m.toString)/\first=[u]|.fn a,_,u,f,first=>f=.ref a/\first=[u]|.tup,_,_,f,first=>f=.builtin "tuple.__new__"/\first=[]
noncomputable def CW(Av:fP)(h:BK)(f:A4):Prop:=∃k,(k=Keeper.frame\/k=Keeper.machine\/k=Keeper.boundFrame)/\Gh Av h (keeperOf f) k
theorem CW.builtin{id:D9}:CW Av h (.builtin id):=⟨.machine,.inr (.inl rfl),bp7 rfl⟩
theorem CW.type{id:D9}:CW Av h (.type id):=⟨.machine,.inr (.inl rfl),bp7 rfl⟩
theorem CW.func{o:Bm}(e:h.get? a=G o)(d:o.data=.func fd):CW Av h (.ref a):=⟨.frame,.inl rfl,(Kg (part:=L) e).andThen (by rw[d];exact .now)⟩
structure T9(B:Bs)(A3:Mine.Ctx)(n:O):Prop where
 MW:∀{K:Kx}{f:V}{args:I V}{H A7:Mine.St}{v:V},ev A3 n K (.call f args) H=.ok (.v v) A7->∀{F:Fm}{A:CK}{C:I A8}{s:AR}{fu:A4},Gd B F K A H C s->VR s.heap C f fu->CW (AQ B.prog B.w) s.heap fu
 kS:∀{K:Kx}{kd:MK}{o:V}{m:U}{args:I V}{H A7:Mine.St}{v:V},ev A3 n K (.HT kd o m args) H=.ok (.v v) A7->∀{F:Fm}{A:CK}{C:I A8}{s:AR}{u fv:A4}{first:I A4},Gd B F K A H C s->MV kd m u fv first->CW (AQ B.prog B.w) s.heap fv
 HT:∀{K:Kx}{kd:MK}{o:V}{m:U}{args:I V}{H A7:Mine.St}{v:V},ev A3 n K (.HT kd o m args) H=.ok (.v v) A7->∀{F:Fm}{A:CK}{C:I A8}{s:AR}{u fv:A4}{first us:I A4},Gd B F K A H C s->MV kd m u fv first->VR s.heap C o u->Aa s.heap C args us->Ae B F K A A7 C s (CE fv (first++us)) (RV v)
noncomputable def kT(B:Bs)(A3:Mine.Ctx):Prop:=∀{F:Fm}{K:Kx}{A:CK}{H:Mine.St}{C:I A8}{s:AR}{v:V}{u:A4}{m:U}{kd:MK},Gd B F K A H C s->VR s.heap C v u->QA A3 v m H.h=G kd->∀pl A2 E,(∀fv first s',Gd B F K A H C s'->Nx F.D [] s.heap s'.heap C C->MV kd m u fv first->A2 (fv,first) s')->AH (AQ B.prog B.w) A (Jj u m pl) A2 E s
section
theorem WA:∀{l:I AA},l.all CP=M->(F8 pos (Dz l env)).any (·.1)=A6
 |[],_=>rfl|x::l,h=>by
  rw[K6 (B1 h)];exact WA (l:=l) (Ak h)
theorem aV{f:A4}{A2:Args->AR->Prop}(h:AH Av A (Lm []) (λvs s'=>A2 ⟨vs,[]⟩ s') E s):AH Av A (evalArgs f M [] []) A2 E s:=by
 unfold evalArgs;show AH Av A (Lm []>>=_) A2 E s;refine A5 (Ff h (λvs s' Q=>?_) λ_ _ x=>x);refine A5 (AW ?_);refine C0 ?_;exact A5 (AW (A5 (AW (AW Q))))
theorem kU{args:I AA}(hp:args.all CP=M)(h:∀p,Ae B F K A AB C s (Lm (F8 p (Dz args F.env))) (O7 vs))(hc:∀us AZ AJ,Gd B F K A AB AZ AJ->Nx F.D [] s.heap AJ.heap C AZ->Aa AJ.heap AZ vs us->CW (AQ B.prog B.w) AJ.heap fv/\Ae B F K A A7 AZ AJ (CE fv (first++us)) (RV v)):Ae B F K A A7 C s (PU pos fv first (F8 pos (Dz args F.env)) []) (RV v):=by
 intro A2 E k;refine fc (P:=λh=>CW (AQ B.prog B.w) h fv) (by rw[WA hp];rfl) (λh x=>x) ?_;have done:∀us AZ AJ,Gd B F K A AB AZ AJ->Nx F.D [] s.heap AJ.heap C AZ->Aa AJ.heap AZ vs us->CW (AQ B.prog B.w) AJ.heap fv/\AH (AQ B.prog B.w) A (CE fv (first++us)) A2 E AJ:=λus AZ AJ AN Ab Aq=>by
  refine xA (hc us AZ AJ AN Ab Aq) ?_;intro c d;exact⟨c,d _ _ λu Au Ai AU Al BB=>k u Au Ai AU (Ab.trans Al) BB⟩
 cases args with
 |nil=>exact aV (h pos _ E done)|cons x l=>
  have :=h pos _ E done;rw[K6 (B1 hp)]at this ⊢;exact sq this
set_option tactic.hygienic true in
theorem aW{o:AA}{a:U}{w:Dy A4}(h:Vi o=M):attributeBase o a env w=w:=by
 cases o<;>first|rfl|skip
 rename_i f args kw pos;cases args with
 |nil=>exact(B0 h).elim|cons a l=>cases f<;>rfl
theorem y2(A9:C5 B A3 n)(Sc:T9 B A3 n)(AS:kT B A3){o:AA}{m:U}{Fk:BA}{args:I AA}(h:Fo A3 K (ev A3 n) (.Call (.Attribute o m Fk) args [] pos) H=.ok (.v v) A7)(g:Gd B F K A H C s):Ae B F K A A7 C s (eval (.Call (.Attribute o m Fk) args [] pos) F.env) (RV v):=by
 refine A0.Be h ?_;clear h;intro hp h;refine A0.Be h ?_;clear h;intro hq h;simp only[D6]at hq;refine xA hq ?_;(try clear hq);intro Aw y3;refine xA Aw ?_;(try clear Aw);intro hs hl;refine A0.Cg h ?_;clear h;intro ov AB AP h;refine A0.Bx h ?_;clear h;intro kd BD h;refine A0.L5 h ?_;clear h;intro vs Bc C3 h;intro A2 E k;rw[bp8,aW hs];refine A5 (A9.e AP g _ _ λu AZ AJ AN Ab Aq=>A5 (Ek ?_));have CH:bp9 (args.length+0) (F8 pos (Dz args F.env)) (Um pos (Un [] F.env))=M:=by
  have e1:=WA (pos:=pos) (env:=F.env) hp;have e2:(F8 pos (Dz args F.env)).all (λx=>!x.1)=M:=by
   rw[Bq];intro x hx;rw[Y4]at e1;have :=e1 x hx;simpa using this
  have e3:args.length<30:=by have :=y3;simp only[G0]at this;exact Dj this
  show((F8 pos (Dz args F.env)).all (λx=>!x.1)&&M&&decide (args.length+0+0<30))=M;rw[e2];simp[e3]
 show AH _ A (PV o m Fk pos F.env u (args.length+0) (F8 pos (Dz args F.env)) (Um pos (Un [] F.env))) A2 E AJ;unfold PV;rw[CH];refine A5 (C0 ?_);show AH _ A (Jj u m _) _ E AJ;refine AS AN Aq BD _ _ _ λfv first W8 y4 kV mv=>?_;show AH _ A (Jk M o F.env Fk pos>>=λp=>PU p fv first (F8 pos (Dz args F.env)) []) A2 E W8;have OC:Jk M o F.env Fk pos=pure pos:=by
  unfold Jk;have :(Fk.endLine==pos.line)=M:=by simpa using hl
  rw[this];rfl
 rw[OC];refine A5 (AW ?_);exact kU (A7:=A7) hp (λp=>A9.N C3 p y4) (λus Au Ai AU Al BB=>⟨Sc.kS h AU mv,(Sc.HT h AU mv ((Aq.nx kV).nx Al) BB)⟩) A2 E λy BS Ax Ao B8 BQ=>k y BS Ax Ao (Ab.trans (kV.trans B8)) BQ
theorem y5(A9:C5 B A3 n)(Sc:T9 B A3 n){f:AA}{args:I AA}(hf:∀o m p,f≠.Attribute o m p)(hp:args.all CP=M)(h:((ev A3 n K (.e f) H).V λfv H=>(ev A3 n K (.N args) H).A1 λvs H=>ev A3 n K (.call fv vs) H)=.ok (.v v) A7)(g:Gd B F K A H C s):Ae B F K A A7 C s (eval (.Call f args [] pos) F.env) (RV v):=by
 refine A0.Cg h ?_;clear h;intro fv AB AP h;refine A0.L5 h ?_;clear h;intro vs Bc BD h;intro A2 E k;have e:eval (.Call f args [] pos) F.env=(do PU pos (<-eval f F.env) [] (F8 pos (Dz args F.env)) []):=by cases f<;>first|rfl|exact absurd rfl (hf _ _ _)
 rw[e];refine A5 (A9.e AP g _ _ λu AZ AJ AN Ab Aq=>?_);exact kU (A7:=A7) (first:=[]) hp (λp=>A9.N BD p AN) (λus Au Ai AU Al BB=>⟨Sc.MW h AU (Aq.nx Al),(A9.call h AU (Aq.nx Al) BB)⟩) A2 E λy BS Ax Ao B8 BQ=>k y BS Ax Ao (Ab.trans B8) BQ
end
noncomputable def kW(C_:AA)(gens:I FP)(sc:BU)(pos:BA)(depth:O)(it Am:A4)(env:Gf)(g':FP)(x:A4):Dy Fin:=Hd [x] (if g'.is_async !=0 then asyncIter x else PQ x)>>=λVt=>runOwn (.compStart (.ListComp C_ gens sc pos) (depth+1) Vt Am env) env>>=λ_=>Kh (.compLoop (.ListComp C_ gens sc pos) depth it Am env)
noncomputable def aX(C_:AA)(gens:I FP)(sc:BU)(pos:BA)(depth:O)(it Am:A4)(env:Gf)(o:AD FP)(ok:AK):Dy Fin:=if ok then(match o with
 |some g'=>eval g'.iter env>>=λx=>Ke g'.iter.pos>>=λ_=>if g'.is_async !=0 then foldedIterable g'.iter x>>=kW C_ gens sc pos depth it Am env g' else sa g'.iter env x>>=kW C_ gens sc pos depth it Am env g'|none=>do
 (do let _<-call (.builtin "list.append") [Am,<-eval C_ env])Kh (.compLoop (.ListComp C_ gens sc pos) depth it Am env))else Kh (.compLoop (.ListComp C_ gens sc pos) depth it Am env)
theorem kX{it Am:A4}(hg:gens[depth]?=G g)(ha:g.is_async=0):Uo (.ListComp C_ gens sc pos) depth it Am env=(Ke g.iter.pos>>=λ_=>ER it>>=λr=>match r with
 |none=>pure (.done .next)|some v=>Y0 g.target it v>>=λ_=>Ew g.target env v>>=λ_=>forIn g.ifs M (λc r=>if r=M then do let ok<-NQ c env (eval c env);pure (G2 ok)else pure (G2 r))>>=aX C_ gens sc pos depth it Am env gens[depth+1]?):=by
 unfold Uo;simp only[hg,ha];rfl
section
theorem kY(A9:C5 B A3 n){l:I AA}(h:Zq (ev A3 n K) l H=.ok (.b b) A7)(g:Gd B F K A H C s):Ae B F K A A7 C s (forIn l M λc r=>if r=M then do let ok<-bq0 c F.env (eval c F.env);pure (G2 ok)else pure (G2 r)) (RB b):=by
 intro A2 E k;cases l with
 |nil=>
  (first|(revert k;(first|apply BX h|apply B5 h|apply BY h|apply BZ h|apply B_ h);intro k)|apply BX h|apply B5 h|apply BY h|apply BZ h|apply B_ h);exact wpAny_tests_nil (k _ C s g (Nx.refl ..) rfl)|cons c l=>cases l with
 |cons _ _=>exact(Ac h).elim|nil=>exact wpAny_tests_one (A9.t h g _ _ k)
theorem kZ(r:E5 s.heap C it i AE)(h:A2 (.ref AE) s):AH (AQ B.prog B.w) A (PQ (.ref AE)) A2 E s:=by cases it with
 |tup Y=>refine Bv r ?_;(try clear r);intro T us _ hi _;exact wpAny_pyIter_tupleiter hi h|H7 lo hi=>refine AC r ?_;(try clear r);intro l hi _;exact wpAny_pyIter_rangeiter hi h|lst k=>refine AC r ?_;(try clear r);intro a _ hi;exact wpAny_pyIter_listiter hi h|keys k n=>refine AC r ?_;(try clear r);intro a _ hi;exact wpAny_pyIter_keyiter hi h|K1 s=>exact r.elim
theorem k_{Am:A4}{AS:Dr->AR->Prop}(hg:gens[depth]?=G g)(ha:g.is_async=0)(r:E5 s.heap C it i AE)(h:D7 (AQ B.prog B.w) A (.compLoop (.ListComp C_ gens sc pos) depth (.ref AE) Am env) AS s):D7 (AQ B.prog B.w) A (.compStart (.ListComp C_ gens sc pos) depth (.ref AE) Am env) AS s:=by
 refine RZ ?_;show AH _ A ((ff (.ListComp C_ gens sc pos) depth (.ref AE) Am env).onRaise (λx=>do IA x env;Ke bq1)) _ _ s;refine bq2 ?_;unfold ff;have e:(clausesOf (.ListComp C_ gens sc pos))[depth]?=G g:=hg;simp only[e,bq3,ha,Y5,Ki,Kj];refine A5 (R_ (fg ?_));split;. exact AW (Ra rfl h)
 . exact A5 (Gi (A5 (Ek (A5 (kZ r (AW (Ra rfl h)))))))
noncomputable def Gv(B:Bs)(F:Fm)(C:I A8)(h:BK)(D:A8)(Am:I V):Prop:=CM B F C h D/\∃us,h.PlainList D us/\Aa h C Am us.toList
theorem Gv.nx(f:Gv B F C h D Am)(x:Nx AM A_ h Q C AT)(hw:D∉A_):Gv B F AT Q D Am:=by
 refine Hl f ?_;(try clear f);intro fr us B6 v;refine xE B6 ?_;(try clear B6);intro n e;exact⟨fr.nx x,us,⟨n,x.keep D _ e fr.C hw (λ_=>rfl)⟩,v.nx x⟩
theorem Gv.but(f:Gv B F C h D Am)(k:Dq AE h Q)(im:Du h Q)(ne:D≠AE):Gv B F C Q D Am:=by
 refine Hl f ?_;(try clear f);intro fr us BJ v;refine xE BJ ?_;(try clear BJ);intro n e;exact⟨fr.at ⟨_,k D _ ne e⟩,us,⟨n,k D _ ne e⟩,v.Bw im⟩
structure OD(B:Bs)(A3:Mine.Ctx)(n:O):Prop where GR:∀{K:Kx}{C_:AA}{g:FP}{gens:I FP}{it:It}{i:O}{Am l:I V}{H A7:Mine.St},ev A3 n K (.GR C_ g gens it i Am) H=.ok (.vs l) A7->∀{GY:I FP}{sc:BU}{pos:BA}{depth:O},GY.drop depth=g::gens->g.is_async=0->∀{F:Fm}{A:CK}{C BG:I A8}{s:AR}{Af:BK}{AE D:A8}{AS:Dr->AR->Prop},Gd B F K A H C s->Nx F.D (D::F.A_) Af s.heap BG C->Af.get? AE=L->CM B F C s.heap AE->E5 s.heap C it i AE->Gv B F C s.heap D Am->D≠AE->(∀AT s',Gd B F K A A7 AT s'->Nx F.D (D::F.A_) Af s'.heap BG AT->Gv B F AT s'.heap D l->AS (.ok .next) s')->D7 (AQ B.prog B.w) A (.compLoop (.ListComp C_ GY sc pos) depth (.ref AE) (.ref D) F.env) AS s
set_option tactic.hygienic true in
theorem QJ(h:MG g=M):CP g.iter=M/\g.is_async=0:=by
 unfold MG at h;simp only[D6]at h;refine⟨h.1,?_⟩;have :=h.2;split at this;. rename_i e;exact e
 . exact(E4 this).elim
theorem y6(x:Nx AM A_ h Q C AT):Nx AM (D::A_) h Q C AT:=x.kJ λ_ m=>Cq _ m
theorem y7(A9:C5 B A3 n)(SL:OD B A3 n){l:I V}(h:step A3 K (ev A3 n) (.GR C_ g gens it i Am) H=.ok (.vs l) A7){GY:I FP}(hd:GY.drop depth=g::gens)(ha:g.is_async=0){AS:Dr->AR->Prop}(Bk:Gd B F K A H C s)(Cr:Nx F.D (D::F.A_) Af s.heap BG C)(hI:Af.get? AE=L)(fr:CM B F C s.heap AE)(r:E5 s.heap C it i AE)(ac:Gv B F C s.heap D Am)(ne:D≠AE)(k:∀AT s',Gd B F K A A7 AT s'->Nx F.D (D::F.A_) Af s'.heap BG AT->Gv B F AT s'.heap D l->AS (.ok .next) s'):D7 (AQ B.prog B.w) A (.compLoop (.ListComp C_ GY sc pos) depth (.ref AE) (.ref D) F.env) AS s:=by
 have hg:GY[depth]?=G g:=by have :=congrArg (·[0]?) hd;simpa using this
 have ka:GY[depth+1]?=gens[0]?:=by have :=congrArg (·[1]?) hd;simpa using this
 have y8:GY.drop (depth+1)=gens:=by have :=congrArg (bq4 1) hd;simpa[bq5]using this
 refine A0.Bx h ?_;clear h;intro o AP h;refine fV rfl (λ_ s'=>s'=s) (λn s' e=>?_) 0 rfl;subst e;show AH _ A ((Uo (.ListComp C_ GY sc pos) depth (.ref AE) (.ref D) F.env).onRaise (λx=>do IA x F.env;fW x)) _ _ _;refine fX ?_;cases o with
 |none=>
  (first|(revert k;(first|apply BX h|apply B5 h|apply BY h|apply BZ h|apply B_ h);intro k)|apply BX h|apply B5 h|apply BY h|apply BZ h|apply B_ h);have fin:∀Q tk,Gd B F K A H C {s' with heap:=Q,toks:=tk}->Dq AE s'.heap Q->AS (.ok .next) {s' with heap:=Q,toks:=tk}:=λQ tk AN DQ=>by
   have hc:∀o,s'.heap.get? AE=G o->C2 o=A6:=λo e=>by
    refine J6 r.cls ?_;intro o' nm vs e' c d hn;rw[e']at e;injection e with e;subst e;unfold C2;rw[c];rcases hn with rfl|rfl|rfl|rfl<;>rfl
   exact k C _ AN (Cr.F0 DQ hI) (ac.but DQ (Gr DQ hc) ne)
  rw[kX hg ha];exact A5 (Ek (A5 (K7 Bk fr r AP (λx hx=>by exact(BE hx).elim) λ_ Q tk AN DQ=>AW (fin Q tk AN DQ))))|some x=>
  refine A0.Be h ?_;clear h;intro hf h;simp only[D6]at hf;refine xA hf ?_;(try clear hf);intro hf y9;refine A0.Hs h ?_;clear h;intro _ Bc BD h;refine A0.O9 h ?_;clear h;intro b GW C3 h;have hc:∀o,s'.heap.get? AE=G o->C2 o=A6:=λo e=>by
   refine J6 r.cls ?_;intro o' nm vs e' c d hn;rw[e']at e;injection e with e;subst e;unfold C2;rw[c];rcases hn with rfl|rfl|rfl|rfl<;>rfl
  have kc:AE∉D::F.A_:=λm=>by
   rcases Ck.mp m with e|e;. exact ne e.symm
   . exact fr.w e
  rw[kX hg ha];refine A5 (Ek (A5 (K7 Bk fr r AP (λy hy u Q tk AN DQ En Aq Ht=>?_) λhx=>by(exfalso;cases hx))));injection hy with hy;subst hy;refine A5 (QI Aq (A5 (A9.asg BD AN Ht _ _ λ_ Au Ai AU Al _=>?_)));refine A5 (kY A9 C3 AU _ _ λMU BS Ax Ao B8 BQ=>?_);clear C3;subst BQ;have xx:=Al.trans B8.FY;have Eo:=(Cr.F0 DQ hI).trans (y6 xx);have ED:=En.nx xx;have BQ:=Aq.nx xx En.C En.w;have WB:=(ac.but DQ (Gr DQ hc) ne).nx xx (ac.but DQ (Gr DQ hc) ne).1.w;cases MU with
 |false=>exact AW (.inr ⟨rfl,SL.GR h hd ha Ao Eo hI ED BQ WB ne k⟩)|true=>cases gens with
 |nil=>
    rw[show GY[depth+1]?=L from ka,show aX C_ GY sc pos depth (.ref AE) (.ref D) F.env L M=_ from DF rfl];refine A0.Cg h ?_;clear h;intro v kf FH h;refine A5 (A5 (A9.e FH Ao _ _ λu IZ EE CA D' JM=>?_));have kg:=WB.nx D' (by simp);have L7:=ED.nx D';have HW:=BQ.nx D' ED.C (by simp);refine Hl kg ?_;(try clear kg);intro fD us hp vr;have Ed:us.size<=F9:=by
     have e1:=vr.length;have e2:Am.length<=100000:=Dj hf;simp at e1;exact B4 (show _<=100000 by(with_reducible exact Mine.yS (by assumption) (by assumption))) (by decide)
    refine A5 (wpAny_list_append_plain hp (λQ FI De=>AW (AW ?_)) Ed);have TA:∀o,EE.heap.get? D=G o->C2 o=A6:=λo e=>by refine xE hp ?_;(try clear hp);intro m e';rw[e']at e;injection e with e;subst e;rfl
    have im:=Gr De.extBut TA;have Co:=CA.move (Q:=Q) (tk:=EE.toks) fD De.extBut TA;have xD:Nx F.D (D::F.A_) EE.heap Q IZ IZ:=Nx.but (.inr Cp) De.extBut TA (by refine xE FI ?_;(try clear FI);intro m e;exact⟨_,e⟩);have yA:=(Eo.trans D'.FY).trans xD;refine .inr ⟨rfl,SL.GR h hd ha Co yA hI (L7.nx xD) (HW.nx xD L7.C kc) ⟨fD.nx xD,_,FI,?_⟩ ne k⟩;have :=(vr.Bw im).app (v':=[v]) (u':=[u]) ⟨u,[],rfl,JM.Bw im,rfl⟩;simpa using this|cons g' js=>
    refine xA (QJ y9) ?_;intro FI Fp;refine A0.Cg h ?_;clear h;intro w kf FH h;refine A0.Bx h ?_;clear h;intro Vt MX h;refine A0.L5 h ?_;clear h;intro I_ bK5 TB h;have hl:GY[depth+1]?=G g':=by rw[ka];rfl
    rw[hl];rw[show aX C_ GY sc pos depth (.ref AE) (.ref D) F.env (G g') M=_ from DF rfl];have na:¬(g'.is_async !=0)=M:=by rw[Fp];exact NU
    refine A5 (A9.e FH Ao _ _ λu IZ EE CA D' JM=>A5 (Ek (PW (λz=>absurd z na) λ_=>A5 (NV (QG FI u) (A5 (C0 (PW (λz=>absurd z na) λ_=>OB CA JM MX λI' Q tk Co EK WC WD WE=>?_)))))));have yB:=(WB.nx D' (by simp)).nx EK (by simp);have MY:D≠I':=λz=>by refine xE ((WB.nx D' (by simp)).1.live) ?_;intro o e;rw[z,WC]at e;exact(BE e).elim
    refine A5 (Y1 (wpAny_run (k_ (A:=A) hl Fp WE (SL.GR TB (GY:=GY) (depth:=depth+1) y8 Fp (Af:=EE.heap) (BG:=IZ) Co (EK.FY) WC WD WE yB MY λWF TC GZ GF yE=>?_))));have L7:=ED.nx D';have HW:=BQ.nx D' ED.C (by simp);exact AW (.inr ⟨rfl,SL.GR h hd ha GZ ((Eo.trans D'.FY).trans GF) hI (L7.nx GF) (HW.nx GF L7.C kc) yE ne k⟩)
end
set_option tactic.hygienic true in
theorem aY:∀{l:I (U×J)},Si l=M->(l.map (·.1)).Nodup
 |[],_=>HK|p::l,h=>by
  unfold Si at h;split at h
  . rename_i e;refine ET.mpr ⟨λm=>?_,aY h⟩;refine AC (E'.mp m) ?_;intro q hq e';rw[aN]at e;have :∀{r:I (U×J)},q∈r->r.lookup p.1≠L:=λ{r}hr=>by induction r with
 |nil=>(exfalso;cases hr)|cons a r ih=>
     obtain⟨k,v⟩:=a;rw[PS];cases hb:p.1==k with
 |true=>simp|false=>
     rcases Ck.mp hr with z|z;. rw[z]at e';simp only at e';rw[e']at hb;simp at hb
     . exact ih z
    exact this hq e
  . exact(E4 h).elim
noncomputable def Ep(env:Gf):I (U×E2)->I (U×A8)->I (U×A8)
 |[],Am=>Am|(x,k)::r,Am=>if k==.free then Ep env r ((x,(env.cells.lookup x).getD 0)::Am)else Ep env r Am
theorem aZ:∀(names:I (U×E2))(Am:I (U×A8)),(∀x,(x,GK)∈names->∃c,env.cells.lookup x=G c)->(forIn names Am λ(x:U×E2)(cs:I (U×A8))=>(if(x.2==.free)=M then(do let c<-Up env x.1;pure (G2 ((x.1,c)::cs)))else pure (G2 cs):Dy (sr (I (U×A8)))))=pure (Ep env names Am)
 |[],Am,_=>by simp[Ep]|(x,k)::r,Am,h=>by
  have hr:=λy(m:(y,GK)∈r)=>h y (Cq _ m);rw[Rb];unfold Ep;by_cases q:k=.free
  . subst q;refine xE (h x Cp) ?_;intro c e;have e1:Up env x=pure c:=by unfold Up;rw[e]
    simp only[fh,Kk,e1,e,Option.getD_some];exact aZ r _ hr
  . have q':(k==GK)=A6:=by simpa using q
    simp only[q',Ki,Kj];exact aZ r _ hr
theorem WG(h:∀x,(x,GK)∈sc.names->∃c,env.cells.lookup x=G c):closureFor sc env=pure (Ep env sc.names []):=by
 have :=aZ sc.names [] h;unfold closureFor;show(forIn sc.names [] (λ(x:U×E2)(cs:I (U×A8))=>match x with|(name,kind)=>if(kind==GK)=M then(do let c<-Up env name;pure (G2 ((name,c)::cs)))else pure (G2 cs))>>=λcs=>pure cs)=_;have e:(λ(x:U×E2)(cs:I (U×A8))=>(match x with|(name,kind)=>if(kind==.free)=M then(do let c<-Up env name;pure (G2 ((name,c)::cs)))else pure (G2 cs):Dy (sr (I (U×A8)))))=λx cs=>if(x.2==.free)=M then(do let c<-Up env x.1;pure (G2 ((x.1,c)::cs)))else pure (G2 cs):=by funext x cs;obtain⟨n,k⟩:=x;rfl
 rw[e,this];rfl
set_option tactic.hygienic true in
theorem QK:∀{names:I (U×E2)}{Am:I (U×A8)}{x:U}{c:A8},(∀x,(x,GK)∈names->∃c,env.cells.lookup x=G c)->(x,c)∈Ep env names Am->(x,c)∈Am\/env.cells.lookup x=G c
 |[],_,_,_,_,h=>.inl h|(y,k)::r,Am,x,c,hh,h=>by
  have hr:=λy(m:(y,GK)∈r)=>hh y (Cq _ m);unfold Ep at h;split at h
  . rename_i q;have q:k=.free:=by simpa using q
    subst q;rcases QK hr h with z|z
    . rcases Ck.mp z with e|e
      . injection e with e1 e2;subst e1;subst e2;refine xE (hh x Cp) ?_;intro c e;rw[e];exact .inr rfl
      . exact .inl e
    . exact .inr z
  . exact QK hr h
theorem a_:∀{names:I (U×E2)}{Am:I (U×A8)}{p:U×A8},p∈Am->p∈Ep env names Am
 |[],_,_,h=>h|(y,k)::r,Am,p,h=>by
  unfold Ep;split;. exact a_ (Cq _ h)
  . exact a_ h
theorem aa:∀{names:I (U×E2)}{Am:I (U×A8)}{x:U},(x,GK)∈names->∃c,(x,c)∈Ep env names Am
 |(y,k)::r,Am,x,h=>by
  unfold Ep;rcases Ck.mp h with e|e
  . injection e with e1 e2;subst e1;subst e2;skip;exact⟨_,a_ Cp⟩
  . split;. exact aa e
    . exact aa e
theorem ab:∀{names:I (U×E2)}{Am:I (U×A8)},(names.map (·.1)).Nodup->(Am.map (·.1)).Nodup->(∀x∈names.map (·.1),x∉Am.map (·.1))->((Ep env names Am).map (·.1)).Nodup
 |[],_,_,h,_=>h|(y,k)::r,Am,hn,ha,hd=>by
  refine xA (ET.mp hn) ?_;intro h1 h2;unfold Ep;split
  . refine ab h2 (ET.mpr ⟨hd y Cp,ha⟩) λx hx hm=>?_;rcases Ck.mp hm with q|q;. exact h1 (q▸hx)
    . exact hd x (Cq _ hx) q
  . exact ab h2 ha λx hx=>hd x (Cq _ hx)
theorem kh:∀{l:I (U×J)}{x:U}{c:J},(x,c)∈l->∃c',l.lookup x=G c'
 |(k,v)::r,x,c,h=>by
  rw[PS];cases hb:x==k with
 |true=>exact⟨v,rfl⟩|false=>
  rcases Ck.mp h with q|q;. injection q with q _;subst q;simp at hb
  . exact kh q
theorem ae{env:Gf}{x:U}:∀{names:I (U×E2)},(names.map λ(n,k)=>if(k==GK&&env.scope.kind==.function&&env.kindOf n==G .cell)then(n,bq6)else(n,k)).lookup x=match names.lookup x with
  |none=>L|some k=>G (if(k==GK&&env.scope.kind==.function&&env.kindOf x==G .cell)then .cell else k)
 |[]=>rfl|(n,k)::r=>by
  have ih:=ae (env:=env) (x:=x) (names:=r);skip;show fj x ((if(k==GK&&env.scope.kind==.function&&env.kindOf n==G .cell)=M then(n,bq6)else(n,k))::_)=_;by_cases hx:x=n
  . subst hx;by_cases hc:(k==GK&&env.scope.kind==.function&&env.kindOf x==G .cell)=M;. rw[DF hc];simp[PS,hc]
    . rw[CS hc];simp[PS,hc]
  . have JL:(x==n)=A6:=by simpa using hx
    by_cases hc:(k==GK&&env.scope.kind==.function&&env.kindOf n==G .cell)=M;. rw[DF hc];simp only[PS,JL];exact ih
    . rw[CS hc];simp only[PS,JL];exact ih
section
theorem Gd.leave(AN:Gd B F K A H AZ AJ){A1:A8}(hW:F'.A_=[A1])(g':Gd B F' K' A' A7 AT s')(TD:AJ.heap.get? A1=L)(TE:AJ.heap.get? D=L)(x:Nx F.D (D::F'.A_) AJ.heap s'.heap AZ AT)(fD:CM B F' AT s'.heap D)(hs:E3 A1 s'.heap Q)(Hv:∀o,s'.heap.get? A1=G o->C2 o=A6)(ho:Ca B.prog B.w Q (AT++[D]) D o):Gd B F K A (Mine.St.new ⟨H.env,A7.h,A7.n⟩ o).2 (AT++[D]) {s' with heap:=Q}/\Nx F.D [] AJ.heap Q AZ (AT++[D]):=by
 refine G5 (g'.D5 A1 (by rw[hW];simp)) ?_;intro QL OE _;have KD:D≠A1:=λz=>fD.w (by rw[hW,z];simp);have k:Dq A1 s'.heap Q:=hs.extBut;have im:=Gr k Hv;have ne:∀{b:A8}{o:Bm},AJ.heap.get? b=G o->b≠A1/\b≠D:=λe=>⟨λz=>by(rw[z,TD]at e;exact(BE e).elim),λz=>by(rw[z,TE]at e;exact(BE e).elim)⟩;have nW:∀{b:A8}{o:Bm},AJ.heap.get? b=G o->b∉D::F'.A_:=λe m=>by
   rw[hW]at m;rcases Ck.mp m with z|z;. exact(ne e).2 z
   . exact(ne e).1 (CI.mp z)
 have xx:Nx F.D [] AJ.heap Q AZ (AT++[D]):=by
   refine AC x.pre ?_;intro J e hb;refine⟨⟨J++[D],by rw[e,Uj],λb m=>?_⟩,λb o q=>?_,λb o q c=>k b o (ne q).1 (x.Bw b o q c),λb o q m _=>let⟨sl,z,r⟩:=x.same b o q m (nW q);⟨sl,k b _ (ne q).1 z,r⟩⟩
   . rcases Dp.mp m with m|m;. exact hb b m
     . rw[CI.mp m];exact TE
   . refine xE (x.live b o q) ?_;intro o' q';exact⟨o',k b o' (ne q).1 q'⟩
 refine xE fD.live ?_;intro oD eD;refine⟨AN.back (s':={s' with heap:=Q}) (A7:=(Mine.St.new ⟨H.env,A7.h,A7.n⟩ o).2) xx (by simp[Mine.St.new,g'.len]) ?_ ?_ ?_ ?_ (λb p e=>k b p (λz=>by rw[z,QL]at e;exact(BE e).elim) (g'.base b p e)) g'.os g'.gens (Cf.Gu AN AN.env xx),xx⟩
 . refine I9.mpr ⟨g'.nodup,by simp,λa ha b hb e=>?_⟩;rw[CI.mp hb]at e;exact fD.C (e▸ha)
 . intro a m;rcases Dp.mp m with m|m;. exact g'.fresh a m
   . rw[CI.mp m];exact fD.base
 . intro a m;rcases Dp.mp m with m|m;. refine xE (g'.live a m) ?_;intro p e;exact⟨p,k a p (λz=>OE (z▸m)) e⟩
   . rw[CI.mp m];exact⟨oD,k D oD KD eD⟩
 . intro i p e;simp only[Mine.St.new,AL]at e;cases q:BC A7.n i with
 |true=>
     rw[q]at e;injection e with e;subst e;have :=CD q;exact⟨D,by rw[<-this,<-g'.len];simp,ho⟩|false=>
     rw[q]at e;refine AC (g'.objs i p e) ?_;intro b q r;exact⟨b,FX q,r.mono im λy=>k b y λz=>OE (z▸Ev q)⟩
theorem G9.comp(kd:G9 K F){env:I (U×V)}(hs:Ku K.sc sc env=M){A1:A8}{CV:Gf}(he:CV={scope:=su sc F.env,locals:=A1,globals:=F.env.globals,cells:=Ep F.env sc.names [],qual:=F.env.qual,func:=L,code:=F.env.code,frame:=F.env.frame,builtins:=F.env.builtins})(hL:∀c∈F.env.cells,c.2≠A1):G9 ⟨sc,K.d⟩ ⟨CV,[A1],F.outs⟩/\sc.kind=.function/\(∀x∈sc.names,x.2≠.cell)/\(∀x,(x,GK)∈sc.names->∃c,F.env.cells.lookup x=G c)/\(∀x∈sc.names,x.2=.local->sc.names.lookup x.1=G .local)/\(∀x,sc.names.lookup x=G .local->Ah env x=L)/\(∀x,sc.names.lookup x=G .free->(F.env.kindOf x=G .cell\/F.env.kindOf x=G .free)/\∃c,F.env.cells.lookup x=G c/\(Ep F.env sc.names []).lookup x=G c):=by
 unfold Ku at hs;simp only[D6]at hs;refine xA hs ?_;(try clear hs);intro Aw OF;refine xA Aw ?_;(try clear Aw);intro GB QM;obtain⟨hk,L8⟩:=GB;have hk:sc.kind=.function:=by
   revert hk;cases sc.kind<;>intro hk<;>first|rfl|exact(E4 hk).elim
 have QM:=aY QM;have all:∀x k,(x,k)∈sc.names->(k=.local/\Ah env x=L)\/(k=.free/\Zp K.sc x=M)\/k=.globalImplicit:=λx k m=>by
   have :=(Bq.mp OF) _ m;cases k<;>simp only at this;all_goals first|(first|exact(E4 this).elim|cases this)|skip
   . left;refine⟨rfl,?_⟩;split at this<;>first|assumption|exact(E4 this).elim
   . right;left;exact⟨rfl,this⟩
   . right;right;rfl
 have free:∀x,(x,GK)∈sc.names->(F.env.kindOf x=G .cell\/F.env.kindOf x=G .free)/\∃c,F.env.cells.lookup x=G c:=λx m=>by
   rcases all x _ m with B6|BJ|q;refine xA B6 ?_;(try clear B6);intro q _;rotate_left;refine xA BJ ?_;(try clear BJ);intro _ q;rotate_left;rotate_left;. (exfalso;cases q)
   . exact kd.cf x q
   . (exfalso;cases q)
 have D3:∀x,(x,GK)∈sc.names->∃c,F.env.cells.lookup x=G c:=λx m=>(free x m).2;have cl:∀x c,(x,c)∈Ep F.env sc.names []->F.env.cells.lookup x=G c:=λx c m=>by
   rcases QK D3 m with z|z;. simp at z
   . exact z
 have ki:∀x,(x,GK)∈sc.names->∃c,F.env.cells.lookup x=G c/\(Ep F.env sc.names []).lookup x=G c:=λx m=>by
   refine xE (aa (env:=F.env) (Am:=[]) m) ?_;intro c hc;refine xE (kh hc) ?_;intro c' GC;exact⟨c',cl x c' (mem_of_lookup GC),GC⟩
 have kdOf:∀x,CV.kindOf x=match sc.names.lookup x with
 |none=>L|some k=>G (if(k==GK&&F.env.scope.kind==.function&&F.env.kindOf x==G .cell)then .cell else k):=λx=>by rw[he];exact ae
 refine⟨{
   fn:=by rw[he];exact hk
   sc:=L8
   kd:=λx k hx=>?_
   g3:=by rw[he];exact kd.g3
   b0:=by rw[he];exact kd.b0
   cells:=?_
   IW:=by rw[he];simp
   MO:=λc m=>by rw[he]at m ⊢;exact hL _ (mem_of_lookup (cl c.1 c.2 m))},hk,λx m z=>?_,D3,λx m z=>?_,λx hx=>?_,λx hx=>⟨(free x (mem_of_lookup hx)).1,ki x (mem_of_lookup hx)⟩⟩
 . rw[aN]at hx;have e:=kdOf x;rw[hx]at e;refine(all x k (mem_of_lookup hx)).elim (λz=>?_) λz=>z.elim (λz=>?_) λz=>?_;. rw[z.1]at e ⊢;exact e
   . rw[z.1]at e hx ⊢;refine AC (ki x (mem_of_lookup hx)) ?_;intro c _ hc;refine⟨?_,c,by rw[he];exact hc⟩;dsimp only at e;split at e;. exact .inl e
     . exact .inr e
   . rw[z]at e ⊢;exact e
 . rw[he];show(Ep F.env sc.names []).Pairwise λx y=>x.2≠y.2;have KG:=ab (env:=F.env) (Am:=[]) QM HK λ_ _ m=>by simp at m
   have hp:(Ep F.env sc.names []).Pairwise λx y=>x.1≠y.1:=fk.mp KG;refine bN7 (λ{a b}ha hb G_ z=>?_) hp;exact G_ (name_of_addr kd.cells (mem_of_lookup (cl a.1 a.2 ha)) (by rw[z];exact mem_of_lookup (cl b.1 b.2 hb)))
 . obtain⟨y,k⟩:=x;simp only at z;subst z;(rcases all y _ m with D8|DW|q;refine xA D8 ?_;(try clear D8);intro q _;rotate_left;refine xA DW ?_;(try clear DW);intro q _;rotate_left;rotate_left)<;>(exfalso;cases q)
 . obtain⟨y,k⟩:=x;simp only at z ⊢;subst z;exact aQ QM m
 . rcases all x _ (mem_of_lookup hx)with Ec|FE|q;refine xA Ec ?_;(try clear Ec);intro _ q;rotate_left;refine xA FE ?_;(try clear FE);intro q _;rotate_left;rotate_left;. exact q
   . (exfalso;cases q)
   . (exfalso;cases q)
end
section
noncomputable def TF(F:Fm)(sc:BU)(A1:A8):Gf:={scope:=su sc F.env,locals:=A1,globals:=F.env.globals,cells:=Ep F.env sc.names [],qual:=F.env.qual,func:=L,code:=F.env.code,frame:=F.env.frame,builtins:=F.env.builtins}
noncomputable def Hw(F:Fm)(sc:BU)(A1:A8):Fm:=⟨TF F sc A1,[A1],F.outs⟩
theorem Gd.comp(g:Gd B F K A H C s)(hs:Ku K.sc sc H.env=M){A1:A8}(hL:s.heap.get? A1=L)(k:∀b o,s.heap.get? b=G o->Q.get? b=G o)(ns:Q.Ns A1 λ_=>L):Gd B (Hw F sc A1) ⟨sc,K.d⟩ A H C {s with heap:=Q,toks:=tk}:=by
 have new:∀{b:A8}{o:Bm},s.heap.get? b=G o->b≠A1:=λe z=>by rw[z,hL]at e;exact(BE e).elim
 have QL:B.base.get? A1=L:=by cases e:B.base.get? A1 with
 |none=>rfl|some o=>have :=g.base A1 o e;rw[hL]at this;exact(BE this).elim
 have WH:∀c∈F.env.cells,c.2≠A1:=λc m=>by refine H6 (g.D2 c m) ?_;intro _ o e;exact new e
 refine i9 (g.kinds.comp hs (A1:=A1) rfl WH) ?_;intro kd hk MZ D3 M_ OG yL;have cl:∀x c,(x,c)∈Ep F.env sc.names []->F.env.cells.lookup x=G c:=λx c m=>by
  rcases QK D3 m with z|z;. simp at z
  . exact z
 have im:Du s.heap Q:=λb o e _=>k b o e;refine Hm (id ns) ?_;intro oL _ _ eL _;refine CZ g.env ?_;intro m _ ce r;exact{
  kinds:=kd
  len:=g.len
  nodup:=g.nodup
  fresh:=g.fresh
  live:=λa m=>by refine xE (g.live a m) ?_;intro o e;exact⟨o,k a o e⟩
  D5:=λa m=>by
   rw[CI.mp m];exact⟨QL,λz=>by(refine xE (g.live A1 z) ?_;intro o e;exact new e rfl),oL,eL⟩
  D2:=λc m=>by
   refine H6 (g.D2 c (mem_of_lookup (cl c.1 c.2 m))) ?_;intro q o e;exact⟨q,o,k _ _ e⟩
  objs:=λi o e=>by
   refine AC (g.objs i o e) ?_;intro a p r;have :=r.mono (J:=[]) im (k a);exact⟨a,p,by simpa using this⟩
  env:=⟨_,ns,λc m=>by refine xE (ce _ (mem_of_lookup (cl c.1 c.2 m))) ?_;intro u q;exact⟨u,q.keeps k⟩,λx v hl fr=>by
   have kdOf:(TF F sc A1).kindOf x=match sc.names.lookup x with
 |none=>L|some k=>G (if(k==GK&&F.env.scope.kind==.function&&F.env.kindOf x==G .cell)then .cell else k):=ae;have yM:(TF F sc A1).kindOf x=G .local\/(TF F sc A1).kindOf x=G .cell\/(TF F sc A1).kindOf x=G .free:=fr;revert yM;rw[kdOf];cases q:sc.names.lookup x with
 |none=>intro z;exact absurd z (by simp)|some kk=>cases kk with
 |«local»=>rw[OG x q]at hl;exact(BE hl).elim|cell=>exact absurd rfl (MZ _ (mem_of_lookup q))|free=>
    intro _;refine Hl (yL x q) ?_;intro KG c hc GC;refine AC (r x v hl (.inr KG)) ?_;intro u sl e3;refine AC (sl.2 KG) ?_;intro c' e1 e2;have e1:=Bl (e1.symm.trans hc);refine⟨u,⟨λz=>?_,λ_=>⟨c,GC,e1▸e2.keeps k⟩⟩,e3.Bw im⟩;exfalso;have z:=kdOf.symm.trans z;rw[q]at z;dsimp only at z;split at z<;>(exfalso;cases z)|globalImplicit=>intro z;exact absurd z (by simp)|globalExplicit=>intro z;exact absurd z (by simp)⟩
  base:=λb o e=>k b o (g.base b o e)
  os:=g.os
  gens:=g.gens
  frames:=g.frames
  DP:=bp6 (λb o e _=>⟨o,k b o e,rfl⟩) g.DP
  Cz:=λb m=>let⟨q,_,o,ho,hd⟩:=g.Cz b m;⟨q,λz=>CI.mp z,o,k _ _ ho,hd⟩
  mods:=g.mods
  handled:=g.handled
  depth:=g.depth
  units:=g.units}
theorem CM.comp(fr:CM B F C s.heap AE)(g:Gd B F K A H C s)(hs:Ku K.sc sc H.env=M){A1:A8}(yN:AE≠A1)(hl:∃o,Q.get? AE=G o)(hL:∀c∈F.env.cells,c.2≠A1):CM B (Hw F sc A1) C Q AE where
 C:=fr.C;w:=λm=>yN (CI.mp m);cells:=λc m=>by
  refine VJ (g.kinds.comp hs (A1:=A1) rfl hL) ?_;intro _ _ _ D3 _;rcases QK D3 m with z|z;. simp at z
  . exact fr.cells _ (mem_of_lookup z)
 base:=fr.base;outs:=fr.outs;live:=hl
theorem af(SL:OD B A3 n){x:A4}{l:I V}(Ia:MG g=M)(AN:Gd B F K A AB AZ AJ)(hs:Ku K.sc sc AB.env=M)(Aq:VR AJ.heap AZ v x)(hi:Q4 v AB.h=G it)(h:ev A3 n ⟨sc,K.d⟩ (.GR C_ g gens it 0 []) AB=.ok (.vs l) Bc){RR:A4->A8->Dr->AR->Prop}(k:∀A1 D AT s',Gd B (Hw F sc A1) ⟨sc,K.d⟩ A Bc AT s'->AJ.heap.get? A1=L->AJ.heap.get? D=L->Nx F.D (D::[A1]) AJ.heap s'.heap AZ AT->Gv B (Hw F sc A1) AT s'.heap D l->RR (.ref D) A1 (.ok .next) s'):AH (AQ B.prog B.w) A (PQ x) (λit Ai=>AH (AQ B.prog B.w) A (sv []) (λAm Ax=>AH (AQ B.prog B.w) A (newFunctionEnv sc F.env.globals (Ep F.env sc.names []) [] F.env.qual L .none (G F.env)) (λkj EE=>D7 (AQ B.prog B.w) A (.compStart (.ListComp C_ (g::gens) sc pos) 0 it Am {kj with scope:=su sc F.env}) (RR Am kj.locals) EE) E Ax) E Ai) E AJ:=by
 refine xA (QJ Ia) ?_;intro hp ha;refine OB AN Aq hi λAE BD tk AU Al hI K8 T5=>?_;refine IB ?_;have WH:∀c∈F.env.cells,∃o,BD.get? c.2=G o:=λc m=>(AU.D2 c m).2;refine M6 (AU.kinds.comp hs (A1:=BD.objs.size) rfl λc m z=>by refine xE (WH c m) ?_;intro o e;rw[z,GD]at e;exact(BE e).elim) ?_;intro _ hk MZ _;skip;generalize hH:BD.push {cls:=.type "list",dict:=L,data:=.seq ([]:I A4).toArray}=BF;have sz:BF.objs.size=BD.objs.size+1:=by rw[<-hH,IC]
 have KH:∀b o,BD.get? b=G o->BF.get? b=G o:=λb o e=>by rw[<-hH];exact C1 _ e
 refine bq7 MZ (λy hy=>by simp at hy) (λFH ns QN=>?_) hk;dsimp only at ns QN ⊢;have Ma:BD.get? BF.objs.size=L:=KA (by rw[sz];exact PN _);have Mb:BD.get? BD.objs.size=L:=KA (DE _);have OH:∀b o,BD.get? b=G o->FH.get? b=G o:=λb o e=>QN.extBut b o (λz=>by rw[z,Ma]at e;exact(BE e).elim) (C1 _ (KH b o e));have up:∀{b:A8},BD.get? b=L->AJ.heap.get? b=L:=λ{b}e=>HA Al.live e;have KD:BD.objs.size≠BF.objs.size:=by rw[sz];exact EQ (PO _)
 have pD:FH.PlainList BD.objs.size #[]:=⟨_,QN.extBut _ _ KD (C1 _ (hH▸CY _ rfl))⟩;have CA:=AU.comp (tk:=tk+([]:I (U×A4)).length) hs Ma OH ns;have WI:∀{b:A8},BD.get? b=L->∀c∈F.env.cells,c.2≠b:=λe c m z=>by refine xE (WH c m) ?_;intro o q;rw[z,e]at q;exact(BE q).elim
 have L7:CM B (Hw F sc BF.objs.size) AZ FH AE:=K8.comp AU hs (λz=>by refine xE K8.live ?_;intro o e;rw[z,Ma]at e;exact(BE e).elim) (by refine xE K8.live ?_;intro o e;exact⟨o,OH _ _ e⟩) (WI Ma);have fD:CM B (Hw F sc BF.objs.size) AZ FH BD.objs.size:=(AU.freeOf (Q:=BD.push {cls:=.type "list",data:=.seq #[]}) Mb ⟨_,CY _ rfl⟩|>.at (Q:=FH) (by refine xE pD ?_;(try clear pD);intro m e;exact⟨_,e⟩))|>λq=>
 {C:=q.C,w:=λm=>KD (CI.mp m),cells:=λc m=>by
   refine VJ (AU.kinds.comp hs (A1:=BF.objs.size) rfl (WI Ma)) ?_;intro _ _ _ D3 _;rcases QK D3 m with z|z;. simp at z
   . exact q.cells _ (mem_of_lookup z),base:=q.base,outs:=q.outs,live:=q.live};have D':Nx F.D ([]:I A8) BD FH AZ AZ:=Nx.ext OH;have HW:=T5.nx D' K8.C (by simp);have MY:BD.objs.size≠AE:=λz=>by refine xE K8.live ?_;intro o e;rw[<-z,Mb]at e;exact(BE e).elim
 refine k_ (depth:=0) rfl ha HW (SL.GR h (GY:=g::gens) (depth:=0) rfl ha (F:=Hw F sc BF.objs.size) (Af:=AJ.heap) (BG:=AZ) CA (Al.trans D').FY hI L7 HW ⟨fD,#[],pD,rfl⟩ MY λAT s' g' x' a'=>?_);exact k _ _ AT s' g' (up Ma) (up Mb) x' a'
theorem kl(A9:C5 B A3 n)(SL:OD B A3 n)(h:Fo A3 K (ev A3 n) (.ListComp C_ (g::gens) sc pos) H=.ok (.v v) A7)(Bk:Gd B F K A H C s):Ae B F K A A7 C s (eval (.ListComp C_ (g::gens) sc pos) F.env) (RV v):=by
 refine A0.Be h ?_;clear h;intro Ia h;refine A0.Cg h ?_;clear h;intro w AB AP h;refine A0.Be h ?_;clear h;intro hs h;refine A0.Bx h ?_;clear h;intro it BD h;refine A0.L5 h ?_;clear h;intro l Bc C3 h;(first|(revert k;(first|apply BX h|apply B5 h|apply BY h|apply BZ h|apply B_ h);intro k)|apply BX h|apply B5 h|apply BY h|apply BZ h|apply B_ h);refine xA (QJ Ia) ?_;intro hp ha;intro A2 E kk;refine S1 (Bk.kinds.comp hs (A1:=s.heap.objs.size) rfl λc m z=>by refine H6 (Bk.D2 c m) ?_;intro _ o e;rw[z,GD]at e;exact(BE e).elim) ?_;intro _ hk MZ D3 M_ _;rw[bq8];have OI:Uq (g::gens)=A6:=by obtain⟨_,_,_,k⟩:=g;show(k !=0)=A6;simp only at ha;rw[ha];rfl
 have OJ:Ur (g::gens) F.env=eval g.iter F.env:=by obtain⟨_,_,_,_⟩:=g;rfl
 rw[OI,OJ];refine fq (use:=L) (g:=g) (gs:=gens) rfl (λx=>QG hp x) (WG D3) hk M_ ?_;refine A9.e AP Bk _ _ λu AZ AJ AN Ab Aq=>?_;refine af (RR:=λAm A1=>sx (AQ B.prog B.w) A E L A2 Am A1) SL Ia AN hs Aq BD C3 λA1 D AT s' g' hL hD x' a'=>?_;refine AC (id g'.env) ?_;intro m ns _;refine⟨m,ns,λQ De=>?_⟩;refine Hl a' ?_;(try clear a');intro fD us FZ vr;have Hv:∀o,s'.heap.get? A1=G o->C2 o=A6:=λo e=>by
  refine Gn ns ?_;(try clear ns);intro o' N ep e' d _;have e':s'.heap.get? A1=G o':=e';rw[e']at e;injection e with e;subst e;unfold C2;rw[d];simp
 have KD:D≠A1:=λz=>fD.w (by rw[z];exact CI.mpr rfl);have im:=Gr De.extBut Hv;refine xA (AN.leave (F':=Hw F sc A1) rfl g' hL hD x' fD De Hv (o:=.list l) ⟨us,FZ.extBut De.extBut KD,vr.mono im⟩) ?_;intro gg xx;refine kk _ _ _ gg (Ab.trans xx) ⟨D,?_,rfl⟩;have :=g'.len;rw[<-this];simp
end
section
theorem yO{A1:A8}(g':Gd B F' K' A' A7 AT s')(hW:F'.A_=[A1])(AN:Gd B F K A H AZ AJ)(hL:AJ.heap.get? A1=L)(Di:A1∉Au)(hl:∃o,h.get? A1=G o):CM B F Au h A1 where
 C:=Di;w:=λm=>by refine II (AN.D5 A1 m) ?_;intro _ _ o e;rw[hL]at e;exact(BE e).elim
 cells:=λc m z=>by refine H6 (AN.D2 c m) ?_;intro _ o e;rw[z,hL]at e;exact(BE e).elim
 base:=(g'.D5 A1 (by rw[hW];simp)).1;outs:=λm=>by refine Hl (AN.DP.mem m) ?_;intro _ o e _;rw[hL]at e;exact(BE e).elim
 live:=hl
theorem yP(WJ:C5 B A3 m)(SL:OD B A3 m)(A9:C5 B A3 n){KI:BA}(ag:Y3 (.ListComp C_ (g::gens) sc KI) (G (.Name id p)) pos.line F.env=pure M)(h:((Fo A3 K (ev A3 m) (.ListComp C_ (g::gens) sc KI) H).V λv H=>ev A3 n K (.GQ [.Name id p] v) H)=.ok (.f f) A7)(Bk:Gd B F K A H C s):CJ B F K A A7 C s (exec (.Assign [.Name id p] (.ListComp C_ (g::gens) sc KI) pos) F.env) (FR .next):=by
 refine A0.Cg h ?_;clear h;intro v GW h FH;refine A0.Be h ?_;clear h;intro Ia h;refine A0.Cg h ?_;clear h;intro w AB AP h;refine A0.Be h ?_;clear h;intro hs h;refine A0.Bx h ?_;clear h;intro it BD h;refine A0.L5 h ?_;clear h;intro l Bc C3 h;refine xA (FG h) ?_;intro q Aw;subst Aw;injection q with q;subst q;refine xA (QJ Ia) ?_;intro hp ha;intro A2 E kk;rw[exec_Assign_Name_used _ _ _ _ ag];refine A5 (Ek (A5 ?_));show AH _ A (do let _<-bq9 (.ListComp C_ (g::gens) sc KI) sc F.env _ (sv []) (Uq (g::gens)) (Ur (g::gens) F.env) (G (Ew (.Name id p) F.env))) _ _ s;have OI:Uq (g::gens)=A6:=by obtain⟨_,_,_,k⟩:=g;show(k !=0)=A6;simp only at ha;rw[ha];rfl
 have OJ:Ur (g::gens) F.env=eval g.iter F.env:=by obtain⟨_,_,_,_⟩:=g;rfl
 rw[OI,OJ];refine A5 (Ff (Q:=λ_ s'=>A2 .next s') ?_ (λ_ s' hq=>AW (AW hq)) λ_ _ e=>e);refine S1 (Bk.kinds.comp hs (A1:=s.heap.objs.size) rfl λc m z=>by refine H6 (Bk.D2 c m) ?_;intro _ o e;rw[z,GD]at e;exact(BE e).elim) ?_;intro _ hk MZ D3 M_ _;refine fq (use:=G (Ew (.Name id p) F.env)) (Q:=λ_ s'=>A2 .next s') (g:=g) (gs:=gens) rfl (λx=>QG hp x) (WG D3) hk M_ ?_;refine WJ.e AP Bk _ _ λu AZ AJ AN Ab Aq=>?_
 . refine af (RR:=λAm A1=>sx (AQ B.prog B.w) A E (G (Ew (.Name id p) F.env)) (λ_ s'=>A2 .next s') Am A1) SL Ia AN hs Aq BD C3 λA1 D AT s' g' hL hD x' a'=>?_;refine AC ((λx=>x) g'.env) ?_;intro mm ns _;refine Hl a' ?_;(try clear a');intro fD us FZ vr;have Hv:∀o,s'.heap.get? A1=G o->C2 o=A6:=λo e=>by
    refine Gn ns ?_;(try clear ns);intro o' N ep e' d _;have e':s'.heap.get? A1=G o':=e';rw[e']at e;injection e with e;subst e;unfold C2;rw[d];simp
   have KD:D≠A1:=λz=>fD.w (by rw[z];exact CI.mpr rfl);have sb:E3 A1 s'.heap s'.heap:=fs ..;refine xA (AN.leave (F':=Hw F sc A1) rfl g' hL hD x' fD sb Hv (o:=.list l) ⟨us,FZ,vr.mono (λ_ _ e _=>e)⟩) ?_;intro gg xx;have rD:VR s'.heap (AT++[D]) (.ref Bc.n) (.ref D):=⟨D,by rw[<-g'.len];simp,rfl⟩;refine G5 (g'.D5 A1 (by show A1∈[A1];simp)) ?_;intro QL OE _;have km:A1∉AT++[D]:=λz=>by
    rcases Dp.mp z with z|z;. exact OE z
    . exact KD (CI.mp z).symm
   show AH _ A (Ew (.Name id p) F.env (.ref D)) _ E s';refine A9.GQ FH gg rD _ _ λ_ Au Ai AU Al _=>?_;have yR:A1∉F.A_:=λm=>by refine II (AN.D5 A1 m) ?_;intro _ _ o e;rw[hL]at e;exact(BE e).elim
   have TG:Ai.heap.Ns A1 mm:=Ns.slots ns λo e=>Al.data A1 o e km yR;refine⟨mm,TG,λQ De=>?_⟩;have yY:∀o,Ai.heap.get? A1=G o->C2 o=A6:=λo e=>by
    refine Gn TG ?_;(try clear TG);intro o' N ep e' d _;rw[e']at e;injection e with e;subst e;unfold C2;rw[d];simp
   have Ma:A1∉Au:=by
    refine Gn ns ?_;(try clear ns);intro o' N ep e' d _;exact Al.out e' km
   have fL:CM B F Au Ai.heap A1:=yO g' rfl AN hL Ma (by refine Gn TG ?_;(try clear TG);intro o' N ep e' d _;exact⟨_,e'⟩);refine kk _ Au _ (AU.move (tk:=Ai.toks) fL De.extBut yY) ?_ rfl;exact((Ab.trans xx).FY.trans Al).F0 De.extBut (HA Ab.live hL)
theorem yZ{l:O}:∃b,Y3 e (G (.Name id p)) l env=pure b:=by
 unfold Y3;split<;>exact⟨_,rfl⟩
theorem y_(WJ:C5 B A3 m)(SL:OD B A3 m)(A9:C5 B A3 n){KI:BA}(h:((Fo A3 K (ev A3 m) (.ListComp C_ (g::gens) sc KI) H).V λv H=>ev A3 n K (.GQ [.Name id p] v) H)=.ok (.f f) A7)(Bk:Gd B F K A H C s):CJ B F K A A7 C s (exec (.Assign [.Name id p] (.ListComp C_ (g::gens) sc KI) pos) F.env) (FR .next):=by
 refine xE (yZ (e:=.ListComp C_ (g::gens) sc KI) (id:=id) (p:=p) (l:=pos.line) (env:=F.env)) ?_;intro b hb;cases b with
 |true=>exact yP WJ SL A9 hb h Bk|false=>
 refine A0.Cg h ?_;clear h;intro v AB AP h;intro A2 E k;exact fa (((kl WJ SL AP Bk).T3) _ _ λu AZ AJ AN Ab Aq=>A9.GQ h AN Aq _ _ λ_ Au Ai AU Al _=>k _ Au Ai AU (Ab.trans Al) rfl) hb rfl
end
section
theorem Ee{l:I J}(h:CH l=M):l.length<=100000:=Dj h
theorem ya(g:Gd B F K A H C s)(r:VR s.heap C v u)(h:Mine.truthy v H.h=G b):Ae B F K A H C s (sd u) (RB b):=by
 intro A2 E k;cases v with
 |none=>cases r;injection h with h;subst h;exact bN8 (k _ C s g (Nx.refl ..) rfl)|bool c=>cases r;injection h with h;subst h;exact NS (k _ C s g (Nx.refl ..) rfl)|int i=>
  refine xE r ?_;(try clear r);intro t Aw;subst Aw;injection h with h;subst h;refine PySem.P.truthy_int (k _ C s g (Nx.refl ..) ?_);show(i !=0)=decide (i≠0);by_cases q:i=0<;>simp[q]|str x=>
  refine xE r ?_;(try clear r);intro t B6;subst B6;refine Ce h AF λhf h=>?_
  . have :=Ee hf;injection h with h;subst h;have hl:(⟨⟨x⟩⟩:U).length=x.length:=rfl;refine PySem.P.truthy_str (by rw[hl];omega) (k _ C _ (g.tok _) (Nx.refl ..) ?_);show((x.length:AX)!=0)=!x.isEmpty;cases x<;>simp;omega|ref i=>
  refine AC r ?_;(try clear r);intro a ha BJ;subst BJ;refine BI h λob hx h=>?_;revert hx;apply IP h AF
  . intro Y h hx;refine Ce h AF λhf h=>?_
    . have :=Ee hf;injection h with h;subst h;refine AC (g.obj hx ha) ?_;intro us hp v;have hl:Y.length=us.size:=by rw[v.length];simp
      refine wpAny_truthy_list hp.isList (by omega) ?_;refine k _ C _ (g.tok _) (Nx.refl ..) ?_;show(!us.isEmpty)=!Y.isEmpty;unfold Array.isEmpty;cases Y<;>simp at hl<;>simp[<-hl]|_=>exact(BE h).elim
theorem ko(x y:Tx):(⟨⟨x⟩⟩:U)++⟨⟨y⟩⟩=⟨⟨x++y⟩⟩:=by
 show br0 _ _=_;simp[br0]
theorem yb{r:V}(g:Gd B F K A H C s)(hv:VR s.heap C v u)(Bh:VR s.heap C v' u')(h:Zh op v v'=G r):Ae B F K A H C s (inplaceOp op u u') (RV r):=by
 revert hv Bh;refine Fh h (λe h=>?_) λh=>Fh h (λe h=>?_) λh=>(AF h).elim
 . subst e;refine GO h (λh=>?_) λh=>?_
   . apply Cv h AF;intro a h;apply Cv h AF;intro b h hv Bh A2 E;apply Br h;intro k;refine xE hv ?_;(try clear hv);intro t BP;subst BP;refine xE Bh ?_;(try clear Bh);intro t' Bp;subst Bp;exact br1 (k _ C _ (g.tok _) (Nx.refl ..) ⟨_,rfl⟩)
   . apply Dc h AF;intro x h;apply Dc h AF;intro y h hv Bh A2 E;refine Ce h AF λhf h=>?_;apply Br h;intro k;refine xE hv ?_;(try clear hv);intro t Bg;subst Bg;refine xE Bh ?_;(try clear Bh);intro t' Bu;subst Bu;have :=Ee hf;refine PySem.P.iadd_str ?_;skip;cases x with
 |nil=>exact k _ C _ g (Nx.refl ..) ⟨_,rfl⟩|cons a x=>cases y with
 |nil=>exact k _ C _ g (Nx.refl ..) ⟨t,by simp⟩|cons b y=>
     show(sy _).post A2 s;rw[ko];exact⟨B4 (show _<=100000 from this) (by decide),k _ C _ (g.tok _) (Nx.refl ..) ⟨_,rfl⟩⟩
 . subst e;apply Cv h AF;intro a h;apply Cv h AF;intro b h hv Bh A2 E;apply Br h;intro k;refine xE hv ?_;(try clear hv);intro t C9;subst C9;refine xE Bh ?_;(try clear Bh);intro t' Cn;subst Cn;exact bN9 (k _ C _ (g.tok _) (Nx.refl ..) ⟨_,rfl⟩)
end
section
theorem kq{a b:AX}(g:Gd B F K A H C s)(hb:b>0):Ae B F K A H C s (Ex .Mod (.int a t) (.int b t')) (RV (.int (sW a b))):=by
 intro A2 E k;have h0:¬(b==0)=M:=by simp only[Rc];(with_reducible exact br2 (by assumption))
 exact bO0 h0 (k (.int (sW a b) s.toks) C _ (g.tok _) (Nx.refl ..) ⟨_,rfl⟩)
theorem yc{a b:AX}(g:Gd B F K A H C s):Ae B F K A H C s (Ex .Add (.int a t) (.int b t')) (RV (.int (a+b))):=λA2 E k=>bO1 (k (.int (a+b) s.toks) C _ (g.tok _) (Nx.refl ..) ⟨_,rfl⟩)
theorem yd{a b:AX}(g:Gd B F K A H C s):Ae B F K A H C s (Ex .Sub (.int a t) (.int b t')) (RV (.int (a-b))):=λA2 E k=>bO2 (k (.int (a-b) s.toks) C _ (g.tok _) (Nx.refl ..) ⟨_,rfl⟩)
theorem kr{a b:AX}(g:Gd B F K A H C s)(hb:0<b/\b<=1000000000):Ae B F K A H C s (Ex .FloorDiv (.int a t) (.int b t')) (RV (.int (sV a b))):=by
 intro A2 E k;have h0:¬(b==0)=M:=by simp only[Rc];omega
 have h1:¬(br3 a b)=M:=by
  unfold br3;have hn:b.natAbs<=1000000000:=by(with_reducible exact Mine.w2 (by assumption))
  have hl:b.natAbs.log2<30:=(br4 (by omega)).mpr (by(with_reducible exact H' (by assumption) (by decide)));have e:(b==0)=A6:=by simpa using h0
  simp only[e,Ki,Kj,D6,PR];intro h;have :=h.1;(with_reducible exact Mine.vD (by assumption) (by assumption))
 exact bO3 h0 h1 (k (.int (sV a b) s.toks) C _ (g.tok _) (Nx.refl ..) ⟨_,rfl⟩)
end
section
theorem ye{a:AK}(g:Gd B F K A H C s):Ae B F K A H C s (Ex .Add (.bool a) (.bool b)) (RV (.int (b2i a+b2i b))):=λA2 E k=>bO4 (k (.int (b2i a+b2i b) s.toks) C _ (g.tok _) (Nx.refl ..) ⟨_,rfl⟩)
theorem yf{a:AK}{b:AX}(g:Gd B F K A H C s):Ae B F K A H C s (Ex .Add (.bool a) (.int b t)) (RV (.int (b2i a+b))):=λA2 E k=>bO5 (k (.int (b2i a+b) s.toks) C _ (g.tok _) (Nx.refl ..) ⟨_,rfl⟩)
theorem yg{a:AX}(g:Gd B F K A H C s):Ae B F K A H C s (Ex .Add (.int a t) (.bool b)) (RV (.int (a+b2i b))):=λA2 E k=>PySem.add_int_bool (k (.int (a+b2i b) s.toks) C _ (g.tok _) (Nx.refl ..) ⟨_,rfl⟩)
theorem yh{a:AK}(g:Gd B F K A H C s):Ae B F K A H C s (Ex .Mult (.bool a) (.bool b)) (RV (.int (b2i a*b2i b))):=λA2 E k=>bO6 (k (.int (b2i a*b2i b) s.toks) C _ (g.tok _) (Nx.refl ..) ⟨_,rfl⟩)
theorem kt{x:Tx}(g:Gd B F K A H C s)(hf:CH (x++y)=M):Ae B F K A H C s (Ex .Add (.str ⟨⟨x⟩⟩ t) (.str ⟨⟨y⟩⟩ t')) (RV (.str (x++y))):=by
 intro A2 E k;have :=Ee hf;refine PySem.P.add_str ?_;have e1:(⟨⟨x⟩⟩:U).length=x.length:=rfl;have e2:(⟨⟨y⟩⟩:U).length=y.length:=rfl;skip;cases x with
 |nil=>exact k _ C _ g (Nx.refl ..) ⟨_,rfl⟩|cons a x=>cases y with
 |nil=>exact k _ C _ g (Nx.refl ..) ⟨t,by simp⟩|cons b y=>
 show(sy _).post A2 s;rw[ko];exact⟨B4 (show _<=100000 from this) (by decide),k _ C _ (g.tok _) (Nx.refl ..) ⟨_,rfl⟩⟩
theorem yi(g:Gd B F K A H C s)(hu:VR s.heap C (.ref i) u)(TH:VR s.heap C (.ref j) u')(hx:AL H.h i=G (.list Y))(hy:AL H.h j=G (.list ys))(hf:CH (Y++ys)=M):Ae B F K A (H.new (.list (Y++ys))).2 C s (Ex .Add u u') (RV (.ref H.n)):=by
 intro A2 E k;refine AC hu ?_;(try clear hu);intro a ha Aw;subst Aw;refine AC TH ?_;(try clear TH);intro b hb B6;subst B6;refine AC (g.obj hx ha) ?_;intro us BJ v;refine xE BJ ?_;(try clear BJ);intro n hl;refine AC (g.obj hy hb) ?_;intro ws BP v';refine xE BP ?_;(try clear BP);intro n' Ib;have Ed:us.size+ws.size<=F9:=by
   have :=Ee hf;have e1:=v.length;have e2:=v'.length;simp at this e1 e2;exact B4 (show _<=100000 by(with_reducible exact Mine.vY (by assumption) (by assumption) (by assumption))) (by decide)
 refine concat_meets ⟨_,hl,rfl⟩ ⟨_,Ib,rfl⟩ br5 seq_list_add br6 br7 (br8 _ _) (br9 a b us ws n n' L L #[] #[] Ed) ⟨hl,Ib,?_⟩;have kp:∀b o,s.heap.get? b=G o->(s.heap.push {cls:=.type "list",data:=.seq (us++ws)}).get? b=G o:=λb o e=>C1 _ e;have hn:s.heap.get? s.heap.objs.size=L:=by cases e:s.heap.get? s.heap.objs.size with
 |none=>rfl|some o=>exact absurd (Dg e) (Ix _)
 have hg:=CY s.heap (o:={cls:=.type "list",data:=.seq (us++ws)}) rfl;refine k _ (C++[s.heap.objs.size]) _ (g.new (tk:=s.toks) kp hn ⟨_,hg⟩ (o:=.list (Y++ys)) ⟨us++ws,⟨_,hg⟩,?_⟩) (Nx.add [_] kp λb hb=>by rw[CI.mp hb];exact hn) ⟨_,?_,rfl⟩
 . have :=(v.app v').mono (J:=[s.heap.objs.size]) (Q:=s.heap.push {cls:=.type "list",data:=.seq (us++ws)}) (λb o e _=>kp b o e);simpa using this
 . rw[<-g.len];simp
end
section
noncomputable abbrev Dn(v:A4):BK->I A8->A4->Prop:=λ_ _ r=>r=v
theorem yj{a b:AX}(g:Gd B F K A H C s):Ae B F K A H C s (D_ .Eq (.int a t) (.int b t')) (Dn (.bool (decide (a=b)))):=λ_ _ k=>PySem.P.eq_int (k _ C s g (Nx.refl ..) (by show NW (a==b)=_;by_cases q:a=b<;>simp[q]))
theorem yk{a b:AX}(g:Gd B F K A H C s):Ae B F K A H C s (D_ .NotEq (.int a t) (.int b t')) (Dn (.bool (!decide (a=b)))):=λ_ _ k=>PySem.P.ne_int (k _ C s g (Nx.refl ..) (by show NW (a !=b)=_;by_cases q:a=b<;>simp[q]))
theorem yl{a b:AX}(g:Gd B F K A H C s):Ae B F K A H C s (D_ .Lt (.int a t) (.int b t')) (Dn (.bool (decide (a<b)))):=λ_ _ k=>bs0 (k _ C s g (Nx.refl ..) rfl)
theorem ym{a b:AX}(g:Gd B F K A H C s):Ae B F K A H C s (D_ .Gt (.int a t) (.int b t')) (Dn (.bool (decide (b<a)))):=λ_ _ k=>bs1 (k _ C s g (Nx.refl ..) rfl)
theorem yn{a b:AX}(g:Gd B F K A H C s):Ae B F K A H C s (D_ .LtE (.int a t) (.int b t')) (Dn (.bool (decide (a<=b)))):=λ_ _ k=>PySem.P.le_int (k _ C s g (Nx.refl ..) rfl)
theorem yo{a b:AX}(g:Gd B F K A H C s):Ae B F K A H C s (D_ .GtE (.int a t) (.int b t')) (Dn (.bool (decide (b<=a)))):=λ_ _ k=>PySem.P.ge_int (k _ C s g (Nx.refl ..) rfl)
theorem TJ{x:Tx}:(x==y)=CU x y:=by cases h:CU x y with
 |true=>simp[Eb.mp h]|false=>simpa using k6.mp h
theorem yp{x:Tx}(g:Gd B F K A H C s):Ae B F K A H C s (D_ .Eq (.str ⟨⟨x⟩⟩ t) (.str ⟨⟨y⟩⟩ t')) (Dn (.bool (CU x y))):=λ_ _ k=>bs2 (k _ C s g (Nx.refl ..) (by show NW (x==y)=_;rw[TJ]))
theorem yq{x:Tx}(g:Gd B F K A H C s):Ae B F K A H C s (D_ .NotEq (.str ⟨⟨x⟩⟩ t) (.str ⟨⟨y⟩⟩ t')) (Dn (.bool (!CU x y))):=λ_ _ k=>PySem.P.ne_str (k _ C s g (Nx.refl ..) (by show NW (x !=y)=_;rw[<-TJ];rfl))
theorem TK:∀{x y:Tx},EY x y=M↔x<y
 |x,[]=>by cases x<;>simp[EY]|[],_::_=>by simp[EY]|a::x,b::y=>by
  unfold EY;cases h:BC a b with
 |true=>
   have :=CD h;clear h;subst this;simp[TK (x:=x) (y:=y)]|false=>
   have Cc:a≠b:=λe=>by subst e;simp at h
   simp[List.cons_lt_cons_iff,Cc,G0];try omega
theorem ah{x:Tx}:decide (x<y)=EY x y:=by cases h:EY x y with
 |true=>simpa using TK.mp h|false=>
 have :¬x<y:=λq=>by rw[TK.mpr q]at h;(exfalso;cases h)
 simpa using this
theorem yr{x:Tx}(g:Gd B F K A H C s):Ae B F K A H C s (D_ .Lt (.str ⟨⟨x⟩⟩ t) (.str ⟨⟨y⟩⟩ t')) (Dn (.bool (EY x y))):=λ_ _ k=>bs3 (k _ C s g (Nx.refl ..) (by show NW (decide (x<y))=_;rw[ah]))
end
section
variable[DecidableEq T]{By:KeyKind prog w T}
theorem ky{d:A8}{Az:I (T×A4)}{k:T}{key v:A4}{A2:Do->AR->Prop}(EL:By.is k key=M)(hm:s.heap.DictAt By d Az Az.length)(hQ:∀Q,Q.DictAt By d (FA Az k v) (FA Az k v).length->E3 d s.heap Q->A2 () {s with heap:=Q,toks:=s.toks+1})(Ed:Az.length<=F9):AH (AQ prog w) A (Rd d key v) A2 E s:=by
 refine M7 hm ?_;(try clear hm);intro o N ho hc hd hk hp hn;have Ch:N.size=Az.length:=by have :=hp.length;simpa using this
 have OK:(N.findIdx? λe=>By.is k e.key)=Az.findIdx? λkv=>decide (kv.1=k):=by rw[<-hp.findIdx k];obtain⟨l⟩:=N;simp
 unfold Rd;refine C0 (A5 (By.pyHash EL ?_));skip;refine C0 (A5 (t3 (s:={s with toks:=s.toks+1}) EL ho hd hk ?_));cases hi:N.findIdx? λe=>By.is k e.key with
 |some i=>
  have HC:=bs4 (OK▸hi);have e1:FA Az k v=Az.map λkv=>if kv.1=k then(kv.1,v)else kv:=by rw[FA,DF HC]
  have hl:(N.toList.findIdx? λe=>By.is k e.key)=G i:=by rw[<-hi];obtain⟨l⟩:=N;simp
  have FI:=hp.modify hn hl v;refine A5 (Gi (A5 (bs5 (s:={s with toks:=s.toks+1}) ho hd (wpAny_point (hQ _ ?_ (Fg ..))))));refine⟨_,_,FQ _ ho (Y6 (fw hd _)),hc.mapDict _,?_,hk.modify i v,?_,?_⟩;. rw[e1,Jl];exact fw hd _
  . rw[e1];obtain⟨l⟩:=N;simpa using FI
  . rw[e1,bs6];exact hn|none=>
  have TL:k∉Az.map (·.1):=bs7 (OK▸hi);have TM:¬(Az.any λkv=>decide (kv.1=k))=M:=λh=>by
    refine AC (ID.mp h) ?_;intro kv OL he;exact TL (E'.mpr ⟨kv,OL,of_decide_eq_true he⟩)
  have e1:FA Az k v=Az++[(k,v)]:=by rw[FA,CS TM]
  refine A5 (Gi (t4 (hz:=by(with_reducible exact Mine.yT (by assumption) (by assumption))) (s:={s with toks:=s.toks+1}) ho hd (hQ _ ?_ (Fg ..))));refine⟨_,_,FQ _ ho (Y6 (Us hd _)),hc.mapDictKeys _,?_,hk.push EL v,?_,?_⟩;. rw[e1,FC];exact Us hd _
  . have :=hp.append EL (By.hash k) v;rw[e1];obtain⟨l⟩:=N;simpa using this
  . rw[e1,NX,I9];refine⟨hn,by simp,λa ha b hb e=>?_⟩;simp only[J',t5,CI]at hb;exact TL (hb▸e▸ha)
end
theorem yt{a b:U}:a.cps.toList=b.cps.toList↔a=b:=⟨λe=>by cases a;cases b;simp only[bo3];exact sZ.mp e,λe=>by rw[e]⟩
theorem WK(a b:U):G7 (GU a) (GU b)=G (decide (a=b)):=by
 show G (CU _ _)=_;cases h:CU a.cps.toList b.cps.toList with
 |true=>simp[yt.mp (Eb.mp h)]|false=>
 have :a≠b:=λe=>k6.mp h (by rw[e]);simp[this]
theorem ak(a b:AX):G7 (Sw a) (Sw b)=G (decide (a=b)):=rfl
section
variable[DecidableEq T]{key:T->V}
theorem DR.look(hk:∀a b,G7 (key a) (key b)=G (decide (a=b))){k:T}{l:I (T×A4)}(d:DR key h C N l):(D0 N (key k)=L/\Lp l k=L)\/∃v u,D0 N (key k)=G v/\Lp l k=G u/\VR h C v u:=DR.ind (P:=λN l=>(D0 N (key k)=L/\Lp l k=L)\/∃v u,D0 N (key k)=G v/\Lp l k=G u/\VR h C v u) (.inl ⟨rfl,rfl⟩) (λk' v u N r hv _ ih=>by
 unfold D0;rw[hk];by_cases z:k'=k
 . rw[Rf z];exact .inr ⟨_,u,rfl,by simp[Lp,bs8,z],hv⟩
 . rw[Rg z];have e2:Lp ((k',u)::r) k=Lp r k:=by simp[Lp,bs8,z]
   rw[e2];exact ih) d
theorem DR.put(hk:∀a b,G7 (key a) (key b)=G (decide (a=b))){k:T}(hv:VR h C v u):∀{N:I (V×V)}{l:I (T×A4)},DR key h C N l->(l.map (·.1)).Nodup->DR key h C (Em N (key k) v) (FA l k u):=λ{N l}d=>DR.ind (P:=λN l=>(l.map (·.1)).Nodup->DR key h C (Em N (key k) v) (FA l k u)) (λ_=>DR.cons (N:=[]) hv rfl) (λk' v' u' N r Bh hr ih hn=>by
 have O6:k'∉r.map (·.1)/\(r.map (·.1)).Nodup:=ET.mp hn;unfold Em;rw[hk];by_cases z:k'=k
 . subst z;rw[Rf rfl];have e2:FA ((k',u')::r) k' u=(k',u)::r:=by
    rw[FA,DF (by simp)];simp only[J',Kk];rw[map_store_of_not_mem r k' u O6.1]
   rw[e2];exact DR.cons hv hr
 . rw[Rg z];have e2:FA ((k',u')::r) k u=(k',u')::FA r k u:=by
    unfold FA;simp only[sQ,Rg z,bs9];split;. simp[z]
    . rfl
   rw[e2];exact DR.cons Bh (ih O6.2)) d
end
section
variable[DecidableEq T]{By:KeyKind prog w T}
theorem yu{d:A8}{Az:I (T×A4)}{k:T}{key v:A4}{A2:Do->AR->Prop}(EL:By.is k key=M)(hm:s.heap.DictAt By d Az Az.length)(hQ:∀Q,Q.DictAt By d (FA Az k v) (FA Az k v).length->E3 d s.heap Q->A2 () {s with heap:=Q,toks:=s.toks+1})(Ed:Az.length<=F9):AH (AQ prog w) A (Rh (.ref d) key v) A2 E s:=by
 have hT:=hm.dictOf.typeIs;skip;refine C0 (A5 (t6 hT (by decide) ?_));refine A5 (Lq (name:=Eu "__setitem__") hT bt0 (Gj bt0 hT entry_dict_setitem ?_ (args_dict_setitem _ _ _)));show AH _ _ (bO7 "__setitem__" ⟨[.ref d,key,v],[]⟩>>=_) _ _ s;refine A5 (bt1 hT ?_);show AH _ _ (Rd d key v>>=_) _ _ s;exact A5 (ky EL hm (λQ HD De=>AW ⟨.none,rfl,AW (hQ Q HD De)⟩) Ed)
end
section
theorem kz{x:Tx}:(strKind prog w).is ⟨⟨x⟩⟩ (.str ⟨⟨x⟩⟩ t)=M:=strKind_is ..
theorem al{CL:Type}[DecidableEq T][DecidableEq CL]{By:KeyKind B.prog B.w T}{yv:KeyKind B.prog B.w CL}(m:h.DictAt By a [] 0):h.DictAt yv a [] 0:=by
 refine M7 m ?_;intro o BN e1 e2 e3 _ e5 _;have e:BN=#[]:=bt2 e5.length;exact⟨o,#[],e1,e2,e▸e3,λ_ hm=>(nomatch(Array.not_mem_empty _ hm)),.nil,HK⟩
theorem WL(hk:Dd N k=M)(r:Dm B.prog B.w h C a N)(rk:VR h C k ku){P:Prop}(c:∀{T:Type}[DecidableEq T](By:KeyKind B.prog B.w T)(key:T->V)(x:T)(Az:I (T×A4)),(∀a b,G7 (key a) (key b)=G (decide (a=b)))->(∀{Q:BK}{AT:I A8}{a':A8}{BN:I (V×V)}(am:I (T×A4)),Q.DictAt By a' am am.length->DR key Q AT BN am->Dm B.prog B.w Q AT a' BN)->k=key x->By.is x ku=M->h.DictAt By a Az Az.length->DR key h C N Az->P):P:=by
 revert c rk;refine Ju hk (λhk=>?_) λhk=>?_
 . apply Dc hk B0;intro x hk rk c;refine xE rk ?_;intro t q;rw[q]at c;have c:=c (strKind B.prog B.w) GU ⟨⟨x⟩⟩;refine r.elim (λr=>AC r λAz hm hd=>c Az WK (λ_ m d=>.inl ⟨_,m,d⟩) rfl kz hm hd) λr=>AC r λAz hm hd=>?_;cases N with
 |nil=>rw[show Az=[]from hd]at hm;exact c [] WK (λ_ m d=>.inl ⟨_,m,d⟩) rfl kz (al hm) rfl|cons e N=>exact Gn hd λk' u r _ e1 _=>by have hk:vStr e.1 A6 (λ_=>M)=M:=hk;rw[e1]at hk;exact(B0 hk).elim
 . apply Cv hk B0;intro x hk rk c;refine xE rk ?_;intro t q;rw[q]at c;have c:=c (intKind B.prog B.w) Sw x;refine r.elim (λr=>AC r λAz hm hd=>?_) λr=>AC r λAz hm hd=>c Az ak (λ_ m d=>.inr ⟨_,m,d⟩) rfl (intKind_is ..) hm hd;cases N with
 |nil=>rw[show Az=[]from hd]at hm;exact c [] ak (λ_ m d=>.inr ⟨_,m,d⟩) rfl (intKind_is ..) (al hm) rfl|cons e N=>exact Gn hd λk' u r _ e1 _=>by have hk:vInt e.1 A6 (λ_=>M)=M:=hk;rw[e1]at hk;exact(B0 hk).elim
end
section
theorem DictAt.live[DecidableEq T]{By:KeyKind prog w T}{Az:I (T×A4)}(x:h.DictAt By a Az ep):∃o,h.get? a=G o:=let⟨o,_,e,_⟩:=x;⟨o,e⟩
theorem yw(g:Gd B F K A H C s)(hd:AL H.h i=G (.dict N))(ru:VR s.heap C (.ref i) u)(rk:VR s.heap C k ku)(rv:VR s.heap C v vu)(hk:Dd N k=M)(hf:CH N=M):Ae B F K A (H.set i (.dict (Em N k v))) C s (Rh u ku vu) RU:=by
 intro A2 E kk;refine AC ru ?_;(try clear ru);intro a ha Aw;subst Aw;have r:=g.obj hd ha;have hl:=Ee hf;refine WL hk r rk λBy key x Az ke back q hx hm dr=>?_;rw[q]at kk;refine yu hx hm (λQ HD hs=>?_) (B4 (dr.length▸hl) (show 100000<=F9 by decide));refine xA (g.set (Q:=Q) (tk:=s.toks+1) (o':=.dict (Em N (key x) v)) ha hd (λ_ _ e=>by(exfalso;cases e)) hs.extBut (DictAt.live HD) λim=>back _ HD (Sz (p:=λJ=>DR key Q J _ _) ((dr.put ke (k:=x) rv (Ut hm)).mono (J:=[]) im))) ?_;intro g' x';exact kk () C _ g' x' trivial
end
section
theorem Gd.QO(g:Gd B F K A H C s)(ha:a∈C):(a==NP)=A6:=by
 refine xE g.mods ?_;intro o e;exact Ll.mpr λz=>by have :=g.fresh a ha;rw[z,e]at this;(exfalso;cases this)
theorem WM(g:Gd B F K A H C s)(hd:AL H.h i=G (.dict N))(ru:VR s.heap C (.ref i) u)(rk:VR s.heap C k ku)(hk:Dd N k=M){P:A4->Prop}(c:∀{T:Type}[DecidableEq T](By:KeyKind B.prog B.w T)(x:T)(f:T->AD A4)(a:A8),a∈C->By.is x ku=M->s.heap.MapOf By a f->(D0 N k=L/\f x=L\/∃v w,D0 N k=G v/\f x=G w/\VR s.heap C v w)->P (.ref a)):P u:=by
 refine AC ru ?_;intro a ha Aw;rw[Aw];refine AC (g.objs i _ hd) ?_;intro a' Fp r;rw[Bl (Fp.symm.trans ha)]at r;exact WL hk r rk λBy key x Az ke _ q hx hm dr=>c By x _ a (Ev ha) hx hm.dictOf.mapOf (q▸dr.look ke)
theorem WN(g:Gd B F K A H C s)(hd:AL H.h i=G (.dict N))(ru:VR s.heap C (.ref i) u):s.TypeIs u "dict":=AC ru λa ha q=>q▸AC (g.objs i _ hd) λa' Fp r=>Bl (Fp.symm.trans ha)▸r.elim (λr=>AC r λ_ m _=>m.dictOf.mapOf.typeIs) λr=>AC r λ_ m _=>m.dictOf.mapOf.typeIs
theorem l3(g:Gd B F K A H C s)(hd:AL H.h i=G (.dict N))(ru:VR s.heap C (.ref i) u)(rk:VR s.heap C k ku)(hk:Dd N k=M)(hv:D0 N k=G v):Ae B F K A H C s (PX u ku) (RV v):=WM (P:=λu=>Ae B F K A H C s (PX u ku) (RV v)) g hd ru rk hk λBy x f a _ hx hm o A2 E kk=>o.elim (λh=>(AF (h.1.symm.trans hv)).elim) λo=>Bv o λv' w h hf r=>wpAny_getItem_of hx hm hf (kk w C _ (g.tok _) (Nx.refl ..) (Bl (h.symm.trans hv)▸r))
theorem l4{v:AD V}{f:AD A4}(o:v=L/\f=L\/∃v' w,v=G v'/\f=G w/\VR h C v' w):f.isSome=v.isSome:=o.elim (λo=>by rw[o.1,o.2];rfl) λo=>Bv o λ_ _ a b _=>by rw[a,b];rfl
theorem l5(g:Gd B F K A H C s)(hd:AL H.h i=G (.dict N))(ru:VR s.heap C (.ref i) u)(rk:VR s.heap C k ku)(hk:Dd N k=M):Ae B F K A H C s (D_ .In ku u) (Dn (.bool (D0 N k).isSome)):=WM (P:=λu=>Ae B F K A H C s (D_ .In ku u) (Dn (.bool (D0 N k).isSome))) g hd ru rk hk λBy x f a ha hx hm o A2 E kk=>wpAny_in_of hx (g.QO ha) hm (kk _ C _ (g.tok _) (Nx.refl ..) (congrArg NW (l4 o)))
theorem l6(g:Gd B F K A H C s)(hd:AL H.h i=G (.dict N))(ru:VR s.heap C (.ref i) u)(rk:VR s.heap C k ku)(hk:Dd N k=M):Ae B F K A H C s (D_ .NotIn ku u) (Dn (.bool (!(D0 N k).isSome))):=WM (P:=λu=>Ae B F K A H C s (D_ .NotIn ku u) (Dn (.bool (!(D0 N k).isSome)))) g hd ru rk hk λBy x f a ha hx hm o A2 E kk=>wpAny_notIn_of hx (g.QO ha) hm (kk _ C _ (g.tok _) (Nx.refl ..) (congrArg (λb=>NW (!b)) (l4 o)))
end
theorem Dm.C2(r:Dm prog w h C a N):∀x,h.get? a=G x->C2 x=A6:=Ca.C2 (o:=.dict N) r (λ_ _ e=>by(exfalso;cases e))
theorem Dm.live(r:Dm prog w h C a N):∃o,h.get? a=G o:=r.elim (λr=>AC r λ_ m _=>DictAt.live m) λr=>AC r λ_ m _=>DictAt.live m
section
theorem l7{Am:I (V×V)}(hk:Dd Am k=M)(r:Dm B.prog B.w s.heap C D Am)(rk:VR s.heap C k ku)(rv:VR s.heap C v vu)(hf:CH Am=M){A2:Do->AR->Prop}(kk:∀Q,E3 D s.heap Q->Dm B.prog B.w Q C D (Em Am k v)->A2 () {s with heap:=Q,toks:=s.toks+1}):AH (AQ B.prog B.w) A (Rd D ku vu) A2 E s:=by
 have hl:=Ee hf;have hc:=r.C2;exact WL hk r rk λBy key x Az ke back q hx hm dr=>ky hx hm (λQ HD hs=>kk Q hs (q▸back _ HD (Sz (p:=λJ=>DR key Q J _ _) ((dr.put ke (k:=x) rv (Ut hm)).mono (J:=[]) (Gr hs.extBut hc))))) (B4 (dr.length▸hl) (show 100000<=F9 by decide))
theorem compTurn_dict{k v:AA}{it:A4}{d:A8}(ha:g.is_async=0):Uo (.DictComp k v [g] sc pos) 0 it (.ref d) env=(do
 Ke g.iter.pos match<-ER it with
 |none=>pure (.done .next)|some x=>
 Y0 g.target it x
 Ew g.target env x let ok<-forIn g.ifs M λc r=>if r=M then do let ok<-bq0 c env (eval c env);pure (G2 ok)else pure (G2 r)if ok=M then do
 (do
 let kv<-eval k env let vv<-Hd [kv] (eval v env)Ke {k.pos with endLine:=v.pos.endLine,endCol:=v.pos.endCol}Hd [kv,vv] (Rd d kv vv))Kh (.compLoop (.DictComp k v [g] sc pos) 0 it (.ref d) env)else Kh (.compLoop (.DictComp k v [g] sc pos) 0 it (.ref d) env)):=by
 unfold Uo;have e1:([g]:I FP)[0+1]?=L:=rfl;simp only[bt3,ha,Y5,Ki,Kj,e1];rfl
structure ao(B:Bs)(A3:Mine.Ctx)(n:O):Prop where aq:∀{K:Kx}{k v:AA}{g:FP}{it:It}{i d:O}{H A7:Mine.St}{f:Fl},ev A3 n K (.Sa k v g it i d) H=.ok (.f f) A7->∀{sc:BU}{pos:BA},g.is_async=0->∀{F:Fm}{A:CK}{C BG:I A8}{s:AR}{Af:BK}{AE D:A8}{AS:Dr->AR->Prop},Gd B F K A H C s->C[d]?=G D->Nx F.D F.A_ Af s.heap BG C->Af.get? AE=L->CM B F C s.heap AE->E5 s.heap C it i AE->(∀AT s',Gd B F K A A7 AT s'->Nx F.D F.A_ Af s'.heap BG AT->AT[d]?=G D->AS (.ok .next) s')->D7 (AQ B.prog B.w) A (.compLoop (.DictComp k v [g] sc pos) 0 (.ref AE) (.ref D) F.env) AS s
theorem yx(A9:C5 B A3 n)(SD:ao B A3 n){k v:AA}(h:step A3 K (ev A3 n) (.Sa k v g it i d) H=.ok (.f f) A7)(ha:g.is_async=0){AS:Dr->AR->Prop}(Bk:Gd B F K A H C s)(hD:C[d]?=G D)(Cr:Nx F.D F.A_ Af s.heap BG C)(hI:Af.get? AE=L)(fr:CM B F C s.heap AE)(r:E5 s.heap C it i AE)(kk:∀AT s',Gd B F K A A7 AT s'->Nx F.D F.A_ Af s'.heap BG AT->AT[d]?=G D->AS (.ok .next) s'):D7 (AQ B.prog B.w) A (.compLoop (.DictComp k v [g] sc pos) 0 (.ref AE) (.ref D) F.env) AS s:=by
 refine A0.Bx h ?_;clear h;intro o AP h;refine fV rfl (λ_ s'=>s'=s) (λn s' e=>?_) 0 rfl;subst e;show AH _ A ((Uo (.DictComp k v [g] sc pos) 0 (.ref AE) (.ref D) F.env).onRaise (λx=>do IA x F.env;fW x)) _ _ _;refine fX ?_;rw[compTurn_dict ha];have pre:∀{AM A_:I A8}{h Q:BK}{AZ Au:I A8},Nx AM A_ h Q AZ Au->AZ[d]?=G D->Au[d]?=G D:=λx e=>by refine AC x.pre ?_;intro J q _;rw[q];exact FX e
 refine A5 (Ek (A5 (K7 Bk fr r AP (λx hx u Q tk AN DQ En Aq Ht=>?_) λhx Q tk AN DQ=>?_)))
 . clear AP;subst hx;refine A0.Hs h ?_;clear h;intro _ Bc BD h;refine A0.O9 h ?_;clear h;intro b GW C3 h;have L6:=Cr.F0 DQ hI;refine A5 (QI Aq (A5 (A9.asg BD AN Ht _ _ λ_ Au Ai AU Al _=>?_)));refine A5 (kY A9 C3 AU _ _ λMU BS Ax Ao B8 BQ=>?_);clear C3;subst BQ;have xx:=Al.trans B8.FY;have Eo:=L6.trans xx;have ED:=En.nx xx;have Gs:=Aq.nx xx En.C En.w;have l8:=pre xx hD;cases MU with
 |false=>exact AW (.inr ⟨rfl,SD.aq h ha Ao l8 Eo hI ED Gs kk⟩)|true=>
   refine A0.Cg h ?_;clear h;intro kv kf FH h;refine A0.Cg h ?_;clear h;intro vv bK6 MX h;refine A0.OA h ?_;clear h;intro Am hd h;refine A0.Be h ?_;clear h;intro TN h;simp only[D6]at TN;refine xA TN ?_;(try clear TN);intro TN hf;refine A5 (A5 (A9.e FH Ao _ _ λku IZ EE CA D' JM=>A5 (C0 (A9.e MX CA _ _ λvu QP Ef Co EK Ic=>A5 (Ek (C0 ?_))))));have WO:=D'.trans EK;have WD:=ED.nx WO;have WE:=Gs.nx WO ED.C (by simp);have ar:=pre WO l8;have dr:=Co.obj hd ar;refine l7 TN dr (JM.nx EK) Ic hf λQ De l9=>?_;refine xA (Co.set (Q:=Q) (tk:=Ef.toks+1) (o':=.dict (Em Am kv vv)) ar hd (λ_ _ e=>by(exfalso;cases e)) De.extBut l9.live λim=>l9) ?_;intro GZ GF;exact AW (.inr ⟨rfl,SD.aq h ha GZ ar (Eo.trans (WO.trans GF).FY) hI (WD.nx GF) (WE.nx GF WD.C (by simp)) kk⟩)
 . clear AP;subst hx;refine xA (FG h) ?_;intro q Aw;clear h;subst Aw;exact AW (kk C _ AN (Cr.F0 DQ hI) hD)
theorem yy{k v:AA}{Am:A4}{AS:Dr->AR->Prop}(ha:g.is_async=0)(r:E5 s.heap C it i AE)(h:D7 (AQ B.prog B.w) A (.compLoop (.DictComp k v [g] sc pos) 0 (.ref AE) Am env) AS s):D7 (AQ B.prog B.w) A (.compStart (.DictComp k v [g] sc pos) 0 (.ref AE) Am env) AS s:=by
 refine RZ ?_;show AH _ A ((ff (.DictComp k v [g] sc pos) 0 (.ref AE) Am env).onRaise (λx=>do IA x env;Ke bq1)) _ _ s;refine bq2 ?_;unfold ff;have e:(clausesOf (.DictComp k v [g] sc pos))[0]?=G g:=rfl;simp only[e,bq3,ha,Y5,Ki,Kj];refine A5 (R_ (fg ?_));split;. exact AW (Ra rfl h)
 . exact A5 (Gi (A5 (Ek (A5 (kZ r (AW (Ra rfl h)))))))
end
theorem lA(e:h.get? a=G {cls:=.type "dict",data:=.dict #[]}):Dm prog w h C a []:=.inl ⟨[],⟨_,#[],e,⟨rfl,rfl,rfl⟩,rfl,λ_ hm=>by simp at hm,by first|exact .nil|exact rfl|(simp[Pairs]),by simp⟩,rfl⟩
section
theorem Gd.yz(AN:Gd B F K A H AZ AJ){A1:A8}(hW:F'.A_=[A1])(g':Gd B F' K' A' A7 AT s')(TD:AJ.heap.get? A1=L)(x:Nx F.D F'.A_ AJ.heap s'.heap AZ AT)(hs:E3 A1 s'.heap Q)(Hv:∀o,s'.heap.get? A1=G o->C2 o=A6):Gd B F K A ⟨H.env,A7.h,A7.n⟩ AT {s' with heap:=Q}/\Nx F.D [] AJ.heap Q AZ AT:=by
 refine G5 (g'.D5 A1 (by rw[hW];simp)) ?_;intro QL OE _;have k:Dq A1 s'.heap Q:=hs.extBut;have im:=Gr k Hv;have ne:∀{b:A8}{o:Bm},AJ.heap.get? b=G o->b≠A1:=λe z=>by rw[z,TD]at e;exact(BE e).elim
 have nW:∀{b:A8}{o:Bm},AJ.heap.get? b=G o->b∉F'.A_:=λe m=>by rw[hW]at m;exact ne e (CI.mp m)
 have xx:Nx F.D [] AJ.heap Q AZ AT:=by
   refine⟨x.pre,λb o q=>?_,λb o q c=>k b o (ne q) (x.Bw b o q c),λb o q m _=>let⟨sl,z,r⟩:=x.same b o q m (nW q);⟨sl,k b _ (ne q) z,r⟩⟩;. refine xE (x.live b o q) ?_;intro o' q';exact⟨o',k b o' (ne q) q'⟩
 refine⟨AN.back (s':={s' with heap:=Q}) (A7:=⟨H.env,A7.h,A7.n⟩) xx g'.len g'.nodup g'.fresh (λa m=>?_) (λi p e=>?_) (λb p e=>k b p (λz=>by rw[z,QL]at e;exact(BE e).elim) (g'.base b p e)) g'.os g'.gens (Cf.Gu AN AN.env xx),xx⟩;. refine xE (g'.live a m) ?_;intro p e;exact⟨p,k a p (λz=>OE (z▸m)) e⟩
 . refine AC (g'.objs i p e) ?_;intro b q r;have :=r.mono (J:=[]) im λy=>k b y λz=>OE (z▸Ev q);exact⟨b,q,by simpa using this⟩
theorem z0{k v:AA}:eval (.DictComp k v gens sc pos) env=bq9 (.DictComp k v gens sc pos) sc env (firstIterPos gens pos) newDict (Uq gens) (Ur gens env):=rfl
theorem z8(A9:C5 B A3 n)(SD:ao B A3 n){k v:AA}{r:V}(h:Fo A3 K (ev A3 n) (.DictComp k v [g] sc pos) H=.ok (.v r) A7)(Bk:Gd B F K A H C s):Ae B F K A A7 C s (eval (.DictComp k v [g] sc pos) F.env) (RV r):=by
 refine A0.Be h ?_;clear h;intro Ia h;refine A0.Cg h ?_;clear h;intro w AB AP h;refine A0.Be h ?_;clear h;intro hs h;refine A0.Bx h ?_;clear h;intro it BD h;refine A0.Hs h ?_;clear h;intro _ Bc C3 h;refine xA (FG h) ?_;intro q Aw;subst Aw;injection q with q;subst q;refine xA (QJ Ia) ?_;intro hp ha;intro A2 E kk;refine S1 (Bk.kinds.comp hs (A1:=s.heap.objs.size) rfl λc m z=>by refine H6 (Bk.D2 c m) ?_;intro _ o e;rw[z,GD]at e;exact(BE e).elim) ?_;intro _ hk MZ D3 M_ _;rw[z0];have OI:Uq [g]=A6:=by obtain⟨_,_,_,k⟩:=g;show(k !=0)=A6;simp only at ha;rw[ha];rfl
 have OJ:Ur [g] F.env=eval g.iter F.env:=by obtain⟨_,_,_,_⟩:=g;rfl
 rw[OI,OJ];refine fq (use:=L) (g:=g) (gs:=[]) rfl (λx=>QG hp x) (WG D3) hk M_ ?_;refine A9.e AP Bk _ _ λu AZ AJ AN Ab Aq=>?_;refine OB AN Aq BD λAE BD tk AU Al hI K8 T5=>?_;refine IB ?_;skip;generalize hH:BD.push {cls:=.type "dict",dict:=L,data:=.dict #[]}=BF;have sz:BF.objs.size=BD.objs.size+1:=by rw[<-hH,IC]
 have KH:∀b o,BD.get? b=G o->BF.get? b=G o:=λb o e=>by rw[<-hH];exact C1 _ e
 have Mb:BD.get? BD.objs.size=L:=KA (DE _);have eD:BF.get? BD.objs.size=G {cls:=.type "dict",dict:=L,data:=.dict #[]}:=by rw[<-hH];exact CY _ rfl
 have Ao:=AU.new (Q:=BF) (tk:=tk) (o:=.dict []) KH Mb ⟨_,eD⟩ (lA eD);have B8:Nx F.D ([]:I A8) BD BF AZ (AZ++[BD.objs.size]):=Nx.add [_] KH λb hb=>by rw[CI.mp hb];exact Mb
 have ED:=K8.nx B8;have Gs:=T5.nx B8 K8.C (by simp);refine bq7 MZ (λy hy=>by simp at hy) (λFH ns QN=>?_) hk;dsimp only at ns QN ⊢;have TO:BF.get? BF.objs.size=L:=KA (DE _);have OH:∀b o,BF.get? b=G o->FH.get? b=G o:=λb o e=>QN.extBut b o (λz=>by rw[z,TO]at e;exact(BE e).elim) (C1 _ e);have TD:AJ.heap.get? BF.objs.size=L:=HA (Al.trans B8).live TO;have WI:∀c∈F.env.cells,c.2≠BF.objs.size:=λc m z=>by refine H6 (Ao.D2 c m) ?_;intro _ o e;rw[z,TO]at e;exact(BE e).elim
 have CA:=Ao.comp (tk:=tk+([]:I (U×A4)).length) hs TO OH ns;have L7:CM B (Hw F sc BF.objs.size) (AZ++[BD.objs.size]) FH AE:=ED.comp Ao hs (λz=>by refine xE ED.live ?_;intro o e;rw[z,TO]at e;exact(BE e).elim) (by refine xE ED.live ?_;intro o e;exact⟨o,OH _ _ e⟩) WI;have D':Nx F.D ([]:I A8) BF FH (AZ++[BD.objs.size]) (AZ++[BD.objs.size]):=Nx.ext OH;have HW:=Gs.nx D' ED.C (by simp);have hd:(AZ++[BD.objs.size])[AB.n]?=G BD.objs.size:=by rw[<-AN.len];simp
 refine yy ha HW (SD.aq C3 ha (F:=Hw F sc BF.objs.size) (Af:=AJ.heap) (BG:=AZ) CA hd (Al.trans (B8.trans D')).FY hI L7 HW λAT s' g' x' d'=>?_);refine AC ((λx=>x) g'.env) ?_;intro m Fq _;refine⟨m,Fq,λQ De=>?_⟩;have Hv:∀o,s'.heap.get? BF.objs.size=G o->C2 o=A6:=λo e=>by
  refine Gn Fq ?_;(try clear Fq);intro o' N ep e' d _;have e':s'.heap.get? BF.objs.size=G o':=e';rw[e']at e;injection e with e;subst e;unfold C2;rw[d];simp
 refine xA (AN.yz (F':=Hw F sc BF.objs.size) rfl g' TD x' De Hv) ?_;intro gg xx;exact kk _ _ _ gg (Ab.trans xx) ⟨_,d',rfl⟩
end
structure Cx(B:Bs)(A3:Mine.Ctx)(Kf:Ge):Prop where
 AV:Kf.In B.base
 makes:makesIn Kf A3.Dk=M
 init:Gk Kf (.ref A3.Dk) "__init__"=G (G (.ref A3.Q5))lB:t7 Kf (.ref A3.Q5)=G (.type "function")ga:Gk Kf (.ref A3.Dk) "__getattribute__"=G (G (.builtin "object.__getattribute__"))lD:Gk Kf (.ref A3.Dk) "__getattr__"=G L
 lE:Gk Kf (.ref A3.Dk) "__setattr__"=G (G (.builtin "object.__setattr__"))over:plainOver Kf A3.Dk=M
 au:(clsIn Kf A3.Dk).any (·.hasDict)=M
 attrs:∀a,Sm a=M->Gk Kf (.ref A3.Dk) a=G L
 meths:∀m a,Ah A3.HT m=G a->Gk Kf (.ref A3.Dk) m=G (G (.ref a))/\t7 Kf (.ref a)=G (.type "function")
theorem lF{o:Bm}{N:BW G'}{m:U->AD A4}(d:o.data=.dict N ep)(k:t8 N)(f:∀name,NY N name=m name)(name:U):fx name o=G (m name):=by
 unfold fx;rw[d];dsimp only;have hf:=f name;unfold NY findBy at hf;rw[<-Array.find?_toList]at hf;cases q:N.toList.find? (λe=>e.key.isStr name)with
 |some e=>rw[q]at hf;rw[<-hf];rfl|none=>
 rw[q]at hf;have :N.toList.any (·.refKey)=A6:=by
  rw[Y4];intro e he;refine DA (k e (fy.mp he)) ?_;intro n t hk;simp[bO8,hk]
 dsimp only;rw[this,<-hf];rfl
theorem z9{N:BW G'}(k:t8 N)(u:t9 N){A1:I U}(hL:∀name,NY N name≠L->name∈A1):N.size<=A1.length:=by
 have key:∀(l:I G')(A1:I U),(∀e∈l,∃n t,e.key=.str n t)->l.Pairwise (λa b=>∀n,a.key.isStr n=M->b.key.isStr n=M->Bi)->(∀e∈l,∀n t,e.key=.str n t->n∈A1)->l.length<=A1.length:=by
  intro l;induction l with
 |nil=>intro A1 _ _ _;simp|cons e l ih=>
  intro A1 hk hp hm;refine DA (hk e Cp) ?_;intro n t he;refine xA (Uu.mp hp) ?_;intro h1 h2;have hn:=hm e Cp n t he;have :=ih (A1.erase n) (λe' Q=>hk e' (Cq _ Q)) h2 λe' Q n' t' q=>by
   have Cc:n'≠n:=λz=>by
    clear hn;subst z;exact h1 e' Q n' (by rw[he];simp[tA]) (by rw[q];simp[tA])
   exact(List.mem_erase_of_ne Cc).mpr (hm e' (Cq _ Q) n' t' q)
  rw[List.length_erase_of_mem hn]at this;have :0<A1.length:=List.length_pos_of_mem hn;simp only[Uv];(with_reducible exact Mine.vU (by assumption) (by assumption))
 have :=key N.toList A1 (λe he=>k e (fy.mp he)) u λe he n t q=>hL n λz=>by
  unfold NY findBy at z;simp only[Option.map_eq_none_iff,Array.find?_eq_none]at z;have :=z e (fy.mp he);rw[q]at this;simp[tA]at this
 simpa using this
theorem zA{K:Ge}{A3:A8}{od:Bm}{v:A4}(hh:(clsIn K A3).any (·.hasDict)=M)(ha:Gk K (.ref A3) name=G L)(hl:fx name od=G (G v)):findObj K A3 (G od) name=G (.value v):=by
 refine AC (any_some hh) ?_;intro cd hc hd;unfold findObj;rw[hc,tB,ha,tB];simp only[tB,ownOf,hd,Kk,hl]
section
theorem Gd.AV(AG:Cx B A3 Kf)(g:Gd B F K A H C s):Kf.In s.heap:=λa o e=>g.base a o (AG.AV a o e)
theorem av(g:Gd B F K A H C s){c:A8}{N:I (U×V)}(hi:AL H.h i=G (.inst c d))(hd:AL H.h d=G (.EX N))(ru:VR s.heap C (.ref i) u){P:A4->Prop}(k:∀a da od m L9 ep,C[d]?=G da->s.heap.get? da=G od->od.data=.dict L9 ep->t8 L9->t9 L9->(∀name,NY L9 name=m name)->s.heap.Ns1 da m->InstAt s.heap a {cls:=.ref c,dict:=G da,data:=.plain} c (G od)->(∀x,match Ah N x with|some v=>∃u,m x=G u/\VR s.heap C v u|none=>m x=L)->P (.ref a)):P u:=by
 refine AC ru ?_;intro a ha q;rw[q];refine AC (g.obj hi ha) ?_;intro da QQ ho;refine AC (g.obj hd QQ) ?_;intro m ns r;refine iC ((λx=>x) ns) ?_;intro od L9 ep e dd kk uu f;exact k a da od m L9 ep QQ e dd kk uu f ns ⟨ho,rfl,rfl,e⟩ r
theorem zB(AG:Cx B A3 Kf)(g:Gd B F K A H C s){N:I (U×V)}{a:U}(hi:AL H.h i=G (.inst A3.Dk d))(hd:AL H.h d=G (.EX N))(ha:Sm a=M)(hv:Ah N a=G v)(lG:jj v=M)(ru:VR s.heap C (.ref i) u)(WP:AK):Ae B F K A H C s (Uw u a WP) (RV v):=by
 intro A2 E k;apply av g hi hd ru;intro x da od m L9 ep _ _ dd kk _ f _ AE r;have :=r a;rw[hv]at this;refine AC this ?_;(try clear this);intro w e hw;have hh:handedIn w=M:=by
  cases v<;>first|(first|exact(E4 lG).elim|cases lG)|skip
  . cases hw;rfl
  . cases hw;rfl
  . refine xE hw ?_;(try clear hw);intro t BJ;clear e;subst BJ;rfl
  . refine xE hw ?_;(try clear hw);intro t BP;clear e;subst BP;rfl
  . refine Jv hw ?_;(try clear hw);intro _ _ _ _ Bp _;clear e;subst Bp;rfl
  . refine AC hw ?_;(try clear hw);intro _ _ Bg;clear e;subst Bg;rfl
  . refine Jv hw ?_;(try clear hw);intro _ _ _ _ Bu _;clear e;subst Bu;rfl
  . refine EW hw ?_;(try clear hw);intro _ _ C9 _;clear e;subst C9;rfl
  . refine xE hw ?_;(try clear hw);intro t Cn;clear e;subst Cn;rfl
  . refine EW hw ?_;(try clear hw);intro _ t D8 _;clear e;subst D8;rfl
  . refine EW hw ?_;(try clear hw);intro _ t DW _;clear e;subst DW;rfl
  . refine EW hw ?_;(try clear hw);intro _ t Ec _;clear e;subst Ec;rfl
 exact get_value (g.AV AG) AE AG.ga (zA AG.au (AG.attrs a ha) (by rw[lF dd kk f,e])) hh (k w C _ (g.tok _) (Nx.refl ..) hw)
theorem zC(AG:Cx B A3 Kf)(g:Gd B F K A H C s){N:I (U×V)}{m:U}(hi:AL H.h i=G (.inst A3.Dk d))(hd:AL H.h d=G (.EX N))(hm:Ah N m=L)(ha:Ah A3.HT m=G a)(ru:VR s.heap C (.ref i) u)(pl:Dy AK):Gh (AQ B.prog B.w) s.heap (Jj u m pl) (.ref a,[u]):=by
 apply av g hi hd ru;intro x da od mm L9 ep _ eD dd kk _ f _ AE r;refine xA (AG.meths m a ha) ?_;intro h1 h2;have :=r m;rw[hm]at this;intro A A2 E s' k q;have I':InstAt s'.heap x {cls:=.ref A3.Dk,dict:=G da,data:=.plain} A3.Dk (G od):=⟨k _ _ AE.at_,rfl,rfl,k _ _ eD⟩;exact method_fn (λb o e=>k b o (g.AV AG b o e)) I' AG.ga AG.lD h1 h2 (by show(fx m od).map _=_;rw[lF dd kk f,this];rfl) q
end
theorem zD{K:Ge}{A3:A8}{a:U}(h:Gk K (.ref A3) a=G L):takerIn K A3 a=G L:=by unfold takerIn;rw[h];rfl
theorem zE{a:U}{v:J}(N:I (U×J)):(EZ N a v).length<=N.length+1:=by induction N with
 |nil=>exact DE _|cons p N ih=>
 show(bC (Cy p.1 a) ((p.1,v)::N) (p::EZ N a v)).length<=_;cases Cy p.1 a with
 |true=>exact H2 _ _|false=>exact Lk ih
section
theorem zF{N:I (U×V)}{m:U->AD A4}(r:∀x,match Ah N x with|some v=>∃u,m x=G u/\VR h C v u|none=>m x=L)(hn:m name≠L):name∈N.map (·.1):=by
 have :=r name;cases q:Ah N name with
 |none=>rw[q]at this;exact absurd this hn|some v=>exact E'.mpr ⟨_,FF q,rfl⟩
theorem zG(AG:Cx B A3 Kf)(g:Gd B F K A H C s){N:I (U×V)}{a:U}(hi:AL H.h i=G (.inst A3.Dk d))(hd:AL H.h d=G (.EX N))(ha:Sm a=M)(hf:CH N=M)(ru:VR s.heap C (.ref i) u)(rv:VR s.heap C v vu):Ae B F K A (H.set d (.EX (EZ N a v))) C s (setAttr u a vu) RU:=by
 intro A2 E k;apply av g hi hd ru;intro x da od m L9 ep QQ eD dd kk uu f ns AE r;refine set_plain (g.AV AG) AE AG.lE ?_;refine osa_open (s:={s with toks:=s.toks+1}) (od:=G od) ((g.tok (s.toks+1)).AV AG) AE AG.over (zD (AG.attrs a ha)) λb=>?_;refine AC (any_some AG.au) ?_;intro cd hc GV;refine A5 (AW (A5 (A5 (bt4 AE.at_ (A5 ((looks_clsIn ((g.tok (s.toks+1)).AV AG) hc).here ?_))))));rw[GV];refine AW (a:=G da) (A5 (AW (A5 ?_)));refine wpAny_nsSet1 (s:={s with toks:=s.toks+1}) ns λQ Fq hs=>A5 ?_;have r':∀x:Du s.heap Q,∀y,match Ah (EZ N a v) y with|some v=>∃u,(if y=a then G vu else m y)=G u/\VR Q C v u|none=>(if y=a then G vu else m y)=L:=λim y=>by
  rw[QE];by_cases q:y=a;. clear ha k Fq;subst q;simp only[Kk];exact⟨vu,rfl,rv.Bw im⟩
  . rw[CS (λz=>q z.symm),CS q];have :=r y;cases q:Ah N y with
 |none=>rw[q]at this;exact this|some w=>rw[q]at this;refine AC this ?_;(try clear this);intro u e z;exact⟨u,e,z.Bw im⟩
 refine xA (g.set (Q:=Q) (tk:=s.toks+1+1) (o':=.EX (EZ N a v)) QQ hd (λ_ _ e=>by(exfalso;cases e)) hs.extBut (by refine Hm Fq ?_;(try clear Fq);intro o _ _ e _;exact⟨o,e⟩) λim=>⟨_,Fq,r' im⟩) ?_;intro g' x';refine iC ((λx=>x) Fq) ?_;intro o' bK7 zH e' d' k' u' f';refine wpAny_lookBehind e' (by
  rw[d'];refine pastItsLine_dict ?_;have hl:=z9 k' u' (A1:=(EZ N a v).map (·.1)) λname hn=>by
    rw[f']at hn;exact zF (h:=Q) (C:=C) (r' x'.Bw) hn
  have hp:=zE (a:=a) (v:=v) N;have :=Ee hf;simp only[Jl]at hl;rw[sizeLine_eq];(with_reducible exact Mine.vx (by assumption) (by assumption) (by assumption))) ?_;exact AW (k () C _ g' x' trivial)
end
section
theorem G9.deep(k:G9 K F)(d:O):G9 ⟨K.sc,d⟩ F:=⟨k.fn,k.sc,k.kd,k.g3,k.b0,k.cells,k.IW,k.MO⟩
theorem Gd.swap(g:Gd B F K A H C s)(kd:G9 K' F)(fr:A'.frames=G F.outs)(hd:A'.handled=L)(dp:A'.depth+3*K'.d<900)(un:A'.units+10*K'.d<9000):Gd B F K' A' H C s:=⟨kd,g.len,g.nodup,g.fresh,g.live,g.D5,g.D2,g.objs,g.env,g.base,g.os,g.gens,fr,g.DP,g.Cz,g.mods,hd,dp,un⟩
theorem lH{c:A8}{C4:I A4}{kw:I (U×A4)}:(A.under (.builtin "type.__call__" ⟨.ref c::C4,kw⟩)).frames=A.frames/\(A.under (.builtin "type.__call__" ⟨.ref c::C4,kw⟩)).handled=A.handled/\(A.under (.builtin "type.__call__" ⟨.ref c::C4,kw⟩)).depth<=A.depth+1/\(A.under (.builtin "type.__call__" ⟨.ref c::C4,kw⟩)).units<=A.units+5:=by
 have hw:(tC "type.__call__" ⟨.ref c::C4,kw⟩).weight=1:=by kernel_rfl
 have he:(tC "type.__call__" ⟨.ref c::C4,kw⟩).envs=[]:=by kernel_rfl
 have hu:(tC "type.__call__" ⟨.ref c::C4,kw⟩).cUnits=1:=by kernel_rfl
 refine⟨?_,rfl,?_,?_⟩
 . unfold Around.under;simp only[he,pushEnvs]
 . show A.depth+Code.weight _<=_;rw[hw];exact DE _
 . show A.units+Code.cUnits _<=_;rw[hu];(with_reducible exact HI (by decide) _)
theorem zI(AG:Cx B A3 Kf)(A9:C5 B A3 n)(g:Gd B F K A H C s)(rs:Aa s.heap C args us)(hK:K.d=d+1){fn:Fn}{o:Bm}(ok:FnAt B A3.Q5 fn o fd)(h:JG ⟨K.sc,d⟩ (ev A3 n) fn (.ref (H.n+1)::args) ⟨H.env,(H.n+1,.inst A3.Dk H.n)::(H.n,.EX [])::H.h,H.n+2⟩=.ok (.v .none) A7):Ae B F K A A7 C s (CE (.ref A3.Dk) us) (RV (.ref (H.n+1))):=by
 intro A2 E k;refine HN ?_;obtain⟨hh,gs,dr,t,os⟩:=s;have AV:=g.AV AG;refine make_core (makes_of AV AG.makes) (NZ AV AG.init) (λself=>bind_fn AV self AG.lB) (.inl rfl) ?_;refine M6 (lH (A:=A) (c:=A3.Dk) (C4:=us) (kw:=[])) ?_;intro u1 u2 u3 bS8;have kp:∀b o,hh.get? b=G o->((hh.push g0).push (g4 A3.Dk hh.objs.size)).get? b=G o:=λb o e=>C1 _ (C1 _ e);generalize hH:(hh.push g0).push (g4 A3.Dk hh.objs.size)=BF at kp;have eD:BF.get? hh.objs.size=G g0:=by rw[<-hH];exact C1 _ (CY _ rfl)
 have eX:BF.get? (hh.objs.size+1)=G (g4 A3.Dk hh.objs.size):=by
  rw[<-hH];have :=CY (hh.push g0) (o:=g4 A3.Dk hh.objs.size) rfl;rwa[IC]at this
 have nD:hh.get? hh.objs.size=L:=KA (DE _);have nX:hh.get? (hh.objs.size+1)=L:=KA (PN _);have im:Du hh BF:=λb o e _=>kp b o e;have hn:∀b∈[hh.objs.size,hh.objs.size+1],hh.get? b=L:=λb hb=>by
  rcases Ck.mp hb with z|z;. rw[z];exact nD
  . rw[CI.mp z];exact nX
 have Ab:Nx F.D ([]:I A8) hh BF C (C++[hh.objs.size,hh.objs.size+1]):=Nx.add _ kp hn;have i0:(C++[hh.objs.size,hh.objs.size+1])[H.n]?=G hh.objs.size:=by rw[<-g.len];simp
 have i1:(C++[hh.objs.size,hh.objs.size+1])[H.n+1]?=G (hh.objs.size+1):=by rw[<-g.len];simp
 have zJ:BF.Ns1 hh.objs.size λ_=>L:=⟨_,#[],0,eD,rfl,λ_ hm=>by simp at hm,by unfold t9;simp,λ_=>rfl⟩;have AN:Gd B F K A ⟨H.env,(H.n+1,.inst A3.Dk H.n)::(H.n,.EX [])::H.h,H.n+2⟩ (C++[hh.objs.size,hh.objs.size+1]) ⟨BF,gs,dr,t,os⟩:=by
  refine g.of (Q:=BF) (tk:=t) (Nx.add _ kp hn) (by simp) hn (λb hb=>?_) (by simp[g.len]) (λi o e=>?_) (g.env.ext kp) (λb o e=>kp b o (g.base b o e))
  . rcases Ck.mp hb with z|z;. rw[z];exact⟨_,eD⟩
    . rw[CI.mp z];exact⟨_,eX⟩
  . simp only[AL]at e;cases q:BC (H.n+1) i with
 |true=>
     rw[q]at e;injection e with e;subst e;have :=CD q;clear q;subst this;exact⟨_,i1,_,i0,eX⟩|false=>
     rw[q]at e;cases q':BC H.n i with
 |true=>
      rw[q']at e;injection e with e;subst e;have :=CD q';clear q q';subst this;exact⟨_,i0,_,zJ,λx=>rfl⟩|false=>
      rw[q']at e;refine AC (g.objs i o e) ?_;intro b p r;exact⟨b,FX p,r.mono im (kp b)⟩
 have dp:=g.depth;have un:=g.units;have AU:=AN.swap (A':=A.under (.builtin "type.__call__" ⟨.ref A3.Dk::us,[]⟩)) (g.kinds.deep d) (u1.trans g.frames) (u2.trans g.handled) (by show _+3*d<900;rw[hK]at dp;(with_reducible exact Mine.yV (by assumption) (by assumption) (by decide))) (by show _+10*d<9000;rw[hK]at un;(with_reducible exact Mine.yV (by assumption) (by assumption) (by decide)));refine aU A9 ok h AU (us:=.ref (hh.objs.size+1)::us) ⟨_,_,rfl,⟨_,i1,rfl⟩,rs.nx Ab⟩ λu AT s' g' x' r'=>?_;cases r';have gg:=g'.swap (K':=K) (A':=A) g.kinds g.frames g.handled dp un;refine⟨rfl,k _ AT s' gg (Ab.trans x') ⟨_,?_,rfl⟩⟩;refine AC (x'.pre) ?_;intro J e _;rw[e];exact FX i1
end
structure HX(B:Bs)(A3:Mine.Ctx)(Kf:Ge):Prop where
 at_:A3.Bo=135cls:∃oc od cd sl,Kf.lookup A3.Bo=G ⟨oc,od,.cls cd,sl⟩/\cd.hasDel=A6
 call:specialIn Kf (.ref A3.Bo) "__call__"=G (G (.builtin "type.__call__"))typ:instIn Kf (.ref A3.Bo) (.type "type")=G M
 self:Y7 Kf (.ref A3.Bo) (.ref A3.Bo)=G M
 tup:Y7 Kf (.ref A3.Bo) (.type "tuple")=G M
 obj:Y7 Kf (.ref A3.Bo) (.type "object")=G M
 init:Gk Kf (.ref A3.Bo) "__init__"=G (G (.builtin "object.__init__"))len:Gk Kf (.ref A3.Bo) "__len__"=G (G (.builtin "tuple.__len__"))iter:Gk Kf (.ref A3.Bo) "__iter__"=G (G (.builtin "tuple.__iter__"))mro:∀A9,Ri Kf A9 (mroOf (.ref A3.Bo))=G [.ref A3.Bo,.type "tuple",.type "object"]made:∀A9,Ri Kf A9 (Bind.madeBy (.ref A3.Bo))=G L
 lI:∀A9,Ri Kf A9 (isType (.ref A3.Bo))=G M
 here:∀A9,Ri Kf A9 (Bind.madeHere "tuple.__new__" (.ref A3.Bo))=G ()lJ:∀A9 T,Ri Kf A9 (g5 "tuple.__new__" ⟨[.ref A3.Bo,.ref T],[]⟩)=G ()reads:readsIn Kf A3.Bo (.type "type")=M
 new:∃p,tD Kf (.ref A3.Bo) (.type "type") "__new__"=G (.get (.builtin "staticmethod.__get__") (.ref p) .none (.ref A3.Bo))/\∃C4,recIn Kf p "staticmethod"=G (.ref A3.Sb::C4)
theorem zK:Lr Ls "tuple.__new__"=G EA.«tuple.__new__»:=Y8 (by kernel_rfl)
section
theorem zL(An:HX B A3 Kf)(AV:Kf.In B.base)(g:Gd B F K A H C s)(r:VR s.heap C (.tup L Y) u)(hf:CH Y=M):Ae B F K A H C s (CE (.builtin "tuple.__new__") [.ref A3.Bo,u]) (RV (.tup (G A3.Bo) Y)):=by
 intro A2 E k;refine Bv (QH r) ?_;intro T us Aw ht vr;clear r;subst Aw;have Gw:Kf.In s.heap:=λa o e=>g.base a o (AV a o e);refine Jv An.cls ?_;intro oc od cd sl hC lK;have aw:=Gw _ _ hC;have Ed:us.size<=F9:=by
  have e1:=vr.length;have :=Ee hf;simp at e1;exact B4 (show _<=100000 by(with_reducible exact Mine.yS (by assumption) (by assumption))) (by decide)
 refine HN (codeAny_call_builtin_code (tE _ (by decide+kernel)) ((N_ Gw (An.lJ _ T)).here (J0 zK ?_)));skip;refine A5 ((N_ Gw (An.lI _)).here ?_);skip;refine A5 ((Ux Gw An.tup).here ?_);skip;refine A5 ((N_ Gw (An.here _)).here ?_);refine A5 ((NZ Gw An.init).here ?_);skip;refine A5 (AW (A5 (AW ?_)));show AH _ _ (Y9 (.ref T)>>=λl=>(pure l.toArray:Dy (BW A4))>>=λY=>alloc {cls:=.type "dict",data:=.dict #[]}>>=λd=>tF (.ref A3.Bo) (.seq Y) (G d)>>=λr=>ret r) _ _ _;refine Pm ht ?_;(try clear ht);intro o eT cT m dT;refine A5 (wpAny_collect_seq T (.inr rfl) eT cT dT (λQ kp=>A5 (AW (A5 (YA (A5 ?_))))) Ed);have LA:∀b o,s.heap.get? b=G o->(Q.push {cls:=.type "dict",data:=.dict #[]}).get? b=G o:=λb o e=>C1 _ (kp b o e);generalize hH:Q.push {cls:=.type "dict",data:=.dict #[]}=BF at LA;have step:AH (AQ B.prog B.w) (A.under (.builtin "tuple.__new__" ⟨[.ref A3.Bo,.ref T],[]⟩)) (newObjAsIs (.ref A3.Bo) (.seq us.toList.toArray) (G Q.objs.size)) (λr s'=>r=.ref BF.objs.size/\s'={s with heap:=BF.push {cls:=.ref A3.Bo,dict:=G Q.objs.size,data:=.seq us.toList.toArray}}) (λe s'=>E e s') {s with heap:=BF}:=by
  unfold newObjAsIs classHasDel;refine A5 (YA (A5 (A5 (NT (C1 _ (LA _ _ aw)) (AW ?_)))));rw[lK];exact AW ⟨rfl,rfl⟩
 have zM:AH (AQ B.prog B.w) (A.under (.builtin "tuple.__new__" ⟨[.ref A3.Bo,.ref T],[]⟩)) (tF (.ref A3.Bo) (.seq us.toList.toArray) (G Q.objs.size)) (λr s'=>r=.ref BF.objs.size/\s'={s with heap:=BF.push {cls:=.ref A3.Bo,dict:=G Q.objs.size,data:=.seq us.toList.toArray}}) (λe s'=>E e s') {s with heap:=BF}:=by
  unfold tF;simp only[];rw[CS (by simpa using Ul.mpr Ed)];exact step
 refine Ff zM (λr s' hr=>?_) λ_ _ e=>e;refine xA hr ?_;(try clear hr);intro B6 BJ;subst B6;subst BJ;refine AW ?_;have ax:∀b o,s.heap.get? b=G o->(BF.push {cls:=.ref A3.Bo,dict:=G Q.objs.size,data:=.seq us.toList.toArray}).get? b=G o:=λb o e=>C1 _ (LA b o e);refine k _ C _ (g.ext (tk:=s.toks) ax) (Nx.ext ax) ⟨_,_,us.toList.toArray,0,rfl,CY _ rfl,⟨by rw[An.at_];rfl,λh=>by(exfalso;cases h)⟩,rfl,rfl,?_⟩;have :=vr.Bw (Q:=BF.push {cls:=.ref A3.Bo,dict:=G Q.objs.size,data:=.seq us.toList.toArray}) (λb o e _=>ax b o e);simpa using this
theorem zN(a b c d:A4):Jm "object.__init__" ⟨[a,b,c,d],[]⟩:=by unfold Jm;kernel_rfl
theorem zO(An:HX B A3 Kf)(AV:Kf.In B.base)(A9:C5 B A3 n)(g:Gd B F K A H C s){x y z:V}(rs:Aa s.heap C [x,y,z] us)(hK:K.d=d+1){fn:Fn}{o:Bm}(ok:FnAt B A3.Sb fn o fd)(h:JG ⟨K.sc,d⟩ (ev A3 n) fn (.top (.ref A3.Bo)::[x,y,z]) H=.ok (.v (.tup (G A3.Bo) Y)) A7):Ae B F K A A7 C s (CE (.ref A3.Bo) us) (RV (.tup (G A3.Bo) Y)):=by
 intro A2 E k;refine HN ?_;refine Yl rs ?_;(try clear rs);intro u1 us BP r1 u2 us Bp r2 u3 us Bg r3 zP;subst BP;subst Bp;subst Bg;cases zP;have Gw:Kf.In s.heap:=λa o e=>g.base a o (AV a o e);refine Jv An.cls ?_;intro oc od cd sl hC lK;have aw:=Gw _ _ hC;refine RZ ?_;show AH _ _ (Uy (.ref A3.Bo) _) _ _ _;refine A5 (NT aw ?_);show AH _ _ (bt5 (.ref A3.Bo) _) _ _ _;unfold bt5;refine A5 ((bt6 Gw An.call).here ?_);skip;skip;refine A5 (AW (A5 (AW ?_)));refine AW (a:=Fin.again (.call (.builtin "type.__call__") ⟨[.ref A3.Bo,u1,u2,u3],[]⟩)) (Ra rfl ?_);refine codeAny_call_builtin_at (tE _ (by decide+kernel)) entry_typeCall (YB tc_kind tc_split (looks_instIn Gw An.typ) (tc_args _ _ _) ?_);unfold EA.«type.__call__»;refine A5 ((N_ Gw (An.mro _)).here ?_);skip;refine A5 ((N_ Gw (An.made _)).here ?_);refine M6 (lH (A:=A) (c:=A3.Bo) (C4:=[u1,u2,u3]) (kw:=[])) ?_;intro v1 v2 v3 v4;generalize hA:A.under (.builtin "type.__call__" ⟨[.ref A3.Bo,u1,u2,u3],[]⟩)=A' at v1 v2 v3 v4 ⊢;have dp:=g.depth;have un:=g.units;have AN:=g.swap (A':=A') (g.kinds.deep d) (v1.trans g.frames) (v2.trans g.handled) (by show _+3*d<900;rw[hK]at dp;(with_reducible exact Mine.yV (by assumption) (by assumption) (by decide))) (by show _+10*d<9000;rw[hK]at un;(with_reducible exact Mine.yV (by assumption) (by assumption) (by decide)));refine uo An.new ?_;intro p hf C4 hp;refine A5 (cls_bind Gw An.reads hf (HN (sm_get (s:={s with toks:=s.toks+1}) Gw hp (handed_on rfl ?_))));refine A5 (C0 (kR A9 ok h (AN.tok (s.toks+1)) (us:=[.ref A3.Bo,u1,u2,u3]) ⟨_,_,rfl,rfl,_,_,rfl,r1,_,_,rfl,r2,_,_,rfl,r3,rfl⟩ _ _ λu Au Ai AU Al BB=>?_));refine Kr BB ?_;(try clear BB);intro T oT zQ m Bu eT tk cT dT vr;subst Bu;have TP:Kf.In Ai.heap:=λa o e=>AU.base a o (AV a o e);have tT:Gh (AQ B.prog B.w) Ai.heap (He (.ref T)) (.ref A3.Bo):=(Kg (part:=L) eT).andThen (by rw[cT];exact .now);have iT:∀{b:A4}{r:AK},Y7 Kf (.ref A3.Bo) b=G r->Gh (AQ B.prog B.w) Ai.heap (Uz (.ref T) b) r:=λe=>tT.andThen (Ux TP e);refine A5 ((iT An.self).here ?_);skip;have fin:AH (AQ B.prog B.w) A' (tG (.ref T) "__init__" [u1,u2,u3] []) (λr s'=>r=G .none/\s'=Ai) (λ_ _=>Bi) Ai:=by
  unfold tG Na;refine A5 (A5 (tT.here ((NZ TP An.init).here ?_)));refine C0 ?_;skip;refine A5 (AW (A5 (HN ?_)));show D7 _ A' (.call (.builtin "object.__init__") ⟨[.ref T,u1,u2,u3],[]⟩) _ Ai;refine Lu oi_plain entry_oi ?_;refine YB (i:="object.__init__") (owner:="object") (n:="__init__") (self:=.ref T) (rest:=[u1,u2,u3]) (kw:=[]) oi_kind oi_split (iT An.obj) (zN _ _ _ _) ?_;skip;skip;refine A5 (tT.here (A5 ((NZ TP An.init).here ?_)));refine A5 ((N_ TP (An.made _)).here ?_);skip;exact AW (AW ⟨rfl,rfl⟩)
 refine A5 (C0 (Ff fin (λr s' hr=>?_) λ_ _ e=>e.elim));refine xA hr ?_;(try clear hr);intro C9 Cn;subst C9;clear fin iT TP tT;subst Cn;refine AW ?_;have gg:=AU.swap (K':=K) (A':=A) g.kinds g.frames g.handled dp un;exact k _ Au s' gg Al ⟨T,oT,zQ,m,rfl,eT,tk,cT,dT,vr⟩
end
noncomputable def Mc(h:BK)(t:A8)(Cb:BW A4):Prop:=∃o n,h.get? t=G o/\o.data=.seq Cb n
theorem Mc.extBut{t b:A8}(x:Mc h t Cb)(k:Dq b h Q)(ne:t≠b):Mc Q t Cb:=let⟨o,n,e,d⟩:=x;⟨o,n,k _ _ ne e,d⟩
theorem zR:Rj "tuple.__iter__"=G .slot:=by decide+kernel
theorem zS:g6 "tuple.__iter__"=G ("tuple","__iter__"):=by decide+kernel
theorem zT:YC "tuple.__iter__"=M:=by decide+kernel
section
theorem zU{it t:A8}{x:A4}{A2:AD A4->AR->Prop}(Bz:s.heap.IsTupleIter it t i)(ht:Mc s.heap t Cb)(hx:Cb[i]?=G x)(hQ:∀Q,Q.IsTupleIter it t (i+1)->E3 it s.heap Q->A2 (G x) {s with heap:=Q}):AH (AQ prog w) A (ER (.ref it)) A2 E s:=by
 refine CZ (id Bz) ?_;intro o ho hc hd;refine EW ht ?_;(try clear ht);intro ol nl OM ay;unfold ER;refine A5 (Rk (Lq (name:=Eu "__next__") Bz.typeIs YD (Gj YD Bz.typeIs bt7 ?_ (bt8 _))));show AH _ _ (Kl (.ref it) 0>>=_) _ _ s;refine A5 (Gm ho hd (x:=.ref t) rfl ?_);show AH _ _ (if(Jn t==Hf)=M then _ else _) _ _ s;skip;show AH _ _ (Kl (.ref it) 1>>=_) _ _ s;refine A5 (Gm ho hd (x:=.int i 0) rfl ?_);show AH _ _ (Nb (.ref t)>>=_) _ _ s;refine A5 (Nc OM ay ?_);simp only[g7,hx];refine A5 (Lv ho hd (by simp) (AW ⟨x,rfl,AW (hQ _ ?_ (Fg ..))⟩));exact⟨_,FQ _ ho (tH (g8 hd _)),(tI ..).trans hc,by rw[g8 hd];simp[ES]⟩
theorem zV{it t:A8}{A2:AD A4->AR->Prop}(hh:A.handled=L)(Bz:s.heap.IsTupleIter it t i)(ht:Mc s.heap t Cb)(hx:Cb[i]?=L)(hQ:∀Q,Dq it s.heap Q->A2 L {s with heap:=Q}):AH (AQ prog w) A (ER (.ref it)) A2 E s:=by
 refine CZ (id Bz) ?_;intro o ho hc hd;refine EW ht ?_;(try clear ht);intro ol nl OM ay;unfold ER;refine A5 (Rk (Lq (name:=Eu "__next__") Bz.typeIs YD (Gj YD Bz.typeIs bt7 ?_ (bt8 _))));show AH _ _ (Kl (.ref it) 0>>=_) _ _ s;refine A5 (Gm ho hd (x:=.ref t) rfl ?_);show AH _ _ (if(Jn t==Hf)=M then _ else _) _ _ s;skip;show AH _ _ (Kl (.ref it) 1>>=_) _ _ s;refine A5 (Gm ho hd (x:=.int i 0) rfl ?_);show AH _ _ (Nb (.ref t)>>=_) _ _ s;refine A5 (Nc OM ay ?_);simp only[g7,hx];refine A5 (Gi (A5 (Lv ho hd (by simp) ?_)));show AH _ _ (g9 (.type "StopIteration") []>>=_) _ _ _;refine A5 ?_;simp only[g9,YE];refine A5 (IB ?_ (by size_fits));refine A5 (m:=V' _ _) (NV (a:=Hf) (by first|rfl|(simp only[V'];rfl)) ?_);refine IB ?_ (by size_fits);skip;refine A5 (tJ ?_);first|rw[show A.in1.handled=L from hh]|rw[hh]
 refine A5 (AW (gA ?_));refine A5 (Lw (T:="StopIteration") (b:=M) ⟨_,CY _ rfl,rfl⟩ gB ?_);exact AW (hQ _ (((Fg ..).extBut.push _).push _))
theorem lL{it t:A8}(Cc:t≠it):∀(n i:O)(s:AR)(A2:I A4->AR->Prop),s.heap.IsTupleIter it t i->Mc s.heap t Cb->i+n<=Cb.size->(∀Q,Q.IsTupleIter it t (i+n)->E3 it s.heap Q->A2 ((Cb.toList.drop i).take n) {s with heap:=Q})->AH (AQ prog w) A (draw (.ref it) n) A2 E s
 |0,i,s,A2,Bz,_,_,hQ=>by
  show AH _ _ (pure []) A2 E s;exact AW (by simpa using hQ s.heap Bz (fs ..))|n+1,i,s,A2,Bz,ht,az,hQ=>by
  have CF:i<Cb.size:=by omega
  show AH _ _ (ER (.ref it)>>=_) A2 E s;refine A5 (zU Bz ht (x:=Cb[i]) (by simp[CF]) λAP QR HY=>?_);refine A5 (C0 (lL Cc n (i+1) _ _ QR (ht.extBut HY.extBut Cc) (by(with_reducible exact Mine.Yo (by assumption))) λBD zW QS=>AW ?_));have hd:Cb.toList.drop i=Cb[i]::Cb.toList.drop (i+1):=by simp[YF,CF]
  have :=hQ BD (by rw[show i+(n+1)=i+1+n by omega];exact zW) (HY.trans QS);rw[hd,List.take_succ_cons]at this;exact this
end
section
theorem zX(An:HX B A3 Kf)(AV:Kf.In s.heap){t:A8}{o:Bm}(e:s.heap.get? t=G o)(hc:o.cls=.ref A3.Bo)(hQ:A2 (.ref s.heap.objs.size) {s with heap:=s.heap.push {cls:=.type "tuple_iterator",data:=.fields #[.ref t,.int 0 0]}}):AH (AQ B.prog B.w) A (PQ (.ref t)) A2 E s:=by
 have tT:Gh (AQ B.prog B.w) s.heap (He (.ref t)) (.ref A3.Bo):=(Kg (part:=L) e).andThen (by rw[hc];exact .now);have sT:Gh (AQ B.prog B.w) s.heap (Na (.ref t) "__iter__") (G (.builtin "tuple.__iter__")):=tT.andThen (NZ AV An.iter);have b4:AH (AQ B.prog B.w) A (call (.builtin "tuple.__iter__") [.ref t]) (λv s'=>v=.ref s.heap.objs.size/\s'={s with heap:=s.heap.push {cls:=.type "tuple_iterator",data:=.fields #[.ref t,.int 0 0]}}) E s:=by
  refine HN (Lu zT F.entry_tuple_iter ?_);refine YB (i:="tuple.__iter__") (owner:="tuple") (n:="__iter__") (self:=.ref t) (rest:=[]) (kw:=[]) zR zS (tT.andThen (Ux AV An.tup)) (F.args_tuple_iter_1 _) ?_;show AH _ _ (do ret (<-newFields "tuple_iterator" [.ref t,ES 0])) _ _ s;exact A5 (IB (AW ⟨rfl,rfl⟩))
 unfold PQ;refine A5 (sT.here ?_);show AH _ A (bt9 (.ref t) "__iter__" _>>=_) A2 E s;refine A5 ?_;simp only[bt9,bu0];refine C0 (A5 (A5 (sT.here ?_)));skip;have fin:∀{P:AD A4->AR->Prop}{zY:Dy A4},P (G (.ref s.heap.objs.size)) {s with heap:=s.heap.push {cls:=.type "tuple_iterator",data:=.fields #[.ref t,.int 0 0]}}->AH (AQ B.prog B.w) A (if(bu1 "tuple.__iter__"==Hf)=M then(zY>>=λv=>pure (G v))else(call (.builtin "tuple.__iter__") [.ref t]>>=λv=>pure (G v))) P E s:=λhp=>by
  rw[CS (show¬((bu1 "tuple.__iter__"==Hf)=M)from NU)];refine A5 (Ff b4 (λv s' hv=>?_) λ_ _ e=>e);refine xA hv ?_;(try clear hv);intro Aw B6;subst Aw;subst B6;exact AW hp
 have zZ:AH (AQ B.prog B.w) A (Na (.ref s.heap.objs.size) "__next__") (λr s'=>∃f,r=G f/\s'={s with heap:=s.heap.push {cls:=.type "tuple_iterator",data:=.fields #[.ref t,.int 0 0]}}) E {s with heap:=s.heap.push {cls:=.type "tuple_iterator",data:=.fields #[.ref t,.int 0 0]}}:=YG ⟨_,CY _ rfl,rfl⟩ YD.lookup ⟨_,rfl,rfl⟩;have lM:=A5 (f:=λr=>match r with
 |none=>(do YH "iter.non-iterator";raiseError"TypeError"s!"iter() returned non-iterator of type '{<-PySem.typeNameOf (.ref s.heap.objs.size)}'":Dy A4)|some _=>pure (.ref s.heap.objs.size)) (Q:=A2) (Ff zZ (λr s' hr=>by refine AC hr ?_;(try clear hr);intro f BJ BP;subst BJ;subst BP;exact AW hQ) λ_ _ e=>e);refine A5 (R_ (fg ?_));split;. exact A5 (AW (AW (fin lM)))
 . exact PY (A5 (AW (AW (fin lM))))
end
section
theorem z_(An:HX B A3 Kf)(AV:Kf.In s.heap)(hh:A.handled=L){t:A8}{o:Bm}(e:s.heap.get? t=G o)(hc:o.cls=.ref A3.Bo)(hd:o.data=.seq Cb m){WQ:I (AK×(A4->Dy Do))}{A2:Do->AR->Prop}(hn:WQ.length=Cb.size)(za:WQ.findIdx? (·.1)=L)(h:∀Q,Dq s.heap.objs.size s.heap Q->AH (AQ B.prog B.w) A (NR (WQ.map (·.2)) Cb.toList) A2 E {s with heap:=Q}):AH (AQ B.prog B.w) A (unpack (.ref t) WQ) A2 E s:=by
 have CF:t≠s.heap.objs.size:=EQ (Dg e);have tT:Gh (AQ B.prog B.w) s.heap (He (.ref t)) (.ref A3.Bo):=(Kg (part:=L) e).andThen (by rw[hc];exact .now);have sT:Gh (AQ B.prog B.w) s.heap (Na (.ref t) "__iter__") (G (.builtin "tuple.__iter__")):=tT.andThen (NZ AV An.iter);unfold unpack;rw[hn,za];refine A5 (C0 ?_);unfold unpackItems;refine A5 ?_;skip;refine A5 (sT.here ?_);refine AW ?_;skip;refine A5 (C0 (zX An AV e hc ?_));have hs:Mc (s.heap.push {cls:=.type "tuple_iterator",data:=.fields #[.ref t,.int 0 0]}) t Cb:=⟨o,m,C1 _ e,hd⟩;refine A5 (C0 (lL CF Cb.size 0 _ _ ⟨_,CY _ rfl,rfl,rfl⟩ hs (by omega) λAP QR HY=>?_));have OF:List.take Cb.size (bq4 0 Cb.toList)=Cb.toList:=by rw[YI];exact gC (by simp)
 rw[OF,CS (by simp)];have zb:Mc AP t Cb:=hs.extBut HY.extBut CF;refine A5 (C0 (zV hh QR zb (by simp) λBD Ie=>?_));skip;exact AW (h BD λb o hb e=>Ie b o hb (HY.extBut b o hb (C1 _ e)))
theorem zc(AG:HX B A3 Kf)(AV:Kf.In B.base)(A9:C5 B A3 n){c:AD A8}(h:Kw A3 K (ev A3 n) (.Tuple ts kd pos) (.tup c Y) H=.ok (.f f) A7)(g:Gd B F K A H C s)(r:VR s.heap C (.tup c Y) u):CJ B F K A A7 C s (Ew (.Tuple ts kd pos) F.env u) RU:=by cases c with
 |none=>exact xk A9 h g r|some c=>
 refine A0.Be h ?_;clear h;intro hl h;simp only[D6]at hl;refine xA hl ?_;(try clear hl);intro hl hp;have hl:=CD hl;refine Kr r ?_;(try clear r);intro a o us m Aw e tk hc hd rs;subst Aw;have GC:o.cls=.ref A3.Bo:=by
  have :c=135:=by simpa[Vv]using tk.1
  rw[AG.at_,<-this];exact hc
 intro A2 E k;have Ch:ts.length=us.size:=by rw[<-hl,rs.length];simp
 have Gw:Kf.In s.heap:=λa o e=>g.base a o (AV a o e);skip;refine A5 (Ek (z_ AG Gw g.handled e GC hd (by rw[W5,Ch]) (W6 hp) λQ hx=>?_));have kp:∀b o,s.heap.get? b=G o->Q.get? b=G o:=λb o e=>hx b o (EQ (Dg e)) e;have Ab:Nx F.D F.A_ s.heap Q C C:=Nx.ext kp;exact A9.ME h (g.ext (tk:=s.toks) kp) (rs.nx Ab) _ _ λ_ Au Ai AU Al _=>k () Au Ai AU (Ab.trans Al) trivial
theorem zd(AG:Cx B A3 Kf)(A9:C5 B A3 n){o:AA}{a:U}(h:Kw A3 K (ev A3 n) (.Attribute o a pos) v H=.ok (.f f) A7)(g:Gd B F K A H C s)(r:VR s.heap C v vu):CJ B F K A A7 C s (Ew (.Attribute o a pos) F.env vu) RU:=by
 refine A0.Cg h ?_;clear h;intro w AB AP h;revert AP;apply EH h Ac;intro i h;refine A0.Bx h ?_;clear h;intro ob hi h;revert hi;apply jS h Ac;intro c d h hi AP;refine A0.Be h ?_;clear h;intro hc h;refine A0.Bx h ?_;clear h;intro od hd h;revert hd;apply Za h Ac;intro N h hd;refine A0.Be h ?_;clear h;intro hf h;apply O8 h;clear h;have hi:=CD (B1 hc)▸hi;have ha:=Ak hc;intro A2 E k;show AH _ A (do
 let ov<-Hd [vu] (eval o F.env)Ke pos.atName
 Hd [vu,ov] (setAttr ov a vu)release [vu,ov] []) A2 E s;refine A5 (C0 (A9.e AP g _ _ λu AZ AJ AN Ab Aq=>A5 (Ek (A5 (C0 (zG AG AN hi hd ha hf Aq (r.nx Ab) _ _ λ_ Au Ai AU Al _=>?_))))));exact bu2 (k () Au Ai AU (Ab.trans Al).FY trivial)
end
theorem WR{i:AX}(h:JD i=M):-1000000000<=i/\i<=1000000000:=by
 unfold JD at h;simpa using h
set_option tactic.hygienic true in
theorem b5{l:I J}{k:AX}{x:J}(h:Q2 l k=G x):∃j,gD k l.length=G j/\l[j]?=G x:=by
 unfold Q2 at h;have lt:∀{j:O},l[j]?=G x->j<l.length:=λe=>(HJ.mp e).1;split at h
 . split at h;. exact(BE h).elim
   . rw[HV]at h;refine⟨_,?_,h⟩;have :=lt h;unfold gD;rename_i h1 h2;simp only[h1,Kk];rw[DF (by simp only[D6,PR];(with_reducible exact Mine.iK (by assumption) (by assumption)))]
 . rw[HV]at h;refine⟨_,?_,h⟩;have :=lt h;unfold gD;rename_i h1;simp only[h1,Kj];rw[DF (by simp only[D6,PR];(with_reducible exact Mine.iK (by assumption) (by assumption)))]
theorem ze{i:AX}:Hg n i<=n:=bn2.mpr (bn0.mpr ⟨fF _,Int.min_le_right _ _⟩)
theorem WS(l:I J)(lo hi:AD AX):Hq l lo hi=(l.drop (lo.elim 0 (Hg l.length))).take (hi.elim l.length (Hg l.length)-lo.elim 0 (Hg l.length)):=by
 unfold Hq;rw[List.drop_take];cases lo<;>cases hi<;>simp
theorem b6{us:BW A4}(r:Aa h C Y us.toList)(lo hi:AD AX):Aa h C (Hq Y lo hi) (Hh us lo hi L).toList:=by
 have hl:Y.length=us.size:=by rw[r.length];simp
 rw[WS,bu3,hl];simp only[List.toList_toArray];have dr:∀(n:O){a:I V}{b:I A4},Aa h C a b->Aa h C (a.drop n) (b.drop n):=λn=>by induction n with
 |zero=>intro a b x;simpa using x|succ n ih=>
  intro a b x;cases a with
 |nil=>cases x;simp;exact rfl|cons v a=>refine Bv x ?_;(try clear x);intro u us Aw _ y;subst Aw;simpa using ih y
 have tk:∀(n:O){a:I V}{b:I A4},Aa h C a b->Aa h C (a.take n) (b.take n):=λn=>by induction n with
 |zero=>intro a b x;exact rfl|succ n ih=>
  intro a b x;cases a with
 |nil=>cases x;simp;exact rfl|cons v a=>refine Bv x ?_;(try clear x);intro u us B6 z y;subst B6;exact⟨u,_,rfl,z,ih y⟩
 exact tk _ (dr _ r)
theorem zf(x:Tx)(lo hi:AD (AX×EO)):(gE ⟨⟨x⟩⟩ lo hi L).filterMap ((⟨⟨x⟩⟩:U).cps[·]?)=Hq x (lo.map (·.1)) (hi.map (·.1)):=by
 unfold gE;have e:Rl (lo.map (·.1)) (hi.map (·.1)) 1 x.length=sliceRange (((lo.map (·.1)).elim 0 (Hg x.length):O):AX) (((hi.map (·.1)).elim x.length (Hg x.length):O):AX) 1:=by
  unfold Rl;cases lo<;>cases hi<;>simp[clipAt_cast]
 show(Rl (lo.map (·.1)) (hi.map (·.1)) 1 x.length).filterMap _=_;rw[e,bu4,bu5,WS]
set_option tactic.hygienic true in
theorem ON{i:AA}{o w:A4}(h:∀a b p,i≠.Slice a b L p):subscripted i A6 o w=operate [o,w] (PX o w):=by
 cases i<;>try rfl
 rename_i a b st p;cases st with
 |none=>exact absurd rfl (h _ _ _)|some _=>rfl
section
theorem zg(x:Tx):(⟨⟨x⟩⟩:U).length=x.length:=rfl
set_option tactic.hygienic true in
theorem zh{o r:V}{w:A4}(g:Gd B F K A H C s)(ro:VR s.heap C o u)(rk:VR s.heap C k w)(h:Zw o k H=.ok (.v r) A7)(hu:∀i N,o=.ref i->AL H.h i≠G (.B3 N))(value i:AA)(hs:∀a b p,i≠.Slice a b L p):Ae B F K A A7 C s (tK value i u w) (RV r):=by
 revert ro;apply Nw h
 . intro x h ro;revert rk;apply Cv h Ac;intro j h rk;refine A0.Be h λhc h=>?_;refine xA (MR h) ?_;intro AP BJ;clear h hu;subst BJ;cases hx:Q2 x j with
 |none=>rw[hx]at AP;exact(AF AP).elim|some y=>
     rw[hx]at AP;apply Br AP;intro A2 E kk;refine AC (b5 hx) ?_;intro m e1 e2;refine xE ro ?_;(try clear ro);intro t BP;subst BP;refine xE rk ?_;(try clear rk);intro t' Bp;subst Bp;have hm:=WR (B1 hc);refine Km (PZ s _ t) bu6.lookup (P.getItem_str (i:=j) (c:=y) (by simp only[bu7,gF];omega) ?_ ?_) (ON hs);. rw[zg,e1];simpa using e2
     . exact kk _ C _ (g.tok _) (Nx.refl ..) ⟨_,rfl⟩
 intro h;apply jN h
 . intro c Y h ro;revert ro;apply GP h Ac;intro h ro;revert rk;apply Cv h Ac;intro j h rk;refine A0.Be h λhc h=>?_;refine xA (MR h) ?_;intro AP Bg;clear h hu;subst Bg;intro A2 E kk;refine AC (b5 AP) ?_;intro m e1 e2;refine Kr ro ?_;(try clear ro);intro a o us n Bu e tg EJ hd vr;subst Bu;refine xE rk ?_;(try clear rk);intro t' C9;subst C9;refine xA (tg.2 rfl) ?_;intro Md Me;have ho:o={cls:=.type "tuple",data:=.seq us n}:=by obtain⟨c1,c2,c3,c4⟩:=o;simp only at EJ hd Md Me;rw[EJ,hd,Md,Me];rfl
   have hm:=WR (B1 hc);refine AC (vr.get e2) ?_;intro y ey ry;have Ch:Y.length=us.size:=by rw[vr.length];simp
   rw[Ch]at e1;refine Km ⟨o,e,EJ⟩ PySem.F.slot_tuple_getitem.lookup (P.getItem_tuple (n:=n) (by rw[ho]at e;exact e) (by omega) (by omega) e1 (by simpa using ey) ?_) (ON hs);exact kk _ C _ g (Nx.refl ..) ry
 intro h;revert hu;apply EH h Ac;intro i' h hu ro;refine A0.Bx h λob hl h=>?_;revert hl;apply Jy h
 . intro Y h hl;refine AC ro ?_;(try clear ro);intro a ha Cn;subst Cn;refine AC (g.obj hl ha) ?_;intro us hp vr;have Ch:Y.length=us.size:=by rw[vr.length];simp
   revert rk;apply Pt h
   . intro j h rk;refine A0.Be h λhc h=>?_;refine xA (MR h) ?_;intro AP D8;clear h hl hu;subst D8;intro A2 E kk;refine xE rk ?_;(try clear rk);intro t' DW;subst DW;have hm:=WR (B1 hc);refine AC (b5 AP) ?_;intro m e1 e2;refine AC (vr.get e2) ?_;intro y ey ry;have QT:us[m]?=G y:=by simpa using ey
     have CF:m<us.size:=(gG.mp QT).1;have main:AH (AQ B.prog B.w) A (PX (.ref a) (.int j t')) A2 E s:=by
      unfold gD at e1;by_cases hj:j<0
      . simp only[hj,Kk]at e1;split at e1
        . rename_i hb;simp only[D6,PR]at hb;injection e1 with e1;refine wpAny_getItem_list_neg hp.isList hj (by omega) (by omega) ?_ (kk _ C _ g (Nx.refl ..) ry);rw[<-Ch,e1];exact QT
        . exact(BE e1).elim
      . simp only[hj,Kj]at e1;split at e1
        . injection e1 with e1;refine tL hp.isList (by omega) (by omega) ?_ (kk _ C _ g (Nx.refl ..) ry);rw[e1];exact QT
        . exact(BE e1).elim
     exact Km hp.isList.typeIs P_.lookup main (ON hs)
   . intro h;apply wO h Ac;intro m h rk;refine A0.Be h λhc h=>?_;apply B5 h;intro A2 E kk;have h1:=B1 hc;have h2:=B1 (Ak hc);have h3:=Ak (Ak hc);refine Bv rk ?_;(try clear rk);intro AG t' Ec x1 x2;subst Ec;have h1:=CD h1;have h2:=Dj h2;have CF:AG.toNat<Y.length:=by(with_reducible exact Mine.vF (by assumption) (by assumption) (by assumption))
     have e2:Y[AG.toNat]?=G Y[AG.toNat]:=Hi CF;refine AC (vr.get e2) ?_;intro y ey ry;have QT:us[AG.toNat]?=G y:=by simpa using ey
     refine Km hp.isList.typeIs P_.lookup (tL hp.isList x1 (by omega) QT (kk _ C _ g (Nx.refl ..) ?_)) (ON hs);have hm:=(Bq.mp h3) _ (gH CF);revert ry hm;cases Y[AG.toNat]<;>intro ry hm<;>first|(exact(E4 hm).elim;done)|skip
     refine xE ry ?_;(try clear ry);intro t FE;clear ey QT;subst FE;refine AC (ID.mp hm) ?_;intro z hz hq;rw[Eb]at hq;exact⟨_,t,rfl,hq▸hz⟩
 intro h;apply SU h
 . intro N h hl;refine A0.Be h λhc h=>?_;refine xA (MR h) ?_;intro AP GB;clear h hu;subst GB;intro A2 E kk;exact Km (WN g hl ro) bu8.lookup (l3 g hl ro rk hc AP _ _ kk) (ON hs)
 intro h;apply SV h Ac;intro N h hl;exact absurd hl (hu _ _ rfl)
end
theorem DR.mem{key:T->V}{l:I (T×A4)}(d:DR key h C N l):∀p∈N,∃k,p.1=key k/\k∈l.map (·.1):=DR.ind (P:=λN l=>∀p∈N,∃k,p.1=key k/\k∈l.map (·.1)) (λ_ m=>nomatch m) (λk _ _ _ _ _ _ ih p hp=>(Ck.mp hp).elim (λz=>⟨k,congrArg bu9 z,Cp⟩) λz=>AC (ih p z) λk' e' m=>⟨k',e',Cq _ m⟩) d
theorem lN{p:V×V}{l:I (V×V)}{x:V}:D0 (p::l) x=match G7 p.1 x with|some M=>G p.2|_=>D0 l x:=rfl
theorem b7[DecidableEq T]{key:T->V}(hk:∀a b,G7 (key a) (key b)=G (decide (a=b))){k:T}:(∀p∈N,∃k,p.1=key k)->(D0 N (key k)=L↔∀p∈N,p.1≠key k):=by induction N with
 |nil=>exactλ_=>⟨λ_ _ m=>(nomatch m),λ_=>rfl⟩|cons e N ih=>
 intro h;have ih:=ih λp m=>h p (Cq _ m);refine xE (h e Cp) ?_;intro k' e1;rw[lN,e1,hk];by_cases q:k'=k
 . rw[Rf q];exact⟨λz=>(nomatch z),λz=>(z e Cp (by rw[e1,q])).elim⟩
 . rw[Rg q];have Cc:key k'≠key k:=λz=>by have :=hk k' k;rw[z,hk,Rf rfl,Rg q]at this;(exfalso;cases this)
   exact ih.trans ⟨λa p m=>(Ck.mp m).elim (λz=>by rw[z,e1];exact Cc) (a p),λa p m=>a p (Cq _ m)⟩
theorem lO[DecidableEq T]{key:T->V}(hk:∀a b,G7 (key a) (key b)=G (decide (a=b))){k:T}:(∀p∈N,∃k,p.1=key k)->D0 N (key k)=G v->(key k,v)∈N:=by induction N with
 |nil=>exactλ_ e=>(AF e).elim|cons e N ih=>
 intro h q;refine xE (h e Cp) ?_;intro k' e1;rw[lN,e1,hk]at q;by_cases z:k'=k
 . rw[Rf z]at q;have q:G e.2=G v:=q;rw[<-z,<-e1,<-Bl q];exact Cp
 . rw[Rg z]at q;exact Cq _ (ih (λp m=>h p (Cq _ m)) q)
theorem DR.uniq[DecidableEq T]{key:T->V}(hk:∀a b,G7 (key a) (key b)=G (decide (a=b))){k:T}{l:I (T×A4)}(d:DR key h C N l):(l.map (·.1)).Nodup->(key k,v)∈N->(key k,v')∈N->v=v':=DR.ind (P:=λN l=>(l.map (·.1)).Nodup->(key k,v)∈N->(key k,v')∈N->v=v') (λ_ m=>nomatch m) (λk' _ u N r _ y ih hn m m'=>by
 refine xA (ET.mp hn) ?_;intro h1 h2;have inj:∀{a b:T},key a=key b->a=b:=λ{a b}z=>by have :=hk a b;rw[z,hk]at this;simpa using this
 rcases Ck.mp m with z|z<;>rcases Ck.mp m' with z'|z';. rw[<-z']at z;injection z
 . exfalso;refine AC (DR.mem y _ z') ?_;intro k2 e2 m2;have a1:k2=k:=inj e2.symm;have a2:k'=k:=inj (bv0.mp z).1.symm;exact h1 (by rw[a2,<-a1];exact m2)
 . exfalso;refine AC (DR.mem y _ z) ?_;intro k2 e2 m2;have a1:k2=k:=inj e2.symm;have a2:k'=k:=inj (bv0.mp z').1.symm;exact h1 (by rw[a2,<-a1];exact m2)
 . exact ih h2 z z') d
theorem lP[DecidableEq T]{key:T->V}(hk:∀a b,G7 (key a) (key b)=G (decide (a=b))){l:I (T×A4)}(r:DR key h C BN l)(hn:(l.map (·.1)).Nodup)(p:BN.Perm N)(k:T):D0 N (key k)=D0 BN (key k):=by
 have a':∀p∈BN,∃k,p.1=key k:=λq m=>let⟨k,e,_⟩:=r.mem q m;⟨k,e⟩;have a:∀p∈N,∃k,p.1=key k:=λq m=>a' q (p.mem_iff.mpr m);cases q:D0 N (key k)with
 |none=>
  have :=(b7 hk a).mp q;exact((b7 hk a').mpr λx m=>this x (p.mem_iff.mp m)).symm|some v=>
  have m:=lO hk a q;have m':=p.mem_iff.mpr m;cases q':D0 BN (key k)with
 |none=>exact absurd rfl ((b7 hk a').mp q' _ m')|some v'=>rw[DR.uniq hk r hn m' (lO hk a' q')]
theorem lQ(r:Dm prog w h C a BN)(p:BN.Perm N)(hk:Dd N k=M):Dd BN k=M:=by cases N with
 |nil=>rw[List.perm_nil.mp p];exact hk|cons e N=>
 have hm:e∈BN:=p.mem_iff.mpr Cp;obtain⟨e0,e2⟩:=e;cases BN with
 |nil=>simp at hm|cons d ds=>
 obtain⟨d0,d2⟩:=d;rcases r with BP|Bp;refine AC BP ?_;(try clear BP);intro Az _ hd;rotate_left;refine AC Bp ?_;(try clear Bp);intro Az _ hd;rotate_left
 . refine AC (hd.mem _ hm) ?_;intro k1 q1 _;refine AC (hd.mem _ Cp) ?_;intro k2 q2 _;simp only at q1 q2;subst q1;subst q2;cases k<;>first|exact hk|cases hk
 . refine AC (hd.mem _ hm) ?_;intro k1 q1 _;refine AC (hd.mem _ Cp) ?_;intro k2 q2 _;simp only at q1 q2;subst q1;subst q2;cases k<;>first|exact hk|cases hk
section
set_option tactic.hygienic true in
theorem Gd.open(g:Gd B F K A H C s)(h:AL H.h i=G (.B3 N)):∃BN,Vz BN N/\Gd B F K A (H.set i (.dict BN)) C s/\AL (H.set i (.dict BN)).h i=G (.dict BN)/\(∀k,Dd N k=M->Dd BN k=M)/\(∀k,Dd N k=M->D0 N k=D0 BN k):=by
 refine ur (g.objs i _ h) ?_;intro a ha BN p r;refine⟨BN,p,?_,ML h,λk hk=>lQ r p.1 hk,λk hk=>?_⟩
 . have x:Nx F.D F.A_ s.heap s.heap C C:=Nx.refl ..;refine⟨g.kinds,g.len,g.nodup,g.fresh,g.live,g.D5,g.D2,λj o e=>?_,g.env,g.base,g.os,g.gens,g.frames,g.DP,g.Cz,g.mods,g.handled,g.depth,g.units⟩;rcases aB e with Bg|Bu;refine xA Bg ?_;(try clear Bg);intro D8 DW;subst D8;subst DW;rotate_left;refine xA Bu ?_;(try clear Bu);intro _ e;rotate_left;. exact⟨a,ha,r⟩
   . exact g.objs j o e
 . have KG:=lQ r p.1 hk;replace p:=p.1;cases BN with
 |nil=>rw[List.nil_perm.mp p]|cons d ds=>
   obtain⟨d0,d2⟩:=d;rcases r with C9|Cn;refine AC C9 ?_;(try clear C9);intro Az hm hd;rotate_left;refine AC Cn ?_;(try clear Cn);intro Az hm hd;rotate_left
   . refine AC (hd.mem _ Cp) ?_;intro k2 q2 _;simp only at q2;subst q2;cases k<;>first|(first|exact(E4 KG).elim|cases KG)|skip
     rename_i x;exact lP WK hd (Ut hm) p ⟨⟨x⟩⟩
   . refine AC (hd.mem _ Cp) ?_;intro k2 q2 _;simp only at q2;subst q2;cases k<;>first|(first|exact(E4 KG).elim|cases KG)|skip
     rename_i x;exact lP ak hd (Ut hm) p x
theorem Gd.close(h:AL H.h i=G (.B3 N))(p:Vz BN N)(g:Gd B F K A (H.set i (.dict BN)) C s):Gd B F K A H C s:=by
 refine⟨g.kinds,g.len,g.nodup,g.fresh,g.live,g.D5,g.D2,λj o e=>?_,g.env,g.base,g.os,g.gens,g.frames,g.DP,g.Cz,g.mods,g.handled,g.depth,g.units⟩;by_cases q:j=i
 . subst q;rw[h]at e;injection e with e;subst e;refine AC (g.objs j _ (ML h)) ?_;intro a ha r;exact⟨a,ha,BN,p,r⟩
 . exact g.objs j o (by show AL (putN H.h i _) j=_;rw[MM q];exact e)
theorem zi(g:Gd B F K A H C s)(hd:AL H.h i=G (.B3 N))(ru:VR s.heap C (.ref i) u)(rk:VR s.heap C k ku)(hk:Dd N k=M)(hv:D0 N k=G v):s.TypeIs u "dict"/\Ae B F K A H C s (PX u ku) (RV v):=by
 refine S2 (g.open hd) ?_;intro BN p g' Q k' l';have Bh:=(l' k hk)▸hv;refine⟨?_,λA2 E kk=>l3 g' Q ru rk (k' k hk) Bh A2 E λw AT s' AU Al BB=>kk w AT s' (Gd.close hd p AU) Al BB⟩;exact WN g' Q ru
theorem zj(g:Gd B F K A H C s)(hd:AL H.h i=G (.B3 N))(ru:VR s.heap C (.ref i) u)(rk:VR s.heap C k ku)(hk:Dd N k=M):Ae B F K A H C s (D_ .In ku u) (Dn (.bool (D0 N k).isSome)):=by
 refine S2 (g.open hd) ?_;intro BN p g' Q k' l';rw[l' k hk];exactλA2 E kk=>l5 g' Q ru rk (k' k hk) A2 E λw AT s' AU Al BB=>kk w AT s' (Gd.close hd p AU) Al BB
theorem zk(g:Gd B F K A H C s)(hd:AL H.h i=G (.B3 N))(ru:VR s.heap C (.ref i) u)(rk:VR s.heap C k ku)(hk:Dd N k=M):Ae B F K A H C s (D_ .NotIn ku u) (Dn (.bool (!(D0 N k).isSome))):=by
 refine S2 (g.open hd) ?_;intro BN p g' Q k' l';rw[l' k hk];exactλA2 E kk=>l6 g' Q ru rk (k' k hk) A2 E λw AT s' AU Al BB=>kk w AT s' (Gd.close hd p AU) Al BB
theorem zl(A9:C5 B A3 n){o i:AA}{ov:V}(hs:∀a b p,i≠.Slice a b L p)(AP:ev A3 n K (.e o) H=.ok (.v ov) AB)(h:((ev A3 n K (.e i) AB).V λk H=>Zw ov k H)=.ok (.v v) A7)(g:Gd B F K A H C s):Ae B F K A A7 C s (eval (.Subscript o i pos) F.env) (RV v):=by
 refine A0.Cg h ?_;clear h;intro kv Bc BD h;intro A2 E kk;refine YJ (A9.e AP g _ _ λu AZ AJ AN Ab Aq=>A9.e BD AN _ _ λw Au Ai AU Al BB=>?_);have ro:=Aq.nx Al;have xx:=Ab.trans Al;by_cases hu:∃j N,ov=.ref j/\AL Bc.h j=G (.B3 N)
 . refine EW hu ?_;(try clear hu);intro j N B6 hj;subst B6;refine A0.Bx (show ji j kv Bc=_ from h) ?_;intro o' e' h;rw[hj]at e';injection e' with e';subst e';refine A0.Be h ?_;clear h;intro hc h;refine A0.Bx h ?_;clear h;intro c C3 h;refine xA (FG h) ?_;intro q BJ;subst BJ;injection q with q;subst q;refine xA (zi AU hj ro BB hc C3) ?_;intro hT d;exact Km hT bu8.lookup (d _ _ λy BS Ax Ao B8 BQ=>kk y BS Ax Ao (xx.trans B8) BQ) (ON hs)
 . exact zh AU ro BB h (λj N e z=>hu ⟨j,N,e,z⟩) o i hs _ _ λy BS Ax Ao B8 BQ=>kk y BS Ax Ao (xx.trans B8) BQ
end
section
theorem part_of{a:AD AX}(r:VR h C v u)(e:Sl v=G a):∃p:AD (AX×EO),u=V0 p/\a=p.map (·.1):=by
 revert r;apply ZZ e
 . intro e r;cases r;apply Br e;exact⟨L,rfl,rfl⟩
 intro e;apply Cv e AF;intro i e r;refine Ce e AF λ_ e=>?_;refine xE r ?_;(try clear r);intro t Aw;subst Aw;apply Br e;exact⟨G (i,t),rfl,rfl⟩
theorem WT(p:AD (AX×EO)):IsPart (V0 p) (p.map (·.1)):=by cases p with
 |none=>exact .none|some p=>exact .int _ _
set_option tactic.hygienic true in
theorem zm{o lo hi r:V}{p q:AD (AX×EO)}{sl:A8}(g:Gd B F K A H C s)(ro:VR s.heap C o u)(hl:Sl lo=G (p.map (·.1)))(hh:Sl hi=G (q.map (·.1)))(h:Zx o lo hi H=.ok (.v r) A7)(value l:AA)(hs:s.heap.IsSlice sl p q L)(lR:∀{o i:A4},subscripted l A6 o i=operate [i,o] (PX o i)):Ae B F K A A7 C s (tK value l u (.ref sl)) (RV r):=by
 intro A2 E kk;refine A0.Bx h ?_;clear h;intro a ha h;refine A0.Bx h ?_;clear h;intro b hb h;rw[hl]at ha;injection ha with ha;subst ha;rw[hh]at hb;injection hb with hb;subst hb;have lst:A0.lst H.h o (λ_ Y=>A0.iff (CH Y) (FW (H.new (.list (Hq Y (p.map (·.1)) (q.map (·.1)))))))=.ok (.v r) A7->AH (AQ B.prog B.w) A (tK value l u (.ref sl)) A2 E s:=λh=>by
  revert ro;apply A0.MQ h;clear h;intro i Y hx h ro;refine A0.Be h ?_;clear h;intro hf h;refine xA (FG h) ?_;intro z B6;subst B6;injection z with z;subst z;refine AC ro ?_;(try clear ro);intro x JL BJ;subst BJ;refine AC (g.obj hx JL) ?_;intro us hp vr;have Ch:us.size<=100000:=by have :=Ee hf;have e:=vr.length;simp at e;(with_reducible exact Mine.yS (by assumption) (by assumption))
  refine Km hp.isList.typeIs P_.lookup (tM hp.isList hs (WT p) (WT q) gI (by simp) ?_ (B4 Ch (by decide))) lR;have kp:∀b o,s.heap.get? b=G o->(s.heap.push {cls:=.type "list",data:=.seq (Hh us (p.map (·.1)) (q.map (·.1)) L)}).get? b=G o:=λb o e=>C1 _ e;have hg:=CY s.heap (o:={cls:=.type "list",data:=.seq (Hh us (p.map (·.1)) (q.map (·.1)) L)}) rfl;refine kk _ (C++[s.heap.objs.size]) _ (g.new (tk:=s.toks) kp (GD _) ⟨_,hg⟩ (o:=.list (Hq Y (p.map (·.1)) (q.map (·.1)))) ⟨_,⟨_,hg⟩,?_⟩) (Nx.add [_] kp λb hb=>by rw[CI.mp hb];exact GD _) ⟨_,?_,rfl⟩;. exact(b6 vr _ _).mono λb o e _=>kp b o e
  . rw[<-g.len];simp
 cases o with
 |str x=>
  refine A0.Be h ?_;clear h;intro hf h;refine xA (FG h) ?_;intro z BP;subst BP;injection z with z;subst z;refine xE ro ?_;(try clear ro);intro t Bp;subst Bp;refine Km (PZ s _ t) bu6.lookup (wpAny_getItem_str_slice hs rfl ?_) lR;unfold sliceMade;have e:=zf x p q;split
  . rename_i hw;simp only[D6,Rc]at hw;have hx:Hq x (p.map (·.1)) (q.map (·.1))=x:=by
     have Eg:(gE ⟨⟨x⟩⟩ p q L).length=x.length:=hw.2;rw[<-e];have h2:=e;skip;have e3:Rl (p.map (·.1)) (q.map (·.1)) 1 x.length=sliceRange (((p.map (·.1)).elim 0 (Hg x.length):O):AX) (((q.map (·.1)).elim x.length (Hg x.length):O):AX) 1:=by
       unfold Rl;cases p<;>cases q<;>simp[clipAt_cast]
     change(Rl (p.map (·.1)) (q.map (·.1)) 1 x.length).length=x.length at Eg;show(Rl (p.map (·.1)) (q.map (·.1)) 1 x.length).filterMap _=_;rw[e3,bu4]at Eg ⊢;rw[bu5];simp only[Jl,bv1]at Eg;replace Eg:_=Rm x:=Eg;have hb:(q.map (·.1)).elim x.length (Hg x.length)<=x.length:=by cases q<;>first|exact DE _|exact ze
     have ha:(p.map (·.1)).elim 0 (Hg x.length)=0\/x.length=0:=by
       have e1:=Eg;have e2:=hb;revert e1 e2;generalize(gJ (λx=>x.1) p).elim 0 (Hg x.length)=P;generalize(gJ (λx=>x.1) q).elim x.length (Hg x.length)=AS;intro e1 e2;have e3:AS-P=x.length:=e1;exact P.eq_zero_or_pos.imp_right λz=>x.length.eq_zero_or_pos.resolve_right λy=>Ix _ (Iw (e3▸Nat.sub_lt (Iw y (e3▸gK AS P)) z) e2)
     rcases ha with ha|ha;. rw[ha]at Eg ⊢;rw[Eg];simp
     . have :x=[]:=List.length_eq_zero_iff.mp ha;subst this;simp
    show A2 (.str ⟨⟨x⟩⟩ t) s;exact kk _ C _ g (Nx.refl ..) ⟨t,by rw[hx]⟩
  . show(sy ⟨((gE ⟨⟨x⟩⟩ p q L).filterMap ((⟨⟨x⟩⟩:U).cps[·]?)).toArray⟩).post A2 s;rw[e];have az:(Hq x (p.map (·.1)) (q.map (·.1))).length<=x.length:=by rw[WS,Pa];exact B4 (sO _ _) (by rw[V1];exact gK _ _)
    have :=Ee hf;exact⟨B4 (show(Hq x (p.map (·.1)) (q.map (·.1))).length<=100000 by(with_reducible exact B4 (by assumption) (by assumption))) (by decide),kk _ C _ (g.tok _) (Nx.refl ..) ⟨_,rfl⟩⟩|_=>exact lst h
theorem zn(A9:C5 B A3 n){o:AA}{lo hi:AD AA}{sp:BA}{ov:V}(AP:ev A3 n K (.e o) H=.ok (.v ov) AB)(h:((oS lo (A0.ok (.v .none) AB) λx=>ev A3 n K (.e x) AB).V λa H=>(oS hi (A0.ok (.v .none) H) λx=>ev A3 n K (.e x) H).V λb H=>Zx ov a b H)=.ok (.v v) A7)(g:Gd B F K A H C s):Ae B F K A A7 C s (eval (.Subscript o (.Slice lo hi L sp) pos) F.env) (RV v):=by
 refine A0.Cg h ?_;clear h;intro bS9 Bc BD h;refine A0.Cg h ?_;clear h;intro bT0 GW C3 h;have Hu:∀{x:AD AA}{H A7:Mine.St}{v:V}{C:I A8}{s:AR},(oS x (A0.ok (.v .none) H) λx=>ev A3 n K (.e x) H)=.ok (.v v) A7->Gd B F K A H C s->Ae B F K A A7 C s (evalPart x F.env) (RV v):=λ{x H A7 v C s}h g=>by cases x with
 |none=>
   refine xA (FG h) ?_;intro q Bg;subst Bg;injection q with q;subst q;exact CJ.pure g rfl|some x=>exact A9.e h g
 intro A2 E kk;refine YJ (A9.e AP g _ _ λu AZ AJ AN Ab Aq=>tN (Hu BD AN _ _ λa Au Ai AU Al BB=>Hu C3 AU _ _ λb BS Ax Ao B8 BQ=>?_));skip;refine AW ?_;have h0:=h;refine A0.Bx h0 ?_;clear h0;intro a' Fp h0;refine A0.Bx h0 ?_;intro b' GX _;refine AC (part_of (BB.nx B8) Fp) ?_;intro p Bu C9;subst Bu;subst C9;refine AC (part_of BQ GX) ?_;intro q Cn D8;subst Cn;subst D8;have kp:∀b o,Ax.heap.get? b=G o->(Ax.heap.push {cls:=.type "slice",data:=.fields #[V0 p,V0 q,.none]}).get? b=G o:=λb o e=>C1 _ e;have D':Nx F.D ([]:I A8) Ax.heap (Ax.heap.push {cls:=.type "slice",data:=.fields #[V0 p,V0 q,.none]}) BS BS:=Nx.ext kp;have xx:=Ab.trans (Al.trans (B8.trans D'));refine zm (Ao.ext (tk:=Ax.toks) kp) ((Aq.nx (Al.trans B8)).nx D') Fp GX h o _ ⟨_,CY _ rfl,rfl,rfl⟩ rfl _ _ λy QP Ef Co EK Ic=>kk y QP Ef Co (xx.trans EK) Ic
end
section
open PySem.SeqAt
theorem zo{x:Tx}(h:Lx ⟨⟨x⟩⟩ t=Lx ⟨⟨y⟩⟩ t'):x=y:=by injection h with h _;injection h with h;injection h
noncomputable def lS(h:BK)(C:I A8)(f:V->V->AD AK):Prop:=∀{v v':V}{u:A4}{b:AK},VR h C v u->VR h C v' u->f v v'=G b->b=M
theorem zp{x y:AX}(h:V2 x t=V2 y t'):x=y:=by injection h
theorem lT(h:Q1 v v'=G b){P:V->V->AK->Prop}(i:∀x y,P (.int x) (.int y) (decide (x=y)))(s:∀x y,P (.str x) (.str y) (CU x y)):P v v' b:=by
 apply Pt h;. intro x h;apply Cv h AF;intro y h;exact Br h (i x y)
 . intro h;apply Dc h AF;intro x h;apply Dc h AF;intro y h;exact Br h (s x y)
theorem zq(h:G7 v v'=G b){P:V->V->AK->Prop}(i:∀x y,P (.int x) (.int y) (decide (x=y)))(s:∀x y,P (.str x) (.str y) (CU x y))(t:∀x y b,Jz Q1 x y=G b->P (.tup L x) (.tup L y) b):P v v' b:=by
 apply Pt h;. intro x h;apply Cv h AF;intro y h;exact Br h (i x y)
 intro h;apply Nw h;. intro x h;apply Dc h AF;intro y h;exact Br h (s x y)
 intro h;apply IL h AF;intro c x h;apply GP h AF;intro h;apply IL h AF;intro c' y h;apply GP h AF;intro h;exact t x y b h
theorem lU{f:V->V->AD AK}{P:I V->I V->AK->Prop}(n:P [] [] M)(c:∀x y Y ys p q,f x y=G p->P Y ys q->P (x::Y) (y::ys) (p&&q))(l:∀y ys,P [] (y::ys) A6)(r:∀x Y,P (x::Y) [] A6):∀{ys:I V}{b:AK},Jz f Y ys=G b->P Y ys b:=by induction Y with
 |nil=>intro ys b h;cases ys with
  |nil=>exact Br h n|cons y ys=>exact Br h (l y ys)
 |cons x Y ih=>intro ys b h;cases ys with
 |nil=>exact Br h (r x Y)|cons y ys=>exact BI (x:=f x y) h λp h1 h=>BI h λq h2 h=>Br h (c x y Y ys p q h1 (ih h2))
theorem zr{f:V->V->AD AK}(hf:lS h C f){v v':I V}{u:I A4}(r:Aa h C v u)(r':Aa h C v' u)(q:Jz f v v'=G b):b=M:=by
 refine lU (P:=λv v' b=>∀u,Aa h C v u->Aa h C v' u->b=M) (λ_ _ _=>rfl) (λx y Y ys p q h1 ih u r r'=>?_) (λy ys u r r'=>Bv r' λ_ _ e _ _=>by rw[show u=[]from r]at e;(exfalso;cases e)) (λy ys u r' r=>Bv r' λ_ _ e _ _=>by rw[show u=[]from r]at e;(exfalso;cases e)) q u r r';refine Bv r ?_;clear r;intro w us e a rs;subst e;refine Bv r' ?_;clear r';intro w' Dw e a' Fs;injection e with e1 e2;subst e1;subst e2;rw[hf a a' h1,ih _ rs Fs];rfl
theorem zs:lS h C Q1:=λ{v v' u b}r r' q=>lT q (P:=λv v' b=>VR h C v u->VR h C v' u->b=M) (λ_ _ r r'=>xE r λ_ e=>xE r' λ_ e'=>Rf (zp (e.symm.trans e'))) (λ_ _ r r'=>xE r λ_ e=>xE r' λ_ e'=>Eb.mpr (zo (e.symm.trans e'))) r r'
theorem lV{f:V->V->AD AK}(q:Jz f Y ys=G b):∃e:O->AK,(∀(j:O)(x y:V),Y[j]?=G x->ys[j]?=G y->f x y=G (e j))/\b=((DT (min Y.length ys.length)).all e&&Y.length==ys.length):=by
 refine lU (P:=λY ys b=>∃e:O->AK,(∀(j:O)(x y:V),Y[j]?=G x->ys[j]?=G y->f x y=G (e j))/\b=((DT (min Y.length ys.length)).all e&&Y.length==ys.length)) ⟨λ_=>M,λ_ _ _ h=>(AF h).elim,rfl⟩ (λx y Y ys p q h1 ih=>?_) (λy ys=>⟨λ_=>M,λ_ _ _ h=>(AF h).elim,by simp⟩) (λx Y=>⟨λ_=>M,λ_ _ _ _ h=>(AF h).elim,by simp⟩) q;refine AC ih ?_;clear ih;intro e he hb;refine⟨λj=>match j with|0=>p|j+1=>e j,λj a c ha hc=>?_,?_⟩;. cases j with
 |zero=>exact Br ha (P:=λa=>f a c=G p) (Br hc (P:=λc=>f x c=G p) h1)|succ j=>exact he j a c ha hc
 . rw[hb];simp only[Uv,Nat.succ_min_succ,List.range_succ_eq_map,sj,List.all_map];have :((Y.length+1==ys.length+1):AK)=(Y.length==ys.length):=by simp
   rw[this,Bool.and_assoc];rfl
theorem b8(r:VR s.heap C v u)(r':VR s.heap C v' u')(q:Q1 v v'=G b):Rn A s u u' b:=by
 refine lT q (P:=λv v' b=>VR s.heap C v u->VR s.heap C v' u'->Rn A s u u' b) (λa c r r'=>?_) (λa c r r'=>?_) r r'
 . refine xE r ?_;clear r;intro t q;subst q;refine xE r' ?_;clear r';intro t' q;subst q;exact(tO a c t t').at A s
 . refine xE r ?_;clear r;intro t q;subst q;refine xE r' ?_;clear r';intro t' q;subst q;have e:(a==c)=CU a c:=TJ;rw[<-e];exact(bv2 ⟨⟨a⟩⟩ ⟨⟨c⟩⟩ t t').at A s
theorem lW{f:V->V->AD AK}(hf:∀{v v':V}{u u':A4}{b:AK},VR s.heap C v u->VR s.heap C v' u'->f v v'=G b->Rn A s u u' b){us Dw:BW A4}(rs:Aa s.heap C Y us.toList)(Fs:Aa s.heap C ys Dw.toList){e:O->AK}(he:∀(j:O)(x y:V),Y[j]?=G x->ys[j]?=G y->f x y=G (e j)):∀j(h1:j<us.size)(h2:j<Dw.size),Rn A s us[j] Dw[j] (e j):=λj h1 h2=>by
 have l1:Y.length=us.size:=by rw[rs.length];simp
 have l2:ys.length=Dw.size:=by rw[Fs.length];simp
 have hx:Y[j]?=G Y[j]:=Hi (by(with_reducible exact Mine.yQ (by assumption) (by assumption)));have hy:ys[j]?=G ys[j]:=Hi (by(with_reducible exact Mine.yQ (by assumption) (by assumption)));refine AC (rs.get hx) ?_;intro w ew LB;refine AC (Fs.get hy) ?_;intro w' zt zu;have e1:us[j]=w:=by
  have :us[j]?=G w:=by simpa using ew
  rw[Ro h1]at this;injection this
 have e2:Dw[j]=w':=by
  have :Dw[j]?=G w':=by simpa using zt
  rw[Ro h2]at this;injection this
 rw[e1,e2];exact hf LB zu (he j _ _ hx hy)
theorem zv(hu:A.units+2<IE)(r:VR s.heap C v u)(r':VR s.heap C v' u')(q:G7 v v'=G b):Rn A s u u' b:=by
 refine zq q (P:=λv v' b=>VR s.heap C v u->VR s.heap C v' u'->Rn A s u u' b) (λa c r r'=>b8 r r' rfl) (λa c r r'=>b8 r r' rfl) (λY ys b q r r'=>?_) r r';refine Bv (QH r) ?_;clear r;intro l us C9 ht rs;subst C9;refine Bv (QH r') ?_;clear r';intro l' Dw Cn b9 Fs;subst Cn;by_cases hl:l=l'
 . subst hl;have :Dw=us:=by
    refine Pm ht ?_;clear ht;intro o e _ n d;refine Pm b9 ?_;clear b9;intro o' e' _ n' d';rw[e]at e';injection e' with e';subst e';rw[d]at d';injection d' with d' _;exact d'.symm
   subst this;rw[zr zs rs Fs q];exact EqAt.same _
 . refine AC (lV q) ?_;intro e he hb;have l1:Y.length=us.size:=by rw[rs.length];simp
   have l2:ys.length=Dw.size:=by rw[Fs.length];simp
   rw[hb,l1,l2];exact EqAt.of_refs hl (RcAt.tuples (e:=e) ht b9 (by(with_reducible exact H' (H2 _ _) (by assumption))) (lW b8 rs Fs he))
theorem lX(hu:A.units+4<IE){us Dw:BW A4}{l l':A8}(hl:s.heap.IsList l us)(Ib:s.heap.IsList l' Dw)(rs:Aa s.heap C Y us.toList)(Fs:Aa s.heap C ys Dw.toList)(q:Zc Y ys=G b)(h:A2 (.bool b) s):AH (AQ prog w) A (D_ .Eq (.ref l) (.ref l')) A2 E s:=by
 refine AC (lV q) ?_;intro e he hb;have l1:Y.length=us.size:=by rw[rs.length];simp
 have l2:ys.length=Dw.size:=by rw[Fs.length];simp
 by_cases hz:us.size=Dw.size
 . refine eq_listAt (e:=e) hl Ib hz (by(with_reducible exact H' (H2 _ _) (by assumption))) (lW (A:=A.in1) (zv (by show A.units+1+2<IE;(with_reducible exact Mine.vd (by assumption)))) rs Fs he) ?_;have :b=(DT us.size).all e:=by rw[hb,l1,l2,hz];simp
   rw[<-this];exact h
 . refine eq_list_lengthsAt hl Ib (by simpa using hz) (by(with_reducible exact H' (H2 _ _) (by assumption))) ?_;have :b=A6:=by rw[hb,l1,l2];simp[hz]
   rw[<-this];exact h
end
section
open PySem.SeqAt
section
theorem Gd.listAt(g:Gd B F K A H C s)(r:VR s.heap C (.ref i) u)(h:AL H.h i=G (.list Y)):∃a us,u=.ref a/\s.heap.PlainList a us/\Aa s.heap C Y us.toList:=by
 refine AC r ?_;(try clear r);intro a e Aw;subst Aw;refine AC (g.obj h e) ?_;intro us p v;exact⟨a,us,rfl,p,v⟩
theorem Gd.lY(g:Gd B F K A H C s){Y:I Sg}(r:VR s.heap C (.ref i) u)(h:AL H.h i=G (.rows m Y)):∃a us,u=.ref a/\s.heap.PlainList a us/\Aa s.heap C (DO Y) us.toList/\(DO Y).length+m<=Dl:=by
 refine AC r ?_;(try clear r);intro a e B6;subst B6;refine CZ (g.obj h e) ?_;intro us p v l;exact⟨a,us,rfl,p,v,l⟩
noncomputable def LC(x:Tx):A4->AK
 |.str z _=>CU z.cps.toList x|_=>A6
theorem zw{x:Tx}:∀{us:I A4}{r:AK},Aa h C Y us->O' Y (.str x)=G r->us.any (LC x)=r/\∀y∈us,∃z t,y=.str ⟨⟨z⟩⟩ t:=by induction Y with
 |nil=>intro us r e q;cases e;exact Br q (P:=λr=>[].any (LC x)=r/\∀y∈[],∃z t,y=Lx ⟨⟨z⟩⟩ t) ⟨rfl,λ_ m=>nomatch m⟩|cons y l ih=>
 intro us r e q;refine Aa.Sr e (P:=λus=>us.any (LC x)=r/\∀y∈us,∃z t,y=.str ⟨⟨z⟩⟩ t) ?_;clear e;intro u us ru rs;revert ru;apply Dc (v:=y) q AF;intro z q ru;have q:B' (O' l (.str x)) (λr=>G (CU z x||r))=G r:=q;refine BI q λr' q' q=>?_;refine xE ru ?_;clear ru;intro t e;subst e;refine xA (ih rs q') ?_;intro a b;refine Br q (P:=λr=>(Lx ⟨⟨z⟩⟩ t::us).any (LC x)=r/\∀y∈Lx ⟨⟨z⟩⟩ t::us,∃z t,y=.str ⟨⟨z⟩⟩ t) ⟨by rw[sQ,a];rfl,λy m=>(Ck.mp m).elim (λe=>⟨z,t,e⟩) (b y)⟩
theorem zx{r:AK}(h:O' Y v=G r):∃x,v=.str x:=by cases Y with
 |nil=>apply Dc (v:=v) h AF;intro x _;exact⟨x,rfl⟩|cons a l=>apply Dc (v:=a) h AF;intro z h;apply Dc (v:=v) h AF;intro x _;exact⟨x,rfl⟩
theorem lZ{x:Tx}{y:A4}(h:∃z t,y=.str ⟨⟨z⟩⟩ t):Rn A s y (.str ⟨⟨x⟩⟩ t) (LC x y):=by
 refine DA h ?_;(try clear h);intro z t' BP;subst BP;have :(z==x)=LC x (.str ⟨⟨z⟩⟩ t'):=TJ;rw[<-this];exact(bv2 ⟨⟨z⟩⟩ ⟨⟨x⟩⟩ t' t).at A s
theorem i2{f:AX->AX->AK}(h:Ve f v v'=G b){P:A4->A4->AK->Prop}(rv:VR s.heap C v u)(C6:VR s.heap C v' u')(k:∀x y t t',P (.int x t) (.int y t') (f x y)):P u u' b:=by
 revert rv C6;apply Cv h AF;intro x h;apply Cv h AF;intro y h rv C6;refine xE rv ?_;(try clear rv);intro t Bp;subst Bp;refine xE C6 ?_;(try clear C6);intro t' Bg;subst Bg;apply Br h;exact k x y t t'
theorem bA{f:Tx->Tx->AK}(h:(vStr v L λx=>vStr v' L λy=>G (f x y))=G b){P:A4->A4->AK->Prop}(rv:VR s.heap C v u)(C6:VR s.heap C v' u')(k:∀x y t t',P (.str ⟨⟨x⟩⟩ t) (.str ⟨⟨y⟩⟩ t') (f x y)):P u u' b:=by
 revert rv C6;apply Dc h AF;intro x h;apply Dc h AF;intro y h rv C6;refine xE rv ?_;(try clear rv);intro t Bu;subst Bu;refine xE C6 ?_;(try clear C6);intro t' C9;subst C9;apply Br h;exact k x y t t'
theorem zy(g:Gd B F K A H C s)(rv:VR s.heap C v u)(C6:VR s.heap C v' u')(h:j_ v v' H.h=G b):Ae B F K A H C s (D_ .Eq u u') (Dn (.bool b)):=by
 refine GO h (λh=>?_) λh=>GO h (λh=>?_) λh=>?_;. exact i2 (P:=λu u' b=>Ae B F K A H C s (D_ .Eq u u') (Dn (.bool b))) h rv C6 λx y t t'=>yj g
 . exact bA (P:=λu u' b=>Ae B F K A H C s (D_ .Eq u u') (Dn (.bool b))) h rv C6 λx y t t'=>yp g
 . revert rv C6;apply EH h AF;intro i h;apply EH h AF;intro j h rv C6;refine BI h λo q h=>BI h λo' q' h=>?_;revert q q';apply IP h AF;intro x h;apply IP h AF;intro y h q q';have hu:A.units+4<IE:=by have :=g.units;unfold IE;(with_reducible exact Mine.yU (by assumption) (by decide))
   refine Bv (g.listAt rv q) ?_;intro a us Cn p r;clear rv;subst Cn;refine Bv (g.listAt C6 q') ?_;intro a' Dw D8 p' r';clear C6;subst D8;exactλA2 E k=>lX hu p.isList p'.isList r r' h (k _ C s g (Nx.refl ..) rfl)
theorem l_{f:AK->AK}{a b:V}{r:AK}(h:SY f a b hp=G r){P:V->AK->Prop}(cd:∀j N,AL hp j=G (.dict N)->Dd N a=M->P (.ref j) (f (D0 N a).isSome))(cu:∀j N,AL hp j=G (.B3 N)->Dd N a=M->P (.ref j) (f (D0 N a).isSome))(cl:∀j Y y,AL hp j=G (.list Y)->O' Y a=G y->P (.ref j) (f y)):P b r:=by
 apply EH h AF;intro j h;refine BI h λo q h=>?_;revert q;refine GO h (λh=>?_) λh=>GO h (λh=>?_) λh=>?_
 . apply JA h AF;intro N h q;refine Ce h AF λhk h=>?_;apply Br h;exact cd j N q hk
 . apply SV h AF;intro N h q;refine Ce h AF λhk h=>?_;apply Br h;exact cu j N q hk
 . apply IP h AF;intro Y h q;refine BI h λy hk h=>?_;apply Br h;exact cl j Y y q hk
theorem lc{y:AK}(g:Gd B F K A H C s)(rv:VR s.heap C v u)(C6:VR s.heap C (.ref j) u')(q:AL H.h j=G (.list Y))(hk:O' Y v=G y){P:Prop}(k:∀x t a us,u=.str ⟨⟨x⟩⟩ t->u'=.ref a->s.heap.PlainList a us->us.any (LC x)=y->(∀y∈us.toList,∃z t,y=.str ⟨⟨z⟩⟩ t)->P):P:=by
 refine Bv (g.listAt C6 q) ?_;intro a us DW p r;clear C6;subst DW;refine xE (zx hk) ?_;intro x Ec;subst Ec;refine xE rv ?_;(try clear rv);intro t FE;subst FE;refine xA (zw r hk) ?_;intro e hm;exact k x t a us rfl rfl p (by rw[<-e,bn4]) hm
theorem zz(g:Gd B F K A H C s)(rv:VR s.heap C v u)(C6:VR s.heap C v' u')(h:SY (λb=>b) v v' H.h=G b):Ae B F K A H C s (D_ .In u u') (Dn (.bool b)):=by
 revert C6;apply l_ h;. intro j N q hk C6;exact l5 g q C6 rv hk
 . intro j N q hk C6;exact zj g q C6 rv hk
 . intro j Y y q hk C6;refine lc g rv C6 q hk λx t a us e e' p ha hm=>?_;clear rv;subst e;clear C6;subst e';clear hk;subst ha;exactλA2 E k=>in_listAt (LC x) p.isList (λy m=>lZ (hm y (by simpa using m))) (k _ C s g (Nx.refl ..) rfl)
theorem aa0(g:Gd B F K A H C s)(rv:VR s.heap C v u)(C6:VR s.heap C v' u')(h:SY (λb=>!b) v v' H.h=G b):Ae B F K A H C s (D_ .NotIn u u') (Dn (.bool b)):=by
 revert C6;apply l_ h;. intro j N q hk C6;exact l6 g q C6 rv hk
 . intro j N q hk C6;exact zk g q C6 rv hk
 . intro j Y y q hk C6;refine lc g rv C6 q hk λx t a us e e' p ha hm=>?_;clear rv;subst e;clear C6;subst e';clear hk;subst ha;exactλA2 E k=>notIn_listAt (LC x) p.isList (λy m=>lZ (hm y (by simpa using m))) (k _ C s g (Nx.refl ..) rfl)
theorem lf{t:AK}(h:Zi t v v'=G b)(rv:VR s.heap C v u)(C6:VR s.heap C v' u'){P:A4->A4->AK->Prop}(k:P .none .none t)(n:∀u,u≠.none->(∀x,u≠.bool x)->P u .none !t):P u u' b:=by
 revert rv C6;apply Pu h AF;intro h;refine GO h (λh=>?_) λh=>GO h (λh=>?_) λh=>GO h (λh=>?_) λh=>?_
 . apply Pu h AF;intro h rv C6;cases rv;cases C6;apply Br h;exact k
 . apply Dc h AF;intro x h rv C6;refine xE rv ?_;(try clear rv);intro t' GB;subst GB;cases C6;apply Br h;exact n _ (λz=>V3 z) λ_ z=>V3 z
 . apply EH h AF;intro x h rv C6;refine AC rv ?_;(try clear rv);intro a _ HB;subst HB;cases C6;apply Br h;exact n _ (λz=>V3 z) λ_ z=>V3 z
 . apply Cv h AF;intro x h rv C6;refine xE rv ?_;(try clear rv);intro t' Hr;subst Hr;cases C6;apply Br h;exact n _ (λz=>V3 z) λ_ z=>V3 z
theorem aa1{op:PL}(g:Gd B F K A H C s)(rv:VR s.heap C v u)(C6:VR s.heap C v' u')(h:Vf op v v' H.h=G b):Ae B F K A H C s (D_ op u u') (Dn (.bool b)):=by cases op with
 |Eq=>exact zy g rv C6 h|In=>exact zz g rv C6 h|NotIn=>exact aa0 g rv C6 h|Is=>exact lf (P:=λu u' b=>Ae B F K A H C s (D_ .Is u u') (Dn (.bool b))) h rv C6 (λA2 E k=>bO9 (k _ C s g (Nx.refl ..) rfl)) λu h0 h1 A2 E k=>bP0 h0 (k _ C s g (Nx.refl ..) rfl)|IsNot=>exact lf (P:=λu u' b=>Ae B F K A H C s (D_ .IsNot u u') (Dn (.bool b))) h rv C6 (λA2 E k=>bP1 (k _ C s g (Nx.refl ..) rfl)) λu h0 h1 A2 E k=>bP2 h0 (k _ C s g (Nx.refl ..) rfl)|NotEq=>exact GO h (λh=>i2 (P:=λu u' b=>Ae B F K A H C s (D_ .NotEq u u') (Dn (.bool b))) h rv C6 λx y t t'=>yk g) λh=>bA (P:=λu u' b=>Ae B F K A H C s (D_ .NotEq u u') (Dn (.bool b))) h rv C6 λx y t t'=>yq g|Lt=>exact GO h (λh=>i2 (P:=λu u' b=>Ae B F K A H C s (D_ .Lt u u') (Dn (.bool b))) h rv C6 λx y t t'=>yl g) λh=>bA (P:=λu u' b=>Ae B F K A H C s (D_ .Lt u u') (Dn (.bool b))) h rv C6 λx y t t'=>yr g|Gt=>exact i2 (P:=λu u' b=>Ae B F K A H C s (D_ .Gt u u') (Dn (.bool b))) h rv C6 λx y t t'=>ym g|LtE=>exact i2 (P:=λu u' b=>Ae B F K A H C s (D_ .LtE u u') (Dn (.bool b))) h rv C6 λx y t t'=>yn g|GtE=>exact i2 (P:=λu u' b=>Ae B F K A H C s (D_ .GtE u u') (Dn (.bool b))) h rv C6 λx y t t'=>yo g
end
end
section
open PySem.SeqAt
section
theorem OO{l:I V}:∀{t:I Tx},HS l=G t->l=t.map .str:=by induction l with
 |nil=>exactλh=>Bl h▸rfl|cons v l ih=>
 intro t h;apply Dc (show vStr v L (λt=>B' (HS l) λr=>G (t::r))=G t from h) AF;intro x h;exact BI h λr e h=>Bl h▸congrArg (V.str x::·) (ih e)
theorem aa2{t:I Tx}(h:jb v=G t):v=.tup L (t.map .str):=by
 apply IL h AF;intro o l h;apply GP h AF;intro h;exact congrArg (V.tup L) (OO h)
theorem lg{g:Sg}(h:Vh v=G g):IV g=[v]:=by
 apply Nw h;. exactλx h=>Bl h▸rfl
 . exactλh=>BI h λl e h=>Bl h▸congrArg (λv=>[v]) (aa2 e).symm
theorem aa3{l:I V}:∀{t:I Sg},Q6 l=G t->DO t=l:=by induction l with
 |nil=>exactλh=>Bl h▸rfl|cons v l ih=>exactλh=>BI h λa e h=>BI h λr e' h=>Bl h▸(show IV a++DO r=_ by rw[ih e',lg e];rfl)
theorem bB{l:I Sg}(h:FV o=G (r,l)){P:Ob->Prop}(a:CH (DO l)=M->r=Dl-(DO l).length->P (.list (DO l)))(b:P (.rows r l)):P o:=by
 apply Jy h
 . intro Y h;refine Ce h AF λhf h=>BI h λl' hl h=>?_;have e:=Bl h;have e2:DO l=Y:=(congrArg (·.2) e:l'=l)▸aa3 hl;exact e2▸a (e2▸hf) (e2▸(congrArg (·.1) e).symm)
 . intro h;apply jU h AF;intro m ys h;have e:=Bl h;exact(congrArg (·.1) e:m=r)▸(congrArg (·.2) e:ys=l)▸b
theorem OP{x y:I Sg}:DO (x++y)=DO x++DO y:=bv3
theorem WU(g:Gd B F K A H C s){r:O×I Sg}(hu:VR s.heap C (.ref i) u)(ho:AL H.h i=G o)(h:FV o=G r):∃a us,u=.ref a/\s.heap.PlainList a us/\Aa s.heap C (DO r.2) us.toList/\(DO r.2).length+r.1<=Dl:=by
 revert ho;apply bB h
 . intro hf e ho;refine Bv (g.listAt hu ho) λa us q p v=>⟨a,us,q,p,v,?_⟩;rw[e,bv4 (B4 (Ee hf) (by decide))];exact DE _
 . exact g.lY hu
theorem aa4{x y:O×I Sg}(g:Gd B F K A H C s)(hu:VR s.heap C (.ref i) u)(TH:VR s.heap C (.ref j) u')(ho:AL H.h i=G o)(IY:AL H.h j=G o')(hx:FV o=G x)(hy:FV o'=G y)(hc:EP Dl (x.1+y.1)=M):Ae B F K A (H.new (.rows (x.1+y.1-Dl) (x.2++y.2))).2 C s (Ex .Add u u') (RV (.ref H.n)):=by
 intro A2 E k;refine HQ (WU g hu ho hx) ?_;intro a us Aw B6 v l;clear hu;subst Aw;refine xE B6 ?_;(try clear B6);intro n hl;refine HQ (WU g TH IY hy) ?_;intro b ws BJ BP v' l';clear TH;subst BJ;refine xE BP ?_;(try clear BP);intro n' Ib;have hc:=Dj hc;have Ed:us.size+ws.size<=F9:=by
   have e1:=v.length;have e2:=v'.length;simp at e1 e2;exact B4 (show _<=1000000 by unfold Dl at*;(with_reducible exact Mine.vq (by assumption) (by assumption) (by assumption) (by assumption) (by assumption))) (by decide)
 refine concat_meets ⟨_,hl,rfl⟩ ⟨_,Ib,rfl⟩ br5 seq_list_add br6 br7 (br8 _ _) (br9 a b us ws n n' L L #[] #[] Ed) ⟨hl,Ib,?_⟩;have kp:∀b o,s.heap.get? b=G o->(s.heap.push {cls:=.type "list",data:=.seq (us++ws)}).get? b=G o:=λb o e=>C1 _ e;have hn:s.heap.get? s.heap.objs.size=L:=by cases e:s.heap.get? s.heap.objs.size with
 |none=>rfl|some o=>exact absurd (Dg e) (Ix _)
 have hg:=CY s.heap (o:={cls:=.type "list",data:=.seq (us++ws)}) rfl;refine k _ (C++[s.heap.objs.size]) _ (g.new (tk:=s.toks) kp hn ⟨_,hg⟩ (o:=.rows (x.1+y.1-Dl) (x.2++y.2)) ⟨us++ws,⟨_,hg⟩,?_,?_⟩) (Nx.add [_] kp λb hb=>by rw[CI.mp hb];exact hn) ⟨_,?_,rfl⟩
 . have :=(v.app v').mono (J:=[s.heap.objs.size]) (Q:=s.heap.push {cls:=.type "list",data:=.seq (us++ws)}) (λb o e _=>kp b o e);rw[OP];simpa using this
 . rw[OP,FC];unfold Dl at*;(with_reducible exact Mine.iJ (by assumption) (by assumption) (by assumption))
 . rw[<-g.len];simp
set_option tactic.hygienic true in
theorem aa5{c:O}{n:AX}(g:Gd B F K A H C s)(hn:Ze n=M):Ae B F K A H C s (Ex .Mult (.str ⟨⟨[c]⟩⟩ t) (.int n t')) (RV (.str (Xy n.toNat c))):=by
 intro A2 E k;unfold Ze at hn;simp only[D6,PR]at hn;refine xA hn ?_;(try clear hn);intro h0 h1;have e1:(⟨⟨[c]⟩⟩:U).length=1:=rfl;refine SB.mul ⟨?_,?_,?_⟩ λH8 m=>k _ C _ (g.tok _) (Nx.refl ..) ⟨H8,?_⟩;. simp only[bu7,gF];constructor<;>omega
 . intro hz _;rw[e1];intro hc;have h2:(2^63-1)/n>=1:=by
     have :n*1<=2^63-1:=by omega
     exact(Int.le_ediv_iff_mul_le (by omega)).mpr (by omega)
   omega
 . intro _ _;rw[e1];unfold bP3 F9;have :n.toNat<=1000:=by(with_reducible exact Mine.w3 (by assumption))
   simp;omega
 . congr 1;unfold Txt.mul;split
   . have :n.toNat=0:=by omega
     rw[this];rfl
   . split
     . rename_i h2 h3;simp only[e1,tP,Rc]at h3;have :n.toNat=1:=by omega
       rw[this];rfl
     . congr 1;have :∀(m:O)(Am:I UInt32),True:=λ_ _=>trivial;have key:∀(m:O)(Am:BW _),(Xy m (#[c])).foldl (·++·) Am=Am++(Xy m c).toArray:=by
        intro m;induction m with
  |zero=>intro Am;simp|succ m ih=>
        intro Am;rw[bv5,tQ,ih,bv5];apply sZ.mp;simp
       have :=key n.toNat #[];simpa using this
theorem aa6{AG:AX}{b:O}(hb:0<b)(hm:m%b=0)(hr:r<m)(h:AG%(m:AX)=r):AG/(b:AX)%((m/b:O):AX)=((r/b:O):AX)/\AG%(b:AX)=((r%b:O):AX):=by
 refine xE (bv6 hm) ?_;intro c Bp;clear hm;subst Bp;have e:AG=(b:AX)*((c:AX)*(AG/((b*c:O):AX)))+r:=by
   have :=Int.mul_ediv_add_emod AG ((b*c:O):AX);rw[h]at this;rw[<-Int.mul_assoc,<-Int.natCast_mul];exact this.symm
 generalize AG/((b*c:O):AX)=q at e;have hc:b*c/b=c:=Nat.mul_div_cancel_left c hb;rw[hc];have GX:(b:AX)≠0:=by omega
 constructor
 . rw[e,bv7,Int.add_mul_ediv_left _ _ GX,bv8];have CF:r/b<c:=gL hr;rw[<-Int.natCast_ediv];exact Int.emod_eq_of_lt (fF _) (fH.mpr CF)
 . rw[e,bv7,bv8];exact(Int.natCast_emod r b).symm
theorem aa7{r:V}(g:Gd B F K A H C s)(hv:VR s.heap C v u)(Bh:VR s.heap C v' u')(h:jW v v'=G r):Ae B F K A H C s (Ex .Add u u') (RV r):=by
 revert hv Bh;refine GO h (λh=>?_) λh=>GO h (λh=>?_) λh=>?_
 . apply Cv h AF;intro a h;refine GO h (λh=>?_) λh=>?_
   . apply Cv h AF;intro b h hv Bh;refine xE hv ?_;(try clear hv);intro t Bg;subst Bg;refine xE Bh ?_;(try clear Bh);intro t' Bu;subst Bu;apply Br h;exact yc g
   . apply SP h AF;intro b h hv Bh;refine xE hv ?_;(try clear hv);intro t C9;subst C9;cases Bh;apply Br h;exact yg g
 . apply SP h AF;intro a h;refine GO h (λh=>?_) λh=>?_
   . apply Cv h AF;intro b h hv Bh;refine xE Bh ?_;(try clear Bh);intro t Cn;subst Cn;cases hv;apply Br h;exact yf g
   . apply SP h AF;intro b h hv Bh;cases hv;cases Bh;apply Br h;exact ye g
 . apply Dc h AF;intro a h;apply Dc h AF;intro b h hv Bh;refine xE hv ?_;(try clear hv);intro t D8;subst D8;refine xE Bh ?_;(try clear Bh);intro t' DW;subst DW;refine Ce h AF λhf h=>?_;apply Br h;exact kt g hf
theorem aa8{r:V}(g:Gd B F K A H C s)(hv:VR s.heap C v u)(Bh:VR s.heap C v' u')(h:jZ v v'=G r):Ae B F K A H C s (Ex .Mult u u') (RV r):=by
 revert hv Bh;refine GO h (λh=>?_) λh=>?_
 . apply SP h AF;intro a h;apply SP h AF;intro b h hv Bh;cases hv;cases Bh;apply Br h;exact yh g
 . apply Dc h AF;intro a h;apply Ct h AF;intro c h;apply Cv h AF;intro n h hv Bh;refine xE hv ?_;(try clear hv);intro t Ec;subst Ec;refine xE Bh ?_;(try clear Bh);intro t' FE;subst FE;refine Ce h AF λhf h=>?_;apply Br h;exact aa5 g hf
theorem aa9{r:V}(g:Gd B F K A H C s)(hv:VR s.heap C v u)(Bh:VR s.heap C v' u')(h:Zg v v'=G r):Ae B F K A H C s (Ex .Sub u u') (RV r):=by
 revert hv Bh;apply Cv h AF;intro a h;apply Cv h AF;intro n h hv Bh;refine xE hv ?_;(try clear hv);intro t GB;subst GB;refine xE Bh ?_;(try clear Bh);intro t' HB;subst HB;apply Br h;exact yd g
theorem lh{b:AX}(h:Zf b=M):0<b/\b<=1000000000:=⟨of_decide_eq_true (B1 h),of_decide_eq_true (Ak h)⟩
theorem li{AG b:AX}(h:Vd m r b=M)(hb:0<b)(hX:AG%(m:AX)=r):AG/b%((m/b.toNat:O):AX)=((r/b.toNat:O):AX)/\AG%b=((r%b.toNat:O):AX):=by
 have h4:r<m:=gM (Dj (Ak h));have e:((b.toNat:O):AX)=b:=tR (fK hb);have d:=aa6 (b:=b.toNat) (by omega) (CD (B1 h)) h4 hX;rw[e]at d;exact d
theorem ab0{r:V}(g:Gd B F K A H C s)(hv:VR s.heap C v u)(Bh:VR s.heap C v' u')(h:jX v v'=G r):Ae B F K A H C s (Ex .FloorDiv u u') (RV r):=by
 revert hv Bh;apply Cv h AF;intro b h;refine Ce h AF λhb h=>?_;have hb:=lh hb;refine GO h (λh=>?_) λh=>?_
 . apply Cv h AF;intro a h hv Bh;refine xE hv ?_;(try clear hv);intro t Hr;subst Hr;refine xE Bh ?_;(try clear Bh);intro t' L2;subst L2;apply Br h;exact kr g hb
 . apply jO h AF;intro m r' h hv Bh;refine Ce h AF λhc h=>?_;refine EW hv ?_;(try clear hv);intro AG t L3 hX;subst L3;refine xE Bh ?_;(try clear Bh);intro t' TQ;subst TQ;apply Br h;intro A2 E k;refine kr g hb A2 E λu AT s' g' x' r=>?_;refine xE r ?_;(try clear r);intro t TR;subst TR;exact k _ AT s' g' x' ⟨_,t,rfl,by rw[Int.fdiv_eq_ediv_of_nonneg _ (fK hb.1)];exact(li hc hb.1 hX).1⟩
theorem ab1{r:V}(g:Gd B F K A H C s)(hv:VR s.heap C v u)(Bh:VR s.heap C v' u')(h:jY v v'=G r):Ae B F K A H C s (Ex .Mod u u') (RV r):=by
 revert hv Bh;apply Cv h AF;intro b h;refine Ce h AF λhb h=>?_;have hb:=(lh hb).1;refine GO h (λh=>?_) λh=>?_
 . apply Cv h AF;intro a h hv Bh;refine xE hv ?_;(try clear hv);intro t TS;subst TS;refine xE Bh ?_;(try clear Bh);intro t' bD;subst bD;apply Br h;exact kq g hb
 . apply jO h AF;intro m r' h hv Bh;refine EW hv ?_;(try clear hv);intro AG t QU hX;subst QU;refine xE Bh ?_;(try clear Bh);intro t' TU;subst TU;apply Br h;intro A2 E k;refine kq g hb A2 E λu AT s' g' x' r=>k _ AT s' g' x' ?_;refine xE r ?_;(try clear r);intro t TV;subst TV;rw[Int.fmod_eq_emod_of_nonneg _ (fK hb)];cases hc:Vd m r' b with
 |true=>exact⟨t,by rw[(li hc hb hX).2];rfl⟩|false=>exact⟨_,t,rfl,bv9 _ (by(with_reducible exact br2 (by assumption))),by have :=bw0 AG hb;(with_reducible exact Mine.vf (by assumption))⟩
theorem ab2{r:V}(g:Gd B F K A H C s)(hv:VR s.heap C (.ref i) u)(Bh:VR s.heap C (.ref j) u')(h:Sn i j H=.ok (.v r) A7):Ae B F K A A7 C s (Ex .Add u u') (RV r):=by
 refine A0.Bx h λo q h=>A0.Bx h λo' q' h=>?_;have AS:(A0.of (FV o) λx=>A0.of (FV o') λy=>A0.iff (EP Dl (x.1+y.1)) (FW (H.new (.rows (x.1+y.1-Dl) (x.2++y.2)))))=.ok (.v r) A7->Ae B F K A A7 C s (Ex .Add u u') (RV r):=λh=>A0.Bx h λx hx h=>A0.Bx h λy hy h=>A0.Be h λhc h=>B5 h (P:=λr A7=>Ae B F K A A7 C s (Ex .Add u u') (RV r)) (aa4 g hv Bh q q' hx hy hc);revert q;apply Jy h (e:=λh _=>AS h);intro x h;revert q';apply Jy h (e:=λh _ _=>AS h);intro y h q' q;refine A0.Be h λhf h=>?_;apply B5 h;exact yi g hv Bh q q' hf
theorem ab3{r:V}(g:Gd B F K A H C s)(hv:VR s.heap C v u)(Bh:VR s.heap C v' u')(h:Vp op v v' H=.ok (.v r) A7):Ae B F K A A7 C s (Ex op u u') (RV r):=by
 have fin:∀{op:Jg}{x:AD V},Fj x H=.ok (.v r) A7->(x=G r->Ae B F K A H C s (Ex op u u') (RV r))->Ae B F K A A7 C s (Ex op u u') (RV r):=λh k=>by refine xA (MR h) ?_;intro e bE;clear g h;subst bE;exact k e
 refine Fh h (λe h=>?_) λh=>Fh h (λe h=>?_) λh=>Fh h (λe h=>?_) λh=>Fh h (λe h=>?_) λh=>Fh h (λe h=>?_) λh=>(Ac h).elim
 . subst e;revert hv;apply Va h (e:=λh hv=>fin h (aa7 g hv Bh));intro i h hv;revert Bh;apply EH h Ac;intro j h Bh;exact ab2 g hv Bh h
 . subst e;exact fin h (aa9 g hv Bh)
 . subst e;exact fin h (ab0 g hv Bh)
 . subst e;exact fin h (ab1 g hv Bh)
 . subst e;exact fin h (aa8 g hv Bh)
theorem OQ:Lf B:=⟨ya,aa1,yb,ab3⟩
end
end
section
open Sem(wp)
section
namespace Bd
theorem ab4:Pb (.type "set") "__contains__"=pure (G (.builtin "set.__contains__")):=by rw[J1,J2];kernel_rfl
theorem ab5:Pb (.type "dict") "get"=pure (G (.builtin "dict.get")):=by rw[J1,J2];kernel_rfl
theorem ty_set:He (.builtin "set.__contains__")=pure (.type "method_descriptor"):=by kernel_rfl
theorem ty_dict:He (.builtin "dict.get")=pure (.type "method_descriptor"):=by kernel_rfl
theorem QV:Ly "method_descriptor" "__get__" "method_descriptor.__get__":=.of (owner:="method_descriptor") (n:="__get__") (by rw[J1,J2];kernel_rfl) (by decide+kernel) (by decide+kernel) (by decide+kernel) (by first|exact .inl (by decide+kernel)|exact .inr (by decide+kernel)) (by rw[J3];kernel_rfl)
theorem lj:Lr Ls "method_descriptor.__get__"=G EA.«method_descriptor.__get__»:=Y8 (by kernel_rfl)
theorem lk(a b c:A4):Jm "method_descriptor.__get__" ⟨[a,b,c],[]⟩:=by unfold Jm;kernel_rfl
theorem ll:Pb (.type "method_descriptor") "__set__"=pure L:=by rw[J1,J2];kernel_rfl
theorem lm:Pb (.type "method_descriptor") "__delete__"=pure L:=by rw[J1,J2];kernel_rfl
theorem ab6:(".".intercalate ("set.__contains__".cutAt '.').dropLast)="set":=by
 have e0:"set.__contains__".cutAt '.'=["set","__contains__"]:=by first|rfl|decide+kernel
 rw[e0];decide+kernel
theorem ab7:(".".intercalate ("dict.get".cutAt '.').dropLast)="dict":=by
 have e0:"dict.get".cutAt '.'=["dict","get"]:=by first|rfl|decide+kernel
 rw[e0];decide+kernel
theorem ab8:Rp (.type "set") (.type (".".intercalate ("set.__contains__".cutAt '.').dropLast))=pure M:=by rw[ab6,J3];kernel_rfl
theorem ab9:Rp (.type "dict") (.type (".".intercalate ("dict.get".cutAt '.').dropLast))=pure M:=by rw[ab7,J3];kernel_rfl
end Bd
section
variable{g:BW fO}{d:Drawn}{t:O}{os:Jh}
theorem ac0{AS:Dr->AR->Prop}(hx:h.get? a=G {cls:=.type "set",dict:=L,data:=.set ez n sf,slots:=sl})(hq:AS (.ok (.ret (.ref h.objs.size))) ⟨h.push {cls:=.type "builtin_function_or_method",data:=.fields #[.builtin "set.__contains__",.ref a]},g,d,t,os⟩):D7 (AQ prog w) A (.call (.builtin "method_descriptor.__get__") ⟨[.builtin "set.__contains__",.ref a,.type "set"],[]⟩) AS ⟨h,g,d,t,os⟩:=by
 have hT:(⟨h,g,d,t,os⟩:AR).TypeIs (.ref a) "set":=⟨_,hx,rfl⟩;have TW:(⟨h,g,d,t,os⟩:AR).TypeIs (.builtin "set.__contains__") "method_descriptor":=Bd.ty_set;have f8:=Bd.ab8;refine Lu Bd.QV.plain Bd.lj (Bd.QV.check _ _ _ _ _ _ _ _ TW (Bd.lk _ _ _) ?_);repeat(any_goals(first|with_reducible assumption|wp_step|assumption))
theorem ac1{tk:EO}{A2:Fin->AR->Prop}(hx:h.get? a=G {cls:=.type "set",dict:=L,data:=.set ez n sf,slots:=sl})(hq:A2 (.done (.ret (.ref h.objs.size))) ⟨h.push {cls:=.type "builtin_function_or_method",data:=.fields #[.builtin "set.__contains__",.ref a]},g,d,t,os⟩):AH (AQ prog w) A (EA.«object.__getattribute__» ⟨[.ref a,.str "__contains__" tk],[]⟩) A2 E ⟨h,g,d,t,os⟩:=by
 have hT:(⟨h,g,d,t,os⟩:AR).TypeIs (.ref a) "set":=⟨_,hx,rfl⟩;have TW:(⟨h,g,d,t,os⟩:AR).TypeIs (.builtin "set.__contains__") "method_descriptor":=Bd.ty_set;have bT1:=Bd.ab4;have bT2:=Bd.ty_set;have bT3:=Bd.QV.lookup;have bT4:=Bd.ll;have f8:=Bd.lm;repeat(any_goals(first|with_reducible assumption|wp_step|assumption))
 refine ac0 hx ?_;repeat(any_goals(first|with_reducible assumption|wp_step|assumption))
theorem ac2{tk:EO}{AS:Dr->AR->Prop}(hx:h.get? a=G {cls:=.type "set",dict:=L,data:=.set ez n sf,slots:=sl})(hq:AS (.ok (.ret (.ref h.objs.size))) ⟨h.push {cls:=.type "builtin_function_or_method",data:=.fields #[.builtin "set.__contains__",.ref a]},g,d,t,os⟩):D7 (AQ prog w) A (.call (.builtin "set.__getattribute__") ⟨[.ref a,.str "__contains__" tk],[]⟩) AS ⟨h,g,d,t,os⟩:=Lu gN.plain F.entry_set_ga (gN.check _ _ _ _ _ _ _ _ (show(⟨h,g,d,t,os⟩:AR).TypeIs (.ref a) "set"from⟨_,hx,rfl⟩) (F.args_set_getattribute_2 _ _) (ac1 hx hq))
theorem ac3{tk:EO}{fill:AK}(hx:h.get? a=G {cls:=.type "set",dict:=L,data:=.set ez n sf,slots:=sl})(hq:A2 (.ref h.objs.size) ⟨h.push {cls:=.type "builtin_function_or_method",data:=.fields #[.builtin "set.__contains__",.ref a]},g,d,t,os⟩):AH (AQ prog w) A (gO (.ref a) (.str "__contains__" tk) fill ex) A2 E ⟨h,g,d,t,os⟩:=by
 have hT:(⟨h,g,d,t,os⟩:AR).TypeIs (.ref a) "set":=⟨_,hx,rfl⟩;have f2:=gN.lookup;have bT5:=gN.bind (.ref a);have e1:(ex&&onTheHeap (.builtin "set.__getattribute__"))=A6:=by cases ex<;>rfl
 unfold gO;refine C0 (A5 (Rq hT (A5 (NV f2 ?_))));show AH _ _ (gP _ _ _ _ _ _) _ _ _;unfold gP bw1;rw[e1];repeat(any_goals(first|with_reducible assumption|wp_step|assumption))
 refine ac2 hx ?_;repeat(any_goals(first|with_reducible assumption|wp_step|assumption))
theorem ac4(hx:h.get? a=G {cls:=.type "set",dict:=L,data:=.set ez n sf,slots:=sl})(hq:A2 (.ref h.objs.size) ⟨h.push {cls:=.type "builtin_function_or_method",data:=.fields #[.builtin "set.__contains__",.ref a]},g,d,t+1,os⟩):AH (AQ prog w) A (Uw (.ref a) "__contains__" ex) A2 E ⟨h,g,d,t,os⟩:=by
 unfold Uw;refine A5 (tS ?_);exact ac3 hx hq
theorem ac5{AS:Dr->AR->Prop}(hx:h.get? a=G {cls:=.type "dict",dict:=L,data:=.dict ez n,slots:=sl})(hq:AS (.ok (.ret (.ref h.objs.size))) ⟨h.push {cls:=.type "builtin_function_or_method",data:=.fields #[.builtin "dict.get",.ref a]},g,d,t,os⟩):D7 (AQ prog w) A (.call (.builtin "method_descriptor.__get__") ⟨[.builtin "dict.get",.ref a,.type "dict"],[]⟩) AS ⟨h,g,d,t,os⟩:=by
 have hT:(⟨h,g,d,t,os⟩:AR).TypeIs (.ref a) "dict":=⟨_,hx,rfl⟩;have TW:(⟨h,g,d,t,os⟩:AR).TypeIs (.builtin "dict.get") "method_descriptor":=Bd.ty_dict;have f8:=Bd.ab9;refine Lu Bd.QV.plain Bd.lj (Bd.QV.check _ _ _ _ _ _ _ _ TW (Bd.lk _ _ _) ?_);repeat(any_goals(first|with_reducible assumption|wp_step|assumption))
theorem ac6{tk:EO}{A2:Fin->AR->Prop}(hx:h.get? a=G {cls:=.type "dict",dict:=L,data:=.dict ez n,slots:=sl})(hq:A2 (.done (.ret (.ref h.objs.size))) ⟨h.push {cls:=.type "builtin_function_or_method",data:=.fields #[.builtin "dict.get",.ref a]},g,d,t,os⟩):AH (AQ prog w) A (EA.«object.__getattribute__» ⟨[.ref a,.str "get" tk],[]⟩) A2 E ⟨h,g,d,t,os⟩:=by
 have hT:(⟨h,g,d,t,os⟩:AR).TypeIs (.ref a) "dict":=⟨_,hx,rfl⟩;have TW:(⟨h,g,d,t,os⟩:AR).TypeIs (.builtin "dict.get") "method_descriptor":=Bd.ty_dict;have bT1:=Bd.ab5;have bT2:=Bd.ty_dict;have bT3:=Bd.QV.lookup;have bT4:=Bd.ll;have f8:=Bd.lm;repeat(any_goals(first|with_reducible assumption|wp_step|assumption))
 refine ac5 hx ?_;repeat(any_goals(first|with_reducible assumption|wp_step|assumption))
theorem ac7{tk:EO}{AS:Dr->AR->Prop}(hx:h.get? a=G {cls:=.type "dict",dict:=L,data:=.dict ez n,slots:=sl})(hq:AS (.ok (.ret (.ref h.objs.size))) ⟨h.push {cls:=.type "builtin_function_or_method",data:=.fields #[.builtin "dict.get",.ref a]},g,d,t,os⟩):D7 (AQ prog w) A (.call (.builtin "dict.__getattribute__") ⟨[.ref a,.str "get" tk],[]⟩) AS ⟨h,g,d,t,os⟩:=Lu gQ.plain F.entry_dict_ga (gQ.check _ _ _ _ _ _ _ _ (show(⟨h,g,d,t,os⟩:AR).TypeIs (.ref a) "dict"from⟨_,hx,rfl⟩) (F.args_dict_getattribute_2 _ _) (ac6 hx hq))
theorem ac8{tk:EO}{fill:AK}(hx:h.get? a=G {cls:=.type "dict",dict:=L,data:=.dict ez n,slots:=sl})(hq:A2 (.ref h.objs.size) ⟨h.push {cls:=.type "builtin_function_or_method",data:=.fields #[.builtin "dict.get",.ref a]},g,d,t,os⟩):AH (AQ prog w) A (gO (.ref a) (.str "get" tk) fill ex) A2 E ⟨h,g,d,t,os⟩:=by
 have hT:(⟨h,g,d,t,os⟩:AR).TypeIs (.ref a) "dict":=⟨_,hx,rfl⟩;have f2:=gQ.lookup;have bT5:=gQ.bind (.ref a);have e1:(ex&&onTheHeap (.builtin "dict.__getattribute__"))=A6:=by cases ex<;>rfl
 unfold gO;refine C0 (A5 (Rq hT (A5 (NV f2 ?_))));show AH _ _ (gP _ _ _ _ _ _) _ _ _;unfold gP bw1;rw[e1];repeat(any_goals(first|with_reducible assumption|wp_step|assumption))
 refine ac7 hx ?_;repeat(any_goals(first|with_reducible assumption|wp_step|assumption))
theorem ac9(hx:h.get? a=G {cls:=.type "dict",dict:=L,data:=.dict ez n,slots:=sl})(hq:A2 (.ref h.objs.size) ⟨h.push {cls:=.type "builtin_function_or_method",data:=.fields #[.builtin "dict.get",.ref a]},g,d,t+1,os⟩):AH (AQ prog w) A (Uw (.ref a) "get" ex) A2 E ⟨h,g,d,t,os⟩:=by
 unfold Uw;refine A5 (tS ?_);exact ac8 hx hq
end
end
end
section
open Sem(wp)
section
theorem lp{q d:A8}{id T:D9}{o:Bm}{lq:Manifest.Signature}{Bt:EA}(hq:s.heap.get? q=G {cls:=.type "builtin_function_or_method",data:=.fields #[.builtin id,.ref d]})(hd:s.heap.get? d=G o)(hT:o.cls=.type T)(hn:∀c,o.data≠.cls c)(bF:gR id=G lq)(hk:Rj id=G .method)(hm:Rp (.type T) (.type "module")=pure A6)(hv:tU.contains id=A6)(hc:tX id {lq with full:=s!"{V4 T}.{V4 id}"} ⟨.ref d::us,[]⟩=pure ())(hp:YC id=M)(he:Lr Ls id=G Bt)(h:AH (AQ prog w) A.in1 (Bt ⟨.ref d::us,[]⟩) (λfin s'=>∃v,fin=.done (.ret v)/\A2 v s') E s):AH (AQ prog w) A (call (.ref q) us) A2 E s:=by
 refine HN (RZ ?_);show AH _ A.in1 (Uy (.ref q) ⟨us,[]⟩) _ _ _;unfold Uy;refine A5 (NT hq ?_);have WV:s.TypeIs (.ref d) T:=⟨_,hd,hT⟩;have hL:∀{A2:AK->AR->Prop},A2 A6 s->AH (AQ prog w) A.in1 (isType (.ref d)) A2 E s:=by
  intro A2 q;show AH _ _ (do return match(<-loadHead d).data with|.cls _=>M|_=>A6) _ _ _;refine A5 (bt4 hd (AW ?_));cases o with|mk c dd bT6 sl=>cases bT6<;>first|exact q|exact absurd rfl (hn _)
 show AH _ _ (do bw2 id ⟨.ref d::us,[]⟩;Kh (.builtin id ⟨.ref d::us,[]⟩)) _ _ _;refine A5 ?_;unfold bw2;simp only[bF,hk];refine A5 (Lw WV hm ?_);rw[hv];skip;refine A5 (hL ?_);skip;refine A5 (Rq WV ?_);skip;refine NV hc (AW ⟨plainId_quiet hp _,J0 he ?_⟩);rw[bw3 hp _];refine Ff h (λfin s' Q=>?_) λ_ _ Q=>Q;refine AC Q ?_;(try clear Q);intro v Aw hv;subst Aw;exact hv
theorem ad0:gR "set.__contains__"=G ⟨.oneArg,"set.__contains__","__contains__",.self,[⟨"object",.posOnly,M⟩]⟩:=by kernel_rfl
theorem ad1:gR "dict.get"=G ⟨.positional,"dict.get","get",.self,[⟨"key",.posOnly,M⟩,⟨"default",.posOnly,A6⟩]⟩:=by kernel_rfl
theorem ad2:Rj "set.__contains__"=G .method:=by decide+kernel
theorem ad3:Rj "dict.get"=G .method:=by decide+kernel
theorem ad4:Rp (.type "set") (.type "module")=pure A6:=by rw[J3];kernel_rfl
theorem ad5:Rp (.type "dict") (.type "module")=pure A6:=by rw[J3];kernel_rfl
theorem ad6:tU.contains "set.__contains__"=A6:=by decide+kernel
theorem ad7:tU.contains "dict.get"=A6:=by decide+kernel
theorem ad8:s!"{V4 "set"}.{V4 "set.__contains__"}"="set.__contains__":=by decide+kernel
theorem ad9:s!"{V4 "dict"}.{V4 "dict.get"}"="dict.get":=by decide+kernel
theorem ae0{d x:A4}:tX "set.__contains__" ⟨.oneArg,"set.__contains__","__contains__",.self,[⟨"object",.posOnly,M⟩]⟩ ⟨[d,x],[]⟩=pure ():=by kernel_rfl
theorem ae1{d x y:A4}:tX "dict.get" ⟨.positional,"dict.get","get",.self,[⟨"key",.posOnly,M⟩,⟨"default",.posOnly,A6⟩]⟩ ⟨[d,x,y],[]⟩=pure ():=by kernel_rfl
theorem ae2{By:KeyKind prog w U}{k:U}{key:A4}(EL:By.is k key=M)(T8:key.scannable=M)(hS:s.heap.get? a=G {cls:=.type "set",dict:=L,data:=.set #[] 0 (.fresh 0 0 led)})(h:A2 (.bool A6) {s with toks:=s.toks+1}):AH (AQ prog w) A (EA.«frozenset.__contains__» ⟨[.ref a,key],[]⟩) (λfin s'=>∃v,fin=.done (.ret v)/\A2 v s') E s:=by
 have hS:s.heap.SetOf By a (λ_=>A6) 0:=⟨_,#[],0,_,hS,⟨rfl,rfl,rfl⟩,rfl,λe he=>by simp at he,λk=>by simp,by decide,by rfl,rfl⟩;unfold EA.«frozenset.__contains__»bP4;simp only[bw4,bind_assoc];skip;refine A5 (AW ?_);try dsimp only
 refine A5 (AW ?_);try dsimp only
 refine A5 (PY ?_);refine C0 ?_;refine A5 (By.pyHash EL ?_);refine A5 (wpAny_setFind_of (s:={s with toks:=s.toks+1}) EL T8 hS λr hr=>?_);refine AW ?_;show AH _ _ (ret (NW r.isSome)) _ _ _;rw[hr];exact AW ⟨_,rfl,h⟩
theorem ae3[DecidableEq T]{By:KeyKind prog w T}{d:A8}{k:T}{key dflt:A4}{f:T->AD A4}(EL:By.is k key=M)(hd:(d==NP)=A6)(hm:s.heap.MapOf By d f)(h:A2 ((f k).getD dflt) {s with toks:=s.toks+1}):AH (AQ prog w) A (EA.«dict.get» ⟨[.ref d,key,dflt],[]⟩) (λfin s'=>∃v,fin=.done (.ret v)/\A2 v s') E s:=by
 show AH _ _ (dictGet d key>>=_) _ _ s;refine A5 (wpAny_dictGet_of EL hm ?_);cases hf:f k with
 |some v=>
  rw[hf]at h;exact AW ⟨v,rfl,h⟩|none=>
  rw[hf]at h;show AH _ _ (bP5 d key>>=_) _ _ _;exact A5 (wpAny_missed_other hd (AW ⟨dflt,rfl,h⟩))
end
section
theorem ae4{x:Tx}(g:Gd B F K A H C s)(hf:VR s.heap C (.B' 0 i) fu)(hs:Aa s.heap C [.str x] us)(h:AL H.h i=G .HR):Ae B F K A H C s (CE fu us) (RV (.bool A6)):=by
 intro A2 E k;refine Bv hf ?_;(try clear hf);intro q d B6 hd hq;subst B6;refine Bv hs ?_;(try clear hs);intro u us BJ BP e;subst BJ;refine xE BP ?_;(try clear BP);intro t Hr;subst Hr;cases e;refine xE (g.obj h hd) ?_;intro led ho;have hq:s.heap.get? q=G {cls:=.type "builtin_function_or_method",data:=.fields #[.builtin "set.__contains__",.ref d]}:=hq;refine lp (T:="set") hq ho rfl (λ_ z=>by(exfalso;cases z)) ad0 ad2 ad4 ad6 (by rw[ad8];exact ae0) PySem.F.slot_set_contains.plain entry_set_contains ?_;exact ae2 (By:=strKind B.prog B.w) (k:=⟨⟨x⟩⟩) (by simp[strKind,YK]) rfl ho (k _ C _ (g.tok _) (Nx.refl ..) rfl)
theorem WW[DecidableEq T]{By:KeyKind B.prog B.w T}{Az:I (T×A4)}(m:h.DictAt By a Az n):∃o,h.get? a=G o/\o.cls=.type "dict"/\∀c,o.data≠.cls c:=by
 refine HQ m ?_;intro o N e hc hd _;exact⟨o,e,hc.1,λc z=>by rw[hd]at z;(exfalso;cases z)⟩
theorem lr{d:V}(g:Gd B F K A H C s)(hd:AL H.h i=G (.dict N))(ru:VR s.heap C (.ref i) u)(rk:VR s.heap C k ku)(rd:VR s.heap C d du)(hk:Dd N k=M)(kk:∀w s',Gd B F K A H C s'->Nx F.D [] s.heap s'.heap C C->VR s'.heap C ((D0 N k).getD d) w->A2 w s'):AH (AQ B.prog B.w) A' (EA.«dict.get» ⟨[u,ku,du],[]⟩) (λfin s'=>∃v,fin=.done (.ret v)/\A2 v s') E s:=by
 revert kk;refine WM (P:=λu=>_->AH (AQ B.prog B.w) A' (EA.«dict.get» ⟨[u,ku,du],[]⟩) (λfin s'=>∃v,fin=.done (.ret v)/\A2 v s') E s) g hd ru rk hk λBy x f a ha hx hm o kk=>?_;refine ae3 hx (g.QO ha) hm (kk _ _ (g.tok _) (Nx.refl ..) ?_);refine o.elim (λo=>?_) λo=>Bv o λv' w h hf r=>?_;. rw[o.1,o.2];exact rd
 . rw[h,hf];exact r
theorem ae5(h:O4 i N .get args H=.ok (.v v) A7):∃k d,args=[k,d]/\Dd N k=M/\v=(D0 N k).getD d/\A7=H:=by
 apply Hk h Ac;intro k d h;refine A0.Be h λhk h=>?_;apply B5 h;exact⟨k,d,rfl,hk,rfl,rfl⟩
theorem ae6(g:Gd B F K A H C s)(hf:VR s.heap C (.B' 1 i) fu)(hs:Aa s.heap C args us)(h:A0.Ez H.h (.ref i) (λi N=>O4 i N .get args H)=.ok (.v v) A7):Ae B F K A A7 C s (CE fu us) (RV v):=by
 intro A2 E k;refine A0.OA h ?_;clear h;intro N hl h;refine HQ (ae5 h) ?_;intro x d Bg hk Bu C9;subst Bg;subst Bu;subst C9;refine Bv hf ?_;(try clear hf);intro q a Cn hd hq;subst Cn;have hq:s.heap.get? q=G {cls:=.type "builtin_function_or_method",data:=.fields #[.builtin "dict.get",.ref a]}:=hq;refine S3 hs ?_;(try clear hs);intro ku us D8 rk du Dw DW rd e;subst D8;subst DW;cases e;have r:=g.obj hl hd;have ho:∃o,s.heap.get? a=G o/\o.cls=.type "dict"/\∀c,o.data≠.cls c:=r.elim (λr=>AC r λ_ m _=>WW m) λr=>AC r λ_ m _=>WW m;refine CZ ho ?_;(try clear ho);intro o ho hc hn;refine lp (T:="dict") hq ho hc hn ad1 ad3 ad5 ad7 (by rw[ad9];exact ae1) tY.plain bw5 ?_;exact lr g hl ⟨a,hd,rfl⟩ rk rd hk λw s' g' x' r'=>k w C s' g' x' r'
end
end
structure Gl(B:Bs)(A3:Mine.Ctx):Prop where ns:∃mg mb,B.base.Ns 3 mg/\B.base.Ns 0 mb/\∀x v,Ah A3.glob x=G v->∃w,v=.top w/\(mg x=G w\/(mg x=L/\mb x=G w))
section
theorem ls(h:Q8 sc=M)(hl:Dh sc x=M):(x==("__debug__":U))=A6:=by
 refine AC (W1 (P:=λ_=>PP) hl λ_ _=>trivial) ?_;intro k q _;have :=(Bq.mp h) _ (FF q);simp only[D6,RS,Kz]at this;exact Ll.mpr this.1
theorem bG(Bk:Gl B A3)(h:Fo A3 K (ev A3 n) (.Name id pos) H=.ok (.v v) A7)(g:Gd B F K A H C s):Ae B F K A A7 C s (eval (.Name id pos) F.env) (RV v):=by
 refine Nk (x:=Fj (Ah H.env id) H) (y:=bC (Dh K.sc id) (Fj (Ah A3.glob id) H) .bad) h (λhl h=>?_) λh=>Nk h (λhg h=>?_) λh=>(Ac h).elim
 . refine xA (MR h) ?_;intro e Aw;subst Aw;exact aI g hl e
 . refine xA (MR h) ?_;intro e B6;subst B6;refine Bv Bk.ns ?_;intro mg mb n3 n0 hh;refine AC (hh id v e) ?_;intro w BJ hw;subst BJ;have st:∀b o,B.base.get? b=G o->s.heap.get? b=G o:=g.base;have m3:s.heap.Ns F.env.globals mg:=by rw[g.kinds.g3];refine Hm n3 ?_;(try clear n3);intro o N ep e r;exact⟨o,N,ep,st _ _ e,r⟩
   have m0:s.heap.Ns F.env.builtins mb:=by rw[g.kinds.b0];refine Hm n0 ?_;(try clear n0);intro o N ep e r;exact⟨o,N,ep,st _ _ e,r⟩
   intro A2 E k;refine bw6 g.kinds.fn (g.kinds.glob id hg) ?_ (ls g.kinds.sc hg);rcases hw with hw|Cn;rotate_left;refine xA Cn ?_;(try clear Cn);intro hm hw;rotate_left;. exact loadGlobal_global m3 hw (k w C s g (Nx.refl ..) rfl)
   . exact bw7 m3 hm m0 hw (k w C s g (Nx.refl ..) rfl)
theorem ae7(A9:C5 B A3 n)(Lo:Lf B){op:UnaryOp}{x:AA}(h:Fo A3 K (ev A3 n) (.UnaryOp op x pos) H=.ok (.v v) A7)(g:Gd B F K A H C s):Ae B F K A A7 C s (eval (.UnaryOp op x pos) F.env) (RV v):=by
 intro A2 E k;cases op<;>first|exact(Ac h).elim|skip
 . refine A0.Cg h ?_;clear h;intro a AB AP h;refine A0.Bx h ?_;clear h;intro b C3 h;(first|(revert k;(first|apply BX h|apply B5 h|apply BY h|apply BZ h|apply B_ h);intro k)|apply BX h|apply B5 h|apply BY h|apply BZ h|apply B_ h);refine bw8 (A9.e AP g _ _ λu AZ AJ AN Ab Aq=>bP6 (Lo.truthy AN Aq C3 _ _ λy BS Ax Ao B8 BQ=>?_));subst BQ;exact k _ BS Ax Ao (Ab.trans B8) rfl
 . refine A0.Cg h ?_;clear h;intro a AB AP h;revert AP;apply Cv h Ac;intro i h AP;(first|(revert k;(first|apply BX h|apply B5 h|apply BY h|apply BZ h|apply B_ h);intro k)|apply BX h|apply B5 h|apply BY h|apply BZ h|apply B_ h);refine bw8 (A9.e AP g _ _ λu AZ AJ AN Ab Aq=>?_);refine xE Aq ?_;(try clear Aq);intro t Bg;subst Bg;exact PySem.P.neg_int (k (.int _ AJ.toks) AZ _ (AN.tok _) Ab ⟨_,rfl⟩)
theorem Gd.push(g:Gd B F K A H C s)(o:Bm)(tk:O):Gd B F K A H C {s with heap:=s.heap.push o,toks:=tk}/\Nx F.D [] s.heap (s.heap.push o) C C:=have kp:∀b o',s.heap.get? b=G o'->(s.heap.push o).get? b=G o':=λb o e=>C1 _ e;⟨g.ext kp,Nx.ext kp⟩
theorem ae8(AG:Cx B A3 Kf)(g:Gd B F K A H C s){o:V}{a:U}(h:jk A3 o a H=.ok (.v v) A7)(r:VR s.heap C o u)(WP:AK):Ae B F K A A7 C s (Uw u a WP) (RV v):=by
 revert r;apply EH h Ac;intro i h r;refine A0.Bx h λob hi h=>?_;revert hi;apply jR h
 . intro c d h hi;refine A0.Be h λhc h=>A0.Bx h λob hd h=>?_;revert hd;apply Za h Ac;intro N h hd;refine A0.Bx h λw hv h=>A0.Be h λhn h=>?_;apply B5 h;exact zB AG g (CD (B1 hc)▸hi) hd (Ak hc) hv hn r WP
 intro h;apply jQ h
 . intro h hi;refine A0.Be h λhc h=>?_;apply B5 h;apply aA hc;refine AC r ?_;(try clear r);intro d hd Bu;subst Bu;refine xE (g.obj hi hd) ?_;intro led ho;intro A2 E k;obtain⟨hh,gg,dd,tt,bT7⟩:=s;have gp:=g.push {cls:=.type "builtin_function_or_method",data:=.fields #[.builtin "set.__contains__",.ref d]} (tt+1);exact ac4 ho (k _ C _ gp.1 gp.2 ⟨_,d,rfl,hd,CY _ rfl⟩)
 intro h;apply JA h Ac;intro N h hi;refine A0.Be h λhc h=>?_;apply B5 h;apply aA hc;refine AC r ?_;(try clear r);intro d hd C9;subst C9;have ro:=g.obj hi hd;have ho:∃N ep,s.heap.get? d=G {cls:=.type "dict",dict:=L,data:=.dict N ep,slots:=#[]}:=by
  (rcases ro with D8|DW;refine AC D8 ?_;(try clear D8);intro Az Ec _;obtain⟨⟨_,_,_,_⟩,BN,e,⟨hc,hn,hs⟩,hd,_⟩:=Ec;rotate_left;refine AC DW ?_;(try clear DW);intro Az FE _;obtain⟨⟨_,_,_,_⟩,BN,e,⟨hc,hn,hs⟩,hd,_⟩:=FE;rotate_left)<;>. simp only at hc hn hs hd;subst hc hn hs hd;exact⟨_,_,e⟩
 refine DA ho ?_;(try clear ho);intro BN ep ho;intro A2 E k;obtain⟨hh,gg,dd,tt,bT7⟩:=s;have gp:=g.push {cls:=.type "builtin_function_or_method",data:=.fields #[.builtin "dict.get",.ref d]} (tt+1);exact ac9 ho (k _ C _ gp.1 gp.2 ⟨_,d,rfl,hd,CY _ rfl⟩)
theorem ae9(AG:Cx B A3 Kf)(A9:C5 B A3 n){o:AA}{a:U}(h:Fo A3 K (ev A3 n) (.Attribute o a pos) H=.ok (.v v) A7)(g:Gd B F K A H C s):Ae B F K A A7 C s (eval (.Attribute o a pos) F.env) (RV v):=by
 refine A0.Be h ?_;clear h;intro hs h;refine A0.Cg h ?_;clear h;intro w AB AP h;intro A2 E k;rw[PySem.arm_eval_Attribute,aW hs];refine A5 (A9.e AP g _ _ λu AZ AJ AN Ab Aq=>A5 (Ek (A5 (C0 (ae8 AG AN h Aq M _ _ λy Au Ai AU Al BB=>?_)))));exact A5 (bw9 (AW (k y Au Ai AU (Ab.trans Al) BB)))
end
theorem af0{l:A8}{k:AX}{v:A4}{A2:Do->AR->Prop}(hl:s.heap.PlainList l Cb)(h0:0<=k)(lu:k<2^63)(hn:k<Cb.size)(hQ:∀Q,Q.PlainList l (Cb.setIfInBounds k.toNat v)->E3 l s.heap Q->A2 () {s with heap:=Q}):AH (AQ prog w) A (Rh (.ref l) (.int k t) v) A2 E s:=by
 refine xE (id hl) ?_;intro n ho;have hL:=hl.isList;unfold Rh;try with_reducible refine C0 ?_
 first|refine A5 (AW ?_)|skip
 refine A5 (t6 hL.typeIs (by decide) ?_);refine A5 (Lq (name:=Eu "__setitem__") hL.typeIs bx0 (Gj bx0 hL.typeIs entry_list_setitem ?_ (args_list_setitem _ _ _)));show AH _ _ (bx1 (.int k t)>>=_) _ _ s;refine A5 (bx2 (fitsIndex_of h0 lu) ?_);clear lu;refine xE (Int.eq_ofNat_of_zero_le h0) ?_;intro j Aw;clear h0;subst Aw;have hj:j<Cb.size:=by omega
 have JL:Cb[j]?=G Cb[j]:=Ro hj;show AH _ _ ((seqItemAt l j>>=λr=>pure (r.map (j,·)))>>=_) _ _ s;refine A5 (A5 (bx3 ho rfl (AW ?_)));rw[JL];show AH _ _ (setSeqItemAt l j v>>=_) _ _ s;have lw:(s.heap.update l (GL (·.setIfInBounds j v))).PlainList l (Cb.setIfInBounds j v):=⟨_,FQ _ ho rfl⟩;refine A5 (wpAny_setSeqItemAt ho rfl ?_);first
 |exact A5 (AW (AW ⟨.none,rfl,AW (hQ _ lw (Fg ..))⟩))|exact AW ⟨.none,rfl,AW (hQ _ lw (Fg ..))⟩
theorem Aa.set{v:I V}{u:I A4}{x:V}{y:A4}(r:Aa h C v u)(q:VR h C x y):Aa h C (v.set i x) (u.set i y):=Aa.ind (P:=λv u=>∀i,Aa h C (v.set i x) (u.set i y)) (λ_=>rfl) (λ_ _ _ _ a b ih i=>by cases i with|zero=>exact .cons q b|succ i=>exact .cons a (ih i)) r i
section
theorem af1{k:AX}(g:Gd B F K A H C s)(hd:AL H.h i=G (.list Y))(ru:VR s.heap C (.ref i) u)(rk:VR s.heap C (.int k) ku)(rv:VR s.heap C v vu)(h0:0<=k)(h1:JD k=M)(h2:k<Y.length):Ae B F K A (H.set i (.list (Y.set k.toNat v))) C s (Rh u ku vu) RU:=by
 intro A2 E kk;refine AC ru ?_;(try clear ru);intro a ha B6;subst B6;refine xE rk ?_;(try clear rk);intro t BJ;subst BJ;refine AC (g.obj hd ha) ?_;intro us p r;have hl:Y.length=us.size:=by rw[r.length];simp
 have hm:=WR h1;refine af0 p h0 (by omega) (by omega) λQ hp hs=>?_;refine xA (g.set (Q:=Q) (tk:=s.toks) (o':=.list (Y.set k.toNat v)) ha hd (λ_ _ e=>by(exfalso;cases e)) hs.extBut (by refine xE hp ?_;(try clear hp);intro n e;exact⟨_,e⟩) λim=>⟨_,hp,by
 have :=r.set (i:=k.toNat) rv;rw[Array.toList_setIfInBounds];exact this.Bw im⟩) ?_;intro g' x';exact kk () C _ g' x' trivial
theorem af2(A9:C5 B A3 n){o i:AA}(h:Kw A3 K (ev A3 n) (.Subscript o i pos) v H=.ok (.f f) A7)(g:Gd B F K A H C s)(r:VR s.heap C v vu):CJ B F K A A7 C s (Ew (.Subscript o i pos) F.env vu) RU:=by
 refine A0.Cg h ?_;clear h;intro w AB AP h;refine A0.Cg h ?_;clear h;intro k Bc BD h;intro A2 E kk;skip;refine A5 (C0 (A9.e AP g _ _ λu AZ AJ AN Ab Aq=>A5 (C0 (A9.e BD AN _ _ λku Au Ai AU Al BB=>A5 (Ek (A5 (C0 ?_)))))));have fin:∀{GW:Mine.St}{l:I A4},Ae B F K A GW Au Ai (Rh u ku vu) RU->A7=GW->AH (AQ B.prog B.w) A (Rh u ku vu) (λ_ s'=>AH (AQ B.prog B.w) A (release l []) A2 E s') E Ai:=by
   intro GW l d e;subst e;exact d _ _ λ_ BS Ax Ao B8 _=>bu2 (kk () BS Ax Ao (Ab.trans (Al.trans B8)).FY trivial)
 have ra:=Aq.nx Al;have rb:=(r.nx Ab).nx Al;revert AP Aq ra;apply EH h Ac;intro a h AP Aq ra;refine A0.Bx h ?_;clear h;intro ob hi h;revert hi;apply Jy h
 . intro Y h hi;revert rb BB BD;apply Cv h Ac;intro k h BD BB rb;refine A0.Be h ?_;clear h;intro hc h;simp only[D6,PR]at hc;exact fin (af1 AU hi ra BB rb hc.1.2 hc.1.1 hc.2) (FG h).2.symm
 . intro h;apply JA h Ac;intro N h hi;refine A0.Be h ?_;clear h;intro hc h;exact fin (yw AU hi ra BB rb (B1 hc) (Ak hc)) (FG h).2.symm
end
set_option tactic.hygienic true in
theorem af3:∀{n:O}{e:AA},MJ n e=M->∀m,n<=m->YL m e=A6:=by
 intro n;induction n with
 |zero=>
  intro e h m _;cases e<;>first|(exact(E4 h).elim;done)|(cases m<;>rfl)|skip
  have h:(!Cy _ ⟨⟨[95,95,100,101,98,117,103,95,95]⟩⟩)=M:=h;have h:=Kz.mp (by simpa using h);have :=Ll.mpr h;cases m<;>exact this|succ n ih=>
  intro e h m hm;cases m with
 |zero=>omega|succ m=>
  have hm:=sN hm;cases e<;>first|(exact(E4 h).elim;done)|rfl|skip
  case BinOp l op r p=>
   have h:(MJ n l||MJ n r)=M:=h;show(YL m l&&YL m r)=A6;rcases(tP _ _).mp h with h|h;. rw[ih h m hm];rfl
   . rw[ih h m hm];simp
  case UnaryOp op x p=>exact ih (e:=x) h m hm
  case Name id p=>
   have h:(!Cy id ⟨⟨[95,95,100,101,98,117,103,95,95]⟩⟩)=M:=h;have h:=Kz.mp (by simpa using h);exact Ll.mpr h
  case Subscript v i p=>
   show(YL m v&&YL m i)=A6;rw[ih (e:=v) h m hm];rfl
noncomputable def QW(env:Gf)(ln:O):AA->AD U:=λ|.Name id pos=>if env.kindOf id==G .local&&pos.line==ln then G id else L|_=>L
theorem WX:∀{Bf:I U},Sq ts=G Bf->ts.length=Bf.length/\ts.all CP=M/\∀(env:Gf)(l:O),(ts.filterMap (QW env l)).length=ts.length->ts.filterMap (QW env l)=Bf:=by induction ts with
 |nil=>intro Bf h;exact Br h (P:=λBf=>[].length=Bf.length/\[].all CP=M/\∀(env:Gf)(l:O),([].filterMap (QW env l)).length=[].length->[].filterMap (QW env l)=Bf) ⟨rfl,rfl,λ_ _ _=>rfl⟩|cons t ts ih=>
 intro Bf h;apply EU (e:=t) h AF;intro id p h;refine BI h λl e h=>?_;obtain rfl:=Bl h;refine G5 (ih e) ?_;intro h1 h2 h3;refine⟨congrArg (·+1) h1,h2,λenv ln hl=>?_⟩;have az:=bx4 (QW env ln) ts;cases q:QW env ln (.Name id p)with
 |none=>rw[List.filterMap_cons_none q,Uv]at hl;exact absurd az (by omega)|some x=>
 rw[bx5 q]at hl ⊢;rw[h3 env ln (YM hl)];have q:(if env.kindOf id==G .local&&p.line==ln then G id else L)=G x:=q;split at q;. rw[Bl q]
 . exact(BE q).elim
set_option tactic.hygienic true in
theorem af4{Bf:I U}(h:Vs ts e=G Bf):∃LD k p,ts=[.Tuple LD k p]/\Sq LD=G Bf/\JH e=A6/\(f_ ts e env=pure L\/f_ ts e env=pure (G Bf)):=by
 apply Ct h AF;intro t h;apply Rw h AF;intro LD k p h;apply Rw h AF;intro vs k' p' h;refine Ce h AF λhn h=>?_;refine G5 (WX h) ?_;intro h1 h2 h3;refine⟨LD,k,p,rfl,h,rfl,?_⟩;unfold f_;dsimp only;split;. exact .inl rfl
 split;. exact .inl rfl
 split;. exact .inl rfl
 rename_i hl;split;. exact .inl rfl
 split
 . rename_i hc;refine AC (ID.mp hn) ?_;intro v hv Bh;have :=(Bq.mp hc) v hv;rw[af3 Bh 8 (by decide)]at this;exact(E4 this).elim
 . refine .inr ?_;have hl:=(gT.mp λz=>hl ((tP _ _).mpr z)).1;have :=h3 env ((LD.head?.map λx:AA=>x.pos.line).getD 0) (bx6 λz=>hl (bne_iff_ne.mpr z));exact congrArg (λz=>pure (G z)) this
theorem bH:∀{l:I U},QB l=M->l.Nodup
 |[],_=>HK|x::l,h=>by
  simp only[QB,D6,RS]at h;refine ET.mpr ⟨λm=>?_,bH h.2⟩;have :=Y4.mp h.1 x m;exact this (E1.mpr rfl)
theorem WY:∀{Bf:I U}{vs:I V}{env:I (U×V)},x∉Bf->Ah (putAll env Bf vs) x=Ah env x
 |[],_,_,_=>rfl|_::_,[],_,_=>rfl|y::Bf,v::vs,env,h=>by
  show Ah (putAll (EZ env y v) Bf vs) x=_;rw[WY (λm=>h (Cq _ m)),QE,CS];exactλz=>h (z▸Cp)
theorem bI:∀{Bf:I U}{vs:I V}{env:I (U×V)},Bf.Nodup->(x,v)∈Bf.zip vs->Ah (putAll env Bf vs) x=G v
 |[],_,_,_,h=>by simp at h|_::_,[],_,_,h=>by simp at h|y::Bf,u::vs,env,hn,h=>by
  refine xA (ET.mp hn) ?_;(try clear hn);intro hy hn;show Ah (putAll (EZ env y u) Bf vs) x=_;rw[bx7]at h;rcases Ck.mp h with h|h
  . injection h with h1 h2;subst h1;subst h2;rw[WY hy,QE,DF rfl]
  . exact bI hn h
theorem af5{Bf:I U}{env:I (U×V)}(hl:Bf.length=vs.length)(hn:Bf.Nodup)(x:U):Ah (putAll env Bf.reverse vs.reverse) x=Ah (putAll env Bf vs) x:=by
 by_cases hx:x∈Bf
 . obtain⟨i,hi,e⟩:=bx8.mp hx;have hm:(x,vs[i])∈Bf.zip vs:=by
    refine bx8.mpr ⟨i,by simp;(with_reducible exact Mine.vZ (by assumption) (by assumption)),?_⟩;simp[e]
   rw[bI hn hm,bI (v:=vs[i]) (List.pairwise_reverse.mpr (hn.imp λh z=>h z.symm))];have hz:∀{Bf:I U}{vs:I V},Bf.length=vs.length->(Bf.reverse.zip vs.reverse)=(Bf.zip vs).reverse:=by
    intro Bf;induction Bf with
 |nil=>intro vs h;simp|cons a Bf ih=>
    intro vs h;cases vs with
 |nil=>(exfalso;cases h)|cons b vs=>
    have h:Bf.length=vs.length:=by simpa using h
    rw[YN,YN,bx7,YN,<-ih h,List.zip_append (by simp[h])];rfl
   rw[hz hl];exact List.mem_reverse.mpr hm
 . rw[WY hx,WY (by simpa using hx)]
section
theorem Gd.af6{env:I (U×V)}{h:I (O×Ob)}(g:Gd B F K A ⟨env,h,m⟩ C s)(e:∀x,Ah CV x=Ah env x):Gd B F K A ⟨CV,h,m⟩ C s:=⟨g.kinds,g.len,g.nodup,g.fresh,g.live,g.D5,g.D2,g.objs,by
 refine CZ g.env ?_;intro m ns ce r;exact⟨m,ns,ce,λx v q=>r x v ((e x).symm.trans q)⟩,g.base,g.os,g.gens,g.frames,g.DP,g.Cz,g.mods,g.handled,g.depth,g.units⟩
theorem lx(hi:G8 K.sc id=M)(g:Gd B F K A H C s)(r:VR s.heap C v u):CJ B F K A ⟨EZ H.env id v,H.h,H.n⟩ C s (fS F.env id u) RU:=aL (A3:=⟨[],λ_=>L,0,0,0,0,0,0,M,[],λ_ _ _=>L⟩) (n:=0) (id:=id) (pos:=⟨0,0,0,0⟩) (f:=.next) (congrArg (A0.iff · _) hi) g r
theorem af7:∀{Bf:I U}{us:I A4}{H:Mine.St}{C:I A8}{s:AR},Bf.all (G8 K.sc)=M->Bf.length=vs.length->Gd B F K A H C s->Aa s.heap C vs us->CJ B F K A ⟨putAll H.env Bf vs,H.h,H.n⟩ C s (NR (Bf.map λn=>gU F.env n) us) RU:=by induction vs with
 |nil=>intro Bf us H C s _ hl g e;cases Bf with
  |nil=>cases e;exactλA2 E k=>AW (k () C s g (Nx.refl ..) trivial)|cons id Bf=>exact(nomatch hl)
 |cons v vs ih=>intro Bf us H C s ho hl g e;cases Bf with
 |nil=>exact(nomatch hl)|cons id Bf=>
  revert e;intro e A2 E k;refine Bv e ?_;clear e;intro u us e r rs;subst e;show AH _ A (do Hd us (gU F.env id u);NR (Bf.map λn=>gU F.env n) us) A2 E s;refine A5 (C0 (wpAny_bindName (lx (B1 ho) g r _ _ λ_ AZ AJ AN Ab _=>?_)));exact ih (Ak ho) (YM hl) AN (rs.nx Ab) _ _ λ_ Au Ai AU Al _=>k () Au Ai AU (Ab.trans Al) trivial
theorem af8:∀{ts:I AA}{Bf:I U}{us:I A4}{H:Mine.St}{C:I A8}{s:AR},Sq ts=G Bf->Bf.all (G8 K.sc)=M->Bf.length=vs.length->Gd B F K A H C s->Aa s.heap C vs us->CJ B F K A ⟨putAll H.env Bf vs,H.h,H.n⟩ C s (NR ((GJ ts F.env).map (·.2)) us) RU:=by induction vs with
 |nil=>intro ts Bf us H C s hm _ hl g e;cases Bf with
  |nil=>cases ts with
   |nil=>cases e;exactλA2 E k=>AW (k () C s g (Nx.refl ..) trivial)|cons t ts=>exact(bx9 (WX hm).1)
  |cons id Bf=>exact(nomatch hl)
 |cons v vs ih=>intro ts Bf us H C s hm ho hl g e;cases Bf with
 |nil=>exact(nomatch hl)|cons id Bf=>cases ts with
 |nil=>exact(bx9 (WX hm).1)|cons t ts=>
   apply EU (e:=t) hm AF;intro TX p hm;refine BI hm λl e2 q=>?_;refine Bv e ?_;clear e;intro u us e r rs;subst e;injection Bl q with q1 q2;subst q1;subst q2;intro A2 E k;show AH _ A (do Hd us (Ew (.Name TX p) F.env u);NR ((GJ ts F.env).map (·.2)) us) A2 E s;refine A5 (C0 (bp4 (lx (B1 ho) g r _ _ λ_ AZ AJ AN Ab _=>?_)));exact ih e2 (Ak ho) (YM hl) AN (rs.nx Ab) _ _ λ_ Au Ai AU Al _=>k () Au Ai AU (Ab.trans Al) trivial
theorem Aa.reverse{v:I V}{u:I A4}(r:Aa h C v u):Aa h C v.reverse u.reverse:=Aa.ind (P:=λv u=>Aa h C v.reverse u.reverse) rfl (λ_ _ _ _ a _ ih=>by rw[YN,YN];exact ih.app (.cons a (vs:=[]) rfl)) r
theorem af9(A9:C5 B A3 n)(h:(A0.of (Vs ts e) λBf=>(ev A3 n K (.e e) H).V λv H=>FT v .bad λo vs=>oN o .bad (A0.iff (BC Bf.length vs.length&&Bf.all (G8 K.sc)&&QB Bf) (.ok (.f .next) ⟨putAll H.env Bf vs,H.h,H.n⟩)))=.ok (.f f) A7)(g:Gd B F K A H C s):CJ B F K A A7 C s (exec (.Assign ts e pos) F.env) (FR f):=by
 refine A0.Bx h ?_;clear h;intro Bf hs h;refine A0.Cg h ?_;clear h;intro v AB AP h;revert AP;apply IL h Ac;intro o vs h;apply GP h Ac;intro h AP;refine A0.Be h ?_;clear h;intro hc h;(first|(revert k;(first|apply BX h|apply B5 h|apply BY h|apply BZ h|apply B_ h);intro k)|apply BX h|apply B5 h|apply BY h|apply BZ h|apply B_ h);simp only[D6]at hc;refine xA hc ?_;(try clear hc);intro Bp hn;refine xA Bp ?_;(try clear Bp);intro hl ho;have hl:=CD hl;have hn:=bH hn;refine J6 (af4 (env:=F.env) hs) ?_;intro LD k' p' Bg hm ag7 hw;subst Bg;intro A2 E k;skip;refine A5 (Ek ?_);have ag:by0 [.Tuple LD k' p'] e pos.line F.env=pure A6:=by
   show Y3 e (G (.Tuple LD k' p')) pos.line F.env=pure A6;exact T6 ag7
 rw[ag];refine A5 (AW ?_);skip;refine A5 (A9.eW AP g _ _ λu AZ AJ AN Ab Aq=>?_);refine Bv (QH Aq) ?_;intro a us Bu ht rs;subst Bu;have Ch:Bf.length=us.size:=by rw[hl,rs.length];simp
 have kp:∀Q,Dq AJ.heap.objs.size AJ.heap Q->∀b o,AJ.heap.get? b=G o->Q.get? b=G o:=λQ hx b o e=>hx b o (EQ (Dg e)) e;rcases hw with hw|hw
 . rw[hw];refine A5 (AW ?_);show AH _ A (do Ew (.Tuple LD k' p') F.env (.ref a);pure .next) A2 E AJ;refine G5 (WX hm) ?_;intro h1 h2 _;refine A5 (bo8 AN.handled ht (by rw[W5,h1,Ch]) (W6 h2) λQ hx=>?_);have Al:Nx F.D F.A_ AJ.heap Q AZ AZ:=Nx.ext (kp Q hx);exact af8 hm ho hl (AN.ext (tk:=AJ.toks) (kp Q hx)) (rs.nx Al) _ _ λ_ BS Ax Ao B8 _=>AW (k _ BS Ax Ao (Ab.trans (Al.trans B8)) rfl)
 . rw[hw];refine A5 (AW ?_);show AH _ A (do YH "assign.swapped-stores";let Cb<-unpackItems (.ref a) Bf.length L;NR (Bf.reverse.map λn=>gU F.env n) Cb.reverse;pure .next) A2 E AJ;refine A5 (Gi ?_);rw[Ch];refine A5 (wpAny_unpackItems_tuple AN.handled ht λQ hx=>?_);have Al:Nx F.D F.A_ AJ.heap Q AZ AZ:=Nx.ext (kp Q hx);refine A5 (af7 (Bf:=Bf.reverse) (vs:=vs.reverse) (by rw[List.all_reverse];exact ho) (by simp[hl]) (AN.ext (tk:=AJ.toks) (kp Q hx)) (rs.nx Al).reverse _ _ λ_ BS Ax Ao B8 _=>AW (k _ BS Ax (Ao.af6 ?_) (Ab.trans (Al.trans B8)) rfl));exactλx=>(af5 hl hn x).symm
end
section
theorem ag8{e it:A8}{c:O}{GG:A4}{A2:AD A4->AR->Prop}(he:Lz s.heap e it i GG)(Bz:s.heap.IsStrIter it "str_ascii_iterator" x t i)(hx:x.cps[i]?=G c)(Cc:e≠it)(hQ:∀AP Q a tk Mf Eh y,Dq it s.heap AP->Dq e AP Q->gV Q e it ((i:AX)+1) y a->Q.IsStrIter it "str_ascii_iterator" x t (i+1)->Q.get? a=G {cls:=.type "tuple",data:=.seq #[.int i Mf,.str ⟨#[c]⟩ Eh]}->A2 (G (.ref a)) {s with heap:=Q,toks:=tk}):AH (AQ prog w) A (ER (.ref e)) A2 E s:=by
 have hT:s.TypeIs (.ref e) "enumerate":=⟨_,he,rfl⟩;unfold ER;refine A5 (Rk (Lq (name:=Eu "__next__") hT gW (Gj gW hT by1 ?_ (by2 _))));obtain⟨hp,g,d,tk,os⟩:=s;show AH _ _ (Kl (.ref e) 2>>=_) _ _ _;refine A5 (Gm he rfl (x:=.ref it) rfl ?_);refine A5 (wpAny_nextOf_ascii_item Bz hx λAP QR HY=>?_);replace HY:E3 it hp AP:=HY;have QX:Lz AP e it i GG:=(HY.2 e Cc).trans he;show AH _ _ (Kl (.ref e) 3>>=_) _ _ ⟨AP,g,d,tk+1,os⟩;refine A5 (Gm QX rfl (x:=ES i) rfl ?_);show AH _ _ (Kl (.ref e) 4>>=_) _ _ ⟨AP,g,d,tk+1,os⟩;refine A5 (Gm QX rfl (x:=.none) rfl ?_);show AH _ _ (mkInt i>>=_) _ _ ⟨AP,g,d,tk+1,os⟩;refine A5 (wpAny_mkInt ?_);show AH _ _ (tZ (.ref e) 3 (ES ((i:AX)+1))>>=_) _ _ ⟨AP,g,d,tk+1+1,os⟩;refine A5 (YO QX (by simp) λBD Ie QS=>?_);replace QS:E3 e AP BD:=QS;replace Ie:Lz BD e it ((i:AX)+1) GG:=Ie;show AH _ _ (tZ (.ref e) 4 .none>>=_) _ _ ⟨BD,g,d,tk+1+1,os⟩;refine A5 (YO Ie (by simp) λC3 JN WZ=>?_);replace WZ:E3 e BD C3:=WZ;replace JN:Lz C3 e it ((i:AX)+1) GG:=JN;show AH _ _ (YE [.int i (tk+1),.str ⟨#[c]⟩ tk]>>=_) _ _ ⟨C3,g,d,tk+1+1,os⟩;refine A5 (gX ?_);have W_:Lz (C3.push {cls:=.type "tuple",data:=.seq #[.int i (tk+1),.str ⟨#[c]⟩ tk]}) e it ((i:AX)+1) GG:=C1 _ JN;have bJ:=CY C3 (o:={cls:=.type "tuple",data:=.seq #[.int i (tk+1),.str ⟨#[c]⟩ tk]}) rfl;have QY:Dq e AP (C3.push {cls:=.type "tuple",data:=.seq #[.int i (tk+1),.str ⟨#[c]⟩ tk]}):=λb o ly hb=>C1 _ (WZ.extBut b o ly (QS.extBut b o ly hb));have bK:(C3.push {cls:=.type "tuple",data:=.seq #[.int i (tk+1),.str ⟨#[c]⟩ tk]}).IsStrIter it "str_ascii_iterator" x t (i+1):=by refine AC QR ?_;(try clear QR);intro o ho r;exact⟨o,QY _ _ (CX Cc) ho,r⟩
 have lz:C3.objs.size≠e:=PT (Dg JN);show AH _ _ (bP7 (.ref e)>>=_) _ _ ⟨C3.push {cls:=.type "tuple",data:=.seq #[.int i (tk+1),.str ⟨#[c]⟩ tk]},g,d,tk+1+1,os⟩;generalize C3.push {cls:=.type "tuple",data:=.seq #[.int i (tk+1),.str ⟨#[c]⟩ tk]}=FH at W_ bJ QY bK;generalize C3.objs.size=a at bJ lz;clear JN WZ Ie QS;refine A5 ?_;skip;refine A5 (Gm W_ rfl (x:=.none) rfl (AW ?_));skip;refine A5 (Gi ?_);refine A5 (Gm W_ rfl (x:=GG) rfl ?_);refine A5 (YO W_ (by simp) λMX bL bM=>?_);replace bM:E3 e FH MX:=bM;replace bL:Lz MX e it ((i:AX)+1) (.str ⟨#[c]⟩ tk):=bL;show AH _ _ (bP8 (.ref e) (.ref a)>>=_) _ _ ⟨MX,g,d,tk+1+1,os⟩;refine A5 ?_;skip;refine A5 (YO bL (by simp) λTB bN bO=>?_);replace bO:E3 e MX TB:=bO;replace bN:gV TB e it ((i:AX)+1) (.str ⟨#[c]⟩ tk) a:=bN;refine YO bN (by simp) λWa bP bQ=>?_;replace bQ:E3 e TB Wa:=bQ;replace bP:gV Wa e it ((i:AX)+1) (.str ⟨#[c]⟩ tk) a:=bP;have k7:Dq e FH Wa:=λb o hb z=>bQ.extBut b o hb (bO.extBut b o hb (bM.extBut b o hb z));refine A5 (Pc (AW ⟨_,rfl,AW (hQ AP Wa a _ _ _ _ HY.extBut (λb o hb z=>k7 b o hb (QY b o hb z)) bP ?_ (k7 _ _ lz bJ))⟩));refine AC bK ?_;(try clear bK);intro o ho r;exact⟨o,k7 _ _ (CX Cc) ho,r⟩
theorem ag9{e it:A8}{GG:A4}{A2:AD A4->AR->Prop}(hh:A.handled=L)(he:Lz s.heap e it i GG)(Bz:s.heap.IsStrIter it "str_ascii_iterator" x t i)(hx:x.cps[i]?=L)(hQ:∀Q,Dq it s.heap Q->A2 L {s with heap:=Q}):AH (AQ prog w) A (ER (.ref e)) A2 E s:=by
 have hT:s.TypeIs (.ref e) "enumerate":=⟨_,he,rfl⟩;unfold ER;refine A5 (Rk (Lq (name:=Eu "__next__") hT gW (Gj gW hT by1 ?_ (by2 _))));show AH _ _ (Kl (.ref e) 2>>=_) _ _ _;refine A5 (Gm he rfl (x:=.ref it) rfl ?_);refine A5 (wpAny_nextOf_ascii_end hh Bz hx λQ x he' JL=>?_);refine AC JL ?_;(try clear JL);intro o ho hc;refine A5 (Lw (T:="StopIteration") (b:=M) ⟨o,ho,hc⟩ gB ?_);exact AW (hQ _ he')
end
noncomputable def QZ(h:BK)(x:Tx)(i:O)(AE E0:A8):Prop:=AE≠E0/\(∃GG,Lz h AE E0 (i:O) GG)/\∃t,h.IsStrIter E0 "str_ascii_iterator" ⟨⟨x⟩⟩ t i
section
theorem QZ.nx{x:Tx}(r:QZ h x i AE E0)(y:Nx AM A_ h Q C AT)(hI:AE∉C)(hw:AE∉A_)(hJ:E0∉C)(hw':E0∉A_):QZ Q x i AE E0:=by
 refine uv r ?_;(try clear r);intro ne Aw t o e' c d;refine xE Aw ?_;(try clear Aw);intro GG e;exact⟨ne,⟨GG,y.keep AE _ e hI hw (λ_=>rfl)⟩,t,o,y.keep E0 o e' hJ hw' (λ_=>by unfold H9;rw[d]),c,d⟩
noncomputable def bR(B:Bs)(A3:Mine.Ctx)(n:O):Prop:=∀{K:Kx}{ts:I AA}{kd:O}{p:BA}{x:Tx}{i:O}{b:I As}{H A7:Mine.St}{f:Fl},ev A3 n K (.loop (.Tuple ts kd p) (.K1 x) i b) H=.ok (.f f) A7->∀{F:Fm}{A:CK}{C BG:I A8}{s:AR}{Af:BK}{AE E0:A8}{AS:Dr->AR->Prop},Gd B F K A H C s->Nx F.D F.A_ Af s.heap BG C->Af.get? AE=L->Af.get? E0=L->CM B F C s.heap AE->CM B F C s.heap E0->QZ s.heap x i AE E0->(∀u AT s',Gd B F K A A7 AT s'->Nx F.D F.A_ Af s'.heap BG AT->FR f s'.heap AT u->AS (.ok u) s')->D7 (AQ B.prog B.w) A (.forLoop (.Tuple ts kd p) (.ref AE) b [] F.env) AS s
theorem ah0(A9:C5 B A3 n)(Se:bR B A3 n){x:Tx}{b:I As}(h:step A3 K (ev A3 n) (.loop (.Tuple ts kd p) (.K1 x) i b) H=.ok (.f f) A7){AS:Dr->AR->Prop}(g:Gd B F K A H C s)(Cr:Nx F.D F.A_ Af s.heap BG C)(hI:Af.get? AE=L)(hJ:Af.get? E0=L)(fI:CM B F C s.heap AE)(fJ:CM B F C s.heap E0)(r:QZ s.heap x i AE E0)(k:∀u AT s',Gd B F K A A7 AT s'->Nx F.D F.A_ Af s'.heap BG AT->FR f s'.heap AT u->AS (.ok u) s'):D7 (AQ B.prog B.w) A (.forLoop (.Tuple ts kd p) (.ref AE) b [] F.env) AS s:=by
 have h:A0.of (IQ (.K1 x) i H.h) _=_:=h;refine A0.Bx h ?_;clear h;intro o AP h;injection AP with AP;rw[HV]at AP;refine II r ?_;(try clear r);intro ne B6 t Bz;refine xE B6 ?_;(try clear B6);intro GG he;have bT8:∀{h:BK}{e it:A8}{i:AX}{GG:A4},Lz h e it i GG->∀o,h.get? e=G o->C2 o=A6:=λe o q=>by rw[e]at q;injection q with q;subst q;rfl
 have bT9:∀{h:BK}{e it a:A8}{i:AX}{y:A4},gV h e it i y a->∀o,h.get? e=G o->C2 o=A6:=λe o q=>by rw[e]at q;injection q with q;subst q;rfl
 have cJ:∀{h:BK}{it:A8}{x:U}{t:EO}{i:O},h.IsStrIter it "str_ascii_iterator" x t i->∀o,h.get? it=G o->C2 o=A6:=λe o q=>by
  refine CZ e ?_;(try clear e);intro o' e' c _;rw[e']at q;injection q with q;subst q;unfold C2;rw[c];rfl
 refine MT ?_;cases hx:x[i]? with
 |none=>
  rw[hx]at AP;subst AP;(first|(revert k;(first|apply BX h|apply B5 h|apply BY h|apply BZ h|apply B_ h);intro k)|apply BX h|apply B5 h|apply BY h|apply BZ h|apply B_ h);exact ag9 g.handled he Bz (by simpa using hx) λQ kx=>k _ C _ (g.move (tk:=s.toks) fJ kx (cJ Bz)) (Cr.F0 kx hJ) rfl|some c=>
  rw[hx]at AP;subst AP;refine A0.Hs h ?_;clear h;intro _ Bc BD h;refine A0.Hs h ?_;clear h;intro d GW C3 h;refine ag8 he Bz (c:=c) (by simpa using hx) ne λhA hB a tk Mf Eh y kA kB eo ei et=>?_;have m1:Lz hA AE E0 i GG:=kA _ _ ne he;have bU0:=g.move (tk:=tk) fJ kA (cJ Bz);have fIA:CM B F C hA AE:=fI.at ⟨_,m1⟩;have bU1:=Gd.move (s:={s with heap:=hA,toks:=tk}) (tk:=tk) bU0 fIA kB (bT8 m1);have fIB:CM B F C hB AE:=fI.at ⟨_,eo⟩;have fJB:CM B F C hB E0:=fJ.at (by refine AC ei ?_;(try clear ei);intro o e _;exact⟨o,e⟩);have bU2:Nx F.D F.A_ Af hB BG C:=(Cr.F0 kA hJ).F0 kB hI;refine wpAny_letOwnedTupleGo_enum eo λhC eC sC=>?_;replace sC:E3 AE hB hC:=sC;have bU3:=Gd.move (s:={s with heap:=hB,toks:=tk}) (tk:=tk) bU1 fIB sC.extBut (bT9 eo);have bS:CM B F C hC AE:=fI.at ⟨_,eC⟩;have bU:hC.IsStrIter E0 "str_ascii_iterator" ⟨⟨x⟩⟩ t (i+1):=by refine AC ei ?_;(try clear ei);intro o e r;exact⟨o,sC.extBut _ _ (CX ne) e,r⟩
  have bV:CM B F C hC E0:=fJ.at (by refine AC bU ?_;(try clear bU);intro o e _;exact⟨o,e⟩);have yC:Nx F.D F.A_ Af hC BG C:=bU2.F0 sC.extBut hI;have ne':a≠AE:=λz=>by rw[z,eo]at et;injection et with et;have :=congrArg Obj.cls et;injection this with this;exact absurd this (by decide)
  have etC:hC.get? a=G {cls:=.type "tuple",data:=.seq #[.int i Mf,.str ⟨#[c]⟩ Eh]}:=sC.extBut _ _ ne' et;have bU4:QZ hC x (i+1) AE E0:=⟨ne,⟨_,eC⟩,t,bU⟩;refine A9.asg BD bU3 (u:=.ref a) ⟨a,_,_,_,rfl,etC,⟨rfl,λ_=>⟨rfl,rfl⟩⟩,rfl,rfl,_,_,rfl,⟨Mf,rfl⟩,_,_,rfl,⟨Eh,rfl⟩,rfl⟩ _ _ λ_ Au Ai AU Al _=>A9.ss C3 AU _ _ λMU BS Ax Ao B8 BQ=>?_;have xx:=Al.trans B8;have Eo:=yC.trans xx;have m4:=bS.nx xx;have m5:=bV.nx xx;have m6:=bU4.nx xx bS.C bS.w bV.C bV.w;cases d with
 |next=>cases BQ;exact Se h Ao Eo hI hJ m4 m5 m6 k|cont=>cases BQ;exact Se h Ao Eo hI hJ m4 m5 m6 k|brk=>
   cases BQ;(first|(revert k;(first|apply BX h|apply B5 h|apply BY h|apply BZ h|apply B_ h);intro k)|apply BX h|apply B5 h|apply BY h|apply BZ h|apply B_ h);exact k _ BS Ax Ao Eo rfl|ret v=>
   refine AC BQ ?_;(try clear BQ);intro y Bp BQ;subst Bp;(first|(revert k;(first|apply BX h|apply B5 h|apply BY h|apply BZ h|apply B_ h);intro k)|apply BX h|apply B5 h|apply BY h|apply BZ h|apply B_ h);exact k _ BS Ax Ao Eo ⟨y,rfl,BQ⟩
end
noncomputable def Wb:U:=⟨⟨[101,110,117,109,101,114,97,116,101]⟩⟩
section
theorem ah1(A9:C5 B A3 n){body:I As}{Af:RM}{hs:I RM}(h:ev A3 n K (.ss body) H=.ok (.f f) A7)(g:Gd B F K A H C s):CJ B F K A A7 C s (exec (.Try body (Af::hs) [] [] pos) F.env) (FR f):=by
 intro A2 E k;refine by3 (A9.ss h g _ _ λu AZ AJ AN Ab Aq=>?_);cases f with
 |next=>cases Aq;exact G1 (k .next AZ AJ AN Ab rfl)|brk=>cases Aq;exact k _ AZ AJ AN Ab rfl|cont=>cases Aq;exact k _ AZ AJ AN Ab rfl|ret v=>refine AC Aq ?_;(try clear Aq);intro y Aw Aq;subst Aw;exact k _ AZ AJ AN Ab ⟨y,rfl,Aq⟩
theorem Wc{x:AA}(hp:CP x=M)(d:Ae B F K A A7 C s (eval x F.env) (RV v))(pos:BA):Ae B F K A A7 C s (Lm (F8 pos (Dz [x] F.env))) (O7 [v]):=by
 intro A2 E k;refine Ln (d _ _ λu AZ AJ AN Ab Aq=>Uk (k [u] AZ AJ AN Ab ⟨u,[],rfl,Aq,rfl⟩)) (K6 hp)
theorem ah2(hg:Dh sc id=M):D1 sc id=A6:=AC (W1 (P:=λk=>isIn [.local,.cell,.free] (G k)=A6) hg (all_cons rfl EC)) λk e c=>(congrArg (isIn [.local,.cell,.free]) e).trans c
theorem m7{w:A4}(hg:Dh K.sc id=M)(hw:Ah A3.glob id=G (.top w)):Fo A3 K (ev A3 0) (.Name id p) H=.ok (.v (.top w)) H:=by
 show bC (D1 K.sc id) _ (bC (Dh K.sc id) (Fj (Ah A3.glob id) H) _)=_;rw[ah2 hg,hg,hw];rfl
theorem Wd{Bk:Gl B A3}{args:I AA}{w:A4}(hg:Dh K.sc id=M)(hw:Ah A3.glob id=G (.top w))(hp:args.all CP=M)(g:Gd B F K A H C s)(h:∀AZ AJ,Gd B F K A H AZ AJ->Nx F.D [] s.heap AJ.heap C AZ->AH (AQ B.prog B.w) A (Lm (F8 pos (Dz args F.env))) (λus s'=>CW (AQ B.prog B.w) s'.heap w/\AH (AQ B.prog B.w) A (CE w us) A2 E s') E AJ):AH (AQ B.prog B.w) A (eval (.Call (.Name id p) args [] pos) F.env) A2 E s:=by
 rw[show eval (.Call (.Name id p) args [] pos) F.env=(do PU pos (<-eval (.Name id p) F.env) [] (F8 pos (Dz args F.env)) [])from rfl];refine A5 (bG Bk (m7 hg hw) g _ _ λu AZ AJ AN Ab Aq=>?_);cases Aq;refine fc (P:=λh=>CW (AQ B.prog B.w) h w) (by rw[WA hp];rfl) (λh c=>c) ?_;have this:=h AZ AJ AN Ab;cases args with
 |nil=>exact aV this|cons x l=>rw[K6 (B1 hp)]at this ⊢;exact sq this
theorem bW{Bk:Gl B A3}{args:I AA}{w:A4}(hg:Dh K.sc id=M)(hw:Ah A3.glob id=G (.top w))(hc:∀h,CW (AQ B.prog B.w) h w)(hp:args.all CP=M)(g:Gd B F K A H C s)(h:∀BG EM p,Gd B F K A H BG EM->Nx F.D [] s.heap EM.heap C BG->Ae B F K A AB BG EM (Lm (F8 p (Dz args F.env))) (O7 vs))(hk:∀us AZ AJ,Gd B F K A AB AZ AJ->Nx F.D [] s.heap AJ.heap C AZ->Aa AJ.heap AZ vs us->AH (AQ B.prog B.w) A (CE w us) A2 E AJ):AH (AQ B.prog B.w) A (eval (.Call (.Name id p) args [] pos) F.env) A2 E s:=Wd (Bk:=Bk) hg hw hp g λAZ AJ AN Ab=>h AZ AJ pos AN Ab _ E λus Au Ai AU Al BB=>⟨hc _,hk us Au Ai AU (Ab.trans Al) BB⟩
theorem Q_{f:AA}{m:D9}(h:O1 f m=M){P:AA->Prop}(k:∀p,P (.Name (Eu m) p)):P f:=by
 apply EU h B0;intro id p h;rw[E1.mp h];exact k p
theorem ah3{it x:AA}(h:Sd it=G x):∃p pos,it=.Call (.Name Wb p) [x] [] pos:=by
 apply M3 h AF;intro f a k pos h;apply Ct h AF;intro y h;apply EV h AF;intro h;refine Ce h AF λq h=>?_;apply Q_ q;intro p;apply Br h.symm;exact⟨p,pos,rfl⟩
theorem ah4(Bk:Gl B A3)(hen:Ah A3.glob Wb=G (.top (.type "enumerate")))(A9:C5 B A3 n)(Se:bR B A3 n){t it x:AA}{b:I As}(he:Sd it=G x)(h:IS K (ev A3 n) (.For t it b [] pos) H=.ok (.f f) A7)(g:Gd B F K A H C s):CJ B F K A A7 C s (exec (.For t it b [] pos) F.env) (FR f):=by
 refine M4 h (λx' e q=>?_) λe _=>by rw[he]at e;exact(AF e.symm).elim
 clear h;revert q;intro h;rw[he]at e;injection e with e;subst e;apply Rw h Ac;intro ts kd p h;refine A0.Be h ?_;clear h;intro hg h;simp only[D6]at hg;refine A0.Cg h ?_;clear h;intro v AB AP h;revert AP;apply Dc h Ac;intro tx h AP;refine A0.Be h ?_;clear h;intro ha h;refine DA (ah3 he) ?_;intro bU5 bU6 BP;clear he;subst BP;intro A2 E k;refine Y2 (bW (Bk:=Bk) (vs:=[.str tx]) hg.1 hen (λ_=>CW.type) (by simp[hg.2]) g (λBG EM p F_ Cr=>Wc hg.2 (A9.e AP F_) p) λus AZ AJ AN Ab Aq=>?_) (λ_=>rfl);refine Bv Aq ?_;(try clear Aq);intro u us Bp Bg e;subst Bp;refine xE Bg ?_;(try clear Bg);intro tk Bu;subst Bu;cases e;refine call_enumerate_str λQ he Bz Ed kp=>?_;have hJ:AJ.heap.get? AJ.heap.objs.size=L:=GD AJ.heap;have hI:AJ.heap.get? (AJ.heap.objs.size+1)=L:=by cases e:AJ.heap.get? (AJ.heap.objs.size+1)with
 |none=>rfl|some o=>exact absurd (Dg e) (Ul.mpr (PN _))
 have ty:strIterType ⟨⟨tx⟩⟩="str_ascii_iterator":=by
  unfold strIterType;rw[DF];rw[Bq]at ha;show(YP tx).all _=M;rw[<-Array.all_toList,Bq];intro c hc;have :=ha c hc;have :c<128:=gM (Dj this);simpa using this
 rw[ty]at Bz;refine wpAny_pyIter_enum he ?_;have x':Nx F.D F.A_ AJ.heap Q AZ AZ:=Nx.ext kp;exact Se h (AN.ext (tk:=AJ.toks) kp) x' hI hJ (AN.freeOf hI ⟨_,he⟩) (AN.freeOf hJ (by refine AC Bz ?_;(try clear Bz);intro o e _;exact⟨o,e⟩)) ⟨t_ _,⟨_,he⟩,tk,Bz⟩ λu BS Ax Ao B8 BQ=>k u BS Ax Ao (Ab.FY.trans B8) BQ
end
theorem ah5{x y:Ob}:(H.set i x).set i y=H.set i y:=by show Mine.St.mk _ (putN (putN H.h i x) i y) _=_;rw[xC];rfl
theorem ah6{x y:Ob}:(H.new x).2.set H.n y=(H.new y).2:=by
 show Mine.St.mk _ (putN ((H.n,x)::H.h) H.n y) _=_;unfold putN;simp only[Iy];rfl
noncomputable def Qa(h:BK)(C:I A8):I (V×V)->I (A4×A4)->Prop
 |[],l=>l=[]|p::ps,l=>∃k v r,l=(k,v)::r/\VR h C p.1 k/\VR h C p.2 v/\Qa h C ps r
theorem Qa.nx(x:Nx AM A_ h Q C AT):∀{l:I (A4×A4)},Qa h C ps l->Qa Q AT ps l:=by induction ps with
 |nil=>exact id|cons p ps ih=>exactλe=>J6 e λk v r e a b c=>⟨k,v,r,e,a.nx x,b.nx x,ih c⟩
theorem ah7{d:A8}{x:A4×A4}{vs:I (A4×A4)}:YQ d (x::vs)=(Rd d x.1 x.2>>=λ_=>YQ d vs):=by
 unfold YQ;rw[Rb,bind_assoc];rfl
section
theorem m8(g:Gd B F K A H C s)(hd:AL H.h i=G (.dict N))(ha:C[i]?=G a)(rk:VR s.heap C k ku)(rv:VR s.heap C v vu)(hk:Dd N k=M)(hf:CH N=M):Ae B F K A (H.set i (.dict (Em N k v))) C s (Rd a ku vu) RU:=by
 intro A2 E kk;have r:=g.obj hd ha;exact l7 hk r rk rv hf λQ hs d=>xA (g.set (Q:=Q) (tk:=s.toks+1) (o':=.dict (Em N k v)) ha hd (λ_ _ e=>by(exfalso;cases e)) hs.extBut d.live λ_=>d) λg' x'=>kk () C _ g' x' trivial
theorem ah8:∀{vs:I (A4×A4)}{H:Mine.St}{C:I A8}{s:AR}{Am N:I (V×V)},Gd B F K A H C s->Qa s.heap C ps vs->Kv ps Am=G N->AL H.h i=G (.dict Am)->C[i]?=G a->Ae B F K A (H.set i (.dict N)) C s (YQ a vs) RU:=by induction ps with
 |nil=>
  intro vs H C s Am N g e hf hd ha;cases e;refine Br hf (P:=λN=>Ae B F K A (H.set i (.dict N)) C s (YQ a []) RU) ?_;rw[show H.set i (.dict Am)=H from congrArg (λh=>Mine.St.mk H.env h H.n) (xF hd)];exactλA2 E k=>AW (k () C s g (Nx.refl ..) trivial)|cons p ps ih=>
  intro vs H C s Am N g e hf hd ha;refine J6 e ?_;clear e;intro ku vu r q rk rv rr;subst q;have hf:bC (Dd Am p.1&&CH Am) (Kv ps (Em Am p.1 p.2)) L=G N:=hf;refine Ea hf (λhc hf=>?_) λ_ e=>(AF e).elim
  . replace hc:=Ra (B1 hc) (Ak hc);intro A2 E k;rw[ah7];refine A5 (m8 g hd ha rk rv hc.1 hc.2 _ _ λ_ AZ AJ AN Ab _=>?_);have :=ih AN (rr.nx Ab) hf (ML hd) (by refine AC Ab.pre ?_;intro J e _;rw[e];exact FX ha);rw[ah5]at this;exact this _ _ λ_ Au Ai AU Al _=>k () Au Ai AU (Ab.trans Al) trivial
theorem m9{k:AD AA}{ks:I (AD AA)}{vs:I AA}(h:MH (k::ks) vs=G ps){P:AD AA->I AA->I (V×V)->Prop}(d:∀c KJ LF c' JO Ig OR kv vv l,O0 c=G kv->O0 c'=G vv->MH ks OR=G l->P (G (.Constant c KJ LF)) (.Constant c' JO Ig::OR) ((kv,vv)::l)):P k vs ps:=by
 apply Nl h AF;intro x h;apply J4 h AF;intro c KJ LF h;apply FS h AF;intro y OR h;apply J4 h AF;intro c' JO Ig h;refine BI h λkv h1 h=>?_;refine BI h λvv h2 h=>?_;refine BI h λl h3 h=>?_;apply Br h;exact d _ _ _ _ _ _ _ _ _ _ h1 h2 h3
theorem mA:∀{ks:I (AD AA)}{vs:I AA}{ps:I (V×V)}{C:I A8}{s:AR}{pos:BA},MH ks vs=G ps->Gd B F K A H C s->Ae B F K A H C s (ta (pairTrees ks vs F.env pos)) (λh C l=>Qa h C ps l)
 |[],vs,ps,C,s,pos,h,g=>by
  apply EV h AF;intro h;apply Br h;exactλA2 E k=>AW (k [] C s g (Nx.refl ..) rfl)|k::ks,vs,ps,C,s,pos,h,g=>by
  apply m9 h;intro c KJ LF c' JO Ig OR kv vv l h1 h2 h3 A2 E k;show AH _ A (do
 let kv<-eval (.Constant c KJ LF) F.env let vv<-Hd [kv] (do let x<-eval (.Constant c' JO Ig) F.env;Ke pos;pure x)return(kv,vv)::(<-Hd [kv,vv] (ta (pairTrees ks OR F.env pos)))) A2 E s;refine A5 (W4 g h1 _ _ λu AZ AJ AN Ab Aq=>A5 (C0 (A5 (W4 AN h2 _ _ λu' Au Ai AU Al BB=>A5 (Ek (AW ?_))))));refine A5 (C0 (mA h3 AU _ _ λl' BS Ax Ao B8 BQ=>AW ?_));exact k _ BS Ax Ao (Ab.trans (Al.trans B8)) ⟨u,u',l',rfl,(Aq.nx Al).nx B8,BB.nx B8,BQ⟩
theorem mB:∀{ks:I (AD AA)}{vs:I AA}{ps:I (V×V)},MH ks vs=G ps->ks.all (·.isSome)=M/\ks.length=vs.length/\ks.length=ps.length
 |[],vs,ps,h=>by
  apply EV h AF;intro h;apply Br h;exact⟨rfl,rfl,rfl⟩|k::ks,vs,ps,h=>by
  apply m9 h;intro c KJ LF c' JO Ig OR kv vv l h1 h2 h3;refine G5 (mB h3) ?_;intro a b c;exact⟨by simpa using a,by simp[b],by simp[c]⟩
theorem Gd.newDict(g:Gd B F K A H C s)(tk:O):Gd B F K A (H.new (.dict [])).2 (C++[s.heap.objs.size]) {s with heap:=s.heap.push {cls:=.type "dict",data:=.dict #[]},toks:=tk}/\Nx F.D [] s.heap (s.heap.push {cls:=.type "dict",data:=.dict #[]}) C (C++[s.heap.objs.size]):=by
 have kp:∀b o,s.heap.get? b=G o->(s.heap.push {cls:=.type "dict",data:=.dict #[]}).get? b=G o:=λb o e=>C1 _ e;have hn:=GD s.heap;have hg:=CY s.heap (o:={cls:=.type "dict",data:=.dict #[]}) rfl;exact⟨g.new kp hn ⟨_,hg⟩ (o:=.dict []) (lA hg),Nx.add [_] kp λb hb=>by rw[CI.mp hb];exact hn⟩
theorem Gd.LG(g:Gd B F K A H C s):(C++[a])[H.n]?=G a:=by rw[<-g.len];simp
theorem ah9:AL (H.new o).2.h H.n=G o:=by simp[Mine.St.new,AL,i7]
theorem ai0:YR []=newDict:=by
 unfold YR;simp
theorem mC{ks:I (AD AA)}{vs:I AA}(h1:MH ks vs=G ps)(h2:EP ps.length 15=M)(h3:Kv ps []=G N)(g:Gd B F K A H C s):Ae B F K A (H.new (.dict N)).2 C s (eval (.Dict ks vs pos) F.env) (RV (.ref H.n)):=by
 refine G5 (mB h1) ?_;intro ha hl hp;have gp:=g.newDict (s.toks);intro A2 E k;cases ks with
 |nil=>
  cases vs<;>first|((exfalso;cases hl);done)|skip
  injection h1 with h1;clear h2 hp;subst h1;injection h3 with h3;subst h3;skip;refine A5 (Ek ?_);show AH _ A (YR []) A2 E s;rw[ai0];exact IB (k _ _ _ gp.1 gp.2 ⟨_,g.LG,rfl⟩)|cons L4 ks=>
  refine wpAny_Dict_any ha hl (by simp) (by rw[hp];exact Dj h2) ?_;refine mA h1 gp.1 _ _ λl AZ AJ AN Ab Aq=>?_;have Di:AZ[H.n]?=G s.heap.objs.size:=by refine AC Ab.pre ?_;intro J e _;rw[e];exact FX g.LG
  have :=ah8 AN Aq h3 ah9 Di;rw[ah6]at this;exact this _ _ λ_ Au Ai AU Al _=>k _ Au Ai AU (gp.2.trans (Ab.trans Al)) ⟨_,by refine AC Al.pre ?_;intro J e _;rw[e];exact FX Di,rfl⟩
end
section
variable[DecidableEq T]{By:KeyKind prog w T}
theorem ai1{d:A8}{Az:I (T×A4)}{k:T}{key v:A4}{A2:Do->AR->Prop}(EL:By.is k key=M)(hm:s.heap.DictAt By d Az Az.length)(hQ:∀Q,Q.DictAt By d (FA Az k v) (FA Az k v).length->E3 d s.heap Q->A2 () {s with heap:=Q})(Ed:Az.length<=F9):AH (AQ prog w) A (tb d (By.hash k) key v) A2 E s:=by
 refine M7 hm ?_;(try clear hm);intro o N ho hc hd hk hp hn;have Ch:N.size=Az.length:=by have :=hp.length;simpa using this
 have OK:(N.findIdx? λe=>By.is k e.key)=Az.findIdx? λkv=>decide (kv.1=k):=by rw[<-hp.findIdx k];obtain⟨l⟩:=N;simp
 unfold tb;refine A5 (t3 EL ho hd hk ?_);cases hi:N.findIdx? λe=>By.is k e.key with
 |some i=>
  have HC:=bs4 (OK▸hi);have e1:FA Az k v=Az.map λkv=>if kv.1=k then(kv.1,v)else kv:=by rw[FA,DF HC]
  have hl:(N.toList.findIdx? λe=>By.is k e.key)=G i:=by rw[<-hi];obtain⟨l⟩:=N;simp
  have FI:=hp.modify hn hl v;refine bs5 ho hd (hQ _ ?_ (Fg ..));refine⟨_,_,FQ _ ho (Y6 (fw hd _)),hc.mapDict _,?_,hk.modify i v,?_,?_⟩;. rw[e1,Jl];exact fw hd _
  . rw[e1];obtain⟨l⟩:=N;simpa using FI
  . rw[e1,bs6];exact hn|none=>
  have TL:k∉Az.map (·.1):=bs7 (OK▸hi);have TM:¬(Az.any λkv=>decide (kv.1=k))=M:=λh=>by
    refine AC (ID.mp h) ?_;intro kv OL he;exact TL (E'.mpr ⟨kv,OL,of_decide_eq_true he⟩)
  have e1:FA Az k v=Az++[(k,v)]:=by rw[FA,CS TM]
  refine t4 (hz:=by(with_reducible exact Mine.yT (by assumption) (by assumption))) ho hd (hQ _ ?_ (Fg ..));refine⟨_,_,FQ _ ho (Y6 (Us hd _)),hc.mapDictKeys _,?_,hk.push EL v,?_,?_⟩;. rw[e1,FC];exact Us hd _
  . have :=hp.append EL (By.hash k) v;rw[e1];obtain⟨l⟩:=N;simpa using this
  . rw[e1,NX,I9];refine⟨hn,by simp,λa ha b hb e=>?_⟩;simp only[J',t5,CI]at hb;exact TL (hb▸e▸ha)
end
section
open Builtin Builtin.Str
theorem ai2{i:AX}(h0:0<=i)(h1:i<100){u:EO}:V5 («str.format» ⟨[.str ⟨#[123,125]⟩ t,.int i u],[]⟩) (λ_ AS s=>∀t' k,AS (.ok (.ret (.str (M0 (toString i)) t'))) {s with toks:=k}):=by kfm_run
theorem ai3{i j:AX}(h0:0<=i)(h1:i<100)(h2:0<=j)(h3:j<100){u v:EO}:V5 («str.format» ⟨[.str ⟨#[123,125,44,123,125]⟩ t,.int i u,.int j v],[]⟩) (λ_ AS s=>∀t' k,AS (.ok (.ret (.str ((M0 (toString i)++M0 ",")++M0 (toString j)) t'))) {s with toks:=k}):=by kfm_run
theorem ai4:∀n:Fin 100,M0 (toString ((n.val:O):AX))=⟨⟨Q3 n.val⟩⟩:=by decide+kernel
theorem TY{i:AX}(h:Nz i=M):0<=i/\i<100:=by simpa[Nz]using h
theorem We{i:AX}(h:Nz i=M):M0 (toString i)=⟨⟨JC i⟩⟩:=by
 refine xA (TY h) ?_;intro h0 h1;have :=ai4 ⟨i.toNat,by(with_reducible exact Mine.vh (by assumption) (by assumption))⟩;simp only at this;rw[show((i.toNat:O):AX)=i by(with_reducible exact tR (by assumption))]at this;exact this
theorem mD:∀{p s:Tx},K0 p s=M↔p<+:s
 |[],s=>by simp[K0]|a::p,[]=>by simp[K0]|a::p,b::s=>by
  unfold K0;cases q:BC a b with
 |true=>
   have :=CD q;clear q;subst this;rw[by4];simp only[true_and];exact mD|false=>
   have :a≠b:=λz=>by subst z;simp at q
   simp[by4,this]
theorem ai5{s p:Tx}:by5 ⟨⟨s⟩⟩ ⟨⟨p⟩⟩=K0 p s:=by
 rw[Bool.eq_iff_iff,mD];unfold by5 subAt;simp only[Ui,D6,PR,Rc];have e:(YP s).extract 0 p.length=⟨s.take p.length⟩:=by simp
 show p.length<=s.length/\(YP s).extract 0 p.length=⟨p⟩↔_;rw[e,List.prefix_iff_eq_take];constructor;. rintro⟨_,h⟩;injection h with h;exact h.symm
 . intro h;exact⟨by have :=congrArg Rm h;simp at this;(with_reducible exact Mine.vm (by assumption)),by rw[<-h]⟩
noncomputable def mE:SK->D9|.sw=>"str.startswith"|.ew=>"str.endswith"|.split=>"str.split"|.rfind=>"str.rfind"|.rstrip=>"str.rstrip"|.fmt=>"str.format"|.join=>"str.join"
theorem ai6{m:U}{k:SK}(h:Sk m=G k):"str."++m.toString=mE k:=H3.mp (show Vk.map (λp=>"str."++p.1.toString)=Vk.map (λp=>mE p.2)by decide+kernel) _ (FF h)
section
theorem ai7{c:O}{u:EO}(hx:x.length<=100000)(k:∀l tk,l.map (·.1)=Xz x ⟨⟨[c]⟩⟩->A2 (.ref s.heap.objs.size) {s with heap:=s.heap.push {cls:=.type "list",data:=.seq (V6 l).toArray},toks:=tk}):AH (AQ prog w) A (CE (.builtin "str.split") [.str x t,.str ⟨⟨[c]⟩⟩ u]) A2 E s:=by
 have hy:((⟨⟨[c]⟩⟩:U).length==0)=A6:=rfl;have Wf:(100002:O)<=F9:=by decide
 cases Qb:(decide (x.length<(⟨⟨[c]⟩⟩:U).length)||decide (strKind x<strKind ⟨⟨[c]⟩⟩))with
 |true=>
  refine tc gY (PZ _ _ _) td (te _ _) (meets_str_split_cannot_occur x _ t u Qb) ?_;exact k [(x,t)] _ (by unfold Xz;rw[DF Qb];rfl)|false=>cases hf:(occurrences x ⟨⟨[c]⟩⟩ 0 x.length (x.length+1)).isEmpty with
 |true=>
   refine tc gY (PZ _ _ _) td (te _ _) (meets_str_split_not_found x _ t u Qb hy hf) ?_;exact k [(x,t)] _ (by unfold Xz;rw[CS (by rw[Qb];simp),DF hf];rfl)|false=>
   have hn:(partsBetween x (occurrences x ⟨⟨[c]⟩⟩ 0 x.length (x.length+1)) (⟨⟨[c]⟩⟩:U).length).length<=F9:=by
    unfold partsBetween;simp only[Jl,List.length_zip,Uv,FC,List.length_nil];have :=StrLaws.occ_length_le_len x ⟨⟨[c]⟩⟩ 0 x.length (x.length+1);refine B4 (Xv _ _) ?_;(with_reducible exact Mine.vB (by assumption) (by assumption) (by assumption))
   refine tc gY (PZ _ _ _) td (te _ _) (meets_str_split_sep x _ t u Qb hy hf (by(with_reducible exact B4 (by assumption) (by decide))) hn) ?_;rw[strsFrom_eq];exact k _ _ (by rw[numbered_texts];unfold Xz;rw[CS (by rw[Qb];simp),CS (by rw[hf];simp)])
end
theorem mF:∀(l:I (U×EO)),Aa h C ((l.map (·.1)).map λx=>.str x.cps.toList) (V6 l)
 |[]=>rfl|p::l=>⟨_,_,rfl,⟨p.2,rfl⟩,mF l⟩
theorem ai8:∀{us:I A4},Aa h C (l.map .str) us->∃lt:I (U×EO),us=V6 lt/\lt.map (·.1)=l.map λx=>⟨⟨x⟩⟩:=by induction l with
 |nil=>exactλe=>⟨[],e,rfl⟩|cons x l ih=>intro us r;refine Aa.Sr (vs:=l.map .str) r (P:=λus=>∃lt:I (U×EO),us=V6 lt/\lt.map (·.1)=(x::l).map λx=>⟨⟨x⟩⟩) ?_;intro u us a b;exact xE a λt a=>AC (ih b) λlt q h2=>⟨(⟨⟨x⟩⟩,t)::lt,by rw[a,q];rfl,congrArg (_::·) h2⟩
section
theorem Gd.ai9(g:Gd B F K A H C s){us:BW A4}(r:Aa s.heap C Y us.toList)(tk:O):Gd B F K A (H.new (.list Y)).2 (C++[s.heap.objs.size]) {s with heap:=s.heap.push {cls:=.type "list",data:=.seq us},toks:=tk}/\Nx F.D [] s.heap (s.heap.push {cls:=.type "list",data:=.seq us}) C (C++[s.heap.objs.size]):=by
 have kp:∀b o,s.heap.get? b=G o->(s.heap.push {cls:=.type "list",data:=.seq us}).get? b=G o:=λb o e=>C1 _ e;have hn:=GD s.heap;have hg:=CY s.heap (o:={cls:=.type "list",data:=.seq us}) rfl;exact⟨g.new kp hn ⟨_,hg⟩ (o:=.list Y) ⟨us,⟨_,hg⟩,r.mono (λb o e _=>kp b o e)⟩,Nx.add [_] kp λb hb=>by rw[CI.mp hb];exact hn⟩
theorem aj0{k:SK}{m:U}{tx:Tx}(g:Gd B F K A H C s)(hk:Sk m=G k)(ro:VR s.heap C (.str tx) u)(rs:Aa s.heap C args us)(h:jg tx k args H=.ok (.v v) A7):Ae B F K A A7 C s (CE (.builtin ("str."++m.toString)) (u::us)) (RV v):=by
 rw[ai6 hk];refine A0.Be h λhf h=>?_;have hl:=Ee hf;have Ed:(⟨⟨tx⟩⟩:U).length<=F9:=B4 (show tx.length<=100000 from hl) (by decide);refine xE ro ?_;(try clear ro);intro t B6;subst B6;clear hk;revert rs;cases k with
 |sw=>
  apply Ct h Ac;intro p h;apply Dc h Ac;intro p h rs;apply B5 h;apply QD rs;intro t' A2 E kk;exact SC.startswith (by rw[ai5];exact kk _ C _ g (Nx.refl ..) rfl)|ew=>
  apply Ct h Ac;intro p h;apply Dc h Ac;intro p h rs;apply B5 h;apply QD rs;intro t' A2 E kk;exact SC.endswith (kk _ C _ g (Nx.refl ..) rfl)|split=>
  apply Ct h Ac;intro p h;apply Dc h Ac;intro p h;apply Ct h Ac;intro c h rs;apply B5 h;apply QD rs;intro t' A2 E kk;refine ai7 hl λl tk CF=>?_;have :=mF (h:=s.heap) (C:=C) l;rw[CF]at this;refine xA (g.ai9 (us:=(V6 l).toArray) (by simpa using this) tk) ?_;intro g' x';exact kk _ _ _ g' x' ⟨_,g.LG,rfl⟩|rfind=>
  apply Ct h Ac;intro p h;apply Dc h Ac;intro p h rs;apply B5 h;apply QD rs;intro t' A2 E kk;exact SC.rfind (kk _ C _ (g.tok _) (Nx.refl ..) ⟨_,rfl⟩)|rstrip=>
  apply Ct h Ac;intro p h;apply Dc h Ac;intro p h rs;apply B5 h;apply QD rs;intro t' A2 E kk;exact SC.rstripChars (λH8 tk=>kk _ C _ (g.tok _) (Nx.refl ..) ⟨_,rfl⟩) Ed|fmt=>
  apply i6 h Ac
  . intro i h;apply Cv h Ac;intro i h rs;refine A0.Be h λhc h=>?_;apply B5 h;apply a7 rs;intro t' A2 E kk;have :=Eb.mp (B1 hc);clear hf hl Ed;subst this;refine xA (TY (Ak hc)) ?_;intro h0 h1;refine by6 rfl (KFm.args_2 _ _) (ai2 h0 h1) λH8 tk=>kk _ C _ (g.tok _) (Nx.refl ..) ⟨H8,?_⟩;rw[We (Ak hc)]
  . intro i j h;apply Cv h Ac;intro i h;apply Cv h Ac;intro j h rs;refine A0.Be h λhc h=>?_;apply B5 h;apply jw rs;intro t' t2 A2 E kk;have :=Eb.mp (B1 hc);clear hf hl Ed;subst this;refine xA (TY (B1 (Ak hc))) ?_;intro h0 h1;refine xA (TY (Ak (Ak hc))) ?_;intro h2 h3;refine by6 rfl (KFm.args_3 _ _ _) (ai3 h0 h1 h2 h3) λH8 tk=>kk _ C _ (g.tok _) (Nx.refl ..) ⟨H8,?_⟩;rw[We (B1 (Ak hc)),We (Ak (Ak hc))];have :(th ⟨JC i⟩++M0 ",")++th ⟨JC j⟩=⟨⟨JC i++44::JC j⟩⟩:=by
     show th ((YP (JC i)++(M0 ",").cps)++YP (JC j))=_;have :(M0 ",").cps=⟨[44]⟩:=by decide+kernel
     rw[this];simp
    rw[this]|join=>
  apply Ct h Ac;intro v' h;apply A0.MQ h;intro i Y hi h rs;refine A0.Bx h λl Ib h=>A0.Be h λL8 h=>?_;apply B5 h;apply MN rs;intro u r A2 E kk;refine Bv (g.listAt r hi) ?_;intro a us BJ BP vr;clear r;subst BJ;refine xE BP ?_;(try clear BP);intro _ p;rw[OO Ib]at vr;refine AC (ai8 vr) ?_;intro lt e1 e2;have bX:us=(V6 lt).toArray:=by rw[<-e1]
  exact SC.join (D:=a) (l:=lt) ⟨_,p,rfl,_,by rw[bX]⟩ e2 L8 λH8 tk=>kk _ C _ (g.tok _) (Nx.refl ..) ⟨H8,rfl⟩
end
end
section
theorem aj1{id:D9}(g:Gd B F K A H C s)(rs:Aa s.heap C args us)(h:Zt id args H=.ok (.v v) A7):Ae B F K A A7 C s (CE (.type id) us) (RV v):=by
 revert rs;refine Fh h (λe h=>?_) λh=>?_
 . subst e;apply Ct h Ac;intro v h;apply Dc h Ac;intro x h rs;apply B5 h;apply QD rs;intro t;exactλA2 E kk=>call_type_of (PZ _ _ _) (by decide) (kk _ C _ g (Nx.refl ..) rfl)
 refine Fh h (λe h=>?_) λh=>?_
 . subst e;apply i6 h Ac
   . intro n h;apply Cv h Ac;intro n h rs;apply B5 h;apply a7 rs;intro t' A2 E kk;obtain⟨g',x'⟩:=g.push {cls:=.type "range",data:=.fields #[.int 0 s.toks,.int _ t',.int 1 (s.toks+1)]} (s.toks+1+1);exact call_range_1 (kk _ C _ g' x' ⟨_,_,_,_,rfl,CY _ rfl⟩)
   . intro a b h;apply Cv h Ac;intro a h;apply Cv h Ac;intro b h rs;apply B5 h;apply jw rs;intro t' t2 A2 E kk;obtain⟨g',x'⟩:=g.push {cls:=.type "range",data:=.fields #[.int _ t',.int _ t2,.int 1 s.toks]} (s.toks+1);exact call_range_2 (kk _ C _ g' x' ⟨_,_,_,_,rfl,CY _ rfl⟩)
 refine Fh h (λe h=>?_) λh=>?_
 . subst e;apply EV h Ac;intro h rs;apply B5 h;apply a6 rs;intro A2 E kk;refine call_set_0 λled=>?_;have kp:∀b o,s.heap.get? b=G o->(s.heap.push {cls:=.type "set",dict:=L,data:=.set #[] 0 (.fresh 0 0 led)}).get? b=G o:=λb o e=>C1 _ e;have hn:=GD s.heap;have hg:=CY s.heap (o:={cls:=.type "set",dict:=L,data:=.set #[] 0 (.fresh 0 0 led)}) rfl;exact kk _ _ _ (g.new (tk:=s.toks) kp hn ⟨_,hg⟩ (o:=.HR) ⟨led,hg⟩) (Nx.add [_] kp λb hb=>by rw[CI.mp hb];exact hn) ⟨_,g.LG,rfl⟩
 refine Fh h (λe h=>?_) λh=>(Ac h).elim;subst e;apply Ct h Ac;intro v h;apply Cv h Ac;intro i h rs;refine A0.Be h λhc h=>?_;apply B5 h;apply a7 rs;intro t' A2 E kk;refine xA (TY hc) ?_;intro h0 h1;refine PySem.P.str_of_int (a:=i) ?_ (kk _ C _ (g.tok _) (Nx.refl ..) ⟨s.toks,?_⟩)
 . have :i.natAbs<2^1920:=Iw (show i.natAbs<100 by(with_reducible exact Mine.vp (by assumption) (by assumption))) (by decide);by_cases z:i.natAbs=0;. rw[z];decide
   . exact(br4 z).mpr this
 . show Lx (M0 (toString i)) _=_;rw[We hc]
theorem aj2{id:D9}(slot:Ly "str" name id)(ty:He (.builtin id)=pure (.type "method_descriptor")):Gh Av h (Jj (.str x t) name pl) (.builtin id,[.str x t]):=λ_ _ _ _ _ q=>by with_reducible exact GM.of _ (PZ _ _ _) slot ty GM.noRef q
theorem aj3{l r:AA}{c z:Tx}(h:Sp l op r=G (c,id,y,z)){P:AA->Jg->AA->Prop}(k:∀KJ LF Ig Fk JO TZ KH T_ pos,(Fk:BA).endLine=(pos:BA).line->P (.Constant (.str ⟨⟨c⟩⟩) KJ LF) .Add (.Call (.Attribute (.Name id Ig) "replace" Fk) [.Constant (.str ⟨⟨y⟩⟩) JO TZ,.Constant (.str ⟨⟨z⟩⟩) KH T_] [] pos)):P l op r:=by
 apply J4 h AF;intro c' KJ LF h;apply Yh h AF;intro c' h;apply M3 h AF;intro f a kw pos h;apply Rx h AF;intro o m Fk h;apply EU h AF;intro TX Ig h;apply FS h AF;intro y' a h;apply Ct h AF;intro z' h;apply J4 h AF;intro y' JO TZ h;apply Yh h AF;intro y' h;apply J4 h AF;intro z' KH T_ h;apply Yh h AF;intro z' h;apply EV h AF;intro h;refine Ce h AF λq h=>?_;apply IG (B1 q);rw[E1.mp (B1 (Ak q))];revert k;apply ul h;intro k;exact k _ _ _ _ _ _ _ _ _ (CD (Ak (Ak q)))
theorem aj4{l r:AA}{c z:Tx}(hr:Sp l op r=G (c,id,y,z))(h:Fo A3 K (ev A3 n) (.BinOp l op r pos) H=.ok (.v v) A7)(g:Gd B F K A H C s):Ae B F K A A7 C s (eval (.BinOp l op r pos) F.env) (RV v):=by
 refine M4 h (λx' e h=>?_) λe _=>by rw[hr]at e;exact(AF e.symm).elim
 rw[hr]at e;injection e with e;subst e;refine A0.Be h ?_;clear h;intro hc h;simp only[D6]at hc;apply aj3 hr;intro KJ LF Ig Fk JO TZ KH T_ Mg OC;refine A0.Bx h λw hx h=>?_;revert hx;apply Dc h Ac
 . intro x h hx;refine A0.Be h ?_;clear h;intro hd h;simp only[D6,RS]at hd;refine xA hd ?_;(try clear hd);intro Aw hfc;refine xA Aw ?_;(try clear Aw);intro BP hz;obtain⟨hf,mG⟩:=BP;(first|(revert k;(first|apply BX h|apply B5 h|apply BY h|apply BZ h|apply B_ h);intro k)|apply BX h|apply B5 h|apply BY h|apply BZ h|apply B_ h);have hl:=Ee hf;have EJ:=Ee hc.2;have hz:=Dj hz;have hb:(⟨⟨x⟩⟩:U).length+((⟨⟨x⟩⟩:U).length+1)*(⟨⟨z⟩⟩:U).length<=16777216:=by
    show x.length+(x.length+1)*z.length<=16777216;have :(x.length+1)*z.length<=(x.length+1)*100:=sI _ hz;(with_reducible exact Mine.vR (by assumption) (by assumption))
   have aj5:((⟨⟨y⟩⟩:U)==⟨⟨z⟩⟩)=A6:=by
    rw[Ll];intro q;injection q with q;injection q with q;rw[Eb.mpr q]at mG;(exfalso;cases mG)
   intro A2 E kk;refine se (fQ ?_);have AN:=g.tok (s.toks+1);skip;refine A5 (wpAny_with_toks (n:=1) (fC _ _) (aI AN hc.1 hx _ _ λu Au Ai AU Al BB hn=>A5 (Ek ?_)));refine xE BB ?_;(try clear BB);intro Eh BJ;subst BJ;show AH _ A (PV (.Name id Ig) "replace" Fk Mg F.env (.str ⟨⟨x⟩⟩ Eh) (2+0) (F8 Mg (Dz [.Constant (.str ⟨⟨y⟩⟩) JO TZ,.Constant (.str ⟨⟨z⟩⟩) KH T_] F.env)) (Um Mg (Un [] F.env))) _ E Ai;unfold PV;skip;refine A5 (C0 ?_);show AH _ A (Jj (.str ⟨⟨x⟩⟩ Eh) "replace" _) _ E Ai;with_reducible refine(aj2 PySem.F.slot_str_replace PySem.F.type_str_replace).here ?_
   show AH _ A (Jk M (.Name id Ig) F.env Fk Mg>>=λp=>PU p (.builtin "str.replace") [.str ⟨⟨x⟩⟩ Eh] (F8 Mg (Dz [.Constant (.str ⟨⟨y⟩⟩) JO TZ,.Constant (.str ⟨⟨z⟩⟩) KH T_] F.env)) []) _ E Ai;have hp:Jk M (.Name id Ig) F.env Fk Mg=pure Mg:=by
    unfold Jk;have :(Fk.endLine==Mg.line)=M:=by simpa using OC
    rw[this];rfl
   rw[hp];refine A5 (AW ?_);refine fc (P:=λh=>CW (AQ B.prog B.w) h (.builtin "str.replace")) rfl (λh x=>x) ?_;refine sq ?_;refine Ln (fQ (Ln (fQ (Uk ⟨CW.builtin,?_⟩)) rfl)) rfl;have h0:Ai.toks≠0:=PT hn;refine SC.replace h0 (Nat.succ_ne_zero _) (EQ (PO _)) aj5 hb λt' tk=>?_;exact kt (s:={Ai with toks:=tk}) (AU.tok tk) hfc A2 E λw BS Ax Ao B8 BQ=>kk w BS Ax Ao ((show Nx F.D [] s.heap Ai.heap C Au from Al).trans B8) BQ
end
section
theorem aj6:YC "issubclass.nested"=M:=by decide+kernel
theorem aj7:Rj "issubclass.nested"=L:=by decide+kernel
theorem sub_tuple_self:Rp (.type "tuple") (.type "tuple")=pure M:=by rw[J3];kernel_rfl
theorem aj8{AS:Dr->AR->Prop}(h:AS (.ok (.ret (.bool M))) s):D7 (AQ prog w) A (.call (.builtin "issubclass.nested") ⟨[.type "str",.type "str",.int 1 t],[]⟩) AS s:=by
 refine Lu aj6 PySem.F.entry_issubclass_nested ?_;simp only[g5,aj7];have hs:=PySem.F.sub_str_str;have bF:gR "issubclass.nested"=L:=by kernel_rfl
 rw[bF];refine AW ?_;repeat(any_goals(first|assumption|(rw[hs])|wp_step))
theorem aj9(ha:s.heap.get? a=G {cls:=.type "tuple",data:=.seq #[.type "str",.type "bytes"] m})(h:∀tk,A2 (.bool M) {s with toks:=tk}):AH (AQ prog w) A (call (.builtin "issubclass") [.type "str",.ref a]) A2 E s:=by
 refine by7 PySem.F.kind_issubclass PySem.F.plain_issubclass PySem.F.entry_issubclass (PySem.F.args_issubclass_2 _ _) ?_;refine bP9 ?_;have hT:s.TypeIs (.ref a) "tuple":=⟨_,ha,rfl⟩;have LH:=sub_tuple_self;repeat(any_goals(first|assumption|wp_step))
 refine aj8 ?_;have hh:=h s.toks;repeat(any_goals(first|assumption|wp_step))
end
section
theorem ak0{r:V}(hn:JF v=A6)(g:Gd B F K A H C s)(ru:VR s.heap C v u)(h:jc v H=.ok (.v r) A7):Ae B F K A A7 C s (CE (.builtin "len") [u]) (RV r):=by
 intro A2 E kk;have Wf:(100000:AX)<2^63:=by decide
 refine Ea h (λq _=>Ug (q.symm.trans hn)) λ_ h=>?_;revert ru;apply Nw h
 . intro x h;refine A0.Be h ?_;clear h;intro hf h ru;revert kk;apply B5 h;intro kk;refine xE ru ?_;intro t q;rw[q];have hl:(⟨⟨x⟩⟩:U).length<=100000:=Ee hf;exact PySem.P.len_str (Int.not_le.mpr (by8 (sP.mpr hl) Wf)) (kk _ C _ (g.tok _) (Nx.refl ..) ⟨_,rfl⟩)
 intro h;apply A0.MQ h;intro i Y hi h;refine A0.Be h ?_;clear h;intro hf h ru;revert kk;apply B5 h;intro kk;refine Bv (g.listAt ru hi) ?_;intro a us q p vr;rw[q];have Ch:Y.length=us.size:=vr.length;rw[Ch]at kk;exact call_len_list p.isList (by8 (sP.mpr (Ch▸Ee hf)) Wf) (kk _ C _ (g.tok _) (Nx.refl ..) ⟨_,rfl⟩)
theorem ak1{a b:AX}{w:A4}(g:Gd B F K A H C s)(ru:VR s.heap C (.int a) u)(LB:VR s.heap C (.int b) w):Ae B F K A H C s (CE (.builtin "min") [u,w]) (RV (.int (if b<a then b else a))):=by
 intro A2 E kk;refine xE ru ?_;(try clear ru);intro t Bg;subst Bg;refine xE LB ?_;(try clear LB);intro t' Bu;subst Bu;refine min_two_ints g.handled λQ tk k=>kk _ C _ (g.ext k) (Nx.ext k) ?_;by_cases c:b<a;. rw[DF c,DF c];exact⟨_,rfl⟩
 . rw[CS c,CS c];exact⟨_,rfl⟩
theorem ak2(e:Vj v=M)(r:VR h C v u):∃x tk,u=.str x tk:=by cases v<;>first|exact(B0 e).elim|exact xE r λt q=>⟨_,t,q⟩
theorem ak3{r:V}{t:D9}(g:Gd B F K A H C s)(ru:VR s.heap C v u)(h:jf v t H=.ok (.v r) A7):Ae B F K A A7 C s (CE (.builtin "isinstance") [u,.type t]) (RV r):=by
 intro A2 E kk;refine A0.Be h ?_;clear h;intro ht h;revert ru;apply Va h
 . intro i h;refine A0.Bx h λo hl h=>A0.Be h λq h ru=>?_;revert kk;apply B5 h;intro kk;refine AC ru λa ha e=>?_;rw[e,eq_of_beq (Ak q)];have fin:∀{BN:I (V×V)},Dm B.prog B.w s.heap C a BN->∃o,s.heap.get? a=G o/\o.cls=.type "dict"/\∀c,o.data≠.cls c:=λr=>r.elim (λr=>AC r λ_ m _=>WW m) λr=>AC r λ_ m _=>WW m;have ho:∃o,s.heap.get? a=G o/\o.cls=.type "dict"/\∀c,o.data≠.cls c:=by
    revert hl;apply SU (B1 q);. exactλN _ hl=>fin (g.obj hl ha)
    . intro h;apply SV h B0;exactλN _ hl=>AC (g.obj hl ha) λBN _ r=>fin r
   exact CZ ho λo ho hc _=>bQ0 ho hc (kk _ C _ (g.tok _) (Nx.refl ..) rfl)
 . intro h;refine A0.Be h λq h ru=>?_;revert kk;apply B5 h;intro kk;refine DA (ak2 q ru) ?_;intro x tk e;rw[e];refine Ju ht (λq=>?_) λq=>?_;. rw[eq_of_beq q]at kk ⊢;exact bQ1 (kk _ C _ g (Nx.refl ..) rfl)
   . rw[eq_of_beq q]at kk ⊢;exact bQ2 (kk _ C _ (g.tok _) (Nx.refl ..) rfl)
theorem ak4(g:Gd B F K A H C s)(rs:Aa s.heap C [.top (.type "str"),.tup L [.top (.type "str"),.top (.type "bytes")]] us):Ae B F K A H C s (CE (.builtin "issubclass") us) (RV (.bool M)):=by
 intro A2 E kk;refine S3 rs ?_;(try clear rs);intro _ _ GB HB _ _ Hr bU7 e;subst GB;subst HB;subst Hr;cases e;refine Kr bU7 ?_;intro a o us n L2 e tg EJ hd vs;subst L2;refine S3 vs ?_;intro _ _ h1 L3 _ _ TQ TR TS;subst L3;subst TQ;subst TR;subst TS;refine xA (tg.2 rfl) ?_;intro Md Me;have :us=#[.type "str",.type "bytes"]:=by rw[<-h1]
 subst this;have ho:o={cls:=.type "tuple",data:=.seq #[.type "str",.type "bytes"] n}:=by obtain⟨c1,c2,c3,c4⟩:=o;simp only at EJ hd Md Me;rw[EJ,hd,Md,Me];rfl
 subst ho;exact aj9 e λtk=>kk _ C _ (g.tok _) (Nx.refl ..) rfl
end
section
variable[DecidableEq T]{By:KeyKind prog w T}
theorem ak5{d:A8}{Az:I (T×A4)}{k:T}{key v:A4}(EL:By.is k key=M)(hm:s.heap.DictAt By d Az Az.length)(Ta:k∉Az.map (·.1))(hQ:∀Q,Q.DictAt By d (Az++[(k,v)]) (Az++[(k,v)]).length->E3 d s.heap Q->A2 v {s with heap:=Q,toks:=s.toks+1})(Ed:Az.length<=F9):AH (AQ prog w) A (ti d key v) A2 E s:=by
 refine M7 hm ?_;(try clear hm);intro o N ho hc hd hk hp hn;have Ch:N.size=Az.length:=by have :=hp.length;simpa using this
 have OK:(N.findIdx? λe=>By.is k e.key)=Az.findIdx? λkv=>decide (kv.1=k):=by rw[<-hp.findIdx k];obtain⟨l⟩:=N;simp
 unfold ti;refine C0 (A5 (By.pyHash EL ?_));refine A5 (t3 (s:={s with toks:=s.toks+1}) EL ho hd hk ?_);have hi:(N.findIdx? λe=>By.is k e.key)=L:=by
   rw[OK,by9];intro kv OL;simp only[gF];intro z;exact Ta (E'.mpr ⟨kv,OL,z⟩)
 rw[hi];refine A5 (Gi (A5 (t4 (hz:=by(with_reducible exact Mine.yT (by assumption) (by assumption))) (s:={s with toks:=s.toks+1}) ho hd (AW (hQ _ ?_ (Fg ..))))));refine⟨_,_,FQ _ ho (Y6 (Us hd _)),hc.mapDictKeys _,?_,hk.push EL v,?_,?_⟩;. rw[FC];exact Us hd _
 . have :=hp.append EL (By.hash k) v;obtain⟨l⟩:=N;simpa using this
 . rw[NX,I9];refine⟨hn,by simp,λa ha b hb e=>?_⟩;simp only[J',t5,CI]at hb;exact Ta (hb▸e▸ha)
end
section
theorem ak6{w:A4}(g:Gd B F K A H C s)(hi:AL H.h i=G (.list Y))(ru:VR s.heap C (.ref i) u)(rv:VR s.heap C v w)(hf:CH Y=M):Ae B F K A (H.set i (.list (Y++[v]))) C s (CE (.builtin "list.append") [u,w]) (RV .none):=by
 intro A2 E kk;have hl:=Ee hf;refine AC ru ?_;(try clear ru);intro a ha Aw;subst Aw;refine AC (g.obj hi ha) ?_;intro us B6 vr;refine xE B6 ?_;(try clear B6);intro m ho;have Ch:Y.length=us.size:=by rw[vr.length];simp
 refine bz0 ho (λQ hs IY=>?_) (B4 (show us.size<=100000 by(with_reducible exact Mine.yS (by assumption) (by assumption))) (by decide));refine xA (g.set (Q:=Q) (tk:=s.toks) (o':=.list (Y++[v])) ha hi (λ_ _ e=>by(exfalso;cases e)) hs.extBut ⟨_,IY⟩ λim=>⟨us.push w,⟨_,IY⟩,by rw[V7];exact(vr.Bw im).app ⟨_,_,rfl,rv.Bw im,rfl⟩⟩) ?_;intro g' x';exact kk _ C _ g' x' rfl
theorem ak7{Y:I Sg}{l:Sg}{w:A4}(g:Gd B F K A H C s)(hi:AL H.h i=G (.rows (r+1) Y))(ru:VR s.heap C (.ref i) u)(rv:VR s.heap C v w)(hl:IV l=[v]):Ae B F K A (H.set i (.rows r (Y++[l]))) C s (CE (.builtin "list.append") [u,w]) (RV .none):=by
 intro A2 E kk;refine AC ru ?_;(try clear ru);intro a ha BJ;subst BJ;refine CZ (g.obj hi ha) ?_;intro us BP vr ak8;refine xE BP ?_;(try clear BP);intro m ho;have Ch:(DO Y).length=us.size:=by rw[vr.length];simp
 have e:DO (Y++[l])=DO Y++[v]:=by rw[OP];simp[DO,hl]
 refine bz0 ho (λQ hs IY=>?_) (B4 (show us.size<=1000000 by unfold Dl at ak8;(with_reducible exact Mine.vk (by assumption) (by assumption))) (by decide));refine xA (g.set (Q:=Q) (tk:=s.toks) (o':=.rows r (Y++[l])) ha hi (λ_ _ e=>by(exfalso;cases e)) hs.extBut ⟨_,IY⟩ λim=>⟨us.push w,⟨_,IY⟩,by rw[V7,e];exact(vr.Bw im).app ⟨_,_,rfl,rv.Bw im,rfl⟩,by rw[e,FC,tj];(with_reducible exact Mine.Yo (by assumption))⟩) ?_;intro g' x';exact kk _ C _ g' x' rfl
theorem ak9{x:V}(r:Aa h C Y us):Y.getLast?=G x->∃u,us.getLast?=G u/\VR h C x u/\Aa h C Y.dropLast us.dropLast:=by
 refine Aa.ind (P:=λY us=>Y.getLast?=G x->∃u,us.getLast?=G u/\VR h C x u/\Aa h C Y.dropLast us.dropLast) (λe=>(AF e).elim) (λv u Y us a b ih q=>?_) r;cases Y with
 |nil=>cases b;exact Br q (P:=λx=>∃u',G u=G u'/\VR h C x u'/\Aa h C [] []) ⟨u,rfl,a,rfl⟩|cons z l=>
 refine Aa.Sr b (P:=λus=>(∃u,us.getLast?=G u/\VR h C x u/\Aa h C (z::l).dropLast us.dropLast)->∃u',(u::us).getLast?=G u'/\VR h C x u'/\Aa h C (v::(z::l).dropLast) (u::us).dropLast) ?_ (ih q);exactλ_ _ _ _ r=>CZ r λu' e1 e2 e3=>⟨u',e1,e2,.cons a e3⟩
theorem al0(g:Gd B F K A H C s)(hi:AL H.h i=G (.list Y))(ru:VR s.heap C (.ref i) u)(hf:CH Y=M)(hv:Y.getLast?=G v):Ae B F K A (H.set i (.list Y.dropLast)) C s (CE (.builtin "list.pop") [u]) (RV v):=by
 intro A2 E kk;have hl:=Ee hf;refine AC ru ?_;(try clear ru);intro a ha Bg;subst Bg;refine AC (g.obj hi ha) ?_;intro us Bu vr;refine xE Bu ?_;(try clear Bu);intro m ho;have Ch:Y.length=us.size:=by rw[vr.length];simp
 refine CZ (ak9 vr hv) ?_;intro w e1 LB Qc;have hy:us[us.size-1]?=G w:=by
  have :us.toList[us.toList.length-1]?=G w:=by rw[<-List.getLast?_eq_getElem?];exact e1
  simpa using this
 refine bQ3 ho hy (λQ hs IY=>?_) (B4 (show us.size<=100000 by(with_reducible exact Mine.yS (by assumption) (by assumption))) (by decide));have al1:Du s.heap Q:=Gr hs.extBut λo e=>by rw[ho]at e;injection e with e;subst e;rfl
 refine xA (g.set (Q:=Q) (tk:=s.toks) (o':=.list Y.dropLast) ha hi (λ_ _ e=>by(exfalso;cases e)) hs.extBut ⟨_,IY⟩ λim=>⟨us.pop,⟨_,IY⟩,by rw[Array.toList_pop];exact Qc.Bw im⟩) ?_;intro g' x';exact kk _ C _ g' x' (LB.Bw al1)
theorem al2[DecidableEq T]{Az:I (T×A4)}{k:T}{v:A4}(h:k∉Az.map (·.1)):FA Az k v=Az++[(k,v)]:=by
 have TM:¬(Az.any λkv=>decide (kv.1=k))=M:=λq=>by
  refine AC (ID.mp q) ?_;intro kv OL he;exact h (E'.mpr ⟨kv,OL,of_decide_eq_true he⟩)
 rw[FA,CS TM]
theorem DR.al3[DecidableEq T]{key:T->V}(hk:∀a b,G7 (key a) (key b)=G (decide (a=b))){k:T}{l:I (T×A4)}(d:DR key h C N l):D0 N (key k)=L->k∉l.map (·.1):=DR.ind (P:=λN l=>D0 N (key k)=L->k∉l.map (·.1)) (λ_ m=>nomatch m) (λk' v u N r _ _ ih hl=>by
 rw[show D0 ((key k',v)::N) (key k)=match G7 (key k') (key k)with|some M=>G v|_=>D0 N (key k)from rfl,hk]at hl;by_cases z:k'=k;. simp[z]at hl
 . simp only[z,decide_false]at hl;simp only[J',Ck,gT];exact⟨λq=>z q.symm,ih hl⟩) d
theorem al4{d:V}(g:Gd B F K A H C s)(hd:AL H.h i=G (.dict N))(ru:VR s.heap C (.ref i) u)(rk:VR s.heap C k ku)(rd:VR s.heap C d du)(h:O4 i N .Sj [k,d] H=.ok (.v v) A7):Ae B F K A A7 C s (CE (.builtin "dict.setdefault") [u,ku,du]) (RV v):=by
 refine A0.Be h ?_;clear h;intro hc h;simp only[D6]at hc;refine xA hc ?_;(try clear hc);intro hk hf;have hl:=Ee hf;intro A2 E kk;refine AC ru ?_;(try clear ru);intro a ha C9;subst C9;have hT:=WN g hd ⟨a,ha,rfl⟩;refine Gj bz1 hT PySem.F.entry_dict_setdefault ?_ (PySem.F.args_dict_setdefault_3 _ _ _);skip;refine A5 ?_;skip;refine A5 (bt1 hT ?_);show AH _ _ (pure (a,ku,G du)) _ _ s;refine AW ?_;show AH _ _ (if(a==NP)=M then _ else(ti a ku du>>=_)) _ _ s;rw[CS (by rw[g.QO (Ev ha)];exact NU)];refine AC (g.objs i _ hd) ?_;intro a' Fp r;rw[Bl (Fp.symm.trans ha)]at r;revert kk;refine WL hk r rk λBy key x Az ke back q hx hm dr=>?_;cases hv:D0 N k with
 |some v'=>
  rw[hv]at h;apply B5 h;intro kk;have hz:s.heap.DictLe a F9:=λo BN ep ho bY=>by
   refine M7 hm ?_;intro o' bK8 e hc GV KG hp _;rw[Bl (e.symm.trans ho)]at GV;injection GV.symm.trans bY with bY;exact B4 (bY▸Ej (hp.length.trans dr.length)) (B4 hl (by decide))
  refine(q▸dr.look ke:D0 N k=L/\Lp Az x=L\/∃v u,D0 N k=G v/\Lp Az x=G u/\VR s.heap C v u).elim (λh=>(AF (h.1.symm.trans hv)).elim) λo=>Bv o λv2 w q2 FJ r=>?_;exact A5 (wpAny_dictSetDefault_of (hz:=hz) hx hm.dictOf.mapOf (λv Bh=>AW ⟨v,rfl,kk _ C _ (g.tok _) (Nx.refl ..) (Bl (FJ.symm.trans Bh)▸Bl (q2.symm.trans hv)▸r)⟩) λhn=>(AF (hn.symm.trans FJ)).elim)|none=>
  rw[hv]at h;apply B5 h;intro kk;have Ta:=dr.al3 ke (q▸hv);refine A5 (ak5 hx hm Ta (λQ HD hs=>?_) (B4 (dr.length▸hl) (show 100000<=F9 by decide)));refine xA (g.set (Q:=Q) (tk:=s.toks+1) (o':=.dict (Em N k d)) ha hd (λ_ _ e=>by(exfalso;cases e)) hs.extBut (DictAt.live HD) λim=>back _ HD (q▸al2 Ta▸Sz (p:=λJ=>DR key Q J _ _) ((dr.put ke (k:=x) rd (Ut hm)).mono (J:=[]) im))) ?_;intro g' x';exact AW ⟨_,rfl,kk _ C _ g' x' (rd.Bw (Gr hs.extBut (Dm.C2 r)))⟩
theorem al5{d:V}(g:Gd B F K A H C s)(hd:AL H.h i=G (.dict N))(ru:VR s.heap C (.ref i) u)(rk:VR s.heap C k ku)(rd:VR s.heap C d du)(h:O4 i N .get [k,d] H=.ok (.v v) A7):Ae B F K A A7 C s (CE (.builtin "dict.get") [u,ku,du]) (RV v):=by
 refine A0.Be h ?_;clear h;intro hk h;refine xA (FG h) ?_;intro e DW;subst DW;injection e with e;subst e;intro A2 E kk;exact Gj tY (WN g hd ru) bw5 (lr g hd ru rk rd hk λw s' g' x' r'=>kk w C s' g' x' r') (PySem.F.args_dict_get_3 _ _ _)
end
open PyProof.Rows(IntsAre)
noncomputable def PI:I (A4×A4)->I AX->I AX->Prop
 |[],m,n=>m=[]/\n=[]|p::r,m,n=>∃a t c u m' n',p=(.int a t,.int c u)/\m=a::m'/\n=c::n'/\PI r m' n'
theorem mH{vs ws:I A4}{ms ns:I AX}(hv:Pd vs ms):Pd ws ns->vs.length=ws.length->PI (vs.zip ws) ms ns:=by induction hv generalizing ws ns with
 |nil=>intro hw h;cases hw with
  |nil=>exact⟨rfl,rfl⟩|cons=>(exfalso;cases h)
 |cons a t hv ih=>intro hw h;cases hw with
 |nil=>(exfalso;cases h)|cons c u hw=>exact⟨a,t,c,u,_,_,rfl,rfl,rfl,ih hw (YM h)⟩
theorem mI{a b:AX}{x y:I AX}:JB (a::x) (b::y)=if a=b then JB x y else decide (a<b):=rfl
section
theorem al6(l b:A8)(c1 c2:A4)(d1 d2:AD A8)(LI Tb:BW (AD A4))(Cb OS:BW A4)(n n2:O)(ms ns:I AX)(hm:Pd Cb.toList ms)(hn:Pd OS.toList ns)(hs:Cb.size=OS.size):V5 (EA.«tuple.__lt__» ⟨[.ref l,.ref b],[]⟩) (λA AS s=>s.heap.get? l=G ⟨c1,d1,.seq Cb n,LI⟩/\s.heap.get? b=G ⟨c2,d2,.seq OS n2,Tb⟩/\(∀(prog:Hc)(w:F7)(A':CK)(A2:AK->AR->Prop)(E:A4->AR->Prop),A2 M s->AH (AQ prog w) A' (Uz (.ref b) (.type "tuple")) A2 E s)/\AS (.ok (.ret (.bool (JB ms ns)))) s):=.of_wp λprog w A AS s h=>by
 obtain⟨FI,g,d,tk,os⟩:=s;refine M6 h ?_;(try clear h);intro hl hb hi h;wp_walk using hi _ _ _ _ _,YS hl,YS hb,gZ _ (λC4 b s'=>b.1=L/\s'=⟨FI,g,d,tk,os⟩/\∃LJ Fq,PI C4 LJ Fq/\AS (.ok (.ret (.bool (JB LJ Fq)))) ⟨FI,g,d,tk,os⟩) _;case turn=>
  rintro⟨y,x⟩C4 b s'⟨GX,rfl,LJ,Fq,hp,hR⟩;refine iD hp ?_;clear hp;intro a t c u m n q1 q2 q3 hp;injection q1 with q1 q4;subst q1;subst q4;subst q2;subst q3;rw[mI]at hR;refine A5 ((tO a c t u).at A.in1 _ prog w _ _ ?_);by_cases OT:a=c
  . subst OT;simp only[fh,Kk]at hR ⊢;wp_walk;exact⟨rfl,rfl,_,_,hp,hR⟩
  . have Hx:(a==c)=A6:=by simpa using OT
    rw[CS OT]at hR;rw[Hx];refine A5 (Gi (A5 ?_));show AH (AQ prog w) A.in1 (D_ .Lt (.int a t) (.int c u)) _ _ _;refine bs0 ?_;wp_walk;exact⟨_,rfl,hR⟩
 case fin=>
  rintro⟨b1,b2⟩s'⟨GX,rfl,LJ,Fq,hp,hR⟩;have GX:b1=L:=GX;subst GX;refine xA hp ?_;clear hp;intro q1 q2;subst q1;subst q2;have hR:AS (.ok (.ret (.bool A6))) ⟨FI,g,d,tk,os⟩:=hR;wp_walk;refine⟨_,rfl,?_⟩;simpa[bz2,hs]using hR
 case h=>exact⟨rfl,rfl,_,_,mH hm hn (by simpa using hs),h⟩
theorem al7(l b:A8)(c1 c2:A4)(d1 d2:AD A8)(LI Tb:BW (AD A4))(Cb OS:BW A4)(n n2:O)(ms ns:I AX)(hm:Pd Cb.toList ms)(hn:Pd OS.toList ns)(hs:Cb.size=OS.size):V5 (EA.«tuple.__gt__» ⟨[.ref l,.ref b],[]⟩) (λA AS s=>s.heap.get? l=G ⟨c1,d1,.seq Cb n,LI⟩/\s.heap.get? b=G ⟨c2,d2,.seq OS n2,Tb⟩/\(∀(prog:Hc)(w:F7)(A':CK)(A2:AK->AR->Prop)(E:A4->AR->Prop),A2 M s->AH (AQ prog w) A' (Uz (.ref b) (.type "tuple")) A2 E s)/\AS (.ok (.ret (.bool (JB ns ms)))) s):=.of_wp λprog w A AS s h=>by
 obtain⟨FI,g,d,tk,os⟩:=s;refine M6 h ?_;(try clear h);intro hl hb hi h;wp_walk using hi _ _ _ _ _,YS hl,YS hb,gZ _ (λC4 b s'=>b.1=L/\s'=⟨FI,g,d,tk,os⟩/\∃LJ Fq,PI C4 LJ Fq/\AS (.ok (.ret (.bool (JB Fq LJ)))) ⟨FI,g,d,tk,os⟩) _;case turn=>
  rintro⟨y,x⟩C4 b s'⟨GX,rfl,LJ,Fq,hp,hR⟩;refine iD hp ?_;clear hp;intro a t c u m n q1 q2 q3 hp;injection q1 with q1 q4;subst q1;subst q4;subst q2;subst q3;rw[mI]at hR;refine A5 ((tO a c t u).at A.in1 _ prog w _ _ ?_);by_cases OT:a=c
  . subst OT;simp only[fh,Kk]at hR ⊢;wp_walk;exact⟨rfl,rfl,_,_,hp,hR⟩
  . have Hx:(a==c)=A6:=by simpa using OT
    rw[CS (λz=>OT z.symm)]at hR;rw[Hx];refine A5 (Gi (A5 ?_));show AH (AQ prog w) A.in1 (D_ .Gt (.int a t) (.int c u)) _ _ _;refine bs1 ?_;wp_walk;exact⟨_,rfl,hR⟩
 case fin=>
  rintro⟨b1,b2⟩s'⟨GX,rfl,LJ,Fq,hp,hR⟩;have GX:b1=L:=GX;subst GX;refine xA hp ?_;clear hp;intro q1 q2;subst q1;subst q2;have hR:AS (.ok (.ret (.bool A6))) ⟨FI,g,d,tk,os⟩:=hR;wp_walk;refine⟨_,rfl,?_⟩;simpa[bz2,hs]using hR
 case h=>exact⟨rfl,rfl,_,_,mH hm hn (by simpa using hs),h⟩
end
theorem mJ(hv:O3 v=M)(r:VR h C v u):∃x y z l us n,v=.tup L [.int x,.int y,.int z]/\u=.ref l/\h.get? l=G {cls:=.type "tuple",data:=.seq us n}/\Pd us.toList [x,y,z]/\us.size=3:=by
 revert r;apply IL hv B0;intro o l hv;apply GP hv B0;intro hv;apply FS hv B0;intro a l hv;apply FS hv B0;intro b l hv;apply Ct hv B0;intro c hv;apply Cv hv B0;intro x hv;apply Cv hv B0;intro y hv;apply Cv hv B0;intro z _ r;refine Kr r ?_;(try clear r);intro a o us n Bp e tg EJ hd vr;subst Bp;refine xA (tg.2 rfl) ?_;intro Md Me;have ho:o={cls:=.type "tuple",data:=.seq us n}:=by obtain⟨c1,c2,c3,c4⟩:=o;simp only at EJ hd Md Me;rw[EJ,hd,Md,Me];rfl
 subst ho;refine Yl vr ?_;(try clear vr);intro _ _ h1 Bg _ _ Bu C9 _ _ Cn D8 DW;refine xE Bg ?_;(try clear Bg);intro t1 QU;subst QU;subst Bu;refine xE C9 ?_;(try clear C9);intro t2 TU;subst TU;subst Cn;refine xE D8 ?_;(try clear D8);intro bU8 TV;subst TV;subst DW;refine⟨x,y,z,a,us,n,rfl,rfl,e,?_,?_⟩;. rw[h1];exact .cons _ _ (.cons _ _ (.cons _ _ .nil))
 . have :=congrArg Rm h1;simpa using this
theorem mK{x y z x' y' z':AX}{c c':AD A8}:SX (.tup c [.int x,.int y,.int z]) (.tup c' [.int x',.int y',.int z'])=G (JB [x,y,z] [x',y',z']):=rfl
section
theorem al8(hv:O3 v=M)(Bh:O3 v'=M)(r:VR h C v u)(r':VR h C v' u')(q:SX v' v=G b)(k:∀c o,h.get? c=G o->C2 o=M->s.heap.get? c=G o)(hu:A.units<IE)(hq:A2 (.bool b) s):AH (AQ prog w) A (tl .Gt u u') A2 E s:=by
 refine iF (mJ hv r) ?_;intro x y z l us n Ec FE e i1 s1;subst Ec;subst FE;refine iF (mJ Bh r') ?_;intro x' y' z' l' Dw n' GB HB e' i2 s2;subst GB;subst HB;rw[mK]at q;injection q with q;subst q;have e:=k _ _ e rfl;have e':=k _ _ e' rfl;refine richCompare_meets_room (op:=.Gt) ⟨_,e,rfl⟩ ⟨_,e',rfl⟩ PySem.F.slot_tuple_gt PySem.F.entry_tuple_gt (PySem.F.args_tuple_gt_2 _ _) (al7 l l' _ _ _ _ _ _ us Dw n n' _ _ i1 i2 (s1.trans s2.symm)) ⟨e,e',?_,?_⟩ hu
 . intro prog w A' A2 E hq;exact Lw (T:="tuple") ⟨_,e',rfl⟩ AutoSeq1.sub_tuple_tuple hq
 . show NW _≠Value.notImplemented/\A2 _ s;exact⟨(λx=>nomatch x),hq⟩
theorem al9{A9:A8}{us:BW A4}(hh:A.handled=L)(hu:A.units+10<IE)(hp:Af.PlainList a us)(hI:Af.get? AE=L)(hS:Af.get? A9=L)(LL:AE≠A9){AS:Dr->AR->Prop}(C4:I V):∀(i:O)(x m:V)(vb:A4)(s:AR)(c:O),O3 x=M->C4.all O3=M->Zd x C4=G m->Aa Af C C4 (us.toList.drop i)->VR Af C x vb->(∀b o,Af.get? b=G o->s.heap.get? b=G o)->s.heap.IsListIter AE a i->s.heap.get? A9=G {cls:=.type "list",data:=.seq #[vb,vb] c}->(∀u Q tk,VR Af C m u->(∀b o,Af.get? b=G o->Q.get? b=G o)->AS (.ok (.ret u)) {s with heap:=Q,toks:=tk})->D7 (AQ prog w) A (.builtin "max.loop" ⟨[.ref AE,.none,.ref A9],[]⟩) AS s:=by induction C4 with
 |nil=>
  intro i x m vb s c hx hr hm vr rx kp Bz Tc hR;injection hm with hm;subst hm;have bZ:(toString "max"++toString ".loop":D9)="max.loop":=by decide
  refine J0 tm ?_;skip;show AH _ A.in1 (Nb (.ref A9)>>=_) _ _ s;refine A5 (Nc Tc rfl ?_);show AH _ A.in1 (tryCatch (ER (.ref AE)) _>>=_) _ _ s;have am0:us[i]?=L:=by
   have :us.toList.drop i=[]:=vr;have h1:=congrArg Rm this;simp at h1;rw[Array.getElem?_eq_none_iff];(with_reducible exact bz3 (by assumption))
  have FI:s.heap.PlainList a us:=let⟨n,e⟩:=hp;⟨n,kp _ _ e⟩;refine A5 (PY (bp1 (by simp[hh]) Bz FI.isList am0 λQ De=>?_));have Fa:=De A9 _ (CX LL) Tc;skip;refine A5 ?_;refine Nd Fa rfl (A5 (Pc (AW ?_)));have ne:∀{b:A8}{o:Bm},Af.get? b=G o->b≠AE/\b≠A9:=λe=>⟨λz=>by(rw[z,hI]at e;exact(BE e).elim),λz=>by(rw[z,hS]at e;exact(BE e).elim)⟩;exact hR vb _ _ rx λb o e=>(GN _ _ (CX (ne e).2)).trans (De b o (ne e).1 (kp b o e))|cons y C4 ih=>
  intro i x m vb s c hx hr hm vr rx kp Bz Tc hR;have bZ:(toString "max"++toString ".loop":D9)="max.loop":=by decide
  simp only[sj,D6]at hr;have ne:∀{b:A8}{o:Bm},Af.get? b=G o->b≠AE/\b≠A9:=λe=>⟨λz=>by(rw[z,hI]at e;exact(BE e).elim),λz=>by(rw[z,hS]at e;exact(BE e).elim)⟩;refine Bv vr ?_;(try clear vr);intro v vs hd ry Qc;have hi:us[i]?=G v:=by
   have :(us.toList.drop i)[0]?=G v:=by rw[hd];rfl
   rw[to]at this;simpa using this
  have GV:us.toList.drop (i+1)=vs:=by rw[<-bq5,hd];rfl
  refine J0 tm ?_;skip;show AH _ A.in1 (Nb (.ref A9)>>=_) _ _ s;refine A5 (Nc Tc rfl ?_);show AH _ A.in1 (tryCatch (ER (.ref AE)) _>>=_) _ _ s;have FI:s.heap.PlainList a us:=let⟨n,e⟩:=hp;⟨n,kp _ _ e⟩;refine A5 (PY (so Bz FI.isList hi λQ Qd De=>?_));have Fa:=De.extBut A9 _ (CX LL) Tc;have Td:∀b o,Af.get? b=G o->Q.get? b=G o:=λb o e=>De.extBut b o (ne e).1 (kp b o e);show AH _ A.in1 (tryCatch (Hd [v,v] (tl .Gt v vb>>=_)) _>>=_) _ _ _;apply BI hm;intro bU9 hb hm;refine A5 (PY (C0 (A5 (al8 hr.1 hx ry rx hb (λc o e _=>Td c o e) (by show A.units+1<IE;(with_reducible exact Mine.vn (by assumption))) ?_))));refine A5 (C0 (NS ?_));refine A5 (Pc (AW ?_));cases bU9 with
 |true=>
   simp only[Kk];refine A5 ?_;refine Nd Fa rfl (A5 (Pc ?_));skip;refine AW ⟨plainId_quiet g_ _,ih (i+1) y m v _ _ hr.1 hr.2 hm (by rw[GV];exact Qc) ry (λb o e=>(GN _ _ (CX (ne e).2)).trans (Td b o e)) ?_ (FQ _ Fa rfl) λu Wg tk ru OU=>hR u Wg tk ru OU⟩;refine AC Qd ?_;(try clear Qd);intro o e r;exact⟨o,(GN _ _ (CX LL)).trans e,r⟩|false=>
   simp only[Ki,Kj];refine A5 (Pc ?_);skip;exact AW ⟨plainId_quiet g_ _,ih (i+1) x m vb _ _ hx hr.2 hm (by rw[GV];exact Qc) rx Td Qd Fa λu Wg tk ru OU=>hR u Wg tk ru OU⟩
end
section
theorem am1{r:V}(g:Gd B F K A H C s)(ru:VR s.heap C v u)(h:jd v H=.ok (.v r) A7):Ae B F K A A7 C s (CE (.builtin "max") [u]) (RV r):=by
 intro A2 E kk;revert ru;apply A0.MQ h;clear h;intro i Y hi h ru;cases Y with
 |nil=>exact(Ac h).elim|cons x C4=>
 refine A0.Be h ?_;clear h;intro hc h;simp only[D6]at hc;refine xA (MR h) ?_;intro hm L2;subst L2;refine Bv (g.listAt ru hi) ?_;intro a us L3 p vr;subst L3;refine Bv vr ?_;(try clear vr);intro v vs hd rx Qc;have bZ:(toString "max"++toString ".loop":D9)="max.loop":=by decide
 have Wh:=g.units;refine by7 PySem.F.kind_max PySem.F.plain_max PySem.F.entry_max (PySem.F.args_max1 _) ?_;show AH _ A.in1 (bz4 "max" ["key","default"] 0 ⟨[],[]⟩>>=_) _ _ s;refine A5 (NV (show bz4 "max" ["key","default"] 0 ⟨[],[]⟩=pure [L,L]from rfl) ?_);refine A5 (AW ?_);refine A5 (fZ p.isList ?_);refine A5 (IB ?_);rw[bZ];have hI:s.heap.get? s.heap.objs.size=L:=GD s.heap;generalize hH:s.heap.push {cls:=.type "list_iterator",data:=.fields #[.ref a,.int 0 0]}=BF;have kH:∀b o,s.heap.get? b=G o->BF.get? b=G o:=λb o e=>by rw[<-hH];exact C1 _ e
 have mL:BF.objs.size=s.heap.objs.size+1:=by rw[<-hH];exact IC ..
 have bV0:BF.get? s.heap.objs.size=G {cls:=.type "list_iterator",data:=.fields #[.ref a,.int 0 0]}:=by rw[<-hH];exact CY _ rfl
 have hS:s.heap.get? BF.objs.size=L:=KA (by rw[mL];exact PN _);have LL:s.heap.objs.size≠BF.objs.size:=by rw[mL];exact EQ (PO _)
 dsimp only;generalize hG:BF.push {cls:=.type "list",dict:=L,data:=.seq ([]:I A4).toArray}=Bk;have gS:Bk.get? BF.objs.size=G {cls:=.type "list",dict:=L,data:=.seq #[]}:=by rw[<-hG];exact CY _ rfl
 have kG:∀b o,BF.get? b=G o->Bk.get? b=G o:=λb o e=>by rw[<-hG];exact C1 _ e
 have ne:∀{b:A8}{o:Bm},s.heap.get? b=G o->b≠s.heap.objs.size/\b≠BF.objs.size:=λe=>⟨λz=>by(rw[z,hI]at e;exact(BE e).elim),λz=>by(rw[z,hS]at e;exact(BE e).elim)⟩;refine AW ⟨plainId_quiet g_ _,J0 tm ?_⟩;skip;show AH _ A.in1 (Nb (.ref BF.objs.size)>>=_) _ _ _;refine A5 (Nc gS rfl ?_);show AH _ A.in1 (tryCatch (ER (.ref s.heap.objs.size)) _>>=_) _ _ _;have Bz:Bk.IsListIter s.heap.objs.size a 0:=⟨_,kG _ _ bV0,rfl,rfl⟩;have bV1:Bk.PlainList a us:=let⟨n,e⟩:=p;⟨n,kG _ _ (kH _ _ e)⟩;have h0:us[0]?=G v:=by
   have :us.toList[0]?=G v:=by rw[hd];rfl
   simpa using this
 refine A5 (PY (so Bz bV1.isList h0 λQ Qd De=>?_));have Fa:=De.extBut BF.objs.size _ (CX LL) gS;show AH _ A.in1 (Rr BF.objs.size (λ_=>#[v,v])>>=_) _ _ _;refine A5 ?_;refine Nd Fa rfl ?_;skip;refine AW ⟨plainId_quiet g_ _,al9 (C:=C) (Af:=s.heap) g.handled (by unfold IE;(with_reducible exact Mine.yU (by assumption) (by decide))) p hI hS LL C4 1 x r v _ _ hc.1.1 hc.1.2 hm ?_ rx (λb o e=>(GN _ _ (CX (ne e).2)).trans (De.extBut b o (ne e).1 (kG _ _ (kH _ _ e)))) ?_ (FQ _ Fa rfl) λu Wg tk ru OU=>?_⟩
 . have :us.toList.drop 1=vs:=by rw[hd];rfl
   rw[this];exact Qc
 . refine AC Qd ?_;(try clear Qd);intro o e r;exact⟨o,(GN _ _ (CX LL)).trans e,r⟩
 . exact kk u C _ (g.ext OU) (Nx.ext OU) (ru.Bw λb o e _=>OU b o e)
end
section
set_option tactic.hygienic true in
theorem b_{k:U}{v:A4}(h:(strKind prog w).is k v=M):∃t,v=.str k t:=by
 cases v<;>first|(simp[strKind,YK]at h;done)|skip
 rename_i y t;have :y=k:=by simpa[strKind,YK]using h
 exact⟨t,by rw[this]⟩
noncomputable def FK(B:Bs)(h:BK)(C:I A8):I (V×V)->I G'->Prop
 |[],l=>l=[]|p::ps,l=>∃x ku vu r,l=⟨(strKind B.prog B.w).hash x,ku,vu⟩::r/\p.1=GU x/\(strKind B.prog B.w).is x ku=M/\VR h C p.2 vu/\FK B h C ps r
theorem FK.cons{r:I G'}(b:(strKind B.prog B.w).is x ku=M)(c:VR h C v vu)(d:FK B h C ps r):FK B h C ((GU x,v)::ps) (⟨(strKind B.prog B.w).hash x,ku,vu⟩::r):=⟨x,ku,vu,r,rfl,rfl,b,c,d⟩
theorem FK.ind{P:I (V×V)->I G'->Prop}(n:P [] [])(c:∀x ku vu v ps r,(strKind B.prog B.w).is x ku=M->VR h C v vu->FK B h C ps r->P ps r->P ((GU x,v)::ps) (⟨(strKind B.prog B.w).hash x,ku,vu⟩::r)):∀{l:I G'},FK B h C ps l->P ps l:=by induction ps with
 |nil=>intro l e;cases e;exact n|cons p ps ih=>
 intro l e;refine VM e ?_;clear e;intro x ku vu r q e1 a b d;subst q;rw[show p=(GU x,p.2)from NO e1 rfl];exact c x ku vu p.2 ps r a b d (ih d)
theorem am2{Az:I (U×A4)}{l:I G'}(d:DR GU h C N Az):Pairs (strKind B.prog B.w) l Az->(∀e∈l,∃k,(strKind B.prog B.w).is k e.key=M/\e.hash=(strKind B.prog B.w).hash k)->FK B h C N l:=by
 revert l;refine DR.ind (P:=λN Az=>∀{l},Pairs (strKind B.prog B.w) l Az->(∀e∈l,∃k,(strKind B.prog B.w).is k e.key=M/\e.hash=(strKind B.prog B.w).hash k)->FK B h C N l) (λp _=>by cases p;rfl) (λk v u N r rv _ ih l p hk=>?_) d;cases p with|@cons en _ l' _ h1 h2 h3=>
 refine AC (hk en Cp) ?_;intro k' q1 q2;obtain⟨bV2,ek,ev⟩:=en;have :k'=k:=(strKind B.prog B.w).inj ek k' k q1 h1;subst this;have q2:bV2=_:=q2;have h2:ev=u:=h2;rw[q2,h2];exact .cons h1 rv (ih h3 λe m=>hk e (Cq _ m))
theorem ba(h:So N=M){hp:BK}(r:Dm B.prog B.w hp C a N):∃Az,hp.DictAt (strKind B.prog B.w) a Az Az.length/\DR GU hp C N Az:=by
 refine r.elim id λr=>AC r λAz hm dr=>?_;cases N with
 |nil=>exact⟨[],al (B:=B) (by rw[show Az=[]from dr]at hm;exact hm),rfl⟩|cons p N=>
 refine Gn dr λk u r _ e1 _=>?_;have h1:=Bq.mp h p Cp;rw[e1]at h1;exact(E4 h1).elim
theorem FK.drop{l:I G'}(k:O)(r:FK B h C ps l):FK B h C (ps.drop k) (l.drop k):=FK.ind (P:=λps l=>∀k,FK B h C (ps.drop k) (l.drop k)) (λk=>by cases k<;>rfl) (λ_ _ _ _ _ _ b c d ih k=>by cases k with|zero=>exact .cons b c d|succ k=>exact ih k) r k
theorem FK.am3{l:I G'}(r:FK B h C ps l):∀e∈l,∃x t,e.key=.str x t:=FK.ind (P:=λ_ l=>∀e∈l,∃x t,e.key=.str x t) (λ_ m=>nomatch m) (λx _ _ _ _ _ b _ _ ih q m=>(Ck.mp m).elim (λe=>xE (b_ b) λt z=>⟨x,t,e▸z⟩) (ih q)) r
theorem FK.length{l:I G'}(r:FK B h C ps l):ps.length=l.length:=FK.ind (P:=λps l=>ps.length=l.length) rfl (λ_ _ _ _ _ _ _ _ _ ih=>congrArg (·+1) ih) r
set_option tactic.hygienic true in
theorem mM{Am I_:I (V×V)}{w:A4}(g:Gd B F K A H C s)(hd:AL H.h i=G (.dict Am))(ha:C[i]?=G a)(hj:AL H.h j=G (.dict N))(LB:VR s.heap C (.ref j) w)(Qe:i≠j)(hf:Vq N Am=G I_):Ae B F K A (H.set i (.dict I_)) C s (mergeMapping a w A6) RU:=by
 intro A2 E kk;unfold Vq at hf;split at hf;case h_2=>exact(BE hf).elim
 rename_i Te;simp only[D6]at Te;refine AC LB ?_;(try clear LB);intro b hb Aw;subst Aw;have r:=g.obj hj hb;refine AC (ba Te.1 r) ?_;intro Az B6 dr;refine M7 B6 ?_;(try clear B6);intro o l ho hc OV am4 am5 _;have er:FK B s.heap C N l.toList:=am2 dr am5 λe m=>am4 e (by simpa using m);have G_:a≠b:=λz=>by
   clear ho r;subst z;exact Qe ((RQ (HJ.mp ha).1 g.nodup).mp (ha.trans hb.symm))
 have hT:s.TypeIs (.ref b) "dict":=⟨o,ho,hc.1⟩;have ra:=g.obj hd ha;refine AC (ba Te.2 ra) ?_;intro kva bb dra;have Wi:∃oa la mN,s.heap.get? a=G oa/\oa.data=.dict la mN:=by refine HQ bb ?_;(try clear bb);intro o' BN e hc hd _;exact⟨o',BN,_,e,hd⟩
 refine Hm Wi ?_;(try clear Wi);intro oa la mN Wi QQ;have Ch:=er.length;unfold mergeMapping;refine A5 (Lw hT isSubtype_dict_dict ?_);skip;refine A5 (YG hT PySem.F.slot_dict_iter.lookup (A5 (AW ?_)));simp only[fh];rw[g.QO (Ev hb)];skip;have mO:∀(AS:PUnit->AR->Prop)(E:A4->AR->Prop)(f:O->PUnit->Dy (sr PUnit)),(∀i u,f i u=(do
 let G e:=(<-dictEntries b)[i]?|unsupported "dict.changed-during-merge"
 Hd [e.key,e.val] (tb a e.hash e.key e.val)if(<-dictEpoch b)!=Az.length then RW "dict.changed-during-merge"
 pure (.yield ⟨⟩)))->(∀AP Ft,E3 a s.heap AP->AP.DictAt (strKind B.prog B.w) a Ft Ft.length->DR GU s.heap C I_ Ft->AS ⟨⟩ {s with heap:=AP})->AH (AQ B.prog B.w) A (forIn (DT l.size) PUnit.unit f) AS E s:=by
   intro AS E f hfe hR;refine gZ _ (λC4 _ s'=>∃k AP Ft Wj,C4=(DT l.size).drop k/\s'={s with heap:=AP}/\E3 a s.heap AP/\AP.DictAt (strKind B.prog B.w) a Ft Ft.length/\DR GU s.heap C Wj Ft/\Kv (N.drop k) Wj=G I_) _ ?turn ?fin _ _ ?h;case h=>exact⟨0,s.heap,kva,Am,rfl,rfl,fs _ _,bb,dra,hf⟩
   case fin=>
    rintro⟨⟩s'⟨k,AP,Ft,Wj,hr,rfl,hs,hm,d1,FJ⟩;have :(DT l.size).length<=k:=by
     rcases bz5 k (DT l.size).length with h|h;. have :=congrArg Rm hr;simp at this h;omega
     . exact h
    simp at this Ch;rw[bz6 (by(with_reducible exact Mine.yT (by assumption) (by assumption)))]at FJ;injection FJ with FJ;clear hf kk;subst FJ;exact hR AP Ft hs hm d1
   case turn=>
    rintro x C4⟨⟩s'⟨k,AP,Ft,Wj,hr,rfl,hs,hm,d1,FJ⟩;have hk:k<l.size:=by
     rcases bz5 k l.size with h|h;. exact h
     . rw[bz6 (by simpa using h)]at hr;(exfalso;cases hr)
    rw[YF (by simpa using hk)]at hr;injection hr with mP hr2;simp only[List.getElem_range]at mP;subst mP;have bc:=er.drop x;have hkl:x<N.length:=by rw[Ch];simpa using hk
    rw[YF hkl]at bc FJ;refine VM bc ?_;(try clear bc);intro xx ku vu r' he e1 e2 e3 _;have be:l[x]?=G ⟨(strKind B.prog B.w).hash xx,ku,vu⟩:=by
     have :(l.toList.drop x)[0]?=G ⟨(strKind B.prog B.w).hash xx,ku,vu⟩:=by rw[he];rfl
     skip;simpa using this
    have OW:AP.get? b=G o:=(hs.2 b (CX G_)).trans ho;unfold Kv at FJ;refine Ea FJ (λWk FJ=>?_) λ_ e=>(AF e).elim;replace Wk:=Ra (B1 Wk) (Ak Wk);have hl:=Ee Wk.2;rw[hfe];refine A5 (YT (s:={s with heap:=AP}) OW OV ?_);rw[be];dsimp only;refine A5 (C0 (ai1 (By:=strKind B.prog B.w) (k:=xx) (s:={s with heap:=AP}) e2 hm (λQ HD De=>?_) (by have :=d1.length;exact B4 (show _<=100000 by(with_reducible exact Mine.yT (by assumption) (by assumption))) (by decide))));have am6:Q.get? b=G o:=(De.2 b (CX G_)).trans OW;refine A5 (tp (s:={s with heap:=Q}) am6 OV ?_);simp only[Y5,Ki,Kj];refine AW ⟨x+1,Q,_,_,hr2,rfl,hs.trans De,HD,?_,FJ⟩;rw[e1];exact d1.put WK (k:=xx) e3 (Ut hm)
 have C4:∀(_:Do->AR->Prop),(∀AP Ft,E3 a s.heap AP->AP.DictAt (strKind B.prog B.w) a Ft Ft.length->DR GU s.heap C I_ Ft->A2 () {s with heap:=AP}):=λAS AP Ft hs hm d1=>by
   refine xA (g.set (Q:=AP) (tk:=s.toks) (o':=.dict I_) ha hd (λ_ _ e=>by(exfalso;cases e)) hs.extBut (DictAt.live hm) λim=>.inl ⟨_,hm,Sz (p:=λJ=>DR GU AP J _ _) (d1.mono (J:=[]) im)⟩) ?_;intro g' x';exact kk () C _ g' x' trivial
 refine A5 (YT Wi QQ ?_);refine PW (λ_=>?_) (λ_=>?_)
 . refine A5 (YT ho OV ?_);rw[<-tq];refine A5 (gZ _ (λC4 _ s'=>s'=s/\∀e∈C4,∃x t,e.key=.str x t) _ ?turn ?fin _ _ ⟨rfl,er.am3⟩);case turn=>
    rintro e C4⟨⟩s'⟨rfl,hk⟩;refine DA (hk e Cp) ?_;intro x t e1;rw[e1];exact AW ⟨rfl,λe m=>hk e (Cq _ m)⟩
   case fin=>
    rintro⟨⟩s'⟨rfl,_⟩;refine A5 (YT ho OV ?_);refine A5 (tp ho OV ?_);refine A5 (mO _ _ _ ?_ λAP Ft hs hm d1=>AW (C4 A2 AP Ft hs hm d1));intro i u;rfl
 . refine A5 (YT ho OV ?_);refine A5 (tp ho OV ?_);refine A5 (mO _ _ _ ?_ λAP Ft hs hm d1=>AW (C4 A2 AP Ft hs hm d1));intro i u;rfl
theorem JP{J:I A8}(x:Nx AM A_ h Q C J)(e:C[i]?=G a):J[i]?=G a:=by refine AC x.pre ?_;intro EG q _;rw[q];exact FX e
theorem am7(A9:C5 B A3 n){k v0 v:AA}{r:V}(h:Fo A3 K (ev A3 n) (.Dict [L,G k] [v0,v] pos) H=.ok (.v r) A7)(g:Gd B F K A H C s):Ae B F K A A7 C s (eval (.Dict [L,G k] [v0,v] pos) F.env) (RV r):=by
 refine A0.Cg h ?_;clear h;intro w AB AP h;revert AP;apply A0.xN h;clear h;intro wi N mQ h AP;refine A0.Be h ?_;clear h;intro Cc h;refine A0.OA h ?_;clear h;intro Am OX h;refine A0.Bx h ?_;clear h;intro I_ hm h;refine A0.Cg h ?_;clear h;intro kv Bc BD h;refine A0.Cg h ?_;clear h;intro vv GW C3 h;refine A0.OA h ?_;clear h;intro sub LH h;refine A0.Be h ?_;clear h;intro hc h;simp only[D6]at hc;refine A0.OA h ?_;clear h;intro am8 am9 h;refine A0.Bx h ?_;clear h;intro bK9 hm3 h;apply B5 h;clear h;have Cc:wi≠H.n:=λz=>by clear mQ AP;subst z;simp at Cc
 intro A2 E kk;skip;refine A5 (Ek ?_);show AH _ A (YR [(L,do let x<-eval v0 F.env;Ke pos;pure x),(G (eval k F.env),do let x<-eval v F.env;Ke pos;pure x)]) A2 E s;unfold YR;simp only[Rb,gb,bw4,Kk,pure_bind,bind_assoc,tu,List.isEmpty_cons,tj];refine A5 (YA ?_);refine xA (g.newDict s.toks) ?_;intro F_ Cr;have hD:(C++[s.heap.objs.size])[H.n]?=G s.heap.objs.size:=g.LG;refine A5 (C0 (A5 (A9.e AP F_ _ _ λu AZ AJ AN Ab Aq=>A5 (Ek (AW ?_)))));have TE:=JP Ab hD;refine A5 (Y1 (PY (Y1 (C0 (mM AN OX TE mQ Aq (λz=>Cc z.symm) hm _ _ λ_ Au Ai AU Al _=>?_)))));have Mb:=JP Al TE;skip;refine A5 (AW ?_);refine A5 (AW ?_);refine A5 (A5 (C0 ?_));unfold subDict;refine xA (AU.newDict Ai.toks) ?_;intro Ao B8;have Tf:(AB.set H.n (.dict I_)).n=AB.n:=rfl;have hS:(Au++[Ai.heap.objs.size])[AB.n]?=G Ai.heap.objs.size:=AU.LG;refine A5 (YA (A5 (C0 ?_)));dsimp only;skip;simp only[ta];refine A5 (A5 (A9.e BD Ao _ _ λku IZ EE CA D' JM=>A5 (C0 (A5 (A9.e C3 CA _ _ λvu QP Ef Co EK Ic=>A5 (Ek (AW ?_)))))));have mR:=JP EK (JP D' hS);have mS:=JP EK (JP D' (JP B8 Mb));refine A5 (C0 (AW (AW ?_)));refine C0 ?_;simp only[Rb,gb];refine A5 (A5 (A5 (m8 Co LH mR (JM.nx EK) Ic hc.1 hc.2 _ _ λ_ WF TC GZ GF _=>AW (AW (AW (AW ?_))))));have CF:H.n<AB.n:=by
  have h1:(C++[s.heap.objs.size]).length<=AZ.length:=by refine AC Ab.pre ?_;intro J e _;rw[e];simp
  have h2:=AN.len;have h3:=g.len;simp at h1;omega
 have hb:AL (GW.set AB.n (.dict (Em sub kv vv))).h H.n=G (.dict am8):=by
  show AL (putN GW.h AB.n _) H.n=_;rw[MM (EQ CF)];exact am9
 have hs2:AL (GW.set AB.n (.dict (Em sub kv vv))).h AB.n=G (.dict (Em sub kv vv)):=ML LH;refine A5 (Y1 (C0 (mM GZ hb (JP GF mS) hs2 ⟨_,JP GF mR,rfl⟩ (EQ CF) hm3 _ _ λ_ bf bg Tg Qf _=>?_)));refine AW (AW ?_);exact kk _ _ _ Tg (Cr.trans (Ab.trans (Al.trans (B8.trans (D'.trans (EK.trans (GF.trans Qf))))))) ⟨_,JP Qf (JP GF mS),rfl⟩
end
open PyProof.Rows(StrsAre sortedS risingS)
theorem bh(x:Tx):∀l:I Tx,(Q9 x l).Perm (x::l)
 |[]=>.rfl|y::l=>by
  unfold Q9;cases EY x y with
 |true=>exact .rfl|false=>exact((bh x l).cons y).trans (.swap x y l)
theorem Wl:∀l:I Tx,(E_ l).Perm l
 |[]=>.rfl|x::l=>(bh x _).trans ((Wl l).cons x)
theorem an0{x:Tx}(h:EY y x=A6):x<=y:=bz7.mp λz=>by rw[TK.mpr z]at h;(exfalso;cases h)
theorem mT(x:Tx):∀{l:I Tx},l.Pairwise (·<=·)->(Q9 x l).Pairwise (·<=·)
 |[],_=>gc _ _|y::l,h=>by
  refine xA (Uu.mp h) ?_;intro h1 h2;unfold Q9;cases q:EY x y with
 |true=>
   have xy:x<=y:=List.le_of_lt (TK.mp q);refine Uu.mpr ⟨λz hz=>?_,h⟩;rcases Ck.mp hz with rfl|hz;. exact xy
   . exact bz8 xy (h1 z hz)|false=>
   have bV3:y<=x:=an0 q;refine Uu.mpr ⟨λz hz=>?_,mT x h2⟩;rcases Ck.mp ((bh x l).mem_iff.mp hz)with rfl|hz;. exact bV3
   . exact h1 z hz
theorem Wm:∀l:I Tx,(E_ l).Pairwise (·<=·)
 |[]=>.nil|x::l=>mT x (Wm l)
noncomputable def tx(x:U):Tx:=x.cps.toList
theorem mU:∀(p:U)(l:I U),risingS p l=M->((p::l).map tx).Pairwise (·<=·)
 |p,[],_=>gc _ _|p,x::r,h=>by
  simp only[risingS,D6,RS]at h;have ih:=mU x r h.2;have px:tx p<=tx x:=bz7.mp λz=>by have :=h.1;rw[bQ4,gF]at this;exact this z
  skip;refine xA (Uu.mp ih) ?_;intro h1 h2;refine Uu.mpr ⟨λz hz=>?_,ih⟩;rcases Ck.mp hz with rfl|hz;. exact px
  . exact bz8 px (h1 z hz)
theorem an1{l:I U}(h:sortedS l=M):(l.map tx).Pairwise (·<=·):=by cases l with
 |nil=>exact .nil|cons x r=>exact mU x r h
theorem mV{OY:I U}(hs:sortedS OY=M)(hp:(OY.map tx).Perm l):OY.map tx=E_ l:=bz9 (le:=(·<=·)) (λa b _ _ h1 h2=>bA0 h1 h2) (an1 hs) (Wm l) (hp.trans (Wl l).symm)
theorem bj:∀{vs:I A4}{ss:I U},M1 vs ss->∀{h:BK}{C:I A8},Aa h C ((ss.map tx).map .str) vs
 |_,_,.nil,_,_=>rfl|_,_,.cons y t r,_,_=>⟨_,_,rfl,⟨t,rfl⟩,bj r⟩
theorem mW:∀{us:I A4},Aa h C (l.map .str) us->M1 us (l.map λx=>⟨⟨x⟩⟩):=by induction l with
 |nil=>exactλe=>e▸.nil|cons x l ih=>intro us r;refine Aa.Sr (vs:=l.map .str) r (P:=λus=>M1 us ((x::l).map λx=>⟨⟨x⟩⟩)) ?_;intro u us a b;refine xE a ?_;intro t a;subst a;exact .cons _ t (ih b)
section
theorem mX{x:A4}(hl:l.length<60)(hc:∀(AS:I A4->AR->Prop)(E:A4->AR->Prop),(∀vs ss Q tk,M1 vs ss->(ss.map tx).Perm l->(∀b o,s.heap.get? b=G o->Q.get? b=G o)->AS vs {s with heap:=Q,toks:=tk})->AH (AQ prog w) A.in1 (Y9 x) AS E s)(hQ:∀(D:A8)(us:BW A4)(Q:BK)(tk e:O),s.heap.get? D=L->Q.get? D=G {cls:=.type "list",data:=.seq us e}->(∀b o,s.heap.get? b=G o->Q.get? b=G o)->(∀h C,Aa h C ((E_ l).map .str) us.toList)->A2 (.ref D) {s with heap:=Q,toks:=tk}):AH (AQ prog w) A (call (.builtin "sorted") [x]) A2 E s:=by
 refine bA1 bA2 bA3 bA4 (bA5 _) ?_;skip;refine A5 (m:=checkCount "sorted" 1 1 _) (AW ?_);refine A5 (hc _ _ λvs ss Q tk hS hp kp=>?_);have Ch:vs.length=l.length:=by
   have h1:=hp.length_eq;have h2:vs.length=ss.length:=by clear hp h1;induction hS with|nil=>rfl|cons _ _ _ ih=>simp[ih]
   simp at h1;(with_reducible exact tv (by assumption) (by assumption))
 have hn:s.heap.get? Q.objs.size=L:=by cases e:s.heap.get? Q.objs.size with
 |none=>rfl|some o=>exact absurd (Dg (kp _ _ e)) (Ix _)
 refine A5 (tw ?_ (by rw[Ch];exact B4 (show l.length<=60 by(with_reducible exact Gg (by assumption))) (by decide)));have KC:(Q.push {cls:=.type "list",data:=.seq vs.toArray}).get? Q.objs.size=G (tz "list" vs.toArray 0):=CY _ rfl;refine A5 (C0 (Gj u0 ⟨_,KC,rfl⟩ u4 (bA6 bA7 KC hS.keysOf (λHt an2 C4 e=>bA8 (by rw[<-e];exact hS)) (by(with_reducible exact Mine.vz (by assumption) (by assumption))) λbk a1 a2=>⟨_,rfl,?_⟩) (u5 _)));refine CZ (bA9 hS a1 a2) ?_;intro OY h1 h2 h3;have key:OY.map tx=E_ l:=mV h3 ((h2.map tx).trans hp);refine xE (u6 (vs:=vs) (out:=(bB0 bk).map (·.2)) KC) ?_;intro e he;refine AW ⟨_,rfl,hQ Q.objs.size _ _ tk e hn he (λb o q=>?_) λh C=>?_⟩
 . have lt:=Dg (kp _ _ q);rw[u7 (EQ lt) (by rw[IC];exact fE lt)];exact C1 _ (kp _ _ q)
 . rw[<-key];exact bj h1
end
section
theorem Gd.newList(g:Gd B F K A H C s){us:BW A4}{e:O}(hn:s.heap.get? D=L)(hd:Q.get? D=G {cls:=.type "list",data:=.seq us e})(kp:∀b o,s.heap.get? b=G o->Q.get? b=G o)(hv:∀h C,Aa h C Y us.toList):Gd B F K A (H.new (.list Y)).2 (C++[D]) {s with heap:=Q,toks:=tk}/\Nx F.D [] s.heap Q C (C++[D]):=⟨g.new kp hn ⟨_,hd⟩ (o:=.list Y) ⟨us,⟨e,hd⟩,hv _ _⟩,Nx.add [_] kp λb hb=>by rw[CI.mp hb];exact hn⟩
theorem mY{r:V}(g:Gd B F K A H C s)(hi:AL H.h i=G (.list Y))(ru:VR s.heap C (.ref i) u)(h:O2 Y H=.ok (.v r) A7):Ae B F K A A7 C s (CE (.builtin "sorted") [u]) (RV r):=by
 refine A0.Bx h ?_;clear h;intro l hl h;refine A0.Be h ?_;clear h;intro hc h;(first|(revert k;(first|apply BX h|apply B5 h|apply BY h|apply BZ h|apply B_ h);intro k)|apply BX h|apply B5 h|apply BY h|apply BZ h|apply B_ h);have CF:l.length<60:=Dj hc;intro A2 E kk;refine Bv (g.listAt ru hi) ?_;intro a us B6 p vr;clear ru;subst B6;rw[OO hl]at vr;refine mX CF (λAS E k=>?_) λD Dw Q tk e hn hd kp hv=>?_
 . have Ib:s.heap.IsList a us.toList.toArray:=by simpa using p.isList
   have Ch:us.toList.length=l.length:=by rw[<-vr.length];simp
   refine bQ5 Ib ?_ (by rw[Ch];exact B4 (show l.length<=60 by(with_reducible exact Gg (by assumption))) (by decide));have kp:∀b o,s.heap.get? b=G o->((s.heap.push (tz "list" #[] 0)).update s.heap.objs.size (GL (·++us.toList.toArray))).get? b=G o:=λb o e=>(GN _ _ (λz=>by rw[<-z]at e;exact absurd (Dg e) (Ix _))).trans (C1 _ e);exact k _ _ _ s.toks (mW vr) (by rw[Jo];have :(tx ∘λx=>(⟨⟨x⟩⟩:U))=id:=rfl;rw[this,bB1]) kp
 . refine xA (g.newList (tk:=tk) hn hd kp hv) ?_;intro g' x';exact kk _ _ _ g' x' ⟨_,g.LG,rfl⟩
theorem DR.an3{Az:I (U×A4)}(d:DR GU h C N Az):N.map (·.1)=(Az.map λp=>tx p.1).map .str:=DR.ind (P:=λN Az=>N.map (·.1)=(Az.map λp=>tx p.1).map .str) rfl (λk _ _ _ _ _ _ ih=>congrArg (GU k::·) ih) d
theorem an4:∀(Az:I (U×A4))(Am:I A4),Am.length=Az.length->(∀(j:O)(v:A4),Am[j]?=G v->∃k x,Az[j]?=G (k,x)/\(strKind prog w).is k v=M)->M1 Am (Az.map (·.1)):=by
 intro Az;induction Az with
 |nil=>
  intro Am hl _;have :Am=[]:=by simpa using hl
  clear hl;subst this;exact .nil|cons p Az ih=>
  intro Am hl h;cases Am with
 |nil=>simp at hl|cons v Am=>
  refine EW (h 0 v rfl) ?_;intro k x e hk;simp only[bt3,bQ6]at e;subst e;refine xE (b_ hk) ?_;intro t BJ;clear hk;subst BJ;exact .cons k t (ih Am (by simpa using hl) λj u hu=>by have :=h (j+1) u (by simpa using hu);simpa using this)
theorem an5(g:Gd B F K A H C s)(ha:a∈C)(r:Dm B.prog B.w s.heap C a BN)(hp:BN.Perm N)(hl:HS (N.map (·.1))=G l)(CF:l.length<60):Ae B F K A (H.new (.list ((E_ l).map .str))).2 C s (CE (.builtin "sorted") [.ref a]) (RV (.ref H.n)):=by
 intro A2 E kk;have hk:=OO hl;have Te:So BN=M:=by
   rw[So,Bq];intro p hm;have :p.1∈N.map (·.1):=E'.mpr ⟨p,hp.mem_iff.mp hm,rfl⟩;rw[hk]at this;refine AC (E'.mp this) ?_;intro x _ e;rw[<-e]
 refine AC (ba Te r) ?_;intro Az hm dr;have FZ:(Az.map λp=>tx p.1).Perm l:=by
   have h1:=dr.an3;have h2:(BN.map (·.1)).Perm (N.map (·.1)):=hp.map _;rw[h1,hk]at h2;have :=h2.map (λv=>match v with|.str s=>s|_=>[]);simpa[Jo,Function.comp_def]using this
 have Ch:Az.length=l.length:=by have :=FZ.length_eq;simpa using this
 refine mX CF (λAS E k=>?_) λD Dw Q tk e hn hd kp hv=>?_
 . refine kdu_collect (kdl_dict (knd:=strKind B.prog B.w) (kvs:=Az) (ep:=Az.length) (g.QO ha)) (by simp[g.handled]) hm (by rw[Ch];exact B4 (show l.length<=60 by(with_reducible exact Gg (by assumption))) (by decide)) λQ tk Am kp OX=>?_;refine k _ (Az.map (·.1)) _ tk (an4 (prog:=B.prog) (w:=B.w) _ _ (by rw[V8];exact OX.1) λj v e=>OX.2 j v (by rw[<-Rs];exact e)) ?_ kp;rw[Jo];exact FZ
 . refine xA (g.newList (tk:=tk) hn hd kp hv) ?_;intro g' x';exact kk _ _ _ g' x' ⟨_,g.LG,rfl⟩
theorem an6{r:V}(g:Gd B F K A H C s)(ru:VR s.heap C (.ref i) u)(h:je i H=.ok (.v r) A7):Ae B F K A A7 C s (CE (.builtin "sorted") [u]) (RV r):=by
 refine A0.Bx h λo hi h=>?_;have Ez:∀{N BN:I (V×V)}{a:A8},C[i]?=G a->u=.ref a->Dm B.prog B.w s.heap C a BN->BN.Perm N\/BN=N->O2 (N.map (·.1)) H=.ok (.v r) A7->Ae B F K A A7 C s (CE (.builtin "sorted") [u]) (RV r):=λ{N BN a}ha hu dr hp h=>by
  refine A0.Bx h λl hl h=>A0.Be h λhc h=>?_;apply B5 h;clear ru;subst hu;exact an5 g (Ev ha) dr (hp.elim (λp=>p) λe=>by rw[e]) hl (Dj hc)
 revert hi;apply Jy h;. exactλY h hi=>mY g hi ru h
 intro h;apply SU h;. exactλN h hi=>AC ru λa ha e=>Ez ha e (g.obj hi ha) (.inr rfl) h
 intro h;apply SV h Ac;exactλN h hi=>AC ru λa ha e=>AC (g.obj hi ha) λBN hu dr=>Ez ha e dr (.inl hu.1) h
end
structure Wn(Kf:Ge):Prop where
 mZ:∀A9,Ri Kf A9 (opaqueClassAbove (.type "tuple"))=G L
 typ:∀A9,Ri Kf A9 (He (.type "tuple"))=G (.type "type")bl:Gk Kf (.type "type") "__getattribute__"=G (G (.builtin "type.__getattribute__"))sub:Y7 Kf (.type "type") (.type "type")=G M
 new:tD Kf (.type "tuple") (.type "type") "__new__"=G (.val (.builtin "tuple.__new__"))
structure Th(B:Bs)(A3:Mine.Ctx):Prop where
 fn:∀a fn,A3.fn a=G fn->∃o fd,FnAt B a fn o fd
 Gq:∃o fd,B.base.get? A3.Gq=G o/\o.data=.func fd
noncomputable def m_:LK->D9|.append=>"list.append"|.pop=>"list.pop"|.sort=>"list.sort"
theorem an7{m:U}{k:LK}(h:Vm m=G k):"list."++m.toString=m_ k:=H3.mp (show Vl.map (λp=>"list."++p.1.toString)=Vl.map (λp=>m_ p.2)by decide+kernel) _ (FF h)
noncomputable def ma:DK->D9|.Sj=>"dict.setdefault"|.get=>"dict.get"
theorem an8{m:U}{k:DK}(h:Vo m=G k):"dict."++m.toString=ma k:=H3.mp (show Vn.map (λp=>"dict."++p.1.toString)=Vn.map (λp=>ma p.2)by decide+kernel) _ (FF h)
section
noncomputable def MS(T p:D9)(m:U):Prop:=Ly T m (p++m.toString)/\He (.builtin (p++m.toString))=pure (.type "method_descriptor")
theorem ms{T p n id:D9}{m:U}(e:(m,p++m.toString)=(Eu n,id))(a:Ly T n id)(b:He (.builtin id)=pure (.type "method_descriptor")):MS T p m:=by injection e with e1 e2;unfold MS;rw[e2];exact⟨e1▸a,b⟩
theorem an9:∀x∈Vk,MS "str" "str." x.1:=all_cons (ms (by decide+kernel) PySem.F.slot_str_startswith PySem.F.type_str_startswith)<|all_cons (ms (by decide+kernel) PySem.F.slot_str_endswith PySem.F.type_str_endswith)<|all_cons (ms (by decide+kernel) gY PySem.F.type_str_split)<|all_cons (ms (by decide+kernel) PySem.F.slot_str_rfind PySem.F.type_str_rfind)<|all_cons (ms (by decide+kernel) PySem.F.slot_str_rstrip PySem.F.type_str_rstrip)<|all_cons (ms (by decide+kernel) PySem.F.slot_str_format_m PySem.F.type_str_format_m)<|all_cons (ms (by decide+kernel) PySem.F.slot_str_join PySem.F.type_str_join) EC
theorem ao0:∀x∈Vl,MS "list" "list." x.1:=all_cons (ms (by decide+kernel) bB2 bB3)<|all_cons (ms (by decide+kernel) PySem.F.slot_list_pop PySem.F.type_list_pop)<|all_cons (ms (by decide+kernel) PySem.F.slot_list_sort PySem.F.type_list_sort) EC
theorem ao1:∀x∈Vn,MS "dict" "dict." x.1:=all_cons (ms (by decide+kernel) bz1 PySem.F.type_dict_setdefault)<|all_cons (ms (by decide+kernel) tY PySem.F.type_dict_get) EC
theorem ao2{m:U}{k:SK}(hk:Sk m=G k){A2:A4×I A4->AR->Prop}(h:A2 (.builtin ("str."++m.toString),[.str x t]) s):AH Av A (Jj (.str x t) m pl) A2 E s:=have z:=an9 _ (FF hk);gd (PZ _ _ _) PySem.F.plainAttrs_str z.1 z.2 (λ_ e=>nomatch e) h
theorem mc{us:BW A4}{m:U}{k:LK}(hk:Vm m=G k)(hp:s.heap.PlainList a us){A2:A4×I A4->AR->Prop}(h:A2 (.builtin ("list."++m.toString),[.ref a]) s):AH Av A (Jj (.ref a) m pl) A2 E s:=have z:=ao0 _ (FF hk);xE hp λ_ ho=>gd ⟨_,ho,rfl⟩ bB4 z.1 z.2 (λ_ e=>⟨_,bB5 e▸ho,rfl⟩) h
theorem ao3{o:Bm}{m:U}{k:DK}(hk:Vo m=G k)(ho:s.heap.get? a=G o)(hc:o.cls=.type "dict")(hn:o.dict=L){A2:A4×I A4->AR->Prop}(h:A2 (.builtin ("dict."++m.toString),[.ref a]) s):AH Av A (Jj (.ref a) m pl) A2 E s:=have z:=ao1 _ (FF hk);gd ⟨_,ho,hc⟩ PySem.F.plainAttrs_dict z.1 z.2 (λ_ e=>⟨_,bB5 e▸ho,hn⟩) h
theorem ao4(T:Wn Kf)(AG:Kf.In s.heap){A2:A4×I A4->AR->Prop}(h:∀tk,A2 (.builtin "tuple.__new__",[]) {s with toks:=tk}):AH (AQ prog w) A (Jj (.type "tuple") "__new__" pl) A2 E s:=by
 unfold Jj;with_reducible refine A5 ((show Gh _ _ (Na (.type "tuple") "__getattribute__") (G (.builtin "type.__getattribute__"))from(N_ AG (T.typ _)).andThen (NZ AG T.bl)).here ?_)
 dsimp only;skip;refine A5 ?_;with_reducible refine cls_open (hook:=L) AG (N_ AG (T.mZ _)) (N_ AG (T.typ _)) T.bl (looks_hook AG (by rw[CS (by decide+kernel)])) T.sub T.new ?_
 exact AW (by show AH _ _ (handedOut (.builtin "tuple.__new__")) _ _ _;rw[handedOut_of rfl];exact AW (AW (h _)))
theorem ao5(r:Dm B.prog B.w h C a N):∃o,h.get? a=G o/\o.cls=.type "dict"/\o.dict=L:=by(rcases r with me|mf;refine AC me ?_;(try clear me);intro Az ao6 _;obtain⟨o,BN,e,⟨hc,hn,_⟩,_⟩:=ao6;rotate_left;refine AC mf ?_;(try clear mf);intro Az ao7 _;obtain⟨o,BN,e,⟨hc,hn,_⟩,_⟩:=ao7;rotate_left)<;>exact⟨o,e,hc,hn⟩
theorem mh(AG:Cx B A3 Kf)(T:Wn Kf):kT B A3:=λ{F K A H C s v u m kd}g r h pl A2 E k=>by
 have fin:∀{b:AK}{x:MK}{P:Prop},bT b L (G x)=G kd->(b=M->x=kd->P)->P:=λh c=>Ce h AF λq h=>c q (Bl h);have sk:∀{J:Type}{o:AD J}{P:Prop},o.isSome=M->(∀x,o=G x->P)->P:=λ{J o P}h c=>by cases o with
 |none=>exact(B0 h).elim|some x=>exact c x rfl
 revert r;apply Nw h
 . intro x h r;refine fin h λq e=>sk q λk' hk=>?_;subst e;refine xE r ?_;(try clear r);intro t Aw;subst Aw;exact ao2 hk (k _ _ s g (Nx.refl ..) ⟨rfl,rfl⟩)
 intro h;apply ZY h
 . intro w h r;cases r;apply SR h AF;intro t h;refine fin h λq e=>?_;subst e;apply IG (B1 q);apply aA (Ak q);exact ao4 T (g.AV AG) λtk=>k _ _ _ (g.tok tk) (Nx.refl ..) ⟨rfl,rfl⟩
 intro h;apply EH h AF;intro i h r;refine BI h λo hi h=>?_;revert hi;apply Jy h
 . intro Y h hi;refine fin h λq e=>sk q λk' hk=>?_;subst e;refine Bv (g.listAt r hi) ?_;intro a us B6 p _;subst B6;exact mc hk p (k _ _ s g (Nx.refl ..) ⟨rfl,rfl⟩)
 intro h;apply jT h
 . intro n Y h hi;refine fin h λq e=>sk q λk' hk=>?_;subst e;refine Bv (g.lY r hi) ?_;intro a us BJ p _;subst BJ;exact mc hk p (k _ _ s g (Nx.refl ..) ⟨rfl,rfl⟩)
 intro h;apply SU h
 . intro N h hi;refine fin h λq e=>sk q λk' hk=>?_;subst e;refine AC r ?_;(try clear r);intro a ha BP;subst BP;have ro:=g.obj hi ha;refine CZ (ao5 ro) ?_;intro o ho hc hn;exact ao3 hk ho hc hn (k _ _ s g (Nx.refl ..) ⟨rfl,rfl⟩)
 intro h;apply jS h AF;intro c d h hi;refine Ce h AF λhc h=>BI h λo hd h=>?_;revert hd;apply Za h AF;intro N h hd;cases hm:Ah N m with
 |some _=>rw[hm]at h;exact(AF h).elim|none=>
   rw[hm]at h;refine BI h λa ha h=>?_;injection h with h;subst h;exact(zC AG g (CD hc▸hi) hd hm ha r pl).here (k _ _ s g (Nx.refl ..) ⟨rfl,rfl⟩)
theorem CW.B'{vs:BW A4}(e:h.get? a=G {cls:=.type "builtin_function_or_method",data:=.fields vs}):CW Av h (.ref a):=⟨.machine,.inr (.inl rfl),(Kg (part:=L) e).andThen .now⟩
theorem CW.cls{oc:A4}{od:AD A8}{cd:ClassData}{sl:BW (AD A4)}(e:h.get? a=G ⟨oc,od,.cls cd,sl⟩)(c:Gh Av h (Na (.ref a) "__call__") (G (.builtin "type.__call__"))):CW Av h (.ref a):=⟨.machine,.inr (.inl rfl),(Kg (part:=L) e).andThen (c.andThen .now)⟩
open PyProof.Rows(IntsAre)in
theorem Wo(hv:JF v=M)(r:VR h C v u):∃x y z l us n o,v=.tup (G 135) [.int x,.int y,.int z]/\u=.ref l/\h.get? l=G o/\C2 o=M/\o.cls=.ref 135/\o.data=.seq us n/\Pd us.toList [x,y,z]/\us.size=3:=by
 revert r;apply IL hv B0;intro o l hv;apply Nl hv B0;intro c hv;apply FS hv B0;intro a l hv;apply FS hv B0;intro b l hv;apply Ct hv B0;intro d hv;apply Cv hv B0;intro x hv;apply Cv hv B0;intro y hv;apply Cv hv B0;intro z _ r;refine Kr r ?_;(try clear r);intro a o us n Bp e tg EJ hd vr;subst Bp;have hc:c=135:=by simpa[Vv]using tg.1
 subst hc;refine Yl vr ?_;(try clear vr);intro _ _ h1 Bg _ _ Bu C9 _ _ Cn D8 DW;refine xE Bg ?_;(try clear Bg);intro t1 ao8;subst ao8;subst Bu;refine xE C9 ?_;(try clear C9);intro t2 ao9;subst ao9;subst Cn;refine xE D8 ?_;(try clear D8);intro bU8 ap0;subst ap0;subst DW;refine⟨x,y,z,a,us,n,o,rfl,rfl,e,by unfold C2;rw[EJ,hd];rfl,EJ,hd,?_,?_⟩;. rw[h1];exact .cons _ _ (.cons _ _ (.cons _ _ .nil))
 . have :=congrArg Rm h1;simpa using this
theorem ap1:Rj "tuple.__len__"=G .slot:=by decide+kernel
theorem ap2:g6 "tuple.__len__"=G ("tuple","__len__"):=by decide+kernel
theorem ap3:YC "tuple.__len__"=M:=by decide+kernel
theorem ap4(l:A8)(c1:A4)(d1:AD A8)(LI:BW (AD A4))(Cb:BW A4)(n:O):V5 (EA.«tuple.__len__» ⟨[.ref l],[]⟩) (λ_ AS s=>s.heap.get? l=G ⟨c1,d1,.seq Cb n,LI⟩/\AS (.ok (.ret (V2 (Cb.size:AX) s.toks))) {s with heap:=s.heap,toks:=s.toks+1}):=.of_wp λprog w A AS s h=>by obtain⟨hp,g,d,tk,os⟩:=s;refine xA h ?_;(try clear h);intro hl h;wp_walk using YS hl;exact⟨_,rfl,h⟩
theorem ap5(An:HX B A3 Kf)(AV:Kf.In s.heap)(hv:JF v=M)(g:Gd B F K A H C s)(ru:VR s.heap C v u):Ae B F K A H C s (CE (.builtin "len") [u]) (RV (.int 3)):=by
 intro A2 E kk;refine VN (Wo hv ru) ?_;intro x y z l us n o Ec FE e io hc hd i1 s1;subst Ec;subst FE;rw[<-An.at_]at hc;have tT:Gh (AQ B.prog B.w) s.heap (He (.ref l)) (.ref A3.Bo):=(Kg (part:=L) e).andThen (by rw[hc];exact .now);have sT:Gh (AQ B.prog B.w) s.heap (Na (.ref l) "__len__") (G (.builtin "tuple.__len__")):=tT.andThen (NZ AV An.len);obtain⟨c1,d1,da1,LI⟩:=o;simp only at hd hc;subst hd;have Wf:((3:O):AX)<2^63:=by decide
 refine call_function_entry kind_len plain_len entry_len (args_len1 _) ?_;unfold EA.«len»;refine A5 (m:=oneArg "len" _) (AW ?_);refine A5 (m:=tG (.ref l) (Eu "__len__")) ?_;skip;refine A5 (sT.here ?_);skip;refine C0 (A5 (AW (A5 (Ff (Q:=λr s'=>r=.int 3 s.toks/\s'={s with toks:=s.toks+1}) ?_ (λr s' q=>?_) λ_ _ e=>e))))
 . refine HN (Lu ap3 PySem.F.entry_tuple_len ?_);refine YB (i:="tuple.__len__") (owner:="tuple") (n:="__len__") (self:=.ref l) (rest:=[]) (kw:=[]) ap1 ap2 (tT.andThen (Ux AV An.tup)) (PySem.F.args_tuple_len_1 _) ?_;refine ap4 l c1 d1 LI us n B.prog B.w _ (YU (λv s'=>v=.int 3 s.toks/\s'={s with toks:=s.toks+1}) E) s ⟨e,?_,rfl⟩;rw[s1];rfl
 . refine xA q ?_;(try clear q);intro GB HB;subst GB;subst HB;refine AW ?_;show AH _ _ _ _ _ {s with toks:=s.toks+1};refine A5 (C0 (AW ?_));refine A5 (Pc ?_);show AH _ _ (if((3:O):AX)<0 then _ else _) _ _ _;rw[CS (by omega)];show AH _ _ (if((3:O):AX)>=2^63 then _ else _) _ _ _;skip;exact A5 (wpAny_mkInt (AW ⟨_,rfl,kk _ C _ (g.tok _) (Nx.refl ..) ⟨_,rfl⟩⟩))
theorem ap6(An:HX B A3 Kf)(AV:Kf.In s.heap){id:D9}(g:Gd B F K A H C s)(rs:Aa s.heap C args us)(h:Zs id args H=.ok (.v v) A7):Ae B F K A A7 C s (CE (.builtin id) us) (RV v):=by
 revert rs;refine Fh h (λe h=>?_) λh=>?_
 . subst e;apply Ct h Ac;intro v' h rs;apply MN rs;intro u r;by_cases hm:JF v'=M
   . refine Ea h (λ_ h=>?_) λq _=>Ug (hm.symm.trans q);apply B5 h;exact ap5 An AV hm g r
   . exact ak0 (by simpa using hm) g r h
 refine Fh h (λe h=>?_) λh=>?_
 . subst e;apply FS h Ac;intro a l h;apply Ct h Ac;intro b h;apply Cv h Ac;intro a h;apply Cv h Ac;intro b h rs;apply B5 h;apply Sv rs;intro u u' r r';exact ak1 g r r'
 refine Fh h (λe h=>?_) λh=>?_
 . subst e;apply Ct h Ac;intro v' h rs;apply MN rs;intro u r;exact am1 g r h
 refine Fh h (λe h=>?_) λh=>?_
 . subst e;apply Ct h Ac;intro v' h;apply EH h Ac;intro i h rs;apply MN rs;intro u r;exact an6 g r h
 refine Fh h (λe h=>?_) λh=>?_
 . subst e;apply FS h Ac;intro v' l h;apply Ct h Ac;intro b h;apply Ny h Ac;intro b h;apply SR h Ac;intro t h rs;apply Sv rs;intro u u' r r';cases r';exact ak3 g r h
 refine Fh h (λe h=>?_) λh=>(Ac h).elim;subst e;apply FS h Ac;intro t l h;apply Ct h Ac;intro p h;apply Ny h Ac;intro t h;apply SR h Ac;intro t h;apply IL h Ac;intro o l h;apply GP h Ac;intro h;apply FS h Ac;intro a l h;apply Ct h Ac;intro b h;apply Ny h Ac;intro a h;apply SR h Ac;intro a h;apply Ny h Ac;intro b h;apply SR h Ac;intro b h rs;refine Ce h Ac λq h=>?_;apply B5 h;revert rs;apply IG (B1 q);apply IG (B1 (Ak q));apply IG (Ak (Ak q));intro rs;exact ak4 g rs
inductive LM(A3:Mine.Ctx)(K:Kx)(n:O)(f:V)(args:I V)(H:Mine.St)(o:A0):Prop where|bm(id:D9):f=.top (.builtin id)->Zs id args H=o->LM A3 K n f args H o|typ(t:D9):f=.top (.type t)->Zt t args H=o->LM A3 K n f args H o|bo(i:O)(x:Tx):f=.B' 0 i->args=[.str x]->AL H.h i=G .HR->o=.ok (.v (.bool A6)) H->LM A3 K n f args H o|get(i:O):f=.B' 1 i->A0.Ez H.h (.ref i) (λi N=>O4 i N .get args H)=o->LM A3 K n f args H o|sm(d:O)(fn:Fn)(AB:Mine.St):f=.top (.ref A3.Dk)->K.d=d+1->A3.fn A3.Q5=G fn->JG ⟨K.sc,d⟩ (ev A3 n) fn (.ref (H.n+1)::args) ⟨H.env,(H.n+1,.inst A3.Dk H.n)::(H.n,.EX [])::H.h,H.n+2⟩=.ok (.v .none) AB->o=.ok (.v (.ref (H.n+1))) AB->LM A3 K n f args H o|Gq(x y:V)(i j:O)(Y ys:I V)(tx ty:I Tx):A3.Vg=M->(!BC i j&&CH Y&&CH ys&&G0 0 K.d)=M->f=.top (.ref A3.Gq)->args=[x,y]->x=.ref i->y=.ref j->AL H.h i=G (.list Y)->AL H.h j=G (.list ys)->HS Y=G tx->HS ys=G ty->o=.ok (.v (.tup L [.ref H.n,.ref (H.n+1)])) ((H.new (.list ((D4 (tx.length+ty.length) tx ty).1.map V.str))).2.new (.list ((D4 (tx.length+ty.length) tx ty).2.map V.str))).2->LM A3 K n f args H o|bp(d:O)(fn:Fn)(AB:Mine.St)(a b c:V)(Y:I V):f=.top (.ref A3.Bo)->K.d=d+1->A3.fn A3.Sb=G fn->args=[a,b,c]->JG ⟨K.sc,d⟩ (ev A3 n) fn (.top (.ref A3.Bo)::args) H=.ok (.v (.tup (G A3.Bo) Y)) AB->o=.ok (.v (.tup (G A3.Bo) Y)) AB->LM A3 K n f args H o|fn(a:A8)(fn:Fn):f=.top (.ref a)->A3.fn a=G fn->JG K (ev A3 n) fn args H=o->LM A3 K n f args H o
theorem mj{f:V}{r:AS}(h:jn A3 K (ev A3 n) f args H=.ok r A7):LM A3 K n f args H (.ok r A7):=by
 apply ZY h
 . intro w h;apply wW h;. intro id h;exact .bm _ rfl h
   intro h;apply jP h;. intro t h;exact .typ _ rfl h
   intro h;apply Pw h Ac;intro a h;refine Nk h (λha h=>?_) λh=>Nk h (λha h=>?_) λh=>Nk h (λha h=>?_) λh=>?_
   . revert h;have :=CD ha;subst this;intro h;refine Yk h Ac λd hd h=>A0.Cg h λv AB AP h=>?_;revert AP;apply Pu h Ac;intro h AP;refine A0.Bx AP ?_;clear AP;intro fn hf AP;exact .sm d fn AB rfl hd hf AP h.symm
   . revert h;have :=CD (B1 ha);subst this;intro h;apply Hk h Ac;intro x y h;apply A0.MQ h;intro i Y hi h;apply A0.MQ h;intro j ys hj h;refine A0.Be h λCc h=>A0.Bx h λtx Qg h=>A0.Bx h λty Ti h=>?_;exact .Gq _ _ i j Y ys tx ty (Ak ha) Cc rfl rfl rfl rfl hi hj Qg Ti h.symm
   . revert h;have :=CD ha;subst this;intro h;refine Yk h Ac λd hd h=>A0.Cg h λv AB AP h=>?_;refine A0.Bx AP ?_;clear AP;intro fn hf AP;have BD:=AP;revert BD;apply IL h Ac;intro o Y h;cases o with
 |none=>exact(Ac h).elim|some c=>
     have q:∃a b e,args=[a,b,e]/\A0.iff (BC c A3.Bo) (.ok (.v (.tup (G c) Y)) AB)=.ok r A7:=by
      apply FS h Ac;intro a l h;apply Hk h Ac;intro b e h;exact⟨a,b,e,rfl,h⟩
     intro BD;refine Hm q ?_;(try clear q);intro a b e ap7 h;refine A0.Be h λhc h=>?_;revert h;have :=CD hc;subst this;intro h;exact .bp d fn AB _ _ _ Y rfl hd hf ap7 BD h.symm
   . refine A0.Bx h ?_;clear h;intro fn hf h;exact .fn a fn rfl hf h
 intro h;apply wS h Ac;intro k i h;refine Fh h (λe h=>?_) λh=>Fh h (λe h=>?_) λh=>(Ac h).elim
 . revert h;subst e;intro h;have q:∃x,args=[.str x]/\A0.of (AL H.h i) (λo=>Px o .bad (.ok (.v (.bool A6)) H))=.ok r A7:=by
     apply Ct h Ac;intro v h;apply Dc h Ac;intro x h;exact⟨x,rfl,h⟩
   refine AC q ?_;(try clear q);intro x ha h;refine A0.Bx h λo hi h=>?_;revert hi;apply w_ h Ac;intro h hi;exact .bo i x rfl ha hi h.symm
 . revert h;subst e;intro h;exact .get _ rfl h
noncomputable def Tj(B:Bs)(A3:Mine.Ctx):Prop:=A3.Vg=M->∀{F:Fm}{K:Kx}{A:CK}{H:Mine.St}{C:I A8}{s:AR}{i j:O}{tx ty:I Tx}{u u':A4},Gd B F K A H C s->i≠j->CH tx=M->CH ty=M->0<K.d->AL H.h i=G (.list (tx.map .str))->AL H.h j=G (.list (ty.map .str))->VR s.heap C (.ref i) u->VR s.heap C (.ref j) u'->Ae B F K A ((H.new (.list ((D4 (tx.length+ty.length) tx ty).1.map V.str))).2.new (.list ((D4 (tx.length+ty.length) tx ty).2.map V.str))).2 C s (CE (.ref A3.Gq) [u,u']) (RV (.tup L [.ref H.n,.ref (H.n+1)]))
theorem ap8(AG:Cx B A3 Kf)(An:HX B A3 Kf)(Cw:Th B A3){f:V}(h:step A3 K (ev A3 n) (.call f args) H=.ok (.v v) A7)(g:Gd B F K A H C s)(r:VR s.heap C f fu):CW (AQ B.prog B.w) s.heap fu:=by
 have AV:=g.AV AG;have ml:∀{a o fd},B.base.get? a=G o->o.data=.func fd->CW (AQ B.prog B.w) s.heap (.ref a):=λe d=>CW.func (g.base _ _ e) d;cases mj h with
 |bm id e=>subst e;cases r;exact CW.builtin|typ t e=>subst e;cases r;exact CW.type|bo i x e=>subst e;refine Bv r ?_;(try clear r);intro a d Hr _ e;subst Hr;exact CW.B' e|get i e=>subst e;refine Bv r ?_;(try clear r);intro a d L2 _ e;subst L2;exact CW.B' e|sm d fn AB e=>
  subst e;cases r;have mk:=makes_of (M:=AQ B.prog B.w) AV AG.makes;refine Jv mk.obj ?_;intro oc od cd sl e _;exact CW.cls e mk.call|Gq x y i j Y ys tx ty _ _ e=>subst e;cases r;refine EW Cw.Gq ?_;intro o fd e d;exact ml e d|bp d fn AB a b c Y e=>
  subst e;cases r;refine Jv An.cls ?_;intro oc od cd sl hC _;exact CW.cls (AV _ _ hC) (bt6 AV An.call)|fn a fn e hf=>subst e;cases r;refine DA (Cw.fn a fn hf) ?_;intro o fd ok;exact ml ok.get ok.data
theorem ap9(AG:Cx B A3 Kf)(An:HX B A3 Kf)(Cw:Th B A3)(AM:Tj B A3)(A9:C5 B A3 n){f:V}(h:step A3 K (ev A3 n) (.call f args) H=.ok (.v v) A7)(g:Gd B F K A H C s)(r:VR s.heap C f fu)(rs:Aa s.heap C args us):Ae B F K A A7 C s (CE fu us) (RV v):=by cases mj h with
 |bm id e h2=>subst e;cases r;exact ap6 An (g.AV AG) g rs h2|typ t e h2=>subst e;cases r;exact aj1 g rs h2|bo i x e ea hi h2=>subst e;subst ea;refine xA (FG h2) ?_;intro q L3;subst L3;injection q with q;subst q;exact ae4 g r rs hi|get i e h2=>subst e;exact ae6 g r rs h2|sm d fn AB e hd hf AP h2=>
  subst e;cases r;refine xA (FG h2) ?_;intro q TQ;subst TQ;injection q with q;subst q;refine DA (Cw.fn _ _ hf) ?_;intro o fd ok;exact zI AG A9 g rs hd ok AP|Gq x y i j Y ys tx ty hon Cc e ea ex ey hi hj Qg Ti h2=>
  subst e;subst ea;subst ex;subst ey;cases r;refine xA (FG h2) ?_;intro q TR;subst TR;injection q with q;subst q;refine S3 rs ?_;(try clear rs);intro u _ TS r u' _ bD r' e;subst TS;subst bD;cases e;simp only[D6,RS]at Cc;refine xA Cc ?_;(try clear Cc);intro QU h3;refine xA QU ?_;(try clear QU);intro aq0 h2;obtain⟨Cc,h1⟩:=aq0;rw[OO Qg]at hi h1;rw[OO Ti]at hj h2;unfold CH at h1 h2;rw[Jl]at h1 h2;exact AM hon g (λz=>by rw[z,Iy]at Cc;(exfalso;cases Cc)) h1 h2 (Dj h3) hi hj r r'|bp d fn AB a b c Y e hd hf ea AP h2=>
  subst e;subst ea;cases r;refine xA (FG h2) ?_;intro q TU;subst TU;injection q with q;subst q;refine DA (Cw.fn _ _ hf) ?_;intro o fd ok;exact zO An AG.AV A9 g rs hd ok AP|fn a fn e hf h2=>subst e;cases r;refine DA (Cw.fn a fn hf) ?_;intro o fd ok;exact kR A9 ok h2 g rs
noncomputable def mn(B:Bs)(A3:Mine.Ctx):Prop:=∀{F:Fm}{K:Kx}{A:CK}{H:Mine.St}{C:I A8}{s:AR}{i:O}{Y l:I V}{u:A4},Gd B F K A H C s->AL H.h i=G (.list Y)->VR s.heap C (.ref i) u->Y.all JF=M->Zv Y=G l->Ae B F K A (H.set i (.list l)) C s (CE (.builtin "list.sort") [u]) (RV .none)
theorem aq1(Cw:Th B A3)(Sc:T9 B A3 n){kd:MK}{o:V}{m:U}(h:step A3 K (ev A3 n) (.HT kd o m args) H=.ok (.v v) A7)(g:Gd B F K A H C s)(mv:MV kd m u fv first):CW (AQ B.prog B.w) s.heap fv:=by cases kd with
 |str=>rw[mv.1];exact CW.builtin|lst=>rw[mv.1];exact CW.builtin|Ez=>rw[mv.1];exact CW.builtin|tup=>rw[mv.1];exact CW.builtin|fn a=>rw[mv.1];exact Sc.MW (f:=.top (.ref a)) h g rfl
theorem aq2(An:HX B A3 Kf)(AV:Kf.In B.base)(AM:mn B A3)(A9:C5 B A3 n){kd:MK}{o:V}{m:U}(h:step A3 K (ev A3 n) (.HT kd o m args) H=.ok (.v v) A7)(g:Gd B F K A H C s)(mv:MV kd m u fv first)(r:VR s.heap C o u)(rs:Aa s.heap C args us):Ae B F K A A7 C s (CE fv (first++us)) (RV v):=by
 change jp A3 K (ev A3 n) kd o m args H=.ok (.v v) A7 at h;revert r rs;cases kd with
 |str=>
  refine xA mv ?_;(try clear mv);intro TV bE;subst TV;subst bE;apply Dc h Ac;intro x h r rs;refine A0.Bx h λk hk h=>?_;exact aj0 g hk r rs h|lst=>
  refine xA mv ?_;(try clear mv);intro aq3 aq4;subst aq3;subst aq4;apply EH h Ac;intro i h r;refine A0.Bx h λob hi h=>A0.Bx h λk hk h=>?_;rw[an7 hk];revert hi;apply Jy h
  . intro Y h hi;clear hk;cases k with
 |append=>
     apply Ct h Ac;intro v h rs;refine A0.Be h λhf h=>?_;apply B5 h;apply MN rs;intro u r';exact ak6 g hi r r' hf|pop=>
     apply EV h Ac;intro h rs;refine A0.Be h λhf h=>A0.Bx h λx hx h=>?_;apply B5 h;apply a6 rs;exact al0 g hi r hf hx|sort=>
     apply EV h Ac;intro h rs;refine A0.Be h λhf h=>A0.Bx h λl hl h=>?_;apply B5 h;apply a6 rs;exact AM g hi r hf hl
  intro h;apply jU h Ac;intro n' Y h hi;clear hk;cases k with
  |append=>
    apply Ct h Ac;intro v h rs;refine Yk h Ac λn e h=>A0.Bx h λl hl h=>?_;revert h;subst e;intro h;apply B5 h;apply MN rs;intro u r';exact ak7 g hi r r' (lg hl)|pop=>exact(Ac h).elim|sort=>exact(Ac h).elim
 |Ez=>
  refine xA mv ?_;(try clear mv);intro aq5 aq6;subst aq5;subst aq6;apply EH h Ac;intro i h r;refine A0.Bx h λk hk h=>?_;refine A0.OA h ?_;clear h;intro N hi h;rw[an8 hk];clear hk;have q:∃a b,args=[a,b]:=by apply Hk h Ac;intro a b _;exact⟨a,b,rfl⟩
  refine DA q ?_;(try clear q);intro a b aq7;subst aq7;intro rs;apply Sv rs;intro u' u'' r' mq;cases k with
  |Sj=>exact al4 g hi r r' mq h|get=>exact al5 g hi r r' mq h
 |fn a=>
  refine xA mv ?_;(try clear mv);intro aq8 aq9;subst aq8;subst aq9;intro r rs;exact A9.call (f:=.top (.ref a)) h g rfl ⟨_,_,rfl,r,rs⟩|tup=>
  refine xA mv ?_;(try clear mv);intro ar0 ar2;subst ar0;subst ar2;apply Hk h Ac;intro a b h;apply Ny h Ac;intro w h;apply Pw h Ac;intro c h;apply IL h Ac;intro o' Y h;cases o' with
 |some _=>exact(Ac h).elim|none=>
  refine A0.Be h λhc h=>?_;have :=CD (B1 hc);subst this;apply B5 h;intro r rs;apply Sv rs;intro u' u'' q r';cases q;exact zL An AV g r' (Ak hc)
end
section
open PyProof.Rows
noncomputable def bq(prog:Hc)(w:F7)(A:CK)(s:AR)(x y:A4)(b:AK):Prop:=∀(E:A4->AR->Prop)(AS:AK->AR->Prop),AS b s->AH (AQ prog w) A (oneLt' M x y) AS E s
theorem ar3{lt:O->O->AD AK}{cmp:O->O->(AK->AR->Prop)->AR->Prop}(hc:∀i j b,lt i j=G b->∀A3:AK->AR->Prop,A3 b s->cmp i j A3 s){A2:J->AR->Prop}{t:KasT J}{a:J}:Zu lt t=G a->A2 a s->t.kasWp cmp A2 s:=by induction t with
 |ret x=>intro h q;exact Bl h▸q|ask i j k ih=>exactλh q=>AC (bB6.mp h) λb e h=>hc i j b e _ (ih b h q)
noncomputable abbrev st(l:I A4):YV:=bB7 oneType' (l.toArray.zip l.toArray) #[] 7 L
noncomputable def Wp(out:I A4)(b:YV):Prop:=(arrOf b).map (·.2)=out.toArray/\failedOf b=L
theorem ar4{vs:I A4}{lt:O->O->AD AK}{p:BW O}(h2:2<=vs.length)(JQ:vs.length<64)(e:Zu lt (kas_sort vs.length)=G p)(hc:∀i j b,lt i j=G b->bq prog w A s (vs.getD i .none) (vs.getD j .none) b){A2:Do×YV->AR->Prop}(h:∀b,Wp (p.toList.map λi=>vs.getD i .none) b->A2 ((),b) s):AH (AQ prog w) A ((u8).run (st vs)) A2 E s:=kat_run (Q:=λb s'=>A2 ((),b) s') (G:=λq s'=>p=q/\s'=s) (ks:=vs) rfl h2 JQ (λq b s' _ ha hf g=>by refine xA g ?_;intro g1 g2;subst g1;subst g2;exact h b ⟨kat_snds rfl ha,hf⟩) (ar3 (λi j b e A3 hC=>hc i j b e _ A3 hC) e ⟨rfl,rfl⟩)
theorem ar5{c:Prop}[sH c]{x y:Dy J}{f:J->Dy EG}{AS:J->Prop}{A2:EG->AR->Prop}(h1:c->∀Q':J->AR->Prop,(∀a,AS a->Q' a s)->AH Av A x Q' E s)(h2:¬c->∀Q':J->AR->Prop,(∀a,AS a->Q' a s)->AH Av A y Q' E s)(k:∀a,AS a->AH Av A (f a) A2 E s):AH Av A (if c then x>>=f else y>>=f) A2 E s:=if h:c then(DF h).symm▸A5 (h1 h _ k)else(CS h).symm▸A5 (h2 h _ k)
noncomputable def Tk(h:BK)(a:A8)(vs:I A4):BK:=((h.update a (GL λ_=>#[])).push (YW "tuple" vs.toArray 0)).push (YW "list" #[] 0)
theorem ar6{vs out:I A4}{P:Fin->AR->Prop}(ho:s.heap.get? a=G (YW "list" vs.toArray n))(JQ:vs.length<64)(br:out.length<64)(bs:vs.length<2->out=vs)(hr:∀s':AR,(∀b o,b≠a->s.heap.get? b=G o->s'.heap.get? b=G o)->2<=vs.length->(∀(E:A4->AR->Prop)(A2:SortKind->AR->Prop),A2 oneType' s'->AH (AQ prog w) A (keyKind' vs.toArray) A2 E s')/\∀(E:A4->AR->Prop)(A2:Do×YV->AR->Prop),(∀b,Wp out b->A2 ((),b) s')->AH (AQ prog w) A ((u8).run (st vs)) A2 E s')(h:P (.done (.ret .none)) {s with heap:=sortedHeap s.heap a vs out.toArray}):AH (AQ prog w) A (EA.«list.sort» ⟨[.ref a],[]⟩) P E s:=by
 rw[list_sort_plain];have ha:a<s.heap.objs.size:=Dg ho;have hz:out.length<=F9:=B4 (Gg br) (by decide);refine xE (show∃e1,(s.heap.update a (GL λ_=>#[])).get? a=G (YW "list" #[] e1)from⟨_,get?_update_seq ho (λ_=>#[])⟩) ?_;intro e1 Tl;have mr:(Tk s.heap a vs).get? a=G (YW "list" #[] e1):=C1 _ (C1 _ Tl);have hv:vs.toArray.size<=F9:=B4 (Gg JQ) (show 64<=F9 by decide);refine A5 (listItems_at ho rfl (A5 (bB8 ho rfl (A5 (seqEpoch_at Tl rfl (A5 (gX (A5 (tw (C0 ?_) (Nf _))) hv)))) hv (Nf _))));have kp:=hr {s with heap:=Tk s.heap a vs} λb o hb e=>C1 _ (C1 _ ((GN _ _ (CX hb)).trans e));refine ar5 (s:={s with heap:=Tk s.heap a vs}) (AS:=λkind=>∀A2:Do×YV->AR->Prop,(∀b,Wp out b->A2 ((),b) {s with heap:=Tk s.heap a vs})->AH (AQ prog w) A ((if vs.toArray.size<2 then pure ()else u8).run (bB7 kind (vs.toArray.zip vs.toArray) #[] 7 L)) A2 E {s with heap:=Tk s.heap a vs}) (λh2 Q' k=>?_) (λh2 Q' k=>?_) (λkind q=>A5 (q _ λb hb=>?_))
 . rw[DF h2]at k;exact AW (k _ λA2 k=>AW (k _ ⟨by rw[bs h2];exact Array.map_snd_zip (DE _),rfl⟩))
 . rw[CS h2]at k;have k2:=kp (fB h2);exact k2.1 _ _ (k _ (k2.2 _))
 . refine A5 (seqEpoch_at mr rfl (A5 (bB8 mr rfl ?_ (Nf _) (by rw[hb.1];exact ge hz))));rw[hb.1,hb.2,Y5];exact AW h
end
theorem un1{u k:O}(h:u+10*k<9000):u+1<IE:=by unfold IE;(with_reducible exact Mine.yU (by assumption) (by decide))
theorem ar7:Rj "tuple.__lt__"=G .slot:=by decide+kernel
theorem ar8:g6 "tuple.__lt__"=G ("tuple","__lt__"):=by decide+kernel
theorem ar9:YC "tuple.__lt__"=M:=by decide+kernel
open PyProof.Rows(IntsAre oneLt' oneLt'_eq keyKind' keyKind'_eq oneTypeOnly'_eq firstOfTuple' oneType' seqObj)
section
theorem as0(An:HX B A3 Kf)(CF:Gk Kf (.ref A3.Bo) "__lt__"=G (G (.builtin "tuple.__lt__")))(AV:Kf.In s.heap)(hu:A.units<IE)(hv:JF v=M)(Bh:JF v'=M)(r:VR h C v u)(r':VR h C v' u')(q:SX v v'=G b)(k:∀c o,h.get? c=G o->C2 o=M->s.heap.get? c=G o):bq B.prog B.w A s u u' b:=by
 refine VN (Wo hv r) ?_;intro x y z l us n o Aw B6 e io hc hd i1 s1;subst Aw;subst B6;refine VN (Wo Bh r') ?_;intro x' y' z' l' Dw n' o' BJ BP e' io' GC GV i2 s2;subst BJ;subst BP;rw[mK]at q;injection q with q;subst q;have e:=k _ _ e io;have e':=k _ _ e' io';rw[<-An.at_]at hc GC;have tT:Gh (AQ B.prog B.w) s.heap (He (.ref l)) (.ref A3.Bo):=(Kg (part:=L) e).andThen (by rw[hc];exact .now);have tT':Gh (AQ B.prog B.w) s.heap (He (.ref l')) (.ref A3.Bo):=(Kg (part:=L) e').andThen (by rw[GC];exact .now);have sT:Gh (AQ B.prog B.w) s.heap (Na (.ref l) "__lt__") (G (.builtin "tuple.__lt__")):=tT.andThen (NZ AV CF);intro E AS hR;have b4:AH (AQ B.prog B.w) A (call (.builtin "tuple.__lt__") [.ref l,.ref l']) (λv s'=>v=.bool (JB [x,y,z] [x',y',z'])/\s'=s) E s:=by
  refine HN (Lu ar9 PySem.F.entry_tuple_lt ?_);refine YB (i:="tuple.__lt__") (owner:="tuple") (n:="__lt__") (self:=.ref l) (rest:=[.ref l']) (kw:=[]) ar7 ar8 (tT.andThen (Ux AV An.tup)) (PySem.F.args_tuple_lt_2 _ _) ?_;obtain⟨c1,d1,da1,LI⟩:=o;obtain⟨c2,d2,da2,Tb⟩:=o';simp only at hd GV hc GC;subst hd GV;refine al6 l l' c1 c2 d1 d2 LI Tb us Dw n n' _ _ i1 i2 (s1.trans s2.symm) B.prog B.w A (YU (λv s'=>v=.bool (JB [x,y,z] [x',y',z'])/\s'=s) E) s ⟨e,e',?_,⟨rfl,rfl⟩⟩;intro prog w A' A2 E hq;have bL0:=AV;have t2:Gh (AQ prog w) s.heap (He (.ref l')) (.ref A3.Bo):=(Kg (part:=L) e').andThen (by rw[GC];exact .now);exact(show Gh (AQ prog w) s.heap (Uz (.ref l') (.type "tuple")) M from t2.andThen (Ux AV An.tup)).here hq
 rw[oneLt'_eq];skip;refine A5 (wpAny_cRoomFor hu ?_);refine A5 ?_;simp only[callSpecialIfBound?,bu0];refine C0 (A5 (A5 (sT.here ?_)));skip;have fin:AH (AQ B.prog B.w) A (call (.builtin "tuple.__lt__") ([.ref l]++[.ref l'])>>=λv=>pure (G v)) (λa s'=>AH (AQ B.prog B.w) A (match a with|some .notImplemented|none=>(YH "list.sort.lt-declined">>=λ_=>tl .Lt (.ref l) (.ref l')>>=λr=>bB9 r:Dy AK)|some r=>bB9 r) AS E s') E s:=by
  refine A5 (Ff b4 (λv s' hv=>?_) λ_ _ e=>e);refine xA hv ?_;(try clear hv);intro Bp Bg;subst Bp;subst Bg;exact AW (NS hR)
 refine A5 (R_ (fg ?_));split;. exact A5 (AW (AW fin))
 . exact PY (A5 (AW (AW fin)))
theorem Aa.at(r:Aa h C Y us):∀i,VR h C (Y.getD i .none) (us.getD i .none):=Aa.ind (P:=λY us=>∀i,VR h C (Y.getD i .none) (us.getD i .none)) (λ_=>rfl) (λ_ _ _ _ a _ ih i=>RN a (λn _=>ih n) i) r
theorem Aa.as1{f:O->V}{g:O->A4}(k:∀i,VR h C (f i) (g i)){l:I O}:Aa h C (l.map f) (l.map g):=by induction l with
 |nil=>exact rfl|cons i l ih=>exact .cons (k i) ih
theorem as2{l:I V}(hs:Zv Y=G l)(r:Aa h C Y us):∃out:I A4,Aa h C l out/\out.length<64/\us.length<64/\(us.length<2->out=us)/\∀(prog:Hc)(w:F7)(A:CK)(s':AR),(∀i j b,jh Y i j=G b->bq prog w A s' (us.getD i .none) (us.getD j .none) b)->2<=us.length->∀(E:A4->AR->Prop)(A2:Do×bQ7->AR->Prop),(∀b,Wp out b->A2 ((),b) s')->AH (AQ prog w) A ((bQ8).run (st us)) A2 E s':=by
 apply Ce hs AF;intro JQ hs;rw[r.length]at JQ hs;apply Ea hs
 . intro h2 e;exact Bl e▸⟨us,r,Rt.mp JQ,Rt.mp JQ,λ_=>rfl,λ_ _ _ _ _ z=>absurd (Rt.mp h2) (Ul.mpr z)⟩
 . intro h2 hs;apply BI hs;intro p e hs;apply Ce hs AF;intro hp e';exact Bl e'▸⟨p.toList.map λi=>us.getD i .none,.as1 r.at,by rw[Jl];exact Rt.mp hp,Rt.mp JQ,λz=>absurd (Rt.mpr z) (h2▸nofun),λ_ _ _ _ c h2 _ _ k=>ar4 h2 (Rt.mp JQ) e c k⟩
theorem as3(r:Aa h C Y us):u∈us->∃v∈Y,VR h C v u:=Aa.ind (P:=λY us=>u∈us->∃v∈Y,VR h C v u) (λm=>nomatch m) (λv _ _ _ a _ ih m=>(Ck.mp m).elim (λe=>⟨v,Cp,e▸a⟩) λm=>AC (ih m) λv' m' r'=>⟨v',Cq _ m',r'⟩) r
theorem as4(AG:Cx B A3 Kf)(An:HX B A3 Kf)(CF:Gk Kf (.ref A3.Bo) "__lt__"=G (G (.builtin "tuple.__lt__"))):mn B A3:=λ{F K A H C s i Y l u}g hi r OF hs A2 E kk=>by
 refine AC r ?_;(try clear r);intro a ha FE;subst FE;refine AC (g.obj hi ha) ?_;intro us GB vr;refine xE GB ?_;(try clear GB);intro m ho;have AV:=g.AV AG;refine S2 (as2 hs vr) ?_;intro out vro br JQ bs srt;refine Gj u0 ⟨_,ho,rfl⟩ u4 (ar6 (vs:=us.toList) ho JQ br bs (λs' ks h2=>?_) ⟨.none,rfl,?_⟩) (u5 _)
 . have mu:∀b o,s.heap.get? b=G o->C2 o=M->s'.heap.get? b=G o:=λb o e io=>ks _ _ (λq=>by subst q;rw[ho]at e;injection e with e;subst e;exact(E4 io).elim) e;refine⟨λE A2 hq=>kas_kind (T:=.ref A3.Bo) h2 (λu hu=>?_) rfl (by simp) hq,srt _ _ _ _ (λi j b e=>?_) h2⟩
   . refine AC (as3 vr hu) ?_;intro v hv rv;refine VN (Wo (Bq.mp OF v hv) rv) ?_;intro x y z l us n o HB Hr e io hc hd i1 s1;subst Hr;rw[<-An.at_]at hc;exact(Kg (part:=L) (mu _ _ e io)).andThen (by rw[hc];exact .now)
   . apply Ce e AF;intro hm e;have Wh:A.in1.units<IE:=un1 g.units;exact as0 An CF (λb o e=>ks _ _ (λq=>by subst q;have :=AG.AV _ _ e;rw[g.fresh _ (Ev ha)]at this;exact(BE this).elim) (AV _ _ e)) Wh (B1 hm) (Ak hm) (vr.at i) (vr.at j) e mu
 . refine xE (u6 (vs:=us.toList) (out:=out.toArray) ho) ?_;intro e mw;have eb:Dq a s.heap (bQ9 s.heap a us.toList out.toArray):=λb o hb e=>by rw[u7 hb (Dg e)];exact e
   refine xA (g.set (tk:=s.toks) (o':=.list l) ha hi (λ_ _ e=>by(exfalso;cases e)) eb ⟨_,mw⟩ λim=>⟨_,⟨_,mw⟩,by
     show Aa _ _ _ out;exact vro.Bw im⟩) ?_;intro g' x';exact kk _ C _ g' x' rfl
end
structure Mh(B:Bs)(A3:Mine.Ctx):Prop where
 only:∀{K:Kx}{c:Cd}{H:Mine.St}{o:A0},A3.CR K c H=G o->(∃f args,c=.call f args)\/(∃x,c=.e x/\JH x=A6)\/(∃x,c=.s x)MW:∀{K:Kx}{f:V}{args:I V}{H A7:Mine.St}{v:V},A3.CR K (.call f args) H=G (.ok (.v v) A7)->∀{F:Fm}{A:CK}{C:I A8}{s:AR}{fu:A4},Gd B F K A H C s->VR s.heap C f fu->CW (AQ B.prog B.w) s.heap fu
 call:∀{K:Kx}{f:V}{args:I V}{H A7:Mine.St}{v:V},A3.CR K (.call f args) H=G (.ok (.v v) A7)->∀{F:Fm}{A:CK}{C:I A8}{s:AR}{fu:A4}{us:I A4},Gd B F K A H C s->VR s.heap C f fu->Aa s.heap C args us->Ae B F K A A7 C s (CE fu us) (RV v)e:∀{K:Kx}{x:AA}{H A7:Mine.St}{v:V},A3.CR K (.e x) H=G (.ok (.v v) A7)->∀{F:Fm}{A:CK}{C:I A8}{s:AR},Gd B F K A H C s->Ae B F K A A7 C s (eval x F.env) (RV v)s:∀{K:Kx}{x:As}{H A7:Mine.St}{f:Fl},A3.CR K (.s x) H=G (.ok (.f f) A7)->∀{F:Fm}{A:CK}{C:I A8}{s:AR},Gd B F K A H C s->CJ B F K A A7 C s (exec x F.env) (FR f)
noncomputable def bt(B:Bs)(A3:Mine.Ctx):Prop:=∀{n:O},C5 B A3 n->∀{K:Kx}{f x:AA}{args:I AA}{pos:BA}{v:V}{F:Fm}{A:CK}{H A7:Mine.St}{C:I A8}{s:AR},args.all CP=M->(∀o m p,f≠.Attribute o m p)->Zn f args=G x->(A0.iff (Dh K.sc Q7&&Dh K.sc Zk&&CP x)<|(ev A3 n K (.e x) H).V λv H=>A0.lst H.h v λ_ Y=>A0.of (HS Y) λl=>A0.iff (G0 l.length 60) (FW (H.new (.list ((E_ (Hp l)).map .str)))))=.ok (.v v) A7->Gd B F K A H C s->Ae B F K A A7 C s (eval (.Call f args [] pos) F.env) (RV v)
noncomputable def bu(B:Bs)(A3:Mine.Ctx):Prop:=∀{n:O},C5 B A3 n->T9 B A3 n->∀{K:Kx}{f x:AA}{args:I AA}{pos:BA}{v:V}{F:Fm}{A:CK}{H A7:Mine.St}{C:I A8}{s:AR},args.all CP=M->(∀o m p,f≠.Attribute o m p)->Zo f args=G x->(A0.iff (Dh K.sc Zl&&Dh K.sc Zm&&Dh K.sc Sf&&CP x)<|(ev A3 n K (.e x) H).V λv H=>A0.lst H.h v λi Y=>A0.iff (CH Y)<|match K.d with
 |d+1=>(Vr A3 ⟨K.sc,d⟩ (ev A3 n) i 60 0 [] H).A1 λl H=>FW (H.new (.list l))|0=>.bad)=.ok (.v v) A7->Gd B F K A H C s->Ae B F K A A7 C s (eval (.Call f args [] pos) F.env) (RV v)
structure Ok(B:Bs)(A3:Mine.Ctx)(Kf:Ge):Prop where
 x:Cx B A3 Kf
 y:HX B A3 Kf
 t:Wn Kf
 fns:Th B A3
 g:Gl B A3
 en:Ah A3.glob Wb=G (.top (.type "enumerate"))lt:Gk Kf (.ref A3.Bo) "__lt__"=G (G (.builtin "tuple.__lt__"))Gq:Tj B A3
 sset:bt B A3
 lmap:bu B A3
 sm:Mh B A3
structure All(B:Bs)(A3:Mine.Ctx)(n:O):Prop where
 s:C5 B A3 n
 c:T9 B A3 n
 l:OD B A3 n
 d:ao B A3 n
 e:bR B A3 n
section
theorem Qh{c:Cd}{o:A0}(h:ev A3 (n+1) K c H=o):A3.CR K c H=G o\/(A3.CR K c H=L/\step A3 K (ev A3 n) c H=o):=by exact M4 (o:=A3.CR K c H) (d:=step A3 K (ev A3 n) c H) (k:=λo=>o) h (λx e h=>.inl (e.trans (congrArg G h))) λe h=>.inr ⟨e,h⟩
theorem Mh.step(Av:Mh B A3){c:Cd}{o:A0}(h:ev A3 (n+1) K c H=o)(h1:∀f args,c≠.call f args)(h2:∀x,c≠.e x)(h3:∀x,c≠.s x):step A3 K (ev A3 n) c H=o:=by
 rcases Qh h with h|h
 . rcases Av.only h with BJ|BP|Bp;refine DA BJ ?_;(try clear BJ);intro f a e;rotate_left;refine AC BP ?_;(try clear BP);intro x e _;rotate_left;refine xE Bp ?_;(try clear Bp);intro x e;rotate_left;. exact absurd e (h1 f a)
   . exact absurd e (h2 x)
   . exact absurd e (h3 x)
 . exact h.2
theorem as5(BL:Ok B A3 Kf)(AE:All B A3 n){x:AA}(h:Fo A3 K (ev A3 n) x H=.ok (.v v) A7)(g:Gd B F K A H C s):Ae B F K A A7 C s (eval x F.env) (RV v):=by cases x with
 |Constant k a b=>
  refine A0.Bx h ?_;clear h;intro w hw h;refine xA (FG h) ?_;intro q Aw;subst Aw;injection q with q;subst q;exact W4 g hw|Name id pos=>exact bG BL.g h g|BinOp l op r pos=>cases hr:Sp l op r with
  |none=>exact xU AE.s OQ hr h g|some p=>obtain⟨c,id,y,z⟩:=p;exact aj4 hr h g
 |UnaryOp op x pos=>exact ae7 AE.s OQ h g|IfExp t a b pos=>exact xQ AE.s h g|Tuple Y k pos=>exact xX AE.s h g|List Y pos=>exact xY AE.s h g|Dict ks vs pos=>
  have cst:∀{ks vs},(A0.of (MH ks vs) λps=>A0.iff (EP ps.length 15) (A0.of (Kv ps []) λN=>FW (H.new (.dict N))))=.ok (.v v) A7->Ae B F K A A7 C s (eval (.Dict ks vs pos) F.env) (RV v):=by
    intro ks vs h;refine A0.Bx h ?_;clear h;intro ps h1 h;refine A0.Be h ?_;clear h;intro h2 h;refine A0.Bx h ?_;clear h;intro N h3 h;refine xA (FG h) ?_;intro q B6;subst B6;injection q with q;subst q;exact mC h1 h2 h3 g
  refine Nk h (λhc h=>?_) λh=>M4 h (λp hp h=>?_) λ_ h=>cst h
  . have e1:=YX.mp (B1 hc);have e2:=YX.mp (Ak hc);subst e1;subst e2;apply B5 h;exact mC (ps:=[]) rfl rfl rfl g
  . revert h;apply Hk hp AF;intro a b hp;apply GP hp AF;intro hp;apply Nl hp AF;intro k hp;apply Hk hp AF;intro v0 v hp;apply Br hp;intro h;exact am7 AE.s h g|BoolOp op Y pos=>
  refine Ce h Ac λq h=>?_;apply IG q;apply Hk h Ac;intro a b h;exact xW AE.s OQ h g|Compare l CN rs pos=>match CN,rs,h with
  |[op],[r],h=>exact xV AE.s OQ h g|[],_,h=>exact(Ac h).elim|[_],[],h=>exact(Ac h).elim|[_],_::_::_,h=>exact(Ac h).elim|_::_::_,_,h=>exact(Ac h).elim
 |Attribute o a pos=>exact ae9 BL.x AE.s h g|Subscript o i pos=>
  refine A0.Cg h ?_;clear h;intro w AB AP h;apply ui h
  . intro a b st p h;apply GP h Ac;intro h;exact zn AE.s AP h g
  . intro q h;exact zl AE.s (λa b p e=>q (by rw[e];rfl)) AP h g|Call f args kws pos=>match kws,h with
  |[],h=>
    refine A0.Be h λhp h0=>?_;revert h;apply i5 h0
    . intro o m p _ h;exact y2 AE.s AE.c (mh BL.x BL.t) h g
    intro hf h _;have FJ:∀o m p,f≠.Attribute o m p:=λo m p e=>hf (by rw[e];rfl);refine M4 h (λx hx h=>BL.sset AE.s hp FJ hx h g) λ_ h=>M4 h (λx hx h=>BL.lmap AE.s AE.c hp FJ hx h g) λ_ h=>y5 AE.s AE.c FJ hp h g|_::_,h=>exact(Ac h).elim
 |ListComp C_ gens sc pos=>match gens,h with
  |[],h=>exact(Ac h).elim|g'::gens,h=>exact kl AE.s AE.l h g
 |DictComp k v' gens sc pos=>match gens,h with
  |[],h=>exact(Ac h).elim|[g'],h=>exact z8 AE.s AE.d h g|_::_::_,h=>exact(Ac h).elim
 |_=>exact(Ac h).elim
theorem as6(BL:Ok B A3 Kf)(AE:All B A3 n){t:AA}(h:Kw A3 K (ev A3 n) t v H=.ok (.f f) A7)(g:Gd B F K A H C s)(r:VR s.heap C v u):CJ B F K A A7 C s (Ew t F.env u) RU:=by
 apply gx h;. exactλ_ _ h=>xt (A3:=A3) (n:=n) h g r
 intro h;apply gy h
 . intro ts k p h;revert r;apply IL h Ac;intro c vs h r;exact zc (A3:=A3) (K:=K) (n:=n) (kd:=k) (pos:=p) (c:=c) (Y:=vs) (H:=H) BL.y BL.x.AV AE.s h g r
 intro h;apply i5 h;. exactλo a p h=>zd (A3:=A3) (K:=K) (n:=n) (o:=o) (a:=a) (pos:=p) (v:=v) (H:=H) BL.x AE.s h g r
 intro _ h;apply Ng h Ac;exactλo i p h=>af2 (A3:=A3) (K:=K) (n:=n) (o:=o) (i:=i) (pos:=p) (v:=v) (H:=H) AE.s h g r
set_option tactic.hygienic true in
theorem as7(BL:Ok B A3 Kf)(AE:All B A3 n)(E0:∀m,n=m+1->All B A3 m){x:As}(h:IS K (ev A3 n) x H=.ok (.f f) A7)(g:Gd B F K A H C s):CJ B F K A A7 C s (exec x F.env) (FR f):=by cases x with
 |Expr e pos=>exact xs AE.s h g|Pass pos=>exact xe h g|Break pos=>exact xf h g|Continue pos=>exact xg h g|Return e pos=>cases e with
  |none=>exact xd h g|some e=>exact xc AE.s h g
 |Assign ts e pos=>
  have h:bC (MI ts e) _ _=_:=h;revert h;cases ht:MI ts e<;>intro h
  . refine A0.Be h ?_;clear h;intro hc h;have fin:∀{f'},f'=Fl.next->CJ B F K A A7 C s (exec (.Assign ts e pos) F.env) (FR .next)->CJ B F K A A7 C s (exec (.Assign ts e pos) F.env) (FR f'):=λe d=>e▸d;refine H6 (A0.xM h) ?_;clear h;intro mx f' h;cases bv:JH e with
 |false=>exact fin mx (xv AE.s bv ht h g)|true=>
    simp only[bv,bC0,bs9]at hc;clear bv ht;revert fin h;apply Ct hc B0;intro t hc;apply EU hc B0;intro id p hc;apply Yd hc B0;intro C_ gens sc KI _ fin h;. cases n with
 |zero=>refine A0.Cg h ?_;clear h;intro _ _ h _;exact(Ac h).elim|succ m=>
    refine A0.Cg h ?_;intro v AB AP BD;have E0:=E0 m rfl;rcases Qh AP with q|Bg;rotate_left;refine xA Bg ?_;(try clear Bg);intro _ q;rotate_left
    . (rcases BL.sm.only q with Bu|C9|Cn;refine DA Bu ?_;(try clear Bu);intro _ _ z;rotate_left;refine AC C9 ?_;(try clear C9);intro _ z z';rotate_left;refine xE Cn ?_;(try clear Cn);intro _ z;rotate_left)<;>(first|(exfalso;cases z)|cases z);(exfalso;cases z')
    . cases gens with
 |nil=>exact(Ac q).elim|cons g' gens=>
      refine fin mx (y_ (f:=f') E0.s E0.l AE.s ?_ g);rw[show Fo A3 K (ev A3 m) (.ListComp C_ (g'::gens) sc KI) H=.ok (.v v) AB from q];exact BD
  . have h:A0.of (Vs ts e) _=_:=h;exact af9 AE.s h g|AugAssign t op e pos=>
  cases t<;>first|(exact(Ac h).elim;done)|skip
  rename_i id p;exact xu AE.s OQ h g|If t a b pos=>exact xa AE.s h g|While t b o pos=>match o,h with
  |[],h=>exact xm AE.s h g|_::_,h=>exact(Ac h).elim
 |For t it b o pos=>match o,h with
  |[],h=>cases he:Sd it with
   |none=>exact xr AE.s he h g|some x=>exact ah4 BL.g BL.en AE.s AE.e he h g
  |_::_,h=>exact(Ac h).elim
 |Try body hs o fin pos=>match hs,o,fin,h with
  |_::_,[],[],h=>exact ah1 AE.s h g|[],_,_,h=>exact(Ac h).elim|_::_,_::_,_,h=>exact(Ac h).elim|_::_,[],_::_,h=>exact(Ac h).elim
 |_=>exact(Ac h).elim
theorem as8:All B A3 0:=⟨⟨λh=>(by exact(Ac h).elim),λh=>(by exact(Ac h).elim),λh=>(by exact(Ac h).elim),λh=>(by exact(Ac h).elim),λh=>(by exact(Ac h).elim),λh=>(by exact(Ac h).elim),λh=>(by exact(Ac h).elim),λh=>(by exact(Ac h).elim),λh=>(by exact(Ac h).elim),λh=>(by exact(Ac h).elim),λh=>(by exact(Ac h).elim),λh=>(by exact(Ac h).elim),λh=>(by exact(Ac h).elim),λh=>(by exact(Ac h).elim)⟩,⟨λh=>(by exact(Ac h).elim),λh=>(by exact(Ac h).elim),λh=>(by exact(Ac h).elim)⟩,⟨λh=>(by exact(Ac h).elim)⟩,⟨λh=>(by exact(Ac h).elim)⟩,λh=>(by exact(Ac h).elim)⟩
theorem as9(BL:Ok B A3 Kf)(AE:All B A3 n)(E0:∀m,n=m+1->All B A3 m):All B A3 (n+1):=by
 have st:∀{K:Kx}{H:Mine.St}{c:Cd}{o:A0},ev A3 (n+1) K c H=o->(∀f args,c≠.call f args)->(∀x,c≠.e x)->(∀x,c≠.s x)->step A3 K (ev A3 n) c H=o:=λh=>BL.sm.step h;refine⟨⟨?_,?_,?_,?_,?_,?_,?_,?_,?_,?_,?_,?_,?_,?_⟩,⟨?_,?_,?_⟩,⟨?_⟩,⟨?_⟩,?_⟩
 . intro K x H A7 v h F A C s g;rcases Qh h with q|D8;rotate_left;refine xA D8 ?_;(try clear D8);intro _ q;rotate_left;. exact BL.sm.e q g
   . exact as5 BL AE q g
 . intro K l H A7 v h F A C s pos g;exact xR AE.s (st h (λ_ _ e=>by(exfalso;cases e)) (λ_ e=>by(exfalso;cases e)) (λ_ e=>by(exfalso;cases e))) pos g
 . intro K x H A7 v h F A C s g;exact x_ AE.s OQ (st h (λ_ _ e=>by(exfalso;cases e)) (λ_ e=>by(exfalso;cases e)) (λ_ e=>by(exfalso;cases e))) g
 . intro K a l H A7 v h F A C s g;exact xZ AE.s (st h (λ_ _ e=>by(exfalso;cases e)) (λ_ e=>by(exfalso;cases e)) (λ_ e=>by(exfalso;cases e))) g
 . intro K x H A7 f h F A C s g;rcases Qh h with q|DW;rotate_left;refine xA DW ?_;(try clear DW);intro _ q;rotate_left;. exact BL.sm.s q g
   . exact as7 BL AE E0 q g
 . intro K l H A7 f h F A C s g;exact xS AE.s (st h (λ_ _ e=>by(exfalso;cases e)) (λ_ e=>by(exfalso;cases e)) (λ_ e=>by(exfalso;cases e))) g
 . intro K t v H A7 f h F A C s u g r;exact as6 BL AE (st h (λ_ _ e=>by(exfalso;cases e)) (λ_ e=>by(exfalso;cases e)) (λ_ e=>by(exfalso;cases e))) g r
 . intro K ts vs H A7 f h F A C s us g r;exact xh AE.s (st h (λ_ _ e=>by(exfalso;cases e)) (λ_ e=>by(exfalso;cases e)) (λ_ e=>by(exfalso;cases e))) g r
 . intro K ts v H A7 f h F A C s u g r;exact xj AE.s (st h (λ_ _ e=>by(exfalso;cases e)) (λ_ e=>by(exfalso;cases e)) (λ_ e=>by(exfalso;cases e))) g r
 . intro K v H A7 r h;have :=st h (λ_ _ e=>by(exfalso;cases e)) (λ_ e=>by(exfalso;cases e)) (λ_ e=>by(exfalso;cases e));exact(FG this).2.symm
 . intro K id pos v H A7 f h F A C s u g r;have q:Kw A3 K (ev A3 n) (.Name id pos) v H=.ok (.f f) A7:=st h (λ_ _ e=>by(exfalso;cases e)) (λ_ e=>by(exfalso;cases e)) (λ_ e=>by(exfalso;cases e));exact aL q g r
 . intro K f args H A7 v h F A C s fu us g r rs;rcases Qh h with q|Ec;rotate_left;refine xA Ec ?_;(try clear Ec);intro _ q;rotate_left;. exact BL.sm.call q g r rs
   . exact ap9 BL.x BL.y BL.fns BL.Gq AE.s q g r rs
 . intro K t b H A7 f h F A C s AS g k;exact xl AE.s (st h (λ_ _ e=>by(exfalso;cases e)) (λ_ e=>by(exfalso;cases e)) (λ_ e=>by(exfalso;cases e))) g k
 . intro K t it i b H A7 f h F A C BG s Af I' AS g Cr hI fr r k;exact xq AE.s (st h (λ_ _ e=>by(exfalso;cases e)) (λ_ e=>by(exfalso;cases e)) (λ_ e=>by(exfalso;cases e))) g Cr hI fr r k
 . intro K f args H A7 v h F A C s fu g r;rcases Qh h with q|FE;rotate_left;refine xA FE ?_;(try clear FE);intro _ q;rotate_left;. exact BL.sm.MW q g r
   . exact ap8 BL.x BL.y BL.fns q g r
 . intro K kd o m args H A7 v h F A C s u fv first g mv;exact aq1 BL.fns AE.c (st h (λ_ _ e=>by(exfalso;cases e)) (λ_ e=>by(exfalso;cases e)) (λ_ e=>by(exfalso;cases e))) g mv
 . intro K kd o m args H A7 v h F A C s u fv first us g mv r rs;exact aq2 BL.y BL.x.AV (as4 BL.x BL.y BL.lt) AE.s (st h (λ_ _ e=>by(exfalso;cases e)) (λ_ e=>by(exfalso;cases e)) (λ_ e=>by(exfalso;cases e))) g mv r rs
 . intro K C_ g gens it i Am l H A7 h GY sc pos depth hd ha F A C BG s Af I' D AS Bk Cr hI fr r ac ne k;exact y7 AE.s AE.l (st h (λ_ _ e=>by(exfalso;cases e)) (λ_ e=>by(exfalso;cases e)) (λ_ e=>by(exfalso;cases e))) hd ha Bk Cr hI fr r ac ne k
 . intro K kk v g it i d H A7 f h sc pos ha F A C BG s Af I' D AS Bk hD Cr hI fr r k;exact yx AE.s AE.d (st h (λ_ _ e=>by(exfalso;cases e)) (λ_ e=>by(exfalso;cases e)) (λ_ e=>by(exfalso;cases e))) ha Bk hD Cr hI fr r k
 . intro K ts kd p x i b H A7 f h F A C BG s Af I' bV4 AS g Cr hI hJ fI fJ r k;exact ah0 AE.s AE.e (st h (λ_ _ e=>by(exfalso;cases e)) (λ_ e=>by(exfalso;cases e)) (λ_ e=>by(exfalso;cases e))) g Cr hI hJ fI fJ r k
theorem Wq(BL:Ok B A3 Kf):∀n,∀m,m<=n->All B A3 m
 |0=>λm h=>by
  obtain rfl:m=0:=by(with_reducible exact Nat.eq_zero_of_le_zero (by assumption))
  exact as8|n+1=>λm h=>by
  by_cases e:m<=n;. exact Wq BL n m e
  . obtain rfl:m=n+1:=by(with_reducible exact Mine.yG (by assumption) (by assumption))
    exact as9 BL (Wq BL n n (DE _)) λm e=>Wq BL n m (by omega)
theorem Wr(BL:Ok B A3 Kf)(n:O):All B A3 n:=Wq BL n n (DE _)
end
theorem at0{a b:U}:(a==b)=M↔a=b:=by simp
theorem Ws{p:U×J}{l:I (U×J)}(h:(x==p.1)=A6):(p::l).lookup x=l.lookup x:=(congrArg (λb=>match b with|true=>G p.2|false=>l.lookup x) h:(match x==p.1 with|true=>G p.2|false=>l.lookup x)=_)
theorem Wt{a b:U}(h:a≠b):(a==b)=A6:=sY.mpr λe=>h (at0.mp e)
theorem bw(nd:names.Nodup):∀{us:I J}{k:O},names[k]?=G x->(names.zip us).lookup x=us[k]?:=by induction names with
 |nil=>exactλh=>nomatch h|cons n names ih=>
 intro us k h;cases us with
 |nil=>exact u9.symm|cons u us=>cases k with
 |zero=>exact Bl h▸bC1|succ k=>exact(Ws (p:=(n,u)) (Wt λe:x=n=>(ET.mp nd).1 (e▸Ev h))).trans (ih (ET.mp nd).2 h)
theorem at1{l:I (U×J)}:∀{A9:I (U×J)},(l.map (·.1)).Nodup->l.foldl (λA9 p=>if(A9.lookup p.1).isNone then A9++[p]else A9) A9=A9++l.filter λp=>(A9.lookup p.1).isNone:=by induction l with
 |nil=>intro A9 _;exact(HL A9).symm|cons p l ih=>
 intro A9 nd;have n2:=ET.mp nd;rw[tQ,ih n2.2,bC2];by_cases h:(A9.lookup p.1).isNone=M
 . rw[DF h,DF h,Uj];refine congrArg (A9++p::·) (List.filter_congr λq hq=>congrArg Option.isNone ?_);rw[bC3,Ws (p:=p) (Wt λe:q.1=p.1=>n2.1 (show p.1∈_ from e▸uA hq))];exact Option.or_none
 . rw[CS h,CS h]
theorem at2{g:U->AD J}:∀{full:I J},(∀(k:O)(x:U),names[k]?=G x->g x=full[k]?)->names.filterMap (λn=>(g n).map (n,·))=names.zip full:=by induction names with
 |nil=>intro full _;rfl|cons n names ih=>
 intro full h;rw[RP,h 0 n rfl];cases full with
 |nil=>exact(ih (full:=[]) λk x e=>(h (k+1) x e).trans (u9.trans u9.symm)).trans uB|cons u full=>exact congrArg ((n,u)::·) (ih λk x e=>h (k+1) x e)
theorem at3{f:U->AK}(hx:f x=M){l:I (U×J)}:(l.filter λp=>f p.1).lookup x=l.lookup x:=by induction l with
 |nil=>rfl|cons p l ih=>
 rw[bC2];cases h:f p.1 with
 |true=>rw[DF rfl];exact congrArg (λo=>match x==p.1 with|true=>G p.2|false=>o) ih|false=>rw[CS NU,ih];exact(Ws (p:=p) (Wt λe=>by rw[e,h]at hx;exact(E4 hx).elim)).symm
noncomputable def OZ(n:O)(us ds:I J):I J:=us.take n++ds.drop (ds.length-(n-us.length))
theorem ar1{u k:O}(hd:d<=n)(hg:n-d<=u)(hu:u<=k)(hk:k<n):d-(n-u)+(k-u)=k-(n-d):=by rw[bC4 _ hd,bC4 _ (B4 hu (Gg hk)),Lj k d,<-Nat.sub_add_comm (Nat.sub_le_iff_le_add'.mp hg),<-sJ hu,Xx,bm5]
theorem my{l:I J}{k:O}{x:J}(h:l[k]?=G x):k<l.length:=(HJ.mp h).1
theorem at4{us ds:I J}(nd:names.Nodup)(hd:ds.length<=names.length)(hg:names.length-ds.length<=us.length):names.filterMap (λn=>((((names.drop (names.length-ds.length)).zip ds).foldl (λA9 p=>if(A9.lookup p.1).isNone then A9++[p]else A9) (names.zip us)).lookup n).map (n,·))=names.zip (OZ names.length us ds):=by
 rw[at1 (by rw[bC5 (by rw[V1,uC hd];exact DE _)];exact nd.drop)];refine at2 λk x hx=>?_;have hk:=my hx;have hz:=bw (us:=us) nd hx;rw[bC3,hz];by_cases hu:k<us.length
 . rw[Hi hu];exact(Hi hu).symm.trans ((bC6 hk).symm.trans (Y' (by rw[Pa];exact bm9.mpr ⟨hk,hu⟩)).symm)
 . have hu:=Ul.mp hu;have Wh:=B4 hu (Gg hk);have hn:=V9 (l:=us) hu;rw[hn,Option.none_or,at3 (f:=λx=>((names.zip us).lookup x).isNone) (by rw[hz,hn];rfl),bw (k:=k-(names.length-ds.length)) nd.drop (by rw[to,bv4 (B4 hg hu)];exact hx),OZ,gC Wh,VA hu,to,ar1 hd hg hu hk]
theorem at5{us:I J}(nd:names.Nodup){f:O}(hg:f<=us.length):((names.take f).filter λn=>((names.zip us).lookup n).isNone)=[]:=by
 refine List.filter_eq_nil_iff.mpr λx hx=>?_;refine xE (List.mem_iff_getElem?.mp hx) ?_;intro k e;have hk:=Iw (my e) (B4 (Ej Pa) (Xv ..));rw[bw nd ((bC6 hk).symm.trans e),Hi (Iw hk hg)];exact NU
theorem at6{l:I (U×A4)}:∀{A9:I (U×A4)},(forIn l A9 λx A9=>if(fj x.1 A9).isNone=M then pure (G2 (A9++[(x.1,x.2)]))else pure (G2 A9):Dy (I (U×A4)))=pure (l.foldl (λA9 p=>if(A9.lookup p.1).isNone then A9++[p]else A9) A9):=by induction l with
 |nil=>intro A9;rfl|cons p l ih=>
 intro A9;rw[Rb,tQ];by_cases h:(A9.lookup p.1).isNone=M;. rw[DF h,DF h,pure_bind];exact ih
 . rw[CS h,CS h,pure_bind];exact ih
noncomputable def at7(va:AD Arg)(us:I A4)(l:I (U×A4)):Dy (I (U×A4)):=match va with
 |some a=>YE us>>=λv=>pure (l++[(a.arg,v)])|none=>pure l
theorem at8(h1:fd.params.posonlyargs=[])(h2:fd.params.kwonlyargs=[])(h3:fd.params.kwarg=L)(hN:fd.params.args.map (·.arg)=names){AS:Prop}(k:∀(AG An:AD (BW A4)->Dy (I (U×A4)))(AM:I (U×A4)->Dy (I (U×A4))),fb fd ⟨us,[]⟩=(Nb fd.defaults>>=λY=>if(decide (us.length>names.length)&&fd.params.vararg.isNone)=M then AG Y else if(!((names.take (names.length-((Y.getD #[]).toList.drop ((Y.getD #[]).toList.length-names.length)).length)).filter λn=>((names.zip us).lookup n).isNone).isEmpty)=M then An Y else(forIn ((names.drop (names.length-((Y.getD #[]).toList.drop ((Y.getD #[]).toList.length-names.length)).length)).zip ((Y.getD #[]).toList.drop ((Y.getD #[]).toList.length-names.length))) (names.zip us) λx A9=>if(fj x.1 A9).isNone=M then pure (G2 (A9++[(x.1,x.2)]))else pure (G2 A9))>>=AM)->(∀A9,AM A9=at7 fd.params.vararg (us.drop names.length) ((names++[]).filterMap (λn=>(A9.lookup n).map (n,·))))->AS):AS:=by
 subst hN;obtain⟨n,q,⟨bV5,bV6,va,bV7,kw,kwa,dfs⟩,b,sc,g,cl,df,kd,d,m,an,co,ct,bV8⟩:=fd;dsimp only at h1 h2 h3;subst h1;subst h2;subst h3;exact k _ _ _ rfl λA9=>by cases va<;>rfl
theorem at9{ds:I A4}{c:AK}{AG An:Dy (I (U×A4))}{k:I (U×A4)->Dy (I (U×A4))}(nd:names.Nodup)(hd:ds.length<=names.length)(hg:names.length-ds.length<=us.length)(hc:c=A6):(if c=M then AG else if(!((names.take (names.length-(ds.drop (ds.length-names.length)).length)).filter λn=>((names.zip us).lookup n).isNone).isEmpty)=M then An else(forIn ((names.drop (names.length-(ds.drop (ds.length-names.length)).length)).zip (ds.drop (ds.length-names.length))) (names.zip us) λx A9=>if(fj x.1 A9).isNone=M then pure (G2 (A9++[(x.1,x.2)]))else pure (G2 A9))>>=λA9=>k ((names++[]).filterMap (λn=>(A9.lookup n).map (n,·))))=k (names.zip (OZ names.length us ds)):=by
 rw[hc,CS NU,show ds.length-names.length=0 from Nat.sub_eq_zero_of_le hd,YI,at5 nd hg];exact(congrArg (·>>=_) at6).trans (congrArg k ((congrArg (λl=>List.filterMap _ l) (HL names)).trans (at4 nd hd hg)))
section
theorem au0{ds:I A4}{A2:I (U×A4)->AR->Prop}(h1:fd.params.posonlyargs=[])(h2:fd.params.kwonlyargs=[])(h3:fd.params.kwarg=L)(hN:fd.params.args.map (·.arg)=names)(nd:names.Nodup)(hd:ds.length<=names.length)(hg:names.length-ds.length<=us.length)(hv:us.length<=names.length\/fd.params.vararg.isSome=M)(hs:∀A2:AD (BW A4)->AR->Prop,(∀Y,(Y.getD #[]).toList=ds->A2 Y s)->AH Av A (Nb fd.defaults) A2 E s)(h:match fd.params.vararg with
 |none=>A2 (names.zip (OZ names.length us ds)) s|some a=>AH Av A (YE (us.drop names.length)) (λv s'=>A2 (names.zip (OZ names.length us ds)++[(a.arg,v)]) s') E s):AH Av A (fb fd ⟨us,[]⟩) A2 E s:=by
 refine at8 (us:=us) h1 h2 h3 hN ?_;intro AG An AM e eZ;rw[e,show AM=_ from funext eZ];clear e eZ h1 h2 h3 hN;generalize fd.params.vararg=va at h hv ⊢;refine A5 (hs _ λY bx=>?_);clear hs;subst bx;refine(congrArg (λx=>AH Av A x A2 E s) (at9 nd hd hg ?_)).mpr ?_;. cases va with
 |none=>
  rcases hv with hv|hv;. rw[Rg (Ul.mpr hv)];rfl
  . exact(E4 hv).elim|some a=>exact Bool.and_false _
 . cases va with
 |none=>exact AW h|some a=>exact A5 (Ff h (λ_ _ q=>AW q) λ_ _ q=>q)
end
theorem any_some{o:AD J}{f:J->AK}(h:o.any f=M):∃x,o=G x/\f x=M:=by cases o with
 |none=>exact(B0 h).elim|some x=>exact⟨x,rfl,h⟩
noncomputable def Qi(v:A4)(d k:J):J:=if v.ctorIdx=0 then k else d
theorem au1{v:A4}{d k:J}{r:J}(h:Qi v d k=r)(hd:d=r->Bi){P:A4->Prop}(c:k=r->P .none):P v:=if q:v.ctorIdx=0 then bC7 (motive:=λv=>Qi v d k=r->P v) v q (λh=>c h) h else(hd ((CS q).symm.trans h)).elim
theorem au2{v:A4}{d k:J}{r:J}(h:Qi v d k=r){P:A4->Prop}(c:k=r->P .none)(e:d=r->P v):P v:=if q:v.ctorIdx=0 then bC7 (motive:=λv=>Qi v d k=r->P v) v q (λh=>c h) h else e ((CS q).symm.trans h)
noncomputable def bz(v:A4)(d:J)(k:AK->J):J:=if h:v.ctorIdx=3 then bC8 (motive:=λ_=>J) v h k else d
theorem au3{v:A4}{d:J}{k:AK->J}{r:J}(h:bz v d k=r)(hd:d=r->Bi){P:A4->Prop}(c:∀x,k x=r->P (.bool x)):P v:=if q:v.ctorIdx=3 then bC8 (motive:=λv=>bz v d k=r->P v) v q (λx h=>c x h) h else(hd ((Cj q).symm.trans h)).elim
noncomputable def Tm(v:A4)(d:J)(k:U->EO->J):J:=if h:v.ctorIdx=6 then bC9 (motive:=λ_=>J) v h k else d
theorem c5{v:A4}{d:J}{k:U->EO->J}{r:J}(h:Tm v d k=r)(hd:d=r->Bi){P:A4->Prop}(c:∀x t,k x t=r->P (.str x t)):P v:=if q:v.ctorIdx=6 then bC9 (motive:=λv=>Tm v d k=r->P v) v q (λx t h=>c x t h) h else(hd ((Cj q).symm.trans h)).elim
noncomputable def c6(d:NN):AD Kd:=if h:d.ctorIdx=7 then bD0 (motive:=λ_=>AD Kd) d h G else L
theorem mz{d:NN}{f:Kd}(h:c6 d=G f):d=.func f:=if q:d.ctorIdx=7 then bD0 (motive:=λd=>c6 d=G f->d=.func f) d q (λ_ h=>congrArg Data.func (Bl h)) h else nomatch(Cj q).symm.trans h
noncomputable def c7(d:NN):AD (BW A4):=if h:d.ctorIdx=2 then bD1 (motive:=λ_=>AD (BW A4)) d h λus _=>G us else L
theorem au4{d:NN}{us:BW A4}(h:c7 d=G us):∃n,d=.seq us n:=if q:d.ctorIdx=2 then bD1 (motive:=λd=>c7 d=G us->∃n,d=.seq us n) d q (λ_ n h=>⟨n,congrArg (gf · n) (Bl h)⟩) h else nomatch(Cj q).symm.trans h
noncomputable def c8(d:NN):AD (BW A4):=if h:d.ctorIdx=9 then bD2 (motive:=λ_=>AD (BW A4)) d h G else L
theorem au5{d:NN}{us:BW A4}(h:c8 d=G us):d=.fields us:=if q:d.ctorIdx=9 then bD2 (motive:=λd=>c8 d=G us->d=.fields us) d q (λ_ h=>congrArg Data.fields (Bl h)) h else nomatch(Cj q).symm.trans h
noncomputable def c9(d:NN):AD (BW G'):=if h:d.ctorIdx=3 then bD3 (motive:=λ_=>AD (BW G')) d h λN _=>G N else L
theorem au6{d:NN}{N:BW G'}(h:c9 d=G N):∃n,d=.dict N n:=if q:d.ctorIdx=3 then bD3 (motive:=λd=>c9 d=G N->∃n,d=.dict N n) d q (λ_ n h=>⟨n,congrArg (Data.dict · n) (Bl h)⟩) h else nomatch(Cj q).symm.trans h
noncomputable def cA(v:A4)(d:J)(k:AX->J):J:=if h:v.ctorIdx=4 then bD4 (motive:=λ_=>J) v h λi _=>k i else d
theorem au7{v:A4}{d:J}{k:AX->J}{r:J}(h:cA v d k=r)(hd:d=r->Bi){P:A4->Prop}(c:∀x t,k x=r->P (.int x t)):P v:=if q:v.ctorIdx=4 then bD4 (motive:=λv=>cA v d k=r->P v) v q (λx t h=>c x t h) h else(hd ((Cj q).symm.trans h)).elim
noncomputable def cB(v:V)(u:A4):AK:=IN v (vBool v (vInt v (vStr v A6 λs=>Tm u A6 λt _=>CU s t.cps.toList) λi=>cA u A6 λj=>decide (i=j)) λb=>bz u A6 λc=>b==c) (Qi u A6 M)
theorem au8(e:cB v u=M):VR h C v u:=by
 apply ZZ e;. intro e;apply au1 e B0;intro _;exact rfl
 intro e;apply jM e;. intro b e;apply au3 e B0;intro c e;exact eq_of_beq e▸rfl
 intro e;apply Pt e;. intro i e;apply au7 e B0;intro j k e;exact⟨k,of_decide_eq_true e▸rfl⟩
 intro e;apply Dc e B0;intro s e;apply c5 e B0;intro t k e;exact⟨k,Eb.mp e▸rfl⟩
theorem au9(e:all2 cB vs us=M):Aa h C vs us:=VO (P:=Aa h C) rfl (λ_ _ _ _ q ih=>.cons (au8 q) ih) e
noncomputable def Wu(Kf:Ge)(a:A8):AD Kd:=B' (Kf.lookup a) λo=>c6 o.data
noncomputable def Ih(Kf:Ge)(a:A8):Kd:=(Wu Kf a).getD default
noncomputable def n4(Kf:Ge)(v:A4):AD (I A4):=Qi v (Kt v L λt=>B' (Kf.lookup t) λo=>B' (c7 o.data) λus=>G us.toList) (G [])
noncomputable def codeIn(Kf:Ge)(v:A4):AD U:=Kt v L λc=>B' (Kf.lookup c) λo=>B' (c8 o.data) λvs=>B' vs[1]? λw=>Tm w L λt _=>G t
noncomputable def av0(o:AD E2):AK:=o==G .local||o==G .cell
noncomputable def fdA(fd:Kd):AK:=(fd.closure.isEmpty&&!fd.scope.isCoroutine)&&((!fd.scope.isGenerator&&fd.scope.kind==.function)&&(BC fd.globals 3&&BC fd.builtins 0))
noncomputable def fdB(fn:Fn):AK:=(Q8 fn.sc&&Si fn.sc.names)&&(fn.sc.names.all (λp=>p.2 !=.free)&&(QB (fn.ps++fn.va.toList)&&(fn.ps++fn.va.toList).all λx=>av0 (Ah fn.sc.names x)))
noncomputable def n5(Kf:Ge)(fd:Kd)(fn:Fn):AK:=(fd.params.posonlyargs.isEmpty&&fd.params.kwonlyargs.isEmpty)&&(fd.params.kwarg.isNone&&(EP fn.dflt.length fn.ps.length&&(n4 Kf fd.defaults).any (all2 cB fn.dflt)))
noncomputable def n6(Kf:Ge)(fd:Kd)(fn:Fn):AK:=(fdA fd&&fdB fn)&&(n5 Kf fd fn&&(codeIn Kf fd.code).any (Cy fd.qualname))
structure cC(Kf:Ge)(a:A8)(fn:Fn):Prop where
 at_:(Wu Kf a).isSome=M
 sc:(Ih Kf a).scope=fn.sc
 body:(Ih Kf a).body=.stmts fn.body
 ps:(Ih Kf a).params.args.map (·.arg)=fn.ps
 va:(Ih Kf a).params.vararg.map (·.arg)=fn.va
 ok:n6 Kf (Ih Kf a) fn=M
theorem n7(r:Aa h C vs us):∀{ps:I U},BR h C (ps.zip vs) (ps.zip us):=Aa.ind (P:=λvs us=>∀{ps:I U},BR h C (ps.zip vs) (ps.zip us)) (λ{ps}=>by rw[uB,uB];exact rfl) (λv u vs us a _ ih ps=>by cases ps with
 |nil=>exact rfl|cons p ps=>exact .cons a ih) r
theorem BR.snoc{b:I (U×V)}{l:I (U×A4)}(r:BR h C b l)(a:VR h C v u):BR h C (b++[(x,v)]) (l++[(x,u)]):=BR.ind (P:=λb l=>BR h C (b++[(x,v)]) (l++[(x,u)])) (.cons a rfl) (λ_ _ _ _ _ a _ ih=>.cons a ih) r
theorem Aa.av1{x:I V}{l:I A4}(r:Aa h C x l):Aa h C (x.take n) (l.take n):=Aa.ind (P:=λx l=>∀n,Aa h C (x.take n) (l.take n)) (λn=>by cases n<;>rfl) (λ_ _ _ _ a _ ih n=>by cases n with|zero=>rfl|succ n=>exact .cons a (ih n)) r n
theorem Aa.n8{x:I V}{l:I A4}(r:Aa h C x l):Aa h C (x.drop n) (l.drop n):=Aa.ind (P:=λx l=>∀n,Aa h C (x.drop n) (l.drop n)) (λn=>by cases n<;>rfl) (λ_ _ _ _ a b ih n=>by cases n with|zero=>exact .cons a b|succ n=>exact ih n) r n
theorem n9{C:Type}{l:I (U×C)}:l.lookup x=Ah l x:=by induction l with
 |nil=>rfl|cons p l ih=>
 rw[Ss];by_cases e:x=p.1;. rw[E1.mpr e.symm];exact e▸bC1
 . rw[show Cy p.1 x=A6 from sY.mpr λq=>e (E1.mp q).symm,Ws (Wt e)];exact ih
theorem nb(h:(!b)=M):b=A6:=by cases b;rfl;exact(B0 h).elim
theorem av2(AV:Kf.In B.base){v:A4}(h:n4 Kf v=G us)(st:B.base.StaysIn s.heap){A2:AD (BW A4)->AR->Prop}(k:∀Y,(Y.getD #[]).toList=us->A2 Y s):AH Av A (Nb v) A2 E s:=by
 apply au2 h;. intro h;exact AW (k L (Bl h))
 intro h;apply Pw h AF;intro t h;apply BI h;intro o hl h;apply BI h;intro Y hs h;refine A5 (NT (st _ _ (AV _ _ hl)) ?_);refine xE (au4 hs) ?_;intro n e;rw[e];exact AW (k _ (Bl h))
theorem av3(AV:Kf.In B.base){fn:Fn}(ps:fd.params.args.map (·.arg)=fn.ps)(va:fd.params.vararg.map (·.arg)=fn.va)(hC:n5 Kf fd fn=M)(nd:fn.ps.Nodup){b:I (U×V)}(hb:JE fn args=G b):b.map (·.1)=fn.ps++fn.va.toList/\∀{s:AR}{C:I A8}{us:I A4},B.base.StaysIn s.heap->Aa s.heap C args us->∀{Av:fP}{A:CK}{A2:I (U×A4)->AR->Prop}{E:A4->AR->Prop},(∀K9 Q,(∀b o,s.heap.get? b=G o->Q.get? b=G o)->BR Q C b K9->A2 K9 {s with heap:=Q})->AH Av A (fb fd ⟨us,[]⟩) A2 E s:=by
 apply Ce hb AF;intro q hb;have len:=CD (Ak q);have hd:=Dj (B1 (Ak (Ak hC)));rw[<-Bl hb];refine⟨by rw[NX,bC5 (Ej len),Jo];exact congrArg _ (bB1 _),λ{s C us}st rs{Av A A2 E}k=>?_⟩;refine AC (any_some (Ak (Ak (Ak hC)))) ?_;intro ds hds hcv;have cv:=au9 (h:=s.heap) (C:=C) hcv;have full:Aa s.heap C (S_ fn args) (OZ fn.ps.length us ds):=by
   unfold S_ OZ;rw[rs.length,cv.length];exact rs.av1.app cv.n8
 refine au0 (ds:=ds) (YX.mp (B1 (B1 hC))) (YX.mp (Ak (B1 hC))) (Option.isNone_iff_eq_none.mp (B1 (Ak hC))) ps nd (cv.length▸hd) ?_ ?_ (λA2 hQ=>av2 AV hds st hQ) ?_
 . rw[<-cv.length,<-rs.length];refine bm7 (len▸?_);rw[S_,FC,Pa,V1];exact Uh (sO ..) (gK ..)
 . have hl:=Dj (B1 q);rw[rs.length,<-va]at hl;revert hl;cases fd.params.vararg with
 |none=>exact .inl|some a=>exactλ_=>.inr rfl
 . have hl:=Dj (B1 q);rw[<-va]at k hl;revert k hl;cases fd.params.vararg with
 |none=>intro k _;exact k _ s.heap (λ_ _ e=>e) (by rw[show(gJ _ L).toList.map _=[]from rfl,HL];exact n7 full)|some a=>
   intro k hl;have hl:args.length<=1000:=hl;refine gX ?_ (B4 (by rw[V1];exact B4 (gK ..) (rs.length▸hl)) (by decide));have kp:∀b o,s.heap.get? b=G o->(s.heap.push {cls:=.type "tuple",data:=.seq (us.drop fn.ps.length).toArray}).get? b=G o:=λb o e=>C1 _ e;exact k _ _ kp ((n7 (full.Bw λb o e _=>kp b o e)).snoc ⟨_,_,(us.drop fn.ps.length).toArray,0,rfl,CY _ rfl,⟨rfl,λ_=>⟨rfl,rfl⟩⟩,rfl,rfl,rs.n8.Bw λb o e _=>kp b o e⟩)
theorem av4(AV:Kf.In h){v:A4}{t:U}(ht:codeIn Kf v=G t):h.CodeRec v t:=by
 apply Pw ht AF;intro c ht;apply BI ht;intro oc hc ht;apply BI ht;intro vs hs ht;apply BI ht;intro w hv ht;revert hv;apply c5 ht AF;intro x tk ht hv;exact⟨c,oc,vs,tk,rfl,AV _ _ hc,au5 hs,Bl ht▸hv⟩
theorem Mi(AV:Kf.In B.base)(lim:B.base.NoLimit){fn:Fn}(AG:cC Kf a fn):∃o fd,FnAt B a fn o fd:=by
 refine xE (uD.mp AG.at_) ?_;intro fd e;have hf:Ih Kf a=fd:=congrArg (·.getD default) e;apply BI e;intro o hl hd;have A:=B1 (B1 AG.ok);have b:=Ak (B1 AG.ok);have nd:=bH (B1 (Ak (Ak b)));refine⟨o,Ih Kf a,AV _ _ hl,hf▸mz hd,AG.sc,AG.body,YX.mp (B1 (B1 A)),nb (Ak (B1 A)),nb (B1 (B1 (Ak A))),eq_of_beq (Ak (B1 (Ak A))),CD (B1 (Ak (Ak A))),CD (Ak (Ak (Ak A))),B1 (B1 b),aY (Ak (B1 b)),λx e=>?_,?_,lim,λhb=>?_⟩
 . have :=Bq.mp (B1 (Ak b)) _ (FF (n9▸e));exact B0 this
 . refine AC (any_some (Ak (Ak AG.ok))) ?_;intro t ht e;rw[E1.mp e];exact av4 AV ht
 . have z:=av3 AV AG.ps AG.va (B1 (Ak AG.ok)) (I9.mp nd).1 hb;refine⟨z.1▸nd,λx hx=>?_,z.2⟩;have :=Bq.mp (Ak (Ak (Ak b))) x (z.1▸hx);rw[n9];exact(Bool.or_eq_true_iff.mp this).imp eq_of_beq eq_of_beq
noncomputable def nA:I AA->I V
 |.Constant c _ _::r=>(match O0 c with|some v=>[v]|none=>[])++nA r|_=>[]
noncomputable def DD(s:As):Fn:={sc:=BV s,ps:=(S7 s).args.map (·.arg),va:=(S7 s).vararg.map (·.arg),body:=Fi s,dflt:=nA (S7 s).defaults}
noncomputable def Ii:I (O×Fn):=[(82,DD (DB 3 4)),(89,DD (DB 3 5)),(160,DD (DB 5 1)),(167,DD (DB 5 2)),(174,DD (DB 5 3)),(181,DD (DB 5 4)),(188,DD (DB 5 5)),(196,DD (DB 5 6)),(203,DD (DB 5 7)),(210,DD (DB 5 8)),(253,DD (Ba 6)),(326,DD (Ba 15)),(340,DD (Ba 19)),(347,DD (Ba 20)),(354,DD (Ba 21)),(361,DD (Ba 22)),(368,DD (Ba 23)),(375,DD (Ba 24)),(387,DD (Ba 28)),(392,DD (Ba 29)),(399,DD (Ba 30)),(404,DD (Ba 31)),(411,DD (Ba 32)),(416,DD (Ba 33)),(423,DD (Ba 34)),(430,DD (Ba 35)),(435,DD (Ba 36)),(442,DD (Ba 37))]
noncomputable def Wv:I (U×V):=[(⟨⟨[95,119,97,108,108]⟩⟩,V.top (.ref 21)),(⟨⟨[95,116,117,112,108,101,103,101,116,116,101,114]⟩⟩,V.top (.ref 60)),(⟨⟨[77,97,116,99,104]⟩⟩,V.top (.ref 135)),(⟨⟨[95,99,97,108,99,117,108,97,116,101,95,114,97,116,105,111]⟩⟩,V.top (.ref 145)),(⟨⟨[83,101,113,117,101,110,99,101,77,97,116,99,104,101,114]⟩⟩,V.top (.ref 242)),(⟨⟨[95,102,111,114,109,97,116,95,114,97,110,103,101,95,117,110,105,102,105,101,100]⟩⟩,V.top (.ref 253)),(⟨⟨[95,112,108,97,105,110,95,110,97,109,101]⟩⟩,V.top (.ref 260)),(⟨⟨[65,66,67,77,101,116,97]⟩⟩,V.top (.ref 277)),(⟨⟨[95,65,66,67,76,105,107,101]⟩⟩,V.top (.ref 310)),(⟨⟨[95,97,98,99,95,112,108,97,105,110,95,109,101,116,97]⟩⟩,V.top (.ref 319)),(⟨⟨[102,115,112,97,116,104]⟩⟩,V.top (.ref 326)),(⟨⟨[95,99,104,101,99,107,95,97,114,103,95,116,121,112,101,115]⟩⟩,V.top (.ref 333)),(⟨⟨[95,103,101,116,95,115,101,112]⟩⟩,V.top (.ref 340)),(⟨⟨[106,111,105,110]⟩⟩,V.top (.ref 347)),(⟨⟨[115,112,108,105,116,114,111,111,116]⟩⟩,V.top (.ref 354)),(⟨⟨[98,97,115,101,110,97,109,101]⟩⟩,V.top (.ref 361)),(⟨⟨[100,105,114,110,97,109,101]⟩⟩,V.top (.ref 368)),(⟨⟨[110,111,114,109,112,97,116,104]⟩⟩,V.top (.ref 375)),(⟨⟨[115,111,114,116,101,100,95,108,105,115,116,95,100,105,102,102,101,114,101,110,99,101]⟩⟩,V.top (.ref 382)),(⟨⟨[95,108,97,119,95,116,114,101,101,115]⟩⟩,V.top (.ref 387)),(⟨⟨[95,108,97,119,95,115,116,114,97,105,103,104,116]⟩⟩,V.top (.ref 392)),(⟨⟨[95,108,97,119,95,105,110,110,101,114]⟩⟩,V.top (.ref 399)),(⟨⟨[95,108,97,119,95,116,111,108,100]⟩⟩,V.top (.ref 404)),(⟨⟨[95,108,97,119,95,103,114,111,119,110]⟩⟩,V.top (.ref 411)),(⟨⟨[95,108,97,119,95,112,97,105,114,115]⟩⟩,V.top (.ref 416)),(⟨⟨[95,108,97,119,95,114,97,110,103,101]⟩⟩,V.top (.ref 423)),(⟨⟨[95,108,97,119,95,99,104,97,110,103,101,115]⟩⟩,V.top (.ref 430)),(⟨⟨[95,108,97,119,95,119,97,108,107,101,100]⟩⟩,V.top (.ref 435)),(⟨⟨[108,97,119]⟩⟩,V.top (.ref 442)),(⟨⟨[108,101,110]⟩⟩,V.top (.builtin "len")),(⟨⟨[109,105,110]⟩⟩,V.top (.builtin "min")),(⟨⟨[109,97,120]⟩⟩,V.top (.builtin "max")),(⟨⟨[115,111,114,116,101,100]⟩⟩,V.top (.builtin "sorted")),(⟨⟨[105,115,105,110,115,116,97,110,99,101]⟩⟩,V.top (.builtin "isinstance")),(⟨⟨[105,115,115,117,98,99,108,97,115,115]⟩⟩,V.top (.builtin "issubclass")),(⟨⟨[116,121,112,101]⟩⟩,V.top (.type "type")),(⟨⟨[115,116,114]⟩⟩,V.top (.type "str")),(⟨⟨[98,121,116,101,115]⟩⟩,V.top (.type "bytes")),(⟨⟨[114,97,110,103,101]⟩⟩,V.top (.type "range")),(⟨⟨[101,110,117,109,101,114,97,116,101]⟩⟩,V.top (.type "enumerate")),(⟨⟨[115,101,116]⟩⟩,V.top (.type "set")),(⟨⟨[108,105,115,116]⟩⟩,V.top (.type "list")),(⟨⟨[109,97,112]⟩⟩,V.top (.type "map")),(⟨⟨[116,117,112,108,101]⟩⟩,V.top (.type "tuple"))]
noncomputable def cD:I (U×A8):=[(⟨⟨[95,95,105,110,105,116,95,95]⟩⟩,160),(⟨⟨[115,101,116,95,115,101,113,115]⟩⟩,167),(⟨⟨[115,101,116,95,115,101,113,49]⟩⟩,174),(⟨⟨[115,101,116,95,115,101,113,50]⟩⟩,181),(⟨⟨[95,83,101,113,117,101,110,99,101,77,97,116,99,104,101,114,95,95,99,104,97,105,110,95,98]⟩⟩,188),(⟨⟨[102,105,110,100,95,108,111,110,103,101,115,116,95,109,97,116,99,104]⟩⟩,196),(⟨⟨[103,101,116,95,109,97,116,99,104,105,110,103,95,98,108,111,99,107,115]⟩⟩,203),(⟨⟨[103,101,116,95,111,112,99,111,100,101,115]⟩⟩,210)]
noncomputable def Fu(on:AK)(CR:Kx->Cd->Mine.St->AD A0):Mine.Ctx:={glob:=Wv,fn:=λa=>AL Ii a,Bo:=135,Sb:=82,ja:=89,Dk:=242,Q5:=160,Gq:=382,Vg:=on,HT:=cD,CR:=CR}
noncomputable abbrev Mj(CR:Kx->Cd->Mine.St->AD A0):Mine.Ctx:=Fu M CR
noncomputable abbrev FL:Mine.Ctx:=Mj λ_ _ _=>L
theorem av5{C:Type}{x:O}{v:C}{l:I (O×C)}(h:AL l x=G v):(x,v)∈l:=Su h
theorem O_(P:Dx){fn:Fn}(h:AL Ii a=G fn):cC (Bb P) a fn:=by
 have e:=H3.mp (show Ii.map (λp=>((Wu (Bb P) p.1).isSome,(Ih (Bb P) p.1).scope,(Ih (Bb P) p.1).body,(Ih (Bb P) p.1).params.args.map (·.arg),(Ih (Bb P) p.1).params.vararg.map (·.arg),n6 (Bb P) (Ih (Bb P) p.1) p.2))=Ii.map (λp=>(M,p.2.sc,.stmts p.2.body,p.2.ps,p.2.va,M))by kernel_rfl) _ (av5 h);exact⟨congrArg (·.1) e,congrArg (·.2.1) e,congrArg (·.2.2.1) e,congrArg (·.2.2.2.1) e,congrArg (·.2.2.2.2.1) e,congrArg (·.2.2.2.2.2) e⟩
section
variable{CR:Kx->Cd->Mine.St->AD A0}
theorem cE(AV:(Bb P).In B.base):Cx B (Fu on CR) (Bb P)where
 AV:=AV;makes:=by kernel_rfl
 init:=by kernel_rfl
 lB:=by kernel_rfl
 ga:=by kernel_rfl
 lD:=by kernel_rfl
 lE:=by kernel_rfl
 over:=by kernel_rfl
 au:=by kernel_rfl
 attrs:=λa h=>by
  refine AC (ID.mp h) ?_;intro x hx e;exact E1.mp e▸H3.mp (show Zy.map (Gk (Bb P) (.ref 242))=Zy.map λ_=>G L by kernel_rfl) x hx
 meths:=λm a h=>by
  have e:=H3.mp (show cD.map (λp=>(Gk (Bb P) (.ref 242) p.1,t7 (Bb P) (.ref p.2)))=cD.map (λp=>(G (G (.ref p.2)),G (.type "function")))by kernel_rfl) _ (FF h);exact⟨congrArg (·.1) e,congrArg (·.2) e⟩
theorem nB:HX B (Fu on CR) (Bb P)where
 at_:=rfl;cls:=by
  have :∃o,(Bb P).lookup 135=G o/\(match o.data with|.cls cd=>!cd.hasDel|_=>A6)=M:=⟨jD P,by kernel_rfl,by kernel_rfl⟩;refine AC this ?_;(try clear this);intro Aw e h;obtain⟨oc,od,d,sl⟩:=Aw;cases d<;>first|(exact(E4 h).elim;done)|skip
  exact⟨_,_,_,_,e,by simpa using h⟩
 call:=by kernel_rfl
 typ:=by kernel_rfl
 self:=by kernel_rfl
 tup:=by kernel_rfl
 obj:=by kernel_rfl
 init:=by kernel_rfl
 len:=by kernel_rfl
 iter:=by kernel_rfl
 mro:=λA9=>by kernel_rfl
 made:=λA9=>by kernel_rfl
 lI:=λA9=>by kernel_rfl
 here:=λA9=>by kernel_rfl
 lJ:=λA9 T=>by kernel_rfl
 reads:=by kernel_rfl
 new:=⟨136,by kernel_rfl,[],by kernel_rfl⟩
theorem cF:Wn (Bb P)where
 mZ:=λA9=>by kernel_rfl
 typ:=λA9=>by kernel_rfl
 bl:=by kernel_rfl
 sub:=by kernel_rfl
 new:=by kernel_rfl
theorem nC:Gk (Bb P) (.ref (Fu on CR).Bo) "__lt__"=G (G (.builtin "tuple.__lt__")):=by kernel_rfl
theorem nE:Ah (Fu on CR).glob Wb=G (.top (.type "enumerate")):=by kernel_rfl
noncomputable def nF(Kf:Ge)(a:A8):AD (BW G'):=B' (Kf.lookup a) λo=>c9 o.data
noncomputable def Tn(Kf:Ge)(a:A8):BW G':=(nF Kf a).getD #[]
noncomputable def av6(Kf:Ge)(a:A8):AK:=(nF Kf a).any λN=>N.toList.all λe=>Tm e.key A6 λ_ _=>M
theorem To(AV:Kf.In h)(e:av6 Kf a=M):h.Ns a (NY (Tn Kf a)):=by
 refine AC (any_some e) ?_;intro N e1 e2;rw[show Tn Kf a=N from congrArg (·.getD #[]) e1];apply BI e1;intro o hl hd;refine xE (au6 hd) ?_;intro ep he;refine⟨o,N,ep,AV _ _ hl,he,λx hx=>?_,λ_=>rfl⟩;have :=Bq.mp e2 x (fy.mpr hx);revert this;generalize x.key=k;intro q;apply c5 q B0;intro n t _;exact⟨n,t,rfl⟩
theorem Mk(AV:(Bb P).In h):h.NoLimit:=⟨_,To AV (by kernel_rfl),by kernel_rfl⟩
theorem Ww(AV:(Bb P).In B.base):Th B (Fu on CR)where
 fn:=λa fn h=>Mi AV (Mk AV) (O_ P h);Gq:=by
  refine xE (uD.mp (show(Wu (Bb P) 382).isSome=M by kernel_rfl)) ?_;intro fd h;apply BI h;intro o hl hd;exact⟨o,fd,AV _ _ hl,mz hd⟩
theorem GH(AV:(Bb P).In B.base):Gl B (Fu on CR):=⟨_,_,To AV (by kernel_rfl),To AV (by kernel_rfl),λx v h=>by
 have e:=H3.mp (show Wv.map (λp=>(match NY (Tn (Bb P) 3) p.1 with|some w=>G w|none=>NY (Tn (Bb P) 0) p.1).map V.top)=Wv.map (λp=>G p.2)by kernel_rfl) _ (FF h);refine AC (uE.mp e) ?_;clear e;intro w e q;refine⟨w,q.symm,?_⟩;revert e;cases NY (Tn (Bb P) 3) x with
 |none=>exactλe=>.inr ⟨rfl,e⟩|some w=>exact .inl⟩
end
mutual
noncomputable def E6(B9:O->O):V->V
 |.ref i=>.ref (B9 i)|.B' k i=>.B' k (B9 i)|.tup c Y=>.tup c (Cs B9 Y)|v=>v
noncomputable def Cs(B9:O->O):I V->I V
 |[]=>[]|v::l=>E6 B9 v::Cs B9 l
end
noncomputable def JR(B9:O->O)(e:V×V):V×V:=(e.1,E6 B9 e.2)
noncomputable def Qj(B9:O->O)(e:U×V):U×V:=(e.1,E6 B9 e.2)
noncomputable def DS(B9:O->O):Ob->Ob
 |.list Y=>.list (Cs B9 Y)|.dict N=>.dict (N.map (JR B9))|.B3 N=>.B3 (N.map (JR B9))|.EX N=>.EX (N.map (Qj B9))|.rows r Y=>.rows r Y|.HR=>.HR|.inst c d=>.inst c (B9 d)
theorem cG{f:J->EG}:∀{m:I EG}{l:I J},m.Perm (l.map f)->∃l':I J,l'.Perm l/\m=l'.map f
 |[],l,h=>by
  have :=h.length_eq;cases l with
  |nil=>exact⟨[],.refl _,rfl⟩|cons _ _=>simp at this
 |b::m,l,h=>by
  refine AC (E'.mp (h.subset (Cp ..))) ?_;intro a ha Aw;subst Aw;refine DA (List.append_of_mem ha) ?_;intro s t B6;clear ha;subst B6;have h2:(f a::m).Perm (f a::(s++t).map f):=h.trans (by
  rw[NX,J',NX];exact bD5);refine AC (cG (bR0 h2)) ?_;intro l' hl BJ;clear h h2;subst BJ;exact⟨a::l',(hl.cons a).trans bD5.symm,rfl⟩
section
theorem VR.DV(Di:∀j,AZ[j]?=Au[B9 j]?):VR h AZ v u↔VR h Au (E6 B9 v) u:=V.rec (motive_1:=λv=>∀u,VR h AZ v u↔VR h Au (E6 B9 v) u) (motive_2:=λY=>∀us,Aa h AZ Y us↔Aa h Au (Cs B9 Y) us) (λ_=>.rfl) (λ_ _=>.rfl) (λ_ _=>.rfl) (λ_ _=>.rfl) (λ_ _ ih _=>HO λ_=>HO λ_=>HO λus=>HO λ_=>Hj .rfl (Hj .rfl (Hj .rfl (Hj .rfl (Hj .rfl (ih us.toList)))))) (λ_ _=>.rfl) (λi _=>HO λ_=>Hj (Di i▸.rfl) .rfl) (λ_ _ _=>.rfl) (λ_ i _=>HO λ_=>HO λ_=>Hj .rfl (Hj (Di i▸.rfl) .rfl)) (λ_ _ _ _=>.rfl) (λ_ _ _=>.rfl) (λ_ _=>.rfl) (λ_=>.rfl) (λ_=>.rfl) (λ_ _ x y _=>HO λu=>HO λus=>Hj .rfl (Hj (x u) (y us))) v u
theorem Aa.DV(Di:∀j,AZ[j]?=Au[B9 j]?){v:I V}:∀{u:I A4},Aa h AZ v u↔Aa h Au (Cs B9 v) u:=by induction v with
 |nil=>exact .rfl|cons x l ih=>exact HO λu=>HO λus=>Hj .rfl (Hj (VR.DV Di) ih)
theorem Oa:∀{l:I V},Cs B9 l=l.map (E6 B9)
 |[]=>rfl|_::l=>by simp[Cs,Oa (l:=l)]
theorem LN(l:I Tx):Cs B9 (l.map V.str)=l.map V.str:=by rw[Oa,Jo];rfl
theorem av7{p:Tx}:E6 B9 (O5 p l)=O5 p l:=by cases l with
 |nil=>rfl|cons t r=>
 show V.tup L (Cs B9 (.str t::.str p::r.map .str))=_;simp only[Cs,LN];rfl
theorem av8{x:Sg}:Cs B9 (IV x)=IV x:=by cases x with
 |it l=>
  show[V.tup L (Cs B9 (l.map V.str))]=_;rw[LN];rfl|tx t=>rfl|run p a b=>
  show Cs B9 ((C8 a b).map (O5 p))=(C8 a b).map (O5 p);rw[Oa,Jo];exact gh λl _=>av7
theorem av9{l:I Sg}:Cs B9 (DO l)=DO l:=by
 rw[Oa];unfold DO;induction l with
 |nil=>rfl|cons x l ih=>rw[YY,NX,ih,<-Oa,av8]
theorem DR.DV{key:T->V}(Di:∀j,AZ[j]?=Au[B9 j]?):∀{l:I (T×A4)},DR key h AZ N l↔DR key h Au (N.map (JR B9)) l:=by induction N with
 |nil=>exact VB|cons e N ih=>exact HO λk=>HO λu=>HO λr=>Hj VB (Hj VB (Hj (VR.DV Di) ih))
theorem Dm.DV(Di:∀j,AZ[j]?=Au[B9 j]?):Dm prog w h AZ a N↔Dm prog w h Au a (N.map (JR B9)):=by
 unfold Dm;simp only[DR.DV Di]
theorem Tq{N:I (U×V)}:Ah (N.map (Qj B9)) x=(Ah N x).map (E6 B9):=by induction N with
 |nil=>rfl|cons e N ih=>
 show bC (Cy e.1 x) (G (E6 B9 e.2)) (Ah (N.map (Qj B9)) x)=(bC (Cy e.1 x) (G e.2) (Ah N x)).map (E6 B9);cases Cy e.1 x with
 |true=>rfl|false=>exact ih
theorem Ca.DV(Di:∀j,AZ[j]?=Au[B9 j]?):Ca prog w h AZ a o↔Ca prog w h Au a (DS B9 o):=by cases o with
 |list Y=>simp only[Ca,DS,Aa.DV Di]|dict N=>exact Dm.DV Di|B3 N=>
  simp only[Ca,DS,Vz,and_true];constructor;. rintro⟨BN,p,y⟩;exact⟨_,p.map _,(Dm.DV Di).mp y⟩
  . rintro⟨BN,p,y⟩;refine AC (cG p) ?_;intro aw0 p' BP;clear p;subst BP;exact⟨aw0,p',(Dm.DV Di).mpr y⟩|EX N=>
  simp only[Ca,DS];constructor
  . rintro⟨m,ns,r⟩;refine⟨m,ns,λx=>?_⟩;have :=r x;rw[Tq];cases e:Ah N x with
 |none=>rw[e]at this;exact this|some v=>rw[e]at this;refine AC this ?_;(try clear this);intro u q z;exact⟨u,q,(VR.DV Di).mp z⟩
  . rintro⟨m,ns,r⟩;refine⟨m,ns,λx=>?_⟩;have :=r x;rw[Tq]at this;cases e:Ah N x with
  |none=>rw[e]at this;exact this|some v=>rw[e]at this;refine AC this ?_;(try clear this);intro u q z;exact⟨u,q,(VR.DV Di).mpr z⟩
 |rows r Y=>
  simp only[Ca,DS];have :∀{us:I A4},Aa h AZ (DO Y) us↔Aa h Au (DO Y) us:=λ{us}=>by
    have :=Aa.DV (h:=h) (B9:=B9) Di (v:=DO Y) (u:=us);rw[av9]at this;exact this
  simp only[this]|HR=>exact VB|inst c d=>
  show(∃da,AZ[d]?=G da/\_)↔∃da,Au[B9 d]?=G da/\_;rw[Di]
end
noncomputable def DJ(n:O)(B7:I O)(j:O):O:=match B7[j]? with|some i=>i|none=>n+(j-B7.length)
structure Sub(H:Mine.St)(DI:Mine.St)(B7:I O):Prop where
 len:B7.length=DI.n
 nodup:B7.Nodup
 lt:∀i∈B7,i<H.n
 obs:∀j o,AL DI.h j=G o->∃i,B7[j]?=G i/\AL H.h i=G (DS (DJ H.n B7) o)
noncomputable def C'(C:I A8)(B7:I O):I A8:=B7.map λi=>C.getD i 0
section
variable{J:I A8}
theorem GI(hl:C.length=n)(KL:∀i∈B7,i<n)(j:O):(C' C B7++J)[j]?=(C++J)[DJ n B7 j]?:=by
 have hz:(C' C B7).length=B7.length:=by simp[C']
 unfold DJ;cases e:B7[j]? with
 |none=>
  have :B7.length<=j:=by simpa using e
  show _=(C++J)[n+(j-B7.length)]?;rw[VA (hz▸this),VA (hl▸H2 _ _),hz,hl,bD6]|some i=>
  have hi:i<C.length:=by rw[hl];exact KL i (Ev e)
  refine xE (HJ.mp e) ?_;intro hj _;rw[Y' (hz.symm▸hj),Y' hi];unfold C';rw[VC,e];simp[Kn,hi]
theorem LO(hl:C.length=n)(KL:∀i∈B7,i<n)(h:a∈C' C B7):a∈C:=by
 refine AC (E'.mp h) ?_;intro i hi Aw;clear h;subst Aw;have :i<C.length:=by rw[hl];exact KL i hi
 simp[Kn,this]
theorem Gd.sub(g:Gd B F K A H C s)(AG:Sub H DI B7)(hd:d<=K.d)(he:Cf F s.heap (C' C B7) DI.env):Gd B F ⟨K.sc,d⟩ A DI (C' C B7) s where
 kinds:=⟨g.kinds.fn,g.kinds.sc,g.kinds.kd,g.kinds.g3,g.kinds.b0,g.kinds.cells,g.kinds.IW,g.kinds.MO⟩;len:=by rw[<-AG.len];simp[C']
 nodup:=by
  unfold C';rw[uF,fk];refine AG.nodup.imp_of_mem λ{a b}ha hb Cc e=>Cc ?_;have h1:a<C.length:=by rw[g.len];exact AG.lt a ha
  have h2:b<C.length:=by rw[g.len];exact AG.lt b hb
  have e':C[a]?=C[b]?:=by simpa[Kn,h1,h2]using e
  exact(RQ h1 g.nodup).mp e'
 fresh:=λa m=>g.fresh a (LO g.len AG.lt m);live:=λa m=>g.live a (LO g.len AG.lt m);D5:=λa m=>⟨(g.D5 a m).1,λz=>(g.D5 a m).2.1 (LO g.len AG.lt z),(g.D5 a m).2.2⟩;D2:=λc m=>⟨λz=>(g.D2 c m).1 (LO g.len AG.lt z),(g.D2 c m).2⟩;objs:=λj o e=>by
  refine AC (AG.obs j o e) ?_;intro i hi e';refine AC (g.objs i _ e') ?_;intro a ha r;have Er:∀j,(C' C B7)[j]?=C[DJ H.n B7 j]?:=λj=>by
   have :=GI (J:=[]) g.len AG.lt j;simpa using this
  refine⟨a,?_,(Ca.DV Er).mpr r⟩;rw[Er];unfold DJ;rw[hi];exact ha
 env:=he;base:=g.base;os:=g.os;gens:=g.gens;frames:=g.frames;DP:=g.DP;Cz:=λA1 m=>⟨λz=>(g.Cz A1 m).1 (LO g.len AG.lt z),(g.Cz A1 m).2⟩;mods:=g.mods;handled:=g.handled;depth:=by have :=g.depth;show A.depth+3*d<900;(with_reducible exact Mine.yW (by assumption) (by assumption))
 units:=by have :=g.units;show A.units+10*d<9000;(with_reducible exact Mine.yW (by assumption) (by assumption))
theorem Cf.nil(g:Gd B F K A H C s):Cf F s.heap BG []:=by
 refine CZ g.env ?_;intro m ns ce _;exact⟨m,ns,ce,λx v e=>(AF e).elim⟩
structure nG(H DI AB A7:Mine.St)(B7:I O):Prop where
 env:A7.env=H.env
 le:DI.n<=AB.n
 n:A7.n=H.n+(AB.n-DI.n)obs:∀i o,AL A7.h i=G o->(∃j LP,AL AB.h j=G LP/\i=DJ H.n B7 j/\o=DS (DJ H.n B7) LP)\/(AL H.h i=G o/\i∉B7)
theorem Gd.out(g:Gd B F K A H C s)(AG:Sub H DI B7)(g':Gd B F K' A' AB AT s')(x:Nx F.D [] s.heap s'.heap (C' C B7) AT)(BL:nG H DI AB A7 B7):∃J,AT=C' C B7++J/\Gd B F K A A7 (C++J) s'/\Nx F.D [] s.heap s'.heap C (C++J):=by
 refine AC x.pre ?_;intro J B6 GA;subst B6;have hz:(C' C B7).length=B7.length:=by simp[C']
 have Tf:=g'.len;rw[FC,hz,AG.len]at Tf;have hx:Nx F.D [] s.heap s'.heap C (C++J):=⟨⟨J,rfl,GA⟩,x.live,x.Bw,λb o e n m=>x.same b o e (λz=>n (LO g.len AG.lt z)) m⟩;have nd:=g'.nodup;rw[I9]at nd;refine⟨J,rfl,g.back hx (by rw[FC,g.len,BL.n];exact congrArg (H.n+·) (bm6 Tf)) ?_ ?_ ?_ ?_ g'.base g'.os g'.gens (by rw[BL.env];exact Cf.Gu g g.env hx),hx⟩
 . refine I9.mpr ⟨g.nodup,nd.2.1,λa ha b hb e=>?_⟩;subst e;refine xE (g.live a ha) ?_;intro o e;rw[GA a hb]at e;exact(BE e).elim
 . intro a m;rcases Dp.mp m with m|m;. exact g.fresh a m
   . exact g'.fresh a (Pe _ m)
 . intro a m;rcases Dp.mp m with m|m;. refine xE (g.live a m) ?_;intro o e;exact x.live a o e
   . exact g'.live a (Pe _ m)
 . intro i o e;have Er:=GI (C:=C) (J:=J) g.len AG.lt;rcases BL.obs i o e with BP|Bp;refine Bv BP ?_;(try clear BP);intro j LP ej Bg Bu;subst Bg;subst Bu;rotate_left;refine xA Bp ?_;(try clear Bp);intro e hi;rotate_left
   . refine AC (g'.objs j LP ej) ?_;intro a ha r;exact⟨a,by rw[<-Er];exact ha,(Ca.DV Er).mp r⟩
   . refine AC (g.objs i o e) ?_;intro a ha r;refine⟨a,FX ha,r.mono x.Bw λy ey=>x.keep a y ey (λz=>hi ?_) (by simp) (λz=>absurd (Ev ha) (g.Cz a z).1)⟩;refine AC (E'.mp z) ?_;intro j hj e';have h1:j<C.length:=by rw[g.len];exact AG.lt j hj
     have h2:C[j]?=G a:=by rw[<-e'];simp[Kn,h1]
     have :j=i:=(RQ h1 g.nodup).mp (h2.trans ha.symm);exact this▸hj
theorem nH{Wx:V}(Oc:∀{F:Fm}{A:CK}{C:I A8}{s:AR}{us:I A4},Gd B F ⟨K.sc,d⟩ A DI C s->Aa s.heap C MP us->Ae B F ⟨K.sc,d⟩ A AB C s (CE fu us) (RV Wx))(he:DI.env=[])(hd:d<=K.d)(g:Gd B F K A H C s)(AG:Sub H DI B7)(BL:nG H DI AB A7 B7)(ha:args=Cs (DJ H.n B7) MP)(hv:v=E6 (DJ H.n B7) Wx)(rs:Aa s.heap C args us):Ae B F K A A7 C s (CE fu us) (RV v):=by
 intro A2 E k;have cH:∀j,(C' C B7)[j]?=C[DJ H.n B7 j]?:=λj=>by
  have :=GI (J:=[]) g.len AG.lt j;simpa using this
 subst ha;subst hv;refine Oc (g.sub AG hd (by rw[he];exact Cf.nil g)) ((Aa.DV cH).mpr rs) A2 E λu AT s' g' x' r'=>?_;refine CZ (g.out AG g' x' BL) ?_;intro J BJ gg xx;clear g' x';subst BJ;exact k u _ s' gg xx ((VR.DV (GI g.len AG.lt)).mp r')
end
section
variable{CR:Kx->Cd->Mine.St->AD A0}
structure Df(B:Bs):Prop where
 Gq:∀CR,Tj B (Mj CR)sset:∀CR,bt B (Mj CR)lmap:∀CR,bu B (Mj CR)
theorem cI(AV:(Bb P).In B.base)(AS:Df B)(sm:Mh B (Mj CR)):Ok B (Mj CR) (Bb P):=⟨cE AV,nB,cF,Ww AV,GH AV,nE,nC,AS.Gq _,AS.sset _,AS.lmap _,sm⟩
theorem aw1:Mh B FL:=⟨λh=>(by exact(BE h).elim),λh=>(by exact(BE h).elim),λh=>(by exact(BE h).elim),λh=>(by exact(BE h).elim),λh=>(by exact(BE h).elim)⟩
theorem Ts(AV:(Bb P).In B.base)(AS:Df B)(n:O):All B FL n:=Wr (cI AV AS aw1) n
end
mutual
noncomputable def Fv:V->AK
 |.ref _=>A6|.B' _ _=>A6|.tup _ Y=>JS Y|_=>M
noncomputable def JS:I V->AK
 |[]=>M|v::l=>Fv v&&JS l
end
section
theorem nI(h:JS vs=M):∀v∈vs,Fv v=M:=by induction vs with
 |nil=>exactλ_ m=>nomatch m|cons x l ih=>exactλv m=>(Ck.mp m).elim (λe=>e▸B1 h) (ih (Ak h) v)
theorem VR.Fv:Mine.Fv v=M->VR h AZ v u->VR h Au v u:=V.ind (P:=λv=>∀u,Mine.Fv v=M->VR h AZ v u->VR h Au v u) (λ_ k u _ e=>k _ _ _ _ u e) (λ_ _ _ _ e=>e) (λ_ _ c=>(B0 c).elim) (λ_ _ _ c=>(B0 c).elim) (λ_ _ ih _ c e=>Kr e λa o us n e g t k d r=>⟨a,o,us,n,e,g,t,k,d,r.imp λv m u=>ih v m u (nI c v m)⟩) v u
theorem Aa.Fv{v:I V}{u:I A4}(c:JS v=M)(r:Aa h AZ v u):Aa h Au v u:=r.imp λv m _=>VR.Fv (nI c v m)
end
section
variable{J:I A8}
theorem call_plain(Oc:∀{F:Fm}{A:CK}{C:I A8}{s:AR}{us:I A4},Gd B F ⟨K.sc,d⟩ A ⟨[],[],0⟩ C s->Aa s.heap C args us->Ae B F ⟨K.sc,d⟩ A AB C s (CE fu us) (RV v))(ha:JS args=M)(hv:Fv v=M)(hd:d<=K.d)(g:Gd B F K A H C s)(rs:Aa s.heap C args us):Ae B F K A H C s (CE fu us) (RV v):=by
 intro A2 E k;have AG:Sub H ⟨[],[],0⟩ []:=⟨rfl,HK,λi m=>(by(exfalso;cases m)),λj o e=>(by exact(BE e).elim)⟩;refine Oc (g.sub AG hd (Cf.nil g)) (Aa.Fv ha rs) A2 E λu AT s' g' x' r'=>?_;have hx:Nx F.D [] s.heap s'.heap C C:=⟨⟨[],by simp,λb m=>(by(exfalso;cases m))⟩,x'.live,x'.Bw,λb o e n m=>x'.same b o e (λz=>(by(exfalso;cases z))) m⟩;refine k u C s' (g.back hx g.len g.nodup g.fresh (λa m=>?_) (λi o e=>?_) g'.base g'.os g'.gens (Cf.Gu g g.env hx)) hx (VR.Fv hv r');. refine xE (g.live a m) ?_;intro o e;exact x'.live a o e
 . refine AC (g.objs i o e) ?_;intro a ha r;have :=r.mono (J:=[]) x'.Bw λy ey=>x'.keep a y ey (λz=>by(exfalso;cases z)) (by simp) (λz=>absurd (Ev ha) (g.Cz a z).1);exact⟨a,ha,by simpa using this⟩
end
noncomputable def Tt(a b:V):AK:=vInt a (vStr a (IN a A6 (IN b A6 M)) λx=>vStr b A6 λy=>CU x y) λx=>vInt b A6 λy=>decide (x=y)
theorem nJ{a b:V}(h:Tt a b=M){P:V->V->Prop}(n:P .none .none)(i:∀x,P (.int x) (.int x))(s:∀x,P (.str x) (.str x)):P a b:=by
 apply Pt h;. intro x h;apply Cv h B0;intro y h;exact of_decide_eq_true h▸i x
 intro h;apply Nw h;. intro x h;apply Dc h B0;intro y h;exact Eb.mp h▸s x
 intro h;apply Pu h B0;intro h;apply Pu h B0;intro _;exact n
theorem nK{a b:V}(h:Tt a b=M):a=b:=nJ (P:=λa b=>a=b) h rfl (λ_=>rfl) λ_=>rfl
theorem nL{a b:V}(h:Tt a b=M):Fv b=M:=nJ (P:=λ_ b=>Fv b=M) h rfl (λ_=>rfl) λ_=>rfl
noncomputable def Tu(a b:I V):AK:=all2 Tt a b
theorem nN{a b:I V}(h:Tu a b=M):a=b:=Nm (λ_ _=>nK) a b h
theorem aw2{a b:I V}(h:Tu a b=M):JS b=M:=VO (P:=λ_ b=>JS b=M) rfl (λa b x y q ih=>show(Fv b&&JS y)=M by rw[nL q,ih];rfl) h
noncomputable def LQ(o:A0)(v:V):AK:=K2 o A6 λw _=>Tt w v
theorem aw3{o:A0}(h:LQ o v=M):(∃H,o=.ok (.v v) H)/\Fv v=M:=by
 apply Vx h B0;intro w H h;exact⟨⟨H,by rw[nK h]⟩,nL h⟩
noncomputable def Wy:I (I V×V)->I V->AD V
 |[],_=>L|e::l,a=>bC (Tu a e.1) (G e.2) (Wy l a)
theorem nO{a:I V}{l:I (I V×V)}:Wy l a=G v->(a,v)∈l/\JS a=M:=by induction l with
 |nil=>exactλh=>(AF h).elim|cons e l ih=>
 intro h;refine Ea (show bC (Tu a e.1) (G e.2) (Wy l a)=G v from h) (λq h=>?_) λ_ h=>⟨Cq _ (ih h).1,(ih h).2⟩;have :=nN q;exact⟨by rw[this,<-Bl h];exact Cp,this▸aw2 q⟩
noncomputable def nP:I (I V×V):=[([.str [47]],.str [47]),([.str [47,97]],.str [47]),([.str [47,97,47,98]],.str [47,97]),([.str [47,97,47,98,47,103]],.str [47,97,47,98]),([.str [47,97,47,102]],.str [47,97]),([.str [47,103]],.str [47]),([.str [47,103,47,112]],.str [47,103]),([.str [47,103,47,113]],.str [47,103]),([.str [47,104]],.str [47]),([.str [47,107]],.str [47]),([.str [47,107,47,112]],.str [47,107]),([.str [47,107,47,113]],.str [47,107]),([.str [47,109]],.str [47]),([.str [47,110]],.str [47]),([.str [47,110,47,107]],.str [47,110])]
noncomputable def nQ:I (I V×V):=[([.str [47]],.str []),([.str [47,97]],.str [97]),([.str [47,97,47,98]],.str [98]),([.str [47,97,47,98,47,103]],.str [103]),([.str [47,97,47,102]],.str [102]),([.str [47,103]],.str [103]),([.str [47,103,47,112]],.str [112]),([.str [47,103,47,113]],.str [113]),([.str [47,104]],.str [104]),([.str [47,107]],.str [107]),([.str [47,107,47,112]],.str [112]),([.str [47,107,47,113]],.str [113]),([.str [47,109]],.str [109]),([.str [47,110]],.str [110]),([.str [47,110,47,107]],.str [107])]
noncomputable def nR:I (I V×V):=[([.str [47],.str [97]],.str [47,97]),([.str [47],.str [103]],.str [47,103]),([.str [47],.str [104]],.str [47,104]),([.str [47],.str [107]],.str [47,107]),([.str [47],.str [109]],.str [47,109]),([.str [47],.str [110]],.str [47,110]),([.str [47,97],.str [98]],.str [47,97,47,98]),([.str [47,97],.str [102]],.str [47,97,47,102]),([.str [47,97,47,98],.str [103]],.str [47,97,47,98,47,103]),([.str [47,103],.str [112]],.str [47,103,47,112]),([.str [47,103],.str [113]],.str [47,103,47,113]),([.str [47,107],.str [112]],.str [47,107,47,112]),([.str [47,107],.str [113]],.str [47,107,47,113]),([.str [47,110],.str [107]],.str [47,110,47,107])]
noncomputable def nU:I (I V×V):=[([.str [47,115,47,46,46,47,47,97,47,47,102,47,46]],.str [47,97,47,102]),([.str [47,115,47,46,46,47,47,97,47,47,98,47,47,103,47,46]],.str [47,97,47,98,47,103]),([.str [47,115,47,46,46,47,47,104,47,46]],.str [47,104]),([.str [47,115,47,46,46,47,47,109,47,46]],.str [47,109]),([.str [47,115,47,46,46,47,47,107,47,47,112,47,46]],.str [47,107,47,112]),([.str [47,115,47,46,46,47,47,107,47,47,113,47,46]],.str [47,107,47,113]),([.str [47,115,47,46,46,47,47,97,47,47,98,47,46]],.str [47,97,47,98]),([.str [47,115,47,46,46,47,47,110,47,47,107,47,46]],.str [47,110,47,107]),([.str [47,115,47,46,46,47,47,97,47,46]],.str [47,97]),([.str [47,115,47,46,46,47,47,103,47,47,112,47,46]],.str [47,103,47,112]),([.str [47,115,47,46,46,47,47,103,47,47,113,47,46]],.str [47,103,47,113])]
noncomputable def nV:I (I V×V):=[([.int 0,.int 0],.str [48,44,48]),([.int 0,.int 1],.str [49]),([.int 0,.int 2],.str [49,44,50]),([.int 0,.int 3],.str [49,44,51]),([.int 0,.int 4],.str [49,44,52]),([.int 0,.int 5],.str [49,44,53]),([.int 0,.int 6],.str [49,44,54]),([.int 1,.int 1],.str [49,44,48]),([.int 1,.int 2],.str [50]),([.int 1,.int 3],.str [50,44,50]),([.int 1,.int 4],.str [50,44,51]),([.int 1,.int 5],.str [50,44,52]),([.int 1,.int 6],.str [50,44,53]),([.int 2,.int 2],.str [50,44,48]),([.int 2,.int 3],.str [51]),([.int 2,.int 4],.str [51,44,50]),([.int 2,.int 5],.str [51,44,51]),([.int 2,.int 6],.str [51,44,52]),([.int 3,.int 3],.str [51,44,48]),([.int 3,.int 4],.str [52]),([.int 3,.int 5],.str [52,44,50]),([.int 3,.int 6],.str [52,44,51]),([.int 4,.int 4],.str [52,44,48]),([.int 4,.int 5],.str [53]),([.int 4,.int 6],.str [53,44,50]),([.int 5,.int 5],.str [53,44,48]),([.int 5,.int 6],.str [54]),([.int 6,.int 6],.str [54,44,48])]
noncomputable def nY:I (I V×V):=[([.int 0,.int 0],.str [48,44,48]),([.int 0,.int 1],.str [49]),([.int 0,.int 2],.str [49,44,50]),([.int 0,.int 3],.str [49,44,51]),([.int 0,.int 4],.str [49,44,52]),([.int 0,.int 5],.str [49,44,53]),([.int 0,.int 6],.str [49,44,54]),([.int 1,.int 0],.str [49,44,48]),([.int 1,.int 1],.str [50]),([.int 1,.int 2],.str [50,44,50]),([.int 1,.int 3],.str [50,44,51]),([.int 1,.int 4],.str [50,44,52]),([.int 1,.int 5],.str [50,44,53]),([.int 2,.int 0],.str [50,44,48]),([.int 2,.int 1],.str [51]),([.int 2,.int 2],.str [51,44,50]),([.int 2,.int 3],.str [51,44,51]),([.int 2,.int 4],.str [51,44,52]),([.int 3,.int 0],.str [51,44,48]),([.int 3,.int 1],.str [52]),([.int 3,.int 2],.str [52,44,50]),([.int 3,.int 3],.str [52,44,51]),([.int 4,.int 0],.str [52,44,48]),([.int 4,.int 1],.str [53]),([.int 4,.int 2],.str [53,44,50]),([.int 5,.int 0],.str [53,44,48]),([.int 5,.int 1],.str [54]),([.int 6,.int 0],.str [54,44,48])]
noncomputable def Tv:I (O×I (I V×V)):=[(368,nP),(361,nQ),(347,nR),(375,nU),(253,nV),(423,nY)]
noncomputable def Qk(K:Kx)(c:Cd)(H:Mine.St):AD A0:=match c with
 |.call f args=>IM f L λw=>Kt w L λa=>bT (EP 5 K.d) L<|B' (AL Tv a) λt=>B' (Wy t args) λv=>G (.ok (.v v) H)|_=>L
noncomputable abbrev CQ:Mine.Ctx:=Mj Qk
theorem aw4(sc:BU):(nP.all λe=>LQ (ev FL 60 ⟨sc,5⟩ (.call (.top (.ref 368)) e.1) ⟨[],[],0⟩) e.2)=M:=by kernel_rfl
theorem aw5(sc:BU):(nQ.all λe=>LQ (ev FL 60 ⟨sc,5⟩ (.call (.top (.ref 361)) e.1) ⟨[],[],0⟩) e.2)=M:=by kernel_rfl
theorem aw6(sc:BU):(nR.all λe=>LQ (ev FL 60 ⟨sc,5⟩ (.call (.top (.ref 347)) e.1) ⟨[],[],0⟩) e.2)=M:=by kernel_rfl
theorem aw7(sc:BU):(nU.all λe=>LQ (ev FL 60 ⟨sc,5⟩ (.call (.top (.ref 375)) e.1) ⟨[],[],0⟩) e.2)=M:=by kernel_rfl
theorem aw8(sc:BU):(nV.all λe=>LQ (ev FL 60 ⟨sc,5⟩ (.call (.top (.ref 253)) e.1) ⟨[],[],0⟩) e.2)=M:=by kernel_rfl
theorem aw9(sc:BU):(nY.all λe=>LQ (ev FL 60 ⟨sc,5⟩ (.call (.top (.ref 423)) e.1) ⟨[],[],0⟩) e.2)=M:=by kernel_rfl
theorem ax0{a:O}{t:I (I V×V)}(h:AL Tv a=G t)(sc:BU):(t.all λe=>LQ (ev FL 60 ⟨sc,5⟩ (.call (.top (.ref a)) e.1) ⟨[],[],0⟩) e.2)=M:=all_cons (p:=λp:O×I (I V×V)=>(p.2.all λe=>LQ (ev FL 60 ⟨sc,5⟩ (.call (.top (.ref p.1)) e.1) ⟨[],[],0⟩) e.2)=M) (aw4 sc) (all_cons (aw5 sc) (all_cons (aw6 sc) (all_cons (aw7 sc) (all_cons (aw8 sc) (all_cons (aw9 sc) EC))))) (a,t) (Su h)
theorem ax1:(Tv.all λp=>(AL Ii p.1).isSome)=M:=by kernel_rfl
theorem ax2{a:O}{t:I (I V×V)}(h:AL Tv a=G t):∃fn,AL Ii a=G fn:=uD.mp (Bq.mp ax1 (a,t) (Su h))
section
theorem nZ{f:V}(h:Qk K (.call f args) H=G (.ok (.v v) A7)):∃a t,f=.top (.ref a)/\AL Tv a=G t/\5<=K.d/\(args,v)∈t/\JS args=M/\A7=H:=by
 apply Ny (v:=f) h AF;intro w h;apply Pw h AF;intro a h;refine Ce h AF λhd h=>BI h λt ht h=>BI h λw hw h=>?_;injection Bl h with h1 h2;injection h1 with h1;subst h1;subst h2;exact⟨a,t,rfl,ht,Dj hd,(nO hw).1,(nO hw).2,rfl⟩
theorem cK(AV:(Bb P).In B.base)(AS:Df B):Mh B CQ where
 only:=λ{K c H o}h=>by cases c with
 |call f args=>exact .inl ⟨_,_,rfl⟩|_=>exact(AF h).elim
 MW:=λ{K f args H A7 v}h{F A C s fu}g r=>by
  refine M7 (nZ h) ?_;intro a t Aw ht _ _ _ _;subst Aw;cases r;refine xE (ax2 ht) ?_;intro fn hf;refine DA ((Ww (on:=M) (CR:=Qk) AV).fn a fn hf) ?_;intro o fd ok;exact CW.func (g.base _ _ ok.get) ok.data
 call:=λ{K f args H A7 v}h{F A C s fu us}g r rs=>by
  refine M7 (nZ h) ?_;intro a t B6 ht hd hm hc BJ;subst B6;subst BJ;cases r;refine xA (aw3 (Bq.mp (ax0 ht K.sc) _ hm)) ?_;intro BP hv;refine xE BP ?_;(try clear BP);intro AB e;exact call_plain (λ{F A C s us}g rs=>(Ts AV AS 60).s.call e g rfl rs) hc hv hd g rs
 e:=λh=>(AF h).elim;s:=λh=>(AF h).elim
theorem all1(AV:(Bb P).In B.base)(AS:Df B)(n:O):All B CQ n:=Wr (cI AV AS (cK AV AS)) n
end
noncomputable def cL(l:I V)(m:I (I Tx)):AK:=all2 (λv r=>FT v A6 λc Y=>oN c A6 (Tu Y (r.map .str))) l m
theorem n_{l:I V}{m:I (I Tx)}(h:cL l m=M):l=m.map λr=>.tup L (r.map .str):=v7 (λv r h=>by apply IL (v:=v) h B0;intro c Y h;apply GP h B0;intro h;rw[nN h]) h
noncomputable def Ij(o:A0)(m:I (I Tx)):AK:=K2 o A6 λv H=>DN v A6 λi=>oS (AL H.h i) A6 λob=>EI ob A6 λl=>cL l m
theorem JT{o:A0}{m:I (I Tx)}(h:Ij o m=M):∃i H,o=.ok (.v (.ref i)) H/\AL H.h i=G (.list (m.map λr=>.tup L (r.map .str))):=by
 apply Vx h B0;intro v H h;apply EH h B0;intro i h;refine VP h B0 λob e h=>?_;revert e;apply IP h B0;intro l h e;exact⟨i,H,rfl,by rw[<-n_ h];exact e⟩
noncomputable def runC(sc:BU)(a b:Tx):A0:=ev FL 300 ⟨sc,20⟩ (.call (.top (.ref 430)) [.str a,.str b]) ⟨[],[],0⟩
theorem ax3(sc:BU):((Bn M).all λb=>Ij (runC sc [] b) (C8 [] b))=M:=by kernel_rfl
theorem ax4(sc:BU):((Bn M).all λb=>Ij (runC sc [120] b) (C8 [120] b))=M:=by kernel_rfl
theorem ax5(sc:BU):((Bn M).all λb=>Ij (runC sc [120,121] b) (C8 [120,121] b))=M:=by kernel_rfl
theorem ax6(sc:BU):((Bn M).all λb=>Ij (runC sc [121,120] b) (C8 [121,120] b))=M:=by kernel_rfl
theorem ax7(sc:BU):((Bn M).all λb=>Ij (runC sc [120,121,122] b) (C8 [120,121,122] b))=M:=by kernel_rfl
theorem ax8(sc:BU):((Bn M).all λb=>Ij (runC sc [122,120,121] b) (C8 [122,120,121] b))=M:=by kernel_rfl
theorem ax9(sc:BU):((Bn M).all λb=>Ij (runC sc [121,121] b) (C8 [121,121] b))=M:=by kernel_rfl
theorem ay0(sc:BU):((Bn M).all λb=>Ij (runC sc [120,122,120,121] b) (C8 [120,122,120,121] b))=M:=by kernel_rfl
theorem ay1(sc:BU):((Bn M).all λb=>Ij (runC sc [120,118,121,122,117,119] b) (C8 [120,118,121,122,117,119] b))=M:=by kernel_rfl
theorem ay2(sc:BU):((Bn M).all λb=>Ij (runC sc [118,121,122] b) (C8 [118,121,122] b))=M:=by kernel_rfl
theorem ay3(sc:BU):((Bn M).all λb=>Ij (runC sc [120,120] b) (C8 [120,120] b))=M:=by kernel_rfl
theorem ay4{a b:Tx}(ha:a∈Bn A6)(hb:b∈Bn M)(sc:BU):∃i H,runC sc a b=.ok (.v (.ref i)) H/\AL H.h i=G (.list ((C8 a b).map λr=>.tup L (r.map .str))):=by
 simp only[Bn,Ck,Jp,Jq]at ha;rcases ha with rfl|rfl|rfl|rfl|rfl|rfl|rfl|rfl|rfl|rfl|rfl;. exact JT (Bq.mp (ax3 sc) b hb)
 . exact JT (Bq.mp (ax4 sc) b hb)
 . exact JT (Bq.mp (ax5 sc) b hb)
 . exact JT (Bq.mp (ax6 sc) b hb)
 . exact JT (Bq.mp (ax7 sc) b hb)
 . exact JT (Bq.mp (ax8 sc) b hb)
 . exact JT (Bq.mp (ax9 sc) b hb)
 . exact JT (Bq.mp (ay0 sc) b hb)
 . exact JT (Bq.mp (ay1 sc) b hb)
 . exact JT (Bq.mp (ay2 sc) b hb)
 . exact JT (Bq.mp (ay3 sc) b hb)
structure Op where
 tag:Tx
 i:O
 k:O
 j:O
 m:O
noncomputable def F1(o:Op):V:=.tup L [.str o.tag,.int o.i,.int o.k,.int o.j,.int o.m]
noncomputable def Tw:AX->AD O|.ofNat n=>G n|_=>L
noncomputable def cM(v:V):AD Op:=FT v L λc l=>oN c L<|lC l L λt l=>lC l L λi l=>lC l L λk l=>l2 l L λj m=>vStr t L λt=>vInt i L λi=>vInt k L λk=>vInt j L λj=>vInt m L λm=>B' (Tw i) λi=>B' (Tw k) λk=>B' (Tw j) λj=>B' (Tw m) λm=>G ⟨t,i,k,j,m⟩
noncomputable def Wz:I V->AD (I Op)
 |[]=>G []|v::l=>B' (cM v) λo=>B' (Wz l) λm=>G (o::m)
theorem X'{i:AX}(h:Tw i=G n):i=n:=by cases i<;>cases h;rfl
theorem ay5{o:Op}(h:cM v=G o):v=F1 o:=by
 apply IL h AF;intro c l h;apply GP h AF;intro h;apply FS h AF;intro t l h;apply FS h AF;intro i l h;apply FS h AF;intro k l h;apply Hk h AF;intro j m h;apply Dc h AF;intro t h;apply Cv h AF;intro i h;apply Cv h AF;intro k h;apply Cv h AF;intro j h;apply Cv h AF;intro m h;refine BI h λi' h1 h=>BI h λk' h2 h=>BI h λj' h3 h=>BI h λm' h4 h=>?_;rw[<-Bl h,X' h1,X' h2,X' h3,X' h4];rfl
theorem ay6{l:I V}:∀{m:I Op},Wz l=G m->l=m.map F1:=by induction l with
 |nil=>intro m h;rw[<-Bl h];rfl|cons v l ih=>exactλh=>BI (x:=cM v) h λo h1 h=>BI h λm' h2 h=>by rw[<-Bl h,ay5 h1,ih h2];rfl
noncomputable def ay7:Tx:=[101,113,117,97,108]
noncomputable def Ik(o:Op):I (I Tx):=match CU o.tag ay7 with
 |true=>[]|false=>[[o.tag,W0 o.i (o.k-o.i),W0 o.j (o.m-o.j)]]
noncomputable def cN(a b:I Tx):AK:=all2 CU a b
noncomputable def cO(a b:I (I Tx)):AK:=all2 cN a b
theorem nc{a b:I Tx}(h:cN a b=M):a=b:=Nm (λ_ _=>Eb.mp) a b h
theorem ay8{a b:I (I Tx)}(h:cO a b=M):a=b:=Nm (λ_ _=>nc) a b h
noncomputable def KN:I Op:=[⟨[100,101,108,101,116,101],0,1,0,0⟩,⟨[100,101,108,101,116,101],0,2,0,0⟩,⟨[100,101,108,101,116,101],0,3,0,0⟩,⟨[100,101,108,101,116,101],0,4,0,0⟩,⟨[100,101,108,101,116,101],0,6,0,0⟩,⟨[100,101,108,101,116,101],1,2,1,1⟩,⟨[100,101,108,101,116,101],1,2,2,2⟩,⟨[100,101,108,101,116,101],1,2,3,3⟩,⟨[100,101,108,101,116,101],1,2,4,4⟩,⟨[100,101,108,101,116,101],1,3,1,1⟩,⟨[100,101,108,101,116,101],1,3,2,2⟩,⟨[100,101,108,101,116,101],1,4,1,1⟩,⟨[100,101,108,101,116,101],1,4,2,2⟩,⟨[100,101,108,101,116,101],1,6,1,1⟩,⟨[100,101,108,101,116,101],1,6,2,2⟩,⟨[100,101,108,101,116,101],2,3,1,1⟩,⟨[100,101,108,101,116,101],2,3,2,2⟩,⟨[100,101,108,101,116,101],2,3,3,3⟩,⟨[100,101,108,101,116,101],2,3,4,4⟩,⟨[100,101,108,101,116,101],3,6,2,2⟩,⟨[100,101,108,101,116,101],3,6,3,3⟩,⟨[100,101,108,101,116,101],3,6,4,4⟩,⟨[100,101,108,101,116,101],4,6,3,3⟩,⟨[101,113,117,97,108],0,1,0,1⟩,⟨[101,113,117,97,108],0,1,1,2⟩,⟨[101,113,117,97,108],0,1,2,3⟩,⟨[101,113,117,97,108],0,1,3,4⟩,⟨[101,113,117,97,108],0,2,0,2⟩,⟨[101,113,117,97,108],0,2,1,3⟩,⟨[101,113,117,97,108],0,2,2,4⟩,⟨[101,113,117,97,108],0,3,0,3⟩,⟨[101,113,117,97,108],0,3,1,4⟩,⟨[101,113,117,97,108],0,4,0,4⟩,⟨[101,113,117,97,108],1,2,0,1⟩,⟨[101,113,117,97,108],1,2,1,2⟩,⟨[101,113,117,97,108],1,2,2,3⟩,⟨[101,113,117,97,108],1,2,3,4⟩,⟨[101,113,117,97,108],1,3,0,2⟩,⟨[101,113,117,97,108],1,3,1,3⟩,⟨[101,113,117,97,108],1,3,2,4⟩,⟨[101,113,117,97,108],1,4,0,3⟩,⟨[101,113,117,97,108],2,3,0,1⟩,⟨[101,113,117,97,108],2,3,1,2⟩,⟨[101,113,117,97,108],2,3,2,3⟩,⟨[101,113,117,97,108],2,3,3,4⟩,⟨[101,113,117,97,108],2,4,0,2⟩,⟨[101,113,117,97,108],2,4,1,3⟩,⟨[101,113,117,97,108],2,4,2,4⟩,⟨[101,113,117,97,108],3,4,0,1⟩,⟨[101,113,117,97,108],5,6,5,6⟩,⟨[105,110,115,101,114,116],0,0,0,1⟩,⟨[105,110,115,101,114,116],0,0,0,2⟩,⟨[105,110,115,101,114,116],0,0,0,3⟩,⟨[105,110,115,101,114,116],0,0,0,4⟩,⟨[105,110,115,101,114,116],0,0,0,6⟩,⟨[105,110,115,101,114,116],1,1,1,2⟩,⟨[105,110,115,101,114,116],1,1,1,3⟩,⟨[105,110,115,101,114,116],1,1,1,4⟩,⟨[105,110,115,101,114,116],1,1,1,6⟩,⟨[105,110,115,101,114,116],1,1,2,3⟩,⟨[105,110,115,101,114,116],2,2,1,2⟩,⟨[105,110,115,101,114,116],2,2,2,3⟩,⟨[105,110,115,101,114,116],2,2,2,4⟩,⟨[105,110,115,101,114,116],2,2,3,4⟩,⟨[105,110,115,101,114,116],2,2,3,6⟩,⟨[105,110,115,101,114,116],3,3,1,2⟩,⟨[105,110,115,101,114,116],3,3,2,3⟩,⟨[105,110,115,101,114,116],3,3,3,4⟩,⟨[105,110,115,101,114,116],3,3,4,6⟩,⟨[105,110,115,101,114,116],4,4,1,2⟩,⟨[105,110,115,101,114,116],4,4,2,3⟩,⟨[114,101,112,108,97,99,101],0,1,0,1⟩,⟨[114,101,112,108,97,99,101],0,1,0,2⟩,⟨[114,101,112,108,97,99,101],0,1,0,3⟩,⟨[114,101,112,108,97,99,101],0,1,0,4⟩,⟨[114,101,112,108,97,99,101],0,2,0,1⟩,⟨[114,101,112,108,97,99,101],0,2,0,2⟩,⟨[114,101,112,108,97,99,101],0,2,0,4⟩,⟨[114,101,112,108,97,99,101],0,3,0,1⟩,⟨[114,101,112,108,97,99,101],1,2,1,2⟩,⟨[114,101,112,108,97,99,101],1,2,1,3⟩,⟨[114,101,112,108,97,99,101],1,2,1,6⟩,⟨[114,101,112,108,97,99,101],1,2,2,3⟩,⟨[114,101,112,108,97,99,101],1,2,2,4⟩,⟨[114,101,112,108,97,99,101],1,2,3,6⟩,⟨[114,101,112,108,97,99,101],1,3,3,4⟩,⟨[114,101,112,108,97,99,101],1,3,4,6⟩,⟨[114,101,112,108,97,99,101],2,3,1,2⟩,⟨[114,101,112,108,97,99,101],2,4,3,4⟩,⟨[114,101,112,108,97,99,101],2,4,4,6⟩,⟨[114,101,112,108,97,99,101],3,6,1,2⟩,⟨[114,101,112,108,97,99,101],4,5,4,5⟩,⟨[114,101,112,108,97,99,101],4,6,3,4⟩]
noncomputable def cP(a b:Op):AK:=CU a.tag b.tag&&BC a.i b.i&&BC a.k b.k&&BC a.j b.j&&BC a.m b.m
noncomputable def cQ(o:Op)(l:I Op):AK:=l.any (cP o)
theorem ay9{a b:Op}(h:cP a b=M):a=b:=by
 obtain⟨a1,a2,a3,a4,bV9⟩:=a;obtain⟨b1,b2,b3,bW0,bW1⟩:=b;simp only[cP,D6]at h;rw[Eb.mp h.1.1.1.1,CD h.1.1.1.2,CD h.1.1.2,CD h.1.2,CD h.2]
theorem az0{o:Op}{l:I Op}(h:cQ o l=M):o∈l:=AC (ID.mp h) λ_ m e=>ay9 e▸m
noncomputable def nf(sc:BU)(a b:Tx):A0:=ev FL 300 ⟨sc,20⟩ (.call (.top (.ref 242)) [.none,.str a,.str b]) ⟨[],[],0⟩
noncomputable def Ml:U:=⟨⟨[103,101,116,95,111,112,99,111,100,101,115]⟩⟩
noncomputable def ng(sc:BU)(i:O)(H:Mine.St):A0:=ev FL 300 ⟨sc,20⟩ (.HT (.fn 210) (.ref i) Ml []) H
noncomputable def cR(k:MK)(d:J)(f:O->J):J:=match k with|.fn a=>f a|.str=>d|.lst=>d|.Ez=>d|.tup=>d
theorem az1{k:MK}{d:J}{f:O->J}{r:J}(h:cR k d f=r)(hd:d=r->Bi){P:MK->Prop}(c:∀a,f a=r->P (.fn a)):P k:=by cases k with
 |fn a=>exact c a h|_=>exact(hd h).elim
noncomputable def nh(o:A0)(ro:O->Mine.St->A0)(a b:Tx):AK:=K2 o A6 λv H=>DN v A6 λi=>l0 H.env A6<|oS (QA CQ (.ref i) Ml H.h) A6 λk=>cR k A6 λm=>bT (BC m 210) A6<|K2 (ro i H) A6 λv Bc=>DN v A6 λj=>oS (AL Bc.h j) A6 λob=>EI ob A6 λl=>oS (Wz l) A6 λCN=>CN.all (λo=>cQ o KN)&&(cO (CN.flatMap Ik) (C8 a b)&&EP CN.length 15)
noncomputable def Il(sc:BU)(a b:Tx):AK:=nh (nf sc a b) (ng sc) a b
theorem az2(sc:BU):((Bn M).all λb=>Il sc [] b)=M:=by kernel_rfl
theorem az3(sc:BU):((Bn M).all λb=>Il sc [120] b)=M:=by kernel_rfl
theorem az4(sc:BU):((Bn M).all λb=>Il sc [120,121] b)=M:=by kernel_rfl
theorem az5(sc:BU):((Bn M).all λb=>Il sc [121,120] b)=M:=by kernel_rfl
theorem az6(sc:BU):((Bn M).all λb=>Il sc [120,121,122] b)=M:=by kernel_rfl
theorem az7(sc:BU):((Bn M).all λb=>Il sc [122,120,121] b)=M:=by kernel_rfl
theorem az8(sc:BU):((Bn M).all λb=>Il sc [121,121] b)=M:=by kernel_rfl
theorem az9(sc:BU):((Bn M).all λb=>Il sc [120,122,120,121] b)=M:=by kernel_rfl
theorem aA0(sc:BU):((Bn M).all λb=>Il sc [120,118,121,122,117,119] b)=M:=by kernel_rfl
theorem aA1(sc:BU):((Bn M).all λb=>Il sc [118,121,122] b)=M:=by kernel_rfl
theorem aA2(sc:BU):((Bn M).all λb=>Il sc [120,120] b)=M:=by kernel_rfl
theorem aA3{a b:Tx}(ha:a∈Bn A6)(hb:b∈Bn M)(sc:BU):Il sc a b=M:=by
 simp only[Bn,Ck,Jp,Jq]at ha;rcases ha with rfl|rfl|rfl|rfl|rfl|rfl|rfl|rfl|rfl|rfl|rfl;. exact Bq.mp (az2 sc) b hb
 . exact Bq.mp (az3 sc) b hb
 . exact Bq.mp (az4 sc) b hb
 . exact Bq.mp (az5 sc) b hb
 . exact Bq.mp (az6 sc) b hb
 . exact Bq.mp (az7 sc) b hb
 . exact Bq.mp (az8 sc) b hb
 . exact Bq.mp (az9 sc) b hb
 . exact Bq.mp (aA0 sc) b hb
 . exact Bq.mp (aA1 sc) b hb
 . exact Bq.mp (aA2 sc) b hb
theorem aA4{o:A0}{ro:O->Mine.St->A0}{a b:Tx}(h:nh o ro a b=M):∃(i:O)(AB:Mine.St)(j:O)(Bc:Mine.St)(CN:I Op),o=.ok (.v (.ref i)) AB/\AB.env=[]/\QA CQ (.ref i) Ml AB.h=G (.fn 210)/\ro i AB=.ok (.v (.ref j)) Bc/\AL Bc.h j=G (.list (CN.map F1))/\(∀o∈CN,o∈KN)/\CN.flatMap Ik=C8 a b/\CN.length<=15:=by
 refine Vy h B0 λv H hM h=>?_;revert hM;apply EH h B0;intro i h hM;obtain⟨env,hp,n⟩:=H;cases env with
 |cons _ _=>exact(B0 h).elim|nil=>
 have h:oS (QA CQ (.ref i) Ml hp) A6 (λk=>cR k A6 λm=>bT (BC m 210) A6<|K2 (ro i ⟨[],hp,n⟩) A6 λv Bc=>DN v A6 λj=>oS (AL Bc.h j) A6 λob=>EI ob A6 λl=>oS (Wz l) A6 λCN=>CN.all (λo=>cQ o KN)&&(cO (CN.flatMap Ik) (C8 a b)&&EP CN.length 15))=M:=h;refine VP h B0 λk hk h=>?_;revert hk;apply az1 h B0;intro m h hk;refine Ce h B0 λh2 h=>?_;have :=CD h2;clear h2;subst this;refine Vy h B0 λv Bc hO h=>?_;revert hO;apply EH h B0;intro j h hO;refine VP h B0 λob hl h=>?_;revert hl;apply IP h B0;intro l h hl;refine VP h B0 λCN ho h=>?_;rw[ay6 ho]at hl;exact⟨i,_,j,Bc,CN,hM,rfl,hk,hO,hl,(λo m=>az0 (Bq.mp (B1 h) o m)),ay8 (B1 (Ak h)),Dj (Ak (Ak h))⟩
theorem nk{a b:Tx}(ha:a∈Bn A6)(hb:b∈Bn M)(sc:BU):∃(i:O)(AB:Mine.St)(j:O)(Bc:Mine.St)(CN:I Op),nf sc a b=.ok (.v (.ref i)) AB/\AB.env=[]/\QA CQ (.ref i) Ml AB.h=G (.fn 210)/\ng sc i AB=.ok (.v (.ref j)) Bc/\AL Bc.h j=G (.list (CN.map F1))/\(∀o∈CN,o∈KN)/\CN.flatMap Ik=C8 a b/\CN.length<=15:=by exact aA4 (aA3 ha hb sc)
theorem Ci{p:J->Prop}{x y:I J}(h:∀o∈x,p o)(t:∀o∈y,p o):∀o∈x++y,p o:=λo m=>(Dp.mp m).elim (h o) (t o)
@[irreducible]noncomputable def Fw:As:=Ba 28
@[irreducible]noncomputable def X0:I As:=lC (Fi Fw) [] λ_ z1=>lC z1 [] λ_ z2=>lC z2 [] λ_ z3=>lC z3 [] λz4 z5=>G4 z4 [] λ_ _ b _ _=>l1 z5 [] λ_=>b
noncomputable def JU:U:=⟨⟨[110,117,109,98,101,114,115]⟩⟩
noncomputable def Mm:U:=⟨⟨[112,108,97,99,101,115]⟩⟩
noncomputable def Od:U:=⟨⟨[116,101,120,116,115]⟩⟩
noncomputable def Ql:U:=⟨⟨[116,114,101,101,115]⟩⟩
noncomputable def nmX:U:=⟨⟨[120]⟩⟩
noncomputable def EN:I Tx:=[[47,97,47,102],[47,97,47,98,47,103],[47,104],[47,97,47,98],[47,110,47,107],[47,97]]
noncomputable def KO:AK->I Tx
 |false=>[[47,97,47,102],[47,97,47,98,47,103],[47,104],[47,109],[47,107,47,112],[47,107,47,113]]|true=>[[47,97,47,102],[47,97,47,98],[47,104],[47,109],[47,110,47,107],[47,103,47,112],[47,103,47,113]]
noncomputable def Oe(A1:I Tx)(p:Tx):I Tx:=A1.filter (λq=>!K0 (p++[47]) (q++[47])&&!K0 (q++[47]) (p++[47]))++[p]
noncomputable def BM(w:Tx->V)(A1:I Tx):I (V×V):=A1.map λp=>(.str p,w p)
noncomputable def KP(w:Tx->V)(p:Tx)(v:V)(q:Tx):V:=match CU q p with|true=>v|false=>w q
noncomputable def Gx(rs:I V)(e0 e1:I (V×V)):Mine.St:=⟨[(JU,.ref 0),(Mm,.ref 1),(Od,.ref 2),(Ql,.ref 3)],[(0,.list rs),(1,.list (EN.map .str)),(2,.list (IJ.map .str)),(3,.list [.ref 4,.ref 5]),(4,.dict e0),(5,.dict e1)],6⟩
noncomputable def cS(r:O)(H:Mine.St):Mine.St:=⟨EZ H.env nmX (.IK 12 r),H.h,H.n⟩
noncomputable def X1(o:A0):AD Mine.St:=a5 o L λr H=>rF r L λf=>ju f L<|B' (AL H.h 0) λo0=>B' (AL H.h 1) λo1=>B' (AL H.h 2) λo2=>B' (AL H.h 3) λo3=>EI o0 L λrs=>EI o1 L λps=>EI o2 L λts=>EI o3 L λij=>l2 ij L λvi vj=>DN vi L λi=>DN vj L λj=>bC (BC i j) L<|B' (AL H.h i) λoi=>B' (AL H.h j) λoj=>FU oi L λe0=>FU oj L λe1=>B' (Ah H.env JU) λa=>B' (Ah H.env Mm) λb=>B' (Ah H.env Od) λc=>B' (Ah H.env Ql) λd=>G ⟨[(JU,a),(Mm,b),(Od,c),(Ql,d)],[(0,.list rs),(1,.list ps),(2,.list ts),(3,.list [.ref 4,.ref 5]),(4,.dict e0),(5,.dict e1)],6⟩
noncomputable def X2(r:O)(rs:I V)(e0 e1:I (V×V)):AD Mine.St:=X1 (ev FL 60 ⟨BV Fw,3⟩ (.ss X0) (cS r (Gx rs e0 e1)))
noncomputable def JV(A1:I Tx)(r:O):Prop:=∀(w:Tx->V)(rs:I V)(e:I (V×V)),X2 (2*r) rs (BM w A1) e=G (Gx rs (BM (KP w (EN.getD r []) .any) (Oe A1 (EN.getD r []))) e)
noncomputable def JW(A1:I Tx)(r:O):Prop:=∀(w:Tx->V)(rs:I V)(e:I (V×V)),X2 (2*r+1) rs e (BM w A1)=G (Gx rs e (BM (KP w (EN.getD r []) .any) (Oe A1 (EN.getD r []))))
noncomputable abbrev q0:Tx:=[47,97]
noncomputable abbrev q1:Tx:=[47,97,47,98]
noncomputable abbrev q2:Tx:=[47,97,47,98,47,103]
noncomputable abbrev q3:Tx:=[47,97,47,102]
noncomputable abbrev q4:Tx:=[47,103,47,112]
noncomputable abbrev q5:Tx:=[47,103,47,113]
noncomputable abbrev q6:Tx:=[47,104]
noncomputable abbrev q7:Tx:=[47,107,47,112]
noncomputable abbrev q8:Tx:=[47,107,47,113]
noncomputable abbrev q9:Tx:=[47,109]
noncomputable abbrev AY:Tx:=[47,110,47,107]
theorem Mn{l:I (I Tx)}(h:∀(w:Tx->V)(rs:I V)(e:I (V×V)),l.map (λA1=>(DT 6).map λr=>X2 (2*r) rs (BM w A1) e)=l.map (λA1=>(DT 6).map λr=>G (Gx rs (BM (KP w (EN.getD r []) .any) (Oe A1 (EN.getD r []))) e))):∀A1∈l,∀r∈DT 6,JV A1 r:=λA1 m r m' w rs e=>H3.mp (H3.mp (h w rs e) A1 m) r m'
theorem Mo{l:I (I Tx)}(h:∀(w:Tx->V)(rs:I V)(e:I (V×V)),l.map (λA1=>(DT 6).map λr=>X2 (2*r+1) rs e (BM w A1))=l.map (λA1=>(DT 6).map λr=>G (Gx rs e (BM (KP w (EN.getD r []) .any) (Oe A1 (EN.getD r [])))))):∀A1∈l,∀r∈DT 6,JW A1 r:=λA1 m r m' w rs e=>H3.mp (H3.mp (h w rs e) A1 m) r m'
noncomputable def nn:I (I Tx):=[[q2,q6,q9,q7,q8,q3],[q2,q6,q9,q7,q8,q3,AY],[q2,q6,q9,q7,q8,AY,q3],[q2,q9,q7,q8,q3,q6]]
theorem aA5:∀A1∈nn,∀r∈DT 6,JV A1 r:=Mn λw rs e=>by kernel_rfl
noncomputable def no:I (I Tx):=[[q2,q9,q7,q8,q6,q3],[q3,q2,q6,q9,q7,q8],[q3,q2,q6,q9,q7,q8,AY],[q3,q2,q9,q7,q8,q6]]
theorem aA6:∀A1∈no,∀r∈DT 6,JV A1 r:=Mn λw rs e=>by kernel_rfl
noncomputable def np:I (I Tx):=[[q3,q2,q9,q7,q8,q6,AY],[q3,q2,q9,q7,q8,AY,q6],[q3,q6,q9,q7,q8,q1],[q3,q6,q9,q7,q8,q1,AY]]
theorem aA7:∀A1∈np,∀r∈DT 6,JV A1 r:=Mn λw rs e=>by kernel_rfl
noncomputable def nq:I (I Tx):=[[q3,q6,q9,q7,q8,q2],[q3,q6,q9,q7,q8,q2,AY],[q3,q6,q9,q7,q8,AY,q1],[q3,q6,q9,q7,q8,AY,q2]]
theorem aA8:∀A1∈nq,∀r∈DT 6,JV A1 r:=Mn λw rs e=>by kernel_rfl
noncomputable def nr:I (I Tx):=[[q3,q9,q7,q8,q1,q6],[q3,q9,q7,q8,q2,q6],[q3,q9,q7,q8,q6,q1],[q3,q9,q7,q8,q6,q2]]
theorem aA9:∀A1∈nr,∀r∈DT 6,JV A1 r:=Mn λw rs e=>by kernel_rfl
noncomputable def nt:I (I Tx):=[[q6,q9,q7,q8,q0],[q6,q9,q7,q8,q0,AY],[q6,q9,q7,q8,q1],[q6,q9,q7,q8,q1,q3]]
theorem aB0:∀A1∈nt,∀r∈DT 6,JV A1 r:=Mn λw rs e=>by kernel_rfl
noncomputable def nu:I (I Tx):=[[q6,q9,q7,q8,q2],[q6,q9,q7,q8,q2,q3],[q6,q9,q7,q8,q3],[q6,q9,q7,q8,q3,q1]]
theorem aB1:∀A1∈nu,∀r∈DT 6,JV A1 r:=Mn λw rs e=>by kernel_rfl
noncomputable def nw:I (I Tx):=[[q6,q9,q7,q8,q3,q2],[q6,q9,q7,q8,AY,q0],[q9,q7,q8,q0,q6],[q9,q7,q8,q6,q0]]
theorem aB2:∀A1∈nw,∀r∈DT 6,JV A1 r:=Mn λw rs e=>by kernel_rfl
noncomputable def ny:I (I Tx):=[[q1,q6,q9,q4,q5,q3,AY],[q1,q6,q9,q4,q5,AY,q3],[q1,q6,q9,AY,q4,q5,q3],[q1,q9,AY,q4,q5,q3,q6]]
theorem aB3:∀A1∈ny,∀r∈DT 6,JW A1 r:=Mo λw rs e=>by kernel_rfl
noncomputable def o4:I (I Tx):=[[q1,q9,AY,q4,q5,q6,q3],[q3,q1,q6,q9,q4,q5,AY],[q3,q1,q6,q9,AY,q4,q5],[q3,q1,q9,q4,q5,q6,AY]]
theorem aB4:∀A1∈o4,∀r∈DT 6,JW A1 r:=Mo λw rs e=>by kernel_rfl
noncomputable def o5:I (I Tx):=[[q3,q1,q9,q4,q5,AY,q6],[q3,q1,q9,AY,q4,q5,q6],[q3,q6,q9,q4,q5,q1,AY],[q3,q6,q9,q4,q5,q2,AY]]
theorem aB5:∀A1∈o5,∀r∈DT 6,JW A1 r:=Mo λw rs e=>by kernel_rfl
noncomputable def o6:I (I Tx):=[[q3,q6,q9,q4,q5,AY,q1],[q3,q6,q9,q4,q5,AY,q2],[q3,q6,q9,AY,q4,q5,q1],[q3,q6,q9,AY,q4,q5,q2]]
theorem aB6:∀A1∈o6,∀r∈DT 6,JW A1 r:=Mo λw rs e=>by kernel_rfl
noncomputable def o7:I (I Tx):=[[q3,q9,AY,q4,q5,q1,q6],[q3,q9,AY,q4,q5,q2,q6],[q3,q9,AY,q4,q5,q6,q1],[q3,q9,AY,q4,q5,q6,q2]]
theorem aB7:∀A1∈o7,∀r∈DT 6,JW A1 r:=Mo λw rs e=>by kernel_rfl
noncomputable def o8:I (I Tx):=[[q6,q9,q4,q5,q0,AY],[q6,q9,q4,q5,AY,q0],[q6,q9,AY,q4,q5,q0],[q6,q9,AY,q4,q5,q1]]
theorem aB8:∀A1∈o8,∀r∈DT 6,JW A1 r:=Mo λw rs e=>by kernel_rfl
noncomputable def o9:I (I Tx):=[[q6,q9,AY,q4,q5,q1,q3],[q6,q9,AY,q4,q5,q2],[q6,q9,AY,q4,q5,q2,q3],[q6,q9,AY,q4,q5,q3]]
theorem aB9:∀A1∈o9,∀r∈DT 6,JW A1 r:=Mo λw rs e=>by kernel_rfl
noncomputable def oA:I (I Tx):=[[q6,q9,AY,q4,q5,q3,q1],[q6,q9,AY,q4,q5,q3,q2],[q9,AY,q4,q5,q0,q6],[q9,AY,q4,q5,q6,q0]]
theorem aC0:∀A1∈oA,∀r∈DT 6,JW A1 r:=Mo λw rs e=>by kernel_rfl
section
variable{J:I A8}
theorem aC1{fn:Fn}{o:Bm}(ok:FnAt B a fn o fd){b:I (U×V)}(hb:JE fn args=G b)(hd:K.d=d+1)(hf:f=.next/\v=.none\/f=.ret v)(D:∀{F:Fm}{A:CK}{C:I A8}{s:AR}{C4:I Gf},F.outs=F.env::C4->F.env.frame=G F.env.locals->Gd B F ⟨fn.sc,d⟩ A ⟨b,H.h,H.n⟩ C s->CJ B F ⟨fn.sc,d⟩ A AB C s (Iz fn.body F.env) (FR f))(g:Gd B F K A H C s)(rs:Aa s.heap C args us):Ae B F K A ⟨H.env,AB.h,AB.n⟩ C s (CE (.ref a) us) (RV v):=λA2 E k=>HN (aT ok hb hd hf D g rs λu AT s' g' x' r'=>k u AT s' g' x' r')
theorem oB{fn:Fn}{o:Bm}(ok:FnAt B a fn o fd){b:I (U×V)}(hb:JE fn args=G b)(hd:K.d=d+1)(hf:f=.next/\v=.none\/f=.ret v)(D:∀{F:Fm}{A:CK}{C:I A8}{s:AR},Gd B F ⟨fn.sc,d⟩ A ⟨b,H.h,H.n⟩ C s->CJ B F ⟨fn.sc,d⟩ A AB C s (Iz fn.body F.env) (FR f))(g:Gd B F K A H C s)(rs:Aa s.heap C args us):Ae B F K A ⟨H.env,AB.h,AB.n⟩ C s (CE (.ref a) us) (RV v):=λA2 E k=>HN (aT ok hb hd hf (λ_ _ g=>D g) g rs λu AT s' g' x' r'=>k u AT s' g' x' r')
structure cU(H DI AB A7:Mine.St)(B7:I O):Prop where
 env:A7.env=AB.env.map (Qj (DJ H.n B7))le:DI.n<=AB.n
 n:A7.n=H.n+(AB.n-DI.n)obs:∀i o,AL A7.h i=G o->(∃j LP,AL AB.h j=G LP/\i=DJ H.n B7 j/\o=DS (DJ H.n B7) LP)\/(AL H.h i=G o/\i∉B7)
theorem Cf.DV(Di:∀j,AZ[j]?=Au[B9 j]?){env:I (U×V)}:Cf F h AZ env↔Cf F h Au (env.map (Qj B9)):=by
 refine HO λm=>uG λ_=>uG λ_=>?_;have key:∀x v,(∃u,Sx F h m x u/\VR h AZ v u)↔∃u,Sx F h m x u/\VR h Au (E6 B9 v) u:=λx v=>HO λu=>uG λ_=>VR.DV Di;constructor
 . intro q x v e f;rw[Tq]at e;refine AC (uE.mp e) ?_;intro w e' BJ;exact BJ▸(key x w).mp (q x w e' f)
 . intro q x v e f;exact(key x v).mpr (q x _ (by rw[Tq,e];rfl) f)
theorem Gd.oC(g:Gd B F K A H C s)(AG:Sub H DI B7)(g':Gd B F K' A AB AT s')(x:Nx F.D F.A_ s.heap s'.heap (C' C B7) AT)(BL:cU H DI AB A7 B7):∃J,AT=C' C B7++J/\Gd B F K A A7 (C++J) s'/\Nx F.D F.A_ s.heap s'.heap C (C++J):=by
 refine AC x.pre ?_;intro J BP GA;subst BP;have hz:(C' C B7).length=B7.length:=by simp[C']
 have Tf:=g'.len;rw[FC,hz,AG.len]at Tf;have hx:Nx F.D F.A_ s.heap s'.heap C (C++J):=⟨⟨J,rfl,GA⟩,x.live,x.Bw,λb o e n m=>x.same b o e (λz=>n (LO g.len AG.lt z)) m⟩;have Er:=GI (C:=C) (J:=J) g.len AG.lt;have nd:=g'.nodup;rw[I9]at nd;refine⟨J,rfl,⟨g.kinds,by rw[FC,g.len,BL.n];(with_reducible exact Mine.v9 (by assumption)),?_,?_,?_,?_,?_,?_,?_,g'.base,g'.os,g'.gens,g.frames,g'.DP,?_,g.mods,g.handled,g.depth,g.units⟩,hx⟩
 . refine I9.mpr ⟨g.nodup,nd.2.1,λa ha b hb e=>?_⟩;subst e;refine xE (g.live a ha) ?_;intro o e;rw[GA a hb]at e;exact(BE e).elim
 . intro a m;rcases Dp.mp m with m|m;. exact g.fresh a m
   . exact g'.fresh a (Pe _ m)
 . intro a m;rcases Dp.mp m with m|m;. refine xE (g.live a m) ?_;intro o e;exact x.live a o e
   . exact g'.live a (Pe _ m)
 . intro a m;refine II (g.D5 a m) ?_;intro h1 h2 o h3;refine⟨h1,λz=>?_,x.live a o h3⟩;rcases Dp.mp z with z|z;. exact h2 z
   . rw[GA a z]at h3;exact(BE h3).elim
 . intro c m;refine H6 (g.D2 c m) ?_;intro h2 o h3;refine⟨λz=>?_,x.live _ o h3⟩;rcases Dp.mp z with z|z;. exact h2 z
   . rw[GA _ z]at h3;exact(BE h3).elim
 . intro i o e;rcases BL.obs i o e with Bg|Bu;refine Bv Bg ?_;(try clear Bg);intro j LP ej C9 Cn;subst C9;subst Cn;rotate_left;refine xA Bu ?_;(try clear Bu);intro e hi;rotate_left
   . refine AC (g'.objs j LP ej) ?_;intro a ha r;exact⟨a,by rw[<-Er];exact ha,(Ca.DV Er).mp r⟩
   . refine AC (g.objs i o e) ?_;intro a ha r;refine⟨a,FX ha,r.mono x.Bw λy ey=>x.keep a y ey (λz=>hi ?_) (λz=>(g.D5 a z).2.1 (Ev ha)) (λz=>absurd (Ev ha) (g.Cz a z).1)⟩;refine AC (E'.mp z) ?_;intro j hj e';have h1:j<C.length:=by rw[g.len];exact AG.lt j hj
     have h2:C[j]?=G a:=by rw[<-e'];simp[Kn,h1]
     have :j=i:=(RQ h1 g.nodup).mp (h2.trans ha.symm);exact this▸hj
 . rw[BL.env];exact(Cf.DV Er).mp g'.env
 . intro A1 m;refine G5 (g.Cz A1 m) ?_;intro h1 h2 _;refine⟨λz=>?_,h2,(g'.Cz A1 m).2.2⟩;rcases Dp.mp z with z|z;. exact h1 z
   . exact(g'.Cz A1 m).1 (Pe _ z)
theorem aC2{t:Dy HM}(hf:∀{h:BK}{C:I A8}{u:HM},FR f h C u->∀Q AT,FR f Q AT u)(Oc:∀{C:I A8}{s:AR},Gd B F ⟨K.sc,d⟩ A DI C s->CJ B F ⟨K.sc,d⟩ A AB C s t (FR f))(hd:d<=K.d)(g:Gd B F K A H C s)(AG:Sub H DI B7)(he:Cf F s.heap (C' C B7) DI.env)(BL:cU H DI AB A7 B7):CJ B F K A A7 C s t (FR f):=by
 intro A2 E k;refine Oc (g.sub AG hd he) A2 E λu AT s' g' x' r'=>?_;refine CZ (g.oC AG g' x' BL) ?_;intro J Bp gg xx;clear g' x';subst Bp;exact k u _ s' gg xx (hf r' _ _)
end
section
variable{J:I A8}
theorem Cf.pick(Di:∀j,AZ[j]?=Au[B9 j]?){env:I (U×V)}(x:Cf F h Au env)(hs:∀x v,Ah K5 x=G v->Ah env x=G (E6 B9 v)):Cf F h AZ K5:=by
 refine(Cf.DV Di).mpr ?_;refine CZ x ?_;(try clear x);intro m ns ce r;refine⟨m,ns,ce,λy v e f=>?_⟩;rw[Tq]at e;refine AC (uE.mp e) ?_;intro w e' Aw;clear e;subst Aw;exact r y _ (hs y w e') f
theorem Gd.pick(g:Gd B F K A H C s)(AG:Sub H DI B7)(hs:∀x v,Ah DI.env x=G v->Ah H.env x=G (E6 (DJ H.n B7) v)):Gd B F K A DI (C' C B7) s:=by
 have cH:∀j,(C' C B7)[j]?=C[DJ H.n B7 j]?:=λj=>by
  have :=GI (J:=[]) g.len AG.lt j;simpa using this
 exact g.sub AG (DE _) (Cf.pick cH g.env hs)
theorem oE{o:A0}{rs:I V}{e0 e1:I (V×V)}(h:X1 o=G (Gx rs e0 e1)){P:Prop}(c:∀(H:Mine.St)(i j:O),o=.ok (.f .next) H->i≠j->AL H.h 0=G (.list rs)->AL H.h 1=G (.list (EN.map .str))->AL H.h 2=G (.list (IJ.map .str))->AL H.h 3=G (.list [.ref i,.ref j])->AL H.h i=G (.dict e0)->AL H.h j=G (.dict e1)->Ah H.env JU=G (.ref 0)->Ah H.env Mm=G (.ref 1)->Ah H.env Od=G (.ref 2)->Ah H.env Ql=G (.ref 3)->P):P:=by
 revert c;apply jv h AF;intro r H h;apply xH h AF;intro f h;apply xI h AF;intro h;refine BI h λo0 h0 h=>BI h λo1 h1 h=>BI h λo2 h2 h=>BI h λo3 h3 h=>?_;revert h0 h1 h2 h3;apply IP h AF;intro Fs h;apply IP h AF;intro ps h;apply IP h AF;intro ts h;apply IP h AF;intro ij h;apply Hk h AF;intro vi vj h;apply EH h AF;intro i h;apply EH h AF;intro j h h0 h1 h2 h3;refine Ea h (λ_ h=>(AF h).elim) λQe h=>BI h λoi hi h=>BI h λoj hj h=>?_;revert hi hj;apply JA h AF;intro e0' h;apply JA h AF;intro bX h hi hj;refine BI h λa ha h=>BI h λb hb h=>BI h λc hc h=>BI h λd hd h=>?_;have q:=Bl h;intro k;exact k H i j rfl (λe=>by rw[e,Iy]at Qe;(exfalso;cases Qe)) (h0.trans (congrArg (λs:Mine.St=>AL s.h 0) q:G (Ob.list Fs)=G (.list rs))) (h1.trans (congrArg (λs:Mine.St=>AL s.h 1) q:G (Ob.list ps)=G (.list (EN.map .str)))) (h2.trans (congrArg (λs:Mine.St=>AL s.h 2) q:G (Ob.list ts)=G (.list (IJ.map .str)))) h3 (hi.trans (congrArg (λs:Mine.St=>AL s.h 4) q:G (Ob.dict e0')=G (.dict e0))) (hj.trans (congrArg (λs:Mine.St=>AL s.h 5) q:G (Ob.dict bX)=G (.dict e1))) (ha.trans (congrArg (λs:Mine.St=>Ah s.env JU) q:G a=G (.ref 0))) (hb.trans (congrArg (λs:Mine.St=>Ah s.env Mm) q:G b=G (.ref 1))) (hc.trans (congrArg (λs:Mine.St=>Ah s.env Od) q:G c=G (.ref 2))) (hd.trans (congrArg (λs:Mine.St=>Ah s.env Ql) q:G d=G (.ref 3)))
noncomputable def Cl(v:V):Prop:=∀B9,E6 B9 v=v
theorem Im(g:Gd B F K A H C s)(e:AL H.h i=G o):i<H.n:=by
 refine AC (g.objs i o e) ?_;intro a ha _;refine xE (HJ.mp ha) ?_;intro h _;rw[<-g.len];exact h
theorem cV:∀{l:I V},(∀v∈l,Cl v)->Cs B9 l=l
 |[],_=>rfl|v::l,h=>by
  simp only[Cs];rw[h v (Cp ..) B9,cV λw m=>h w (Cq _ m)]
theorem KQ{l:I (V×V)}(h:∀e∈l,Cl e.2):l.map (JR B9)=l:=by induction l with
 |nil=>rfl|cons e l ih=>
 rw[J',ih λx m=>h x (Cq _ m)];unfold JR;rw[h e (Cp ..) B9]
theorem aC3{rs:I V}{e0 e1:I (V×V)}(hr:∀v∈rs,Cl v)(h0:∀e∈e0,Cl e.2)(h1:∀e∈e1,Cl e.2)(g:Gd B F K A H C s)(h:X1 (.ok (.f .next) H)=G (Gx rs e0 e1)):∃i j,Gd B F K A (Gx rs e0 e1) (C' C [0,1,2,3,i,j]) s/\(∀k∈[0,1,2,3,i,j],k<H.n)/\[0,1,2,3,i,j].Nodup:=by
 refine oE h ?_;intro Bc i j q Qe a0 a1 a2 a3 ai aj b0 b1 b2 b3;injection q with _ q;subst q;have ni:i≠0/\i≠1/\i≠2/\i≠3:=by refine⟨?_,?_,?_,?_⟩<;>(rintro rfl;simp_all)
 have nj:j≠0/\j≠1/\j≠2/\j≠3:=by refine⟨?_,?_,?_,?_⟩<;>(rintro rfl;simp_all)
 have lt:∀k∈[0,1,2,3,i,j],k<H.n:=by
  intro k hk;simp only[Ck,Jp,Jq]at hk;rcases hk with rfl|rfl|rfl|rfl|rfl|rfl;. exact Im g a0
  . exact Im g a1
  . exact Im g a2
  . exact Im g a3
  . exact Im g ai
  . exact Im g aj
 have nd:[0,1,2,3,i,j].Nodup:=by
  refine M6 ni ?_;(try clear ni);intro p0 p1 p2 p3;refine M6 nj ?_;(try clear nj);intro bW2 r1 r2 r3;simp[ET,CX p0,CX p1,CX p2,CX p3,CX bW2,CX r1,CX r2,CX r3,Qe]
 refine⟨i,j,g.pick ⟨rfl,nd,lt,λk o e=>?_⟩ λx v e=>?_,lt,nd⟩;. match k,e with
 |0,e=>injection e with e;subst e;exact⟨0,rfl,by rw[a0];show _=G (Ob.list (Cs _ rs));rw[cV hr]⟩|1,e=>injection e with e;subst e;exact⟨1,rfl,by rw[a1];show _=G (Ob.list (Cs _ (EN.map .str)));rw[LN]⟩|2,e=>injection e with e;subst e;exact⟨2,rfl,by rw[a2];show _=G (Ob.list (Cs _ (IJ.map .str)));rw[LN]⟩|3,e=>injection e with e;subst e;exact⟨3,rfl,a3⟩|4,e=>injection e with e;subst e;exact⟨i,rfl,by rw[ai];show _=G (Ob.dict (e0.map _));rw[KQ h0]⟩|5,e=>injection e with e;subst e;exact⟨j,rfl,by rw[aj];show _=G (Ob.dict (e1.map _));rw[KQ h1]⟩|k+6,e=>exact(BE e).elim
 . exact(show∀p∈(Gx rs e0 e1).env,Ah H.env p.1=G (E6 (DJ H.n [0,1,2,3,i,j]) p.2)from all_cons b0 (all_cons b1 (all_cons b2 (all_cons b3 EC)))) _ (FF e)
noncomputable def E7(rs:I O):I V:=rs.map (V.IK 12)
theorem oF:∀v∈E7 rs,Cl v:=λv m=>by
 refine AC (E'.mp m) ?_;intro r _ DW;clear m;subst DW;exactλ_=>rfl
structure Tr where
 L0:I Tx
 w0:Tx->V
 L1:I Tx
 w1:Tx->V
noncomputable def Tr.st(T:Tr)(rs:I V):Mine.St:=Gx rs (BM T.w0 T.L0) (BM T.w1 T.L1)
noncomputable def Tr.turn(T:Tr)(r:O):Tr:=match BC (r%2) 0 with
 |true=>⟨Oe T.L0 (EN.getD (r/2) []),KP T.w0 (EN.getD (r/2) []) .any,T.L1,T.w1⟩|false=>⟨T.L0,T.w0,Oe T.L1 (EN.getD (r/2) []),KP T.w1 (EN.getD (r/2) []) .any⟩
structure Tr.Cl(T:Tr):Prop where
 c0:∀p,Mine.Cl (T.w0 p)c1:∀p,Mine.Cl (T.w1 p)
theorem oG{w:Tx->V}{p:Tx}(h:∀p,Cl (w p)):∀q,Cl (KP w p .any q):=λq=>by
 unfold KP;split;. exactλ_=>rfl
 . exact h q
theorem Tr.Cl.turn{T:Tr}(h:T.Cl)(r:O):(T.turn r).Cl:=by
 unfold Tr.turn;split;. exact⟨oG h.c0,h.c1⟩
 . exact⟨h.c0,oG h.c1⟩
theorem Mp{w:Tx->V}(h:∀p,Cl (w p)):∀e∈BM w A1,Cl e.2:=λe m=>by
 refine AC (E'.mp m) ?_;intro p _ Ec;clear m;subst Ec;exact h p
noncomputable def Tr.Known(T:Tr):Prop:=(∀r,r<6->JV T.L0 r)/\∀r,r<6->JW T.L1 r
theorem aC4{T:Tr}(h:T.Known)(hr:r<12)(rs:I V):X1 (ev FL 60 ⟨BV Fw,3⟩ (.ss X0) (cS r (T.st rs)))=G ((T.turn r).st rs):=by
 unfold Tr.turn;cases e:BC (r%2) 0 with
 |true=>
  have e:=CD e;have :=h.1 (r/2) (gL hr) T.w0 rs (BM T.w1 T.L1);rw[Nat.mul_div_cancel' (bv6 e)]at this;exact this|false=>
  have e:r%2=1:=by exact(Nat.mod_two_eq_zero_or_one r).resolve_left λz=>by rw[z]at e;(exfalso;cases e)
  have :=h.2 (r/2) (gL hr) T.w1 rs (BM T.w0 T.L0);rw[(congrArg (2*(r/2)+·) e.symm).trans (Nat.div_add_mod r 2)]at this;exact this
end
@[irreducible]noncomputable def cW:AA:=lC (Fi Fw) (.Constant .none 0 ⟨0,0,0,0⟩) λ_ z1=>lC z1 (.Constant .none 0 ⟨0,0,0,0⟩) λ_ z2=>lC z2 (.Constant .none 0 ⟨0,0,0,0⟩) λ_ z3=>lC z3 (.Constant .none 0 ⟨0,0,0,0⟩) λz4 z5=>G4 z4 (.Constant .none 0 ⟨0,0,0,0⟩) λt _ _ _ _=>l1 z5 (.Constant .none 0 ⟨0,0,0,0⟩) λ_=>t
theorem aC5(d r:O)(rs:I V)(e0 e1:I (V×V)):ev FL 60 ⟨BV Fw,d⟩ (.asg cW (.IK 12 r)) (Gx rs e0 e1)=.ok (.f .next) (cS r (Gx rs e0 e1)):=by kernel_rfl
section
variable{J:I A8}
theorem Gd.low(g:Gd B F K A H C s)(hd:d<=K.d):Gd B F ⟨K.sc,d⟩ A H C s:=⟨⟨g.kinds.fn,g.kinds.sc,g.kinds.kd,g.kinds.g3,g.kinds.b0,g.kinds.cells,g.kinds.IW,g.kinds.MO⟩,g.len,g.nodup,g.fresh,g.live,g.D5,g.D2,g.objs,g.env,g.base,g.os,g.gens,g.frames,g.DP,g.Cz,g.mods,g.handled,by have :=g.depth;show A.depth+3*d<900;(with_reducible exact Mine.yW (by assumption) (by assumption)),by have :=g.units;show A.units+10*d<9000;(with_reducible exact Mine.yW (by assumption) (by assumption))⟩
theorem Gd.lift(g:Gd B F K A H C s)(g':Gd B F ⟨K.sc,d⟩ A A7 AT s'):Gd B F K A A7 AT s':=⟨g.kinds,g'.len,g'.nodup,g'.fresh,g'.live,g'.D5,g'.D2,g'.objs,g'.env,g'.base,g'.os,g'.gens,g'.frames,g'.DP,g'.Cz,g'.mods,g'.handled,g.depth,g.units⟩
theorem oH(x:Nx AM A_ h Q [a0] C)(nd:C.Nodup)(hp:∀k∈0::B7,k<C.length)(hn:(0::B7).Nodup):Nx AM A_ h Q [a0] (C' C (0::B7)):=by
 refine AC x.pre ?_;intro J Aw GA;clear nd;subst Aw;refine⟨⟨C' ([a0]++J) B7,rfl,λb m=>?_⟩,x.live,x.Bw,x.same⟩;refine AC (E'.mp m) ?_;intro k hk B6;clear m;subst B6;have h0:k≠0:=λz=>(ET.mp hn).1 (z▸hk);have hl:=hp k (Cq _ hk);refine GA _ ?_;obtain⟨j,rfl⟩:∃j,k=j+1:=⟨k-1,by(with_reducible exact Mine.yI (fA (by assumption)))⟩;have hj:j<J.length:=by simpa using hl
 simp[Kn,hj]
theorem CM.pick(f:CM B F C h AE)(hl:C.length=n)(KL:∀i∈B7,i<n):CM B F (C' C B7) h AE:=⟨λz=>f.C (LO hl KL z),f.w,f.cells,f.base,f.outs,f.live⟩
theorem aC6(AV:(Bb P).In B.base)(AM:Df B)(hd:3<=d){AS:Dr->AR->Prop}(hI:Af.get? AE=L)(post:I O):∀(pre:I O)(T:Tr){C:I A8}{s:AR},(∀r∈post,r<12)->T.Cl->(∀Io Hy,post=Io++Hy->Hy≠[]->(Io.foldl Tr.turn T).Known)->Gd B F ⟨BV Fw,d⟩ A (T.st (E7 (pre++post))) C s->Nx F.D F.A_ Af s.heap [a0] C->CM B F C s.heap AE->E5 s.heap C (.lst 0) pre.length AE->(∀AT s',Gd B F ⟨BV Fw,d⟩ A ((post.foldl Tr.turn T).st (E7 (pre++post))) AT s'->Nx F.D F.A_ Af s'.heap [a0] AT->AS (.ok .next) s')->D7 (AQ B.prog B.w) A (.forLoop cW (.ref AE) X0 [] F.env) AS s:=by induction post with
 |nil=>
  intro pre T C s _ _ _ g Cr fr it k;have AP:IQ (.lst 0) pre.length (T.st (E7 (pre++[]))).h=G L:=by
    show G (Gp (E7 (pre++[])) pre.length)=_;rw[HV];simp[E7]
  refine MT (K7 g fr it AP (λx hx=>by exact(BE hx).elim) λhx Q tk AN DQ=>?_);exact k C _ AN (Cr.F0 DQ hI)|cons r post ih=>
  intro pre T C s hr hc hk g Cr fr it k;have AP:IQ (.lst 0) pre.length (T.st (E7 (pre++r::post))).h=G (G (.IK 12 r)):=by
    show G (Gp (E7 (pre++r::post)) pre.length)=_;rw[HV];simp[E7]
  have A9:=(Ts AV AM 60).s;refine MT (K7 g fr it AP (λx hx u Q tk AN DQ En Aq Ht=>?_) λhx=>by(exfalso;cases hx));injection hx with hx;subst hx;have L6:=Cr.F0 DQ hI;have ht:=aC4 (hk [] (r::post) rfl (by simp)) (hr r (Cp ..)) (E7 (pre++r::post));simp only[List.foldl_nil]at ht;refine oE ht λBc i j C3 _ _ _ _ _ _ _ _ _ _ _=>?_;rw[C3]at ht;refine QI Aq (A9.asg (aC5 d r _ _ _) AN Ht _ _ λ_ Au Ai AU Al _=>A9.ss C3 (AU.low hd) _ _ λMU BS Ax Ao B8 BQ=>?_);cases BQ;have xx:=Al.trans B8;have ED:=En.nx xx;have Gs:=Aq.nx xx En.C En.w;have Eo:=L6.trans xx;have GC:=hc.turn r;refine Bv (aC3 oF (Mp GC.c0) (Mp GC.c1) (AU.lift Ao) ht) ?_;intro i j CA lt nd;have e:pre++r::post=(pre++[r])++post:=by simp
  refine ih (pre++[r]) (T.turn r) (C:=C' BS [0,1,2,3,i,j]) (λq m=>hr q (Cq _ m)) GC (λIo Hy q z=>?_) (by rw[<-e];exact CA) (oH Eo Ao.nodup (by rw[Ao.len];exact lt) nd) (ED.pick Ao.len lt) ?_ (by rw[<-e];exact k);. exact hk (r::Io) Hy (by rw[q];rfl) z
  . refine AC Gs ?_;(try clear Gs);intro a ha hi;refine⟨a,?_,by rw[FC];exact hi⟩;have :=GI (J:=[]) Ao.len lt 0;simp only[HL]at this;rw[this];exact ha
end
@[irreducible]noncomputable def Ip(k:O):As:=(Fi Fw)[k]?.getD (.Pass ⟨0,0,0,0⟩)
@[irreducible]noncomputable def X3:AA:=G4 (Ip 3) (.Constant .none 0 ⟨0,0,0,0⟩) λ_ it _ _ _=>it
@[irreducible]noncomputable def aC7:BA:=G4 (Ip 3) ⟨0,0,0,0⟩ λ_ _ _ _ p=>p
theorem aC8:Fi Fw=[Ip 0,Ip 1,Ip 2,Ip 3,Ip 4]:=by kernel_rfl
theorem aC9:Ip 3=.For cW X3 X0 [] aC7:=by kernel_rfl
noncomputable def cX:AK->I Tx
 |false=>[[120,118,121,122,117,119],[120,120],[120,121],[118,121,122],[],[]]|true=>[[120,119,121,122,116,119],[],[121,120],[119,121,122,118],[120],[],[]]
noncomputable def Qm:I Tx->I Tx->Tx->V
 |p::A1,t::l,q=>match CU q p with|true=>.str t|false=>Qm A1 l q
 |_,_,_=>.any
noncomputable def KR(k:AK):Tx->V:=Qm (KO k) (cX k)
noncomputable def T0:Tr:=⟨KO A6,KR A6,KO M,KR M⟩
noncomputable def oI(rs:I V):Mine.St:=⟨[(JU,.ref 0),(Mm,.ref 1),(Od,.ref 2),(Ql,.ref 5)],[(5,.list [.ref 3,.ref 4]),(4,.dict (BM (KR M) (KO M))),(3,.dict (BM (KR A6) (KO A6))),(2,.list (IJ.map .str)),(1,.list (EN.map .str)),(0,.list rs)],6⟩
noncomputable def oJ(rs:I V):Mine.St:=⟨[(JU,.ref 0)],[(0,.list rs)],1⟩
noncomputable def oK(rs:I V):Mine.St:=⟨[(JU,.ref 0),(Mm,.ref 1)],[(1,.list (EN.map .str)),(0,.list rs)],2⟩
noncomputable def oM(rs:I V):Mine.St:=⟨[(JU,.ref 0),(Mm,.ref 1),(Od,.ref 2)],[(2,.list (IJ.map .str)),(1,.list (EN.map .str)),(0,.list rs)],3⟩
theorem aD0(d:O)(rs:I V):ev FL 60 ⟨BV Fw,d⟩ (.s (Ip 0)) (oJ rs)=.ok (.f .next) (oK rs):=by kernel_rfl
theorem aD1(d:O)(rs:I V):ev FL 60 ⟨BV Fw,d⟩ (.s (Ip 1)) (oK rs)=.ok (.f .next) (oM rs):=by kernel_rfl
theorem aD2(d:O)(rs:I V):ev FL 60 ⟨BV Fw,d⟩ (.s (Ip 2)) (oM rs)=.ok (.f .next) (oI rs):=by kernel_rfl
theorem aD3(d:O)(rs:I V)(e0 e1:I (V×V)):ev FL 60 ⟨BV Fw,d⟩ (.e X3) (Gx rs e0 e1)=.ok (.v (.ref 0)) (Gx rs e0 e1):=by kernel_rfl
theorem aD4(d:O)(rs:I V)(e0 e1:I (V×V)):ev FL 60 ⟨BV Fw,d⟩ (.s (Ip 4)) (Gx rs e0 e1)=.ok (.f (.ret (.ref 3))) (Gx rs e0 e1):=by kernel_rfl
@[irreducible]noncomputable def aD5:BA:=DM X3 ⟨0,0,0,0⟩ λ_ p=>p
theorem aD6:X3=.Name JU aD5:=by kernel_rfl
theorem Tz:∀{A1 l:I Tx}(p:Tx),Cl (Qm A1 l p)
 |[],_,_=>λ_=>rfl|_::_,[],_=>λ_=>rfl|q::A1,t::l,p=>by
  unfold Qm;split;. exactλ_=>rfl
  . exact Tz p
theorem oO:T0.Cl:=⟨λp=>Tz p,λp=>Tz p⟩
section
variable{J:I A8}
theorem aD7{rs:I V}(hr:∀v∈rs,Cl v)(g:Gd B F K A (oI rs) C s):Gd B F K A (T0.st rs) (C' C [0,1,2,5,3,4]) s:=by
 refine g.pick (DI:=T0.st rs) (B7:=[0,1,2,5,3,4]) ⟨rfl,by decide,by show∀i∈_,i<6;decide,λk o e=>?_⟩ λx v e=>?_;. match k,e with
 |0,e=>injection e with e;subst e;exact⟨0,rfl,by show G (Ob.list rs)=G (Ob.list (Cs _ rs));rw[cV hr]⟩|1,e=>injection e with e;subst e;exact⟨1,rfl,by show G (Ob.list (EN.map .str))=G (Ob.list (Cs _ (EN.map .str)));rw[LN]⟩|2,e=>injection e with e;subst e;exact⟨2,rfl,by show G (Ob.list (IJ.map .str))=G (Ob.list (Cs _ (IJ.map .str)));rw[LN]⟩|3,e=>injection e with e;subst e;exact⟨5,rfl,rfl⟩|4,e=>injection e with e;subst e;exact⟨3,rfl,by show G (Ob.dict (BM (KR A6) (KO A6)))=G (Ob.dict (bD7 _ (BM (KR A6) (KO A6))));rw[KQ (Mp (w:=KR A6) λp=>Tz p)]⟩|5,e=>injection e with e;subst e;exact⟨4,rfl,by show G (Ob.dict (BM (KR M) (KO M)))=G (Ob.dict (bD7 _ (BM (KR M) (KO M))));rw[KQ (Mp (w:=KR M) λp=>Tz p)]⟩|k+6,e=>exact(BE e).elim
 . exact T4 (f:=E6 _) (by rfl) e
theorem aD8(AV:(Bb P).In B.base)(AM:Df B)(hd:3<=d)(hr:∀r∈rs,r<12)(hk:∀Io Hy,rs=Io++Hy->Hy≠[]->(Io.foldl Tr.turn T0).Known)(g:Gd B F ⟨BV Fw,d⟩ A (oJ (E7 rs)) C s):CJ B F ⟨BV Fw,d⟩ A ((rs.foldl Tr.turn T0).st (E7 rs)) C s (Iz (Fi Fw) F.env) (FR (.ret (.ref 3))):=by
 intro A2 E k;have A9:=(Ts AV AM 60).s;rw[aC8];refine DH (A9.s (aD0 d _) g _ _ λu AZ AJ AN Ab Aq=>?_);cases Aq;refine DH (A9.s (aD1 d _) AN _ _ λu Au Ai AU Al BB=>?_);cases BB;refine DH (A9.s (aD2 d _) AU _ _ λu BS Ax Ao B8 BQ=>?_);cases BQ;obtain⟨a0,rfl⟩:∃a0,C=[a0]:=by
   have :=g.len;match C,this with|[a],_=>exact⟨a,rfl⟩
 have CA:=aD7 oF Ao;have nd:[0,1,2,5,3,4].Nodup:=by decide
 have D':=oH (Ab.trans (Al.trans B8)) Ao.nodup (B7:=[1,2,5,3,4]) (by rw[Ao.len];show∀k∈_,k<6;decide) nd;refine DH ?_;rw[aC9];refine Y2 (A9.eW (aD3 d _ _ _) CA _ _ λu QP Ef Co EK Ic=>OB Co Ic (it:=.lst 0) rfl λAE Q tk GZ GF hI cY cZ=>?_) ?_
 . have WC:s.heap.get? AE=L:=HA (D'.trans EK).live hI;refine aC6 AV AM hd WC rs [] T0 hr oO hk GZ ((D'.trans EK).trans GF.FY) cY cZ λbf bg Tg Qf=>?_;refine DH (A9.s (aD4 d _ _ _) Tg _ _ λu aD9 aE0 c_ aE1 X4=>?_);refine AC X4 ?_;(try clear X4);intro y Aw X4;subst Aw;exact k _ aD9 aE0 c_ (Qf.trans aE1) ⟨y,rfl,X4⟩
 . intro x;rw[aD6];kernel_rfl
end
noncomputable def oP:I (I Tx):=nn++no++np++nq++nr++nt++nu++nw
theorem aE2(h:A1∈oP):∀r,r<6->JV A1 r:=λr hr=>((Ci (Ci (Ci (Ci (Ci (Ci (Ci aA5 aA6) aA7) aA8) aA9) aB0) aB1) aB2) A1 h) r (Pf.mpr hr)
noncomputable def oQ:I (I Tx):=ny++o4++o5++o6++o7++o8++o9++oA
theorem aE3(h:A1∈oQ):∀r,r<6->JW A1 r:=λr hr=>((Ci (Ci (Ci (Ci (Ci (Ci (Ci aB3 aB4) aB5) aB6) aB7) aB8) aB9) aC0) A1 h) r (Pf.mpr hr)
noncomputable def lv(k:AK):O->I (I Tx)
 |0=>[KO k]|a+1=>(lv k a).flatMap λA1=>EN.map (Oe A1)
noncomputable def U0(A1:I Tx)(l:I (I Tx)):AK:=l.any (cN A1)
theorem X5{l:I (I Tx)}(h:U0 A1 l=M):A1∈l:=AC (ID.mp h) λ_ m e=>nc e▸m
theorem aE4:((lv A6 0++lv A6 1++lv A6 2).all λA1=>U0 A1 oP)=M:=by kernel_rfl
theorem aE5:((lv M 0++lv M 1++lv M 2).all λA1=>U0 A1 oQ)=M:=by kernel_rfl
theorem ca{k:AK}{a:O}(ha:a<=2)(h:A1∈lv k a):A1∈lv k 0++lv k 1++lv k 2:=by
 simp only[Dp];exact(show∀a∈[0,1,2],A1∈lv k a->(A1∈lv k 0\/A1∈lv k 1)\/A1∈lv k 2 from all_cons (λh=>.inl (.inl h)) (all_cons (λh=>.inl (.inr h)) (all_cons .inr EC))) a (Pf.mpr (fG ha):a∈DT 3) h
structure Tr.At(T:Tr)(a b:O):Prop where
 l0:T.L0∈lv A6 a
 l1:T.L1∈lv M b
theorem Tr.At.known{T:Tr}{a b:O}(h:T.At a b)(ha:a<=2)(hb:b<=2):T.Known:=⟨aE2 (X5 (Bq.mp aE4 _ (ca ha h.l0))),aE3 (X5 (Bq.mp aE5 _ (ca hb h.l1)))⟩
theorem oR(h:r<12):EN.getD (r/2) []∈EN:=by
 have h6:r/2<EN.length:=gL h;rw[Kn,Hi h6];exact gH h6
theorem Tr.At.turn{T:Tr}{a b:O}(h:T.At a b)(hr:r<12):(T.turn r).At (a+1) b\/(T.turn r).At a (b+1):=by
 unfold Tr.turn;split;. exact .inl ⟨uH.mpr ⟨_,h.l0,uA (oR hr)⟩,h.l1⟩
 . exact .inr ⟨h.l0,uH.mpr ⟨_,h.l1,uA (oR hr)⟩⟩
theorem X6:∀(l:I O){T:Tr}{a b:O},T.At a b->(∀r∈l,r<12)->∃a' b',a'+b'=a+b+l.length/\(l.foldl Tr.turn T).At a' b'
 |[],T,a,b,h,_=>⟨a,b,by simp,h⟩|r::l,T,a,b,h,hr=>by
  rcases h.turn (hr r (Cp ..))with h|h
  . refine EW (X6 l h λx m=>hr x (Cq _ m)) ?_;intro a' b' e q;exact⟨a',b',by rw[e,Uv];(with_reducible exact Mine.vS),q⟩
  . refine EW (X6 l h λx m=>hr x (Cq _ m)) ?_;intro a' b' e q;exact⟨a',b',by rw[e,Uv];omega,q⟩
theorem oU:T0.At 0 0:=⟨CI.mpr rfl,CI.mpr rfl⟩
theorem aE6(h3:rs.length<=3)(hr:∀r∈rs,r<12):∀Io Hy,rs=Io++Hy->Hy≠[]->(Io.foldl Tr.turn T0).Known:=λIo Hy e Cc=>by
 subst e;refine EW (X6 Io oU λr m=>hr r (bD8 _ m)) ?_;intro a b q h;have :1<=Hy.length:=by cases Hy with|nil=>exact absurd rfl Cc|cons _ _=>simp
 rw[FC]at h3;exact h.known (by omega) (by(with_reducible exact Mine.vN (by assumption) (by assumption) (by assumption)))
section
variable{env:I (U×V)}
theorem aE7(AV:(Bb P).In B.base)(AM:Df B)(hd:K.d=d+1)(h3:3<=d)(hl:rs.length<=3)(hr:∀r∈rs,r<12)(g:Gd B F K A ⟨env,[(0,.list (E7 rs))],1⟩ C s)(ru:VR s.heap C (.ref 0) u):Ae B F K A ⟨env,((rs.foldl Tr.turn T0).st (E7 rs)).h,6⟩ C s (CE (.ref 387) [u]) (RV (.ref 3)):=by
 have hf:AL Ii 387=G (DD (Ba 28)):=by kernel_rfl
 refine DA (Mi AV (Mk AV) (O_ P hf)) ?_;intro o fd ok;exact oB (H:=⟨env,[(0,.list (E7 rs))],1⟩) ok (AB:=(rs.foldl Tr.turn T0).st (E7 rs)) (b:=[(JU,.ref 0)]) (args:=[.ref 0]) (by kernel_rfl) hd (.inr rfl) (λg'=>(by have q:=@aD8;rw[show Fw=Ba 28 by unfold Fw;rfl]at q;exact q AV AM h3 hr (aE6 hl hr) g')) g ⟨u,[],rfl,ru,rfl⟩
end
noncomputable def oW(o:A0):AD (I (V×V)×I (V×V)):=K2 o L λv H=>DN v L λi=>bT (EP 1 i) L<|B' (AL H.h i) λa=>FU a L λN=>B' (AL H.h 0) λb=>FU b L λcb=>G (N,cb)
noncomputable def Fb(A1:I Tx):Prop:=∀(sc:BU)(w:Tx->V),oW (ev CQ 100 ⟨sc,8⟩ (.call (.top (.ref 392)) [.ref 0]) ⟨[],[(0,.dict (BM w A1))],1⟩)=G (BM w A1,BM w A1)
theorem Gy{l:I (I Tx)}(h:∀(sc:BU)(w:Tx->V),l.map (λA1=>oW (ev CQ 100 ⟨sc,8⟩ (.call (.top (.ref 392)) [.ref 0]) ⟨[],[(0,.dict (BM w A1))],1⟩))=l.map λA1=>G (BM w A1,BM w A1)):∀A1∈l,Fb A1:=λA1 m sc w=>H3.mp (h sc w) A1 m
noncomputable def cc:I (I Tx):=[[q2,q6,q9,q7,q8,q3],[q2,q6,q9,q7,q8,q3,AY],[q2,q6,q9,q7,q8,AY,q3],[q2,q9,q7,q8,q3,q6],[q2,q9,q7,q8,q3,q6,AY],[q2,q9,q7,q8,q3,AY,q6],[q2,q9,q7,q8,q6,q3],[q2,q9,q7,q8,q6,q3,AY],[q2,q9,q7,q8,q6,AY,q3],[q2,q9,q7,q8,AY,q3,q6],[q2,q9,q7,q8,AY,q6,q3],[q3,q2,q6,q9,q7,q8]]
theorem aE8:∀A1∈cc,Fb A1:=Gy λsc w=>by kernel_rfl
noncomputable def cg:I (I Tx):=[[q3,q2,q6,q9,q7,q8,AY],[q3,q2,q9,q7,q8,q6],[q3,q2,q9,q7,q8,q6,AY],[q3,q2,q9,q7,q8,AY,q6],[q3,q6,q9,q7,q8,q1],[q3,q6,q9,q7,q8,q1,AY],[q3,q6,q9,q7,q8,q2],[q3,q6,q9,q7,q8,q2,AY],[q3,q6,q9,q7,q8,AY,q1],[q3,q6,q9,q7,q8,AY,q2],[q3,q9,q7,q8,q1,q6],[q3,q9,q7,q8,q1,q6,AY]]
theorem aE9:∀A1∈cg,Fb A1:=Gy λsc w=>by kernel_rfl
noncomputable def ch:I (I Tx):=[[q3,q9,q7,q8,q1,AY,q6],[q3,q9,q7,q8,q2,q6],[q3,q9,q7,q8,q2,q6,AY],[q3,q9,q7,q8,q2,AY,q6],[q3,q9,q7,q8,q6,q1],[q3,q9,q7,q8,q6,q1,AY],[q3,q9,q7,q8,q6,q2],[q3,q9,q7,q8,q6,q2,AY],[q3,q9,q7,q8,q6,AY,q1],[q3,q9,q7,q8,q6,AY,q2],[q3,q9,q7,q8,AY,q1,q6],[q3,q9,q7,q8,AY,q2,q6]]
theorem aF0:∀A1∈ch,Fb A1:=Gy λsc w=>by kernel_rfl
noncomputable def ci:I (I Tx):=[[q3,q9,q7,q8,AY,q6,q1],[q3,q9,q7,q8,AY,q6,q2],[q6,q9,q7,q8,q0],[q6,q9,q7,q8,q0,AY],[q6,q9,q7,q8,q1],[q6,q9,q7,q8,q1,q3],[q6,q9,q7,q8,q1,q3,AY],[q6,q9,q7,q8,q1,AY],[q6,q9,q7,q8,q1,AY,q3],[q6,q9,q7,q8,q2],[q6,q9,q7,q8,q2,q3],[q6,q9,q7,q8,q2,q3,AY]]
theorem aF1:∀A1∈ci,Fb A1:=Gy λsc w=>by kernel_rfl
noncomputable def cj:I (I Tx):=[[q6,q9,q7,q8,q2,AY],[q6,q9,q7,q8,q2,AY,q3],[q6,q9,q7,q8,q3],[q6,q9,q7,q8,q3,q1],[q6,q9,q7,q8,q3,q1,AY],[q6,q9,q7,q8,q3,q2],[q6,q9,q7,q8,q3,q2,AY],[q6,q9,q7,q8,q3,AY],[q6,q9,q7,q8,q3,AY,q1],[q6,q9,q7,q8,q3,AY,q2],[q6,q9,q7,q8,AY,q0],[q6,q9,q7,q8,AY,q1]]
theorem aF2:∀A1∈cj,Fb A1:=Gy λsc w=>by kernel_rfl
noncomputable def ck:I (I Tx):=[[q6,q9,q7,q8,AY,q1,q3],[q6,q9,q7,q8,AY,q2],[q6,q9,q7,q8,AY,q2,q3],[q6,q9,q7,q8,AY,q3],[q6,q9,q7,q8,AY,q3,q1],[q6,q9,q7,q8,AY,q3,q2],[q9,q7,q8,q0,q6],[q9,q7,q8,q0,q6,AY],[q9,q7,q8,q0,AY,q6],[q9,q7,q8,q1,q3,q6],[q9,q7,q8,q1,q6],[q9,q7,q8,q1,q6,q3]]
theorem aF3:∀A1∈ck,Fb A1:=Gy λsc w=>by kernel_rfl
noncomputable def cm:I (I Tx):=[[q9,q7,q8,q2,q3,q6],[q9,q7,q8,q2,q6],[q9,q7,q8,q2,q6,q3],[q9,q7,q8,q3,q1,q6],[q9,q7,q8,q3,q2,q6],[q9,q7,q8,q3,q6],[q9,q7,q8,q3,q6,q1],[q9,q7,q8,q3,q6,q2],[q9,q7,q8,q6,q0],[q9,q7,q8,q6,q0,AY],[q9,q7,q8,q6,q1],[q9,q7,q8,q6,q1,q3]]
theorem aF4:∀A1∈cm,Fb A1:=Gy λsc w=>by kernel_rfl
noncomputable def cp:I (I Tx):=[[q9,q7,q8,q6,q2],[q9,q7,q8,q6,q2,q3],[q9,q7,q8,q6,q3],[q9,q7,q8,q6,q3,q1],[q9,q7,q8,q6,q3,q2],[q9,q7,q8,q6,AY,q0],[q9,q7,q8,AY,q0,q6],[q9,q7,q8,AY,q6,q0]]
theorem aF5:∀A1∈cp,Fb A1:=Gy λsc w=>by kernel_rfl
noncomputable def Of:I (I Tx):=cc++cg++ch++ci++cj++ck++cm++cp
theorem aF6(h:A1∈Of):Fb A1:=(Ci (Ci (Ci (Ci (Ci (Ci (Ci aE8 aE9) aF0) aF1) aF2) aF3) aF4) aF5) A1 h
theorem aF7:((lv A6 0++lv A6 1++lv A6 2++lv A6 3).all λA1=>U0 A1 Of)=M:=by kernel_rfl
noncomputable def cq:I (I Tx):=[[q1,q6,q9,q4,q5,q3,AY],[q1,q6,q9,q4,q5,AY,q3],[q1,q6,q9,AY,q4,q5,q3],[q1,q9,q4,q5,q3,q6,AY],[q1,q9,q4,q5,q3,AY,q6],[q1,q9,q4,q5,q6,q3,AY],[q1,q9,q4,q5,q6,AY,q3],[q1,q9,q4,q5,AY,q3,q6],[q1,q9,q4,q5,AY,q6,q3],[q1,q9,AY,q4,q5,q3,q6],[q1,q9,AY,q4,q5,q6,q3],[q3,q1,q6,q9,q4,q5,AY]]
theorem aF8:∀A1∈cq,Fb A1:=Gy λsc w=>by kernel_rfl
noncomputable def cr:I (I Tx):=[[q3,q1,q6,q9,AY,q4,q5],[q3,q1,q9,q4,q5,q6,AY],[q3,q1,q9,q4,q5,AY,q6],[q3,q1,q9,AY,q4,q5,q6],[q3,q6,q9,q4,q5,q1,AY],[q3,q6,q9,q4,q5,q2,AY],[q3,q6,q9,q4,q5,AY,q1],[q3,q6,q9,q4,q5,AY,q2],[q3,q6,q9,AY,q4,q5,q1],[q3,q6,q9,AY,q4,q5,q2],[q3,q9,q4,q5,q1,q6,AY],[q3,q9,q4,q5,q1,AY,q6]]
theorem aF9:∀A1∈cr,Fb A1:=Gy λsc w=>by kernel_rfl
noncomputable def cw:I (I Tx):=[[q3,q9,q4,q5,q2,q6,AY],[q3,q9,q4,q5,q2,AY,q6],[q3,q9,q4,q5,q6,q1,AY],[q3,q9,q4,q5,q6,q2,AY],[q3,q9,q4,q5,q6,AY,q1],[q3,q9,q4,q5,q6,AY,q2],[q3,q9,q4,q5,AY,q1,q6],[q3,q9,q4,q5,AY,q2,q6],[q3,q9,q4,q5,AY,q6,q1],[q3,q9,q4,q5,AY,q6,q2],[q3,q9,AY,q4,q5,q1,q6],[q3,q9,AY,q4,q5,q2,q6]]
theorem aG0:∀A1∈cw,Fb A1:=Gy λsc w=>by kernel_rfl
noncomputable def cx:I (I Tx):=[[q3,q9,AY,q4,q5,q6,q1],[q3,q9,AY,q4,q5,q6,q2],[q6,q9,q4,q5,q0,AY],[q6,q9,q4,q5,q1,q3,AY],[q6,q9,q4,q5,q1,AY],[q6,q9,q4,q5,q1,AY,q3],[q6,q9,q4,q5,q2,q3,AY],[q6,q9,q4,q5,q2,AY],[q6,q9,q4,q5,q2,AY,q3],[q6,q9,q4,q5,q3,q1,AY],[q6,q9,q4,q5,q3,q2,AY],[q6,q9,q4,q5,q3,AY]]
theorem aG1:∀A1∈cx,Fb A1:=Gy λsc w=>by kernel_rfl
noncomputable def cy:I (I Tx):=[[q6,q9,q4,q5,q3,AY,q1],[q6,q9,q4,q5,q3,AY,q2],[q6,q9,q4,q5,AY,q0],[q6,q9,q4,q5,AY,q1],[q6,q9,q4,q5,AY,q1,q3],[q6,q9,q4,q5,AY,q2],[q6,q9,q4,q5,AY,q2,q3],[q6,q9,q4,q5,AY,q3],[q6,q9,q4,q5,AY,q3,q1],[q6,q9,q4,q5,AY,q3,q2],[q6,q9,AY,q4,q5,q0],[q6,q9,AY,q4,q5,q1]]
theorem aG2:∀A1∈cy,Fb A1:=Gy λsc w=>by kernel_rfl
noncomputable def cz:I (I Tx):=[[q6,q9,AY,q4,q5,q1,q3],[q6,q9,AY,q4,q5,q2],[q6,q9,AY,q4,q5,q2,q3],[q6,q9,AY,q4,q5,q3],[q6,q9,AY,q4,q5,q3,q1],[q6,q9,AY,q4,q5,q3,q2],[q9,q4,q5,q0,q6,AY],[q9,q4,q5,q0,AY,q6],[q9,q4,q5,q6,q0,AY],[q9,q4,q5,q6,AY,q0],[q9,q4,q5,AY,q0,q6],[q9,q4,q5,AY,q6,q0]]
theorem aG3:∀A1∈cz,Fb A1:=Gy λsc w=>by kernel_rfl
noncomputable def d3:I (I Tx):=[[q9,AY,q4,q5,q0,q6],[q9,AY,q4,q5,q1,q3,q6],[q9,AY,q4,q5,q1,q6],[q9,AY,q4,q5,q1,q6,q3],[q9,AY,q4,q5,q2,q3,q6],[q9,AY,q4,q5,q2,q6],[q9,AY,q4,q5,q2,q6,q3],[q9,AY,q4,q5,q3,q1,q6],[q9,AY,q4,q5,q3,q2,q6],[q9,AY,q4,q5,q3,q6],[q9,AY,q4,q5,q3,q6,q1],[q9,AY,q4,q5,q3,q6,q2]]
theorem aG4:∀A1∈d3,Fb A1:=Gy λsc w=>by kernel_rfl
noncomputable def d4:I (I Tx):=[[q9,AY,q4,q5,q6,q0],[q9,AY,q4,q5,q6,q1],[q9,AY,q4,q5,q6,q1,q3],[q9,AY,q4,q5,q6,q2],[q9,AY,q4,q5,q6,q2,q3],[q9,AY,q4,q5,q6,q3],[q9,AY,q4,q5,q6,q3,q1],[q9,AY,q4,q5,q6,q3,q2]]
theorem aG5:∀A1∈d4,Fb A1:=Gy λsc w=>by kernel_rfl
noncomputable def Og:I (I Tx):=cq++cr++cw++cx++cy++cz++d3++d4
theorem aG6(h:A1∈Og):Fb A1:=(Ci (Ci (Ci (Ci (Ci (Ci (Ci aF8 aF9) aG0) aG1) aG2) aG3) aG4) aG5) A1 h
theorem aG7:((lv M 0++lv M 1++lv M 2++lv M 3).all λA1=>U0 A1 Og)=M:=by kernel_rfl
noncomputable def Mq(k:AK)(v:V):Prop:=v=.any\/∃t,t∈Bn k/\v=.str t
theorem aG8(k:AK):∀t∈IJ,t∈Bn k:=by
 have h:(IJ.all λt=>(Bn k).any (CU t))=M:=by cases k<;>kernel_rfl
 intro t m;refine AC (ID.mp (Bq.mp h t m)) ?_;intro x hx e;rw[Eb.mp e];exact hx
theorem oX(k:AK):∀t∈cX k,t∈Bn k:=by
 have h:((cX k).all λt=>(Bn k).any (CU t))=M:=by cases k<;>kernel_rfl
 intro t m;refine AC (ID.mp (Bq.mp h t m)) ?_;intro x hx e;rw[Eb.mp e];exact hx
theorem d5{k:AK}:∀{A1 l:I Tx}(p:Tx),(∀t∈l,t∈Bn k)->Mq k (Qm A1 l p)
 |[],_,_,_=>.inl rfl|_::_,[],_,_=>.inl rfl|q::A1,t::l,p,h=>by
  unfold Qm;split;. exact .inr ⟨t,h t (Cp ..),rfl⟩
  . exact d5 p λx m=>h x (Cq _ m)
structure Tr.Ok(T:Tr):Prop where
 w0:∀p,Mq A6 (T.w0 p)w1:∀p,Mq M (T.w1 p)
theorem oY{k:AK}{w:Tx->V}{p:Tx}(h:∀p,Mq k (w p)):∀q,Mq k (KP w p .any q):=λq=>by
 unfold KP;split;. exact .inl rfl
 . exact h q
theorem aG9:T0.Ok:=⟨λp=>d5 p (oX A6),λp=>d5 p (oX M)⟩
theorem Tr.Ok.turn{T:Tr}(h:T.Ok)(r:O):(T.turn r).Ok:=by
 unfold Tr.turn;split;. exact⟨oY h.w0,h.w1⟩
 . exact⟨h.w0,oY h.w1⟩
theorem oZ:∀(l:I O){T:Tr},T.Ok->(l.foldl Tr.turn T).Ok
 |[],_,h=>h|r::l,_,h=>oZ l (h.turn r)
noncomputable def LR:I Tx->AK
 |[]=>M|x::l=>!l.any (CU x)&&LR l
theorem Mr:∀{l:I Tx},LR l=M->l.Nodup
 |[],_=>by simp|x::l,h=>by
  simp only[LR,D6,RS,Y4]at h;exact ET.mpr ⟨λm=>h.1 x m (Eb.mpr rfl),Mr h.2⟩
theorem o_(k:AK):((lv k 0++lv k 1++lv k 2++lv k 3).all LR)=M:=by cases k<;>kernel_rfl
theorem X7{k:AK}{a:O}(ha:a<=3)(h:A1∈lv k a):A1∈lv k 0++lv k 1++lv k 2++lv k 3:=by
 by_cases h2:a<=2;. exact bD8 _ (ca h2 h)
 . obtain rfl:a=3:=by(with_reducible exact Mine.yG (by assumption) (by assumption))
   exact Pe _ h
noncomputable abbrev CB(k:AK):Type:=Tx->{t:Tx//t∈Bn k}
noncomputable def Ay{k:AK}(AO:CB k)(p:Tx):V:=.sym k (AO p).1 (AO p).2
section
variable{k:AK}
theorem aH0(hw:Mq k v)(r:VR h C v u):∃t,∃hm:t∈Bn k,VR h C (.sym k t hm) u:=by
 rcases hw with rfl|Aw;rotate_left;refine AC Aw ?_;(try clear Aw);intro t hm Bg;subst Bg;rotate_left
 . refine EW r ?_;(try clear r);intro t tk e hm;exact⟨t,aG8 k t hm,tk,e⟩
 . exact⟨t,hm,r⟩
theorem aH1(k:AK):[]∈Bn k:=by cases k<;>exact Cp ..
theorem d6{key:T->V}{w:Tx->V}(hw:∀p,Mq k (w p)):∀{A1:I Tx}{l:I (T×A4)},A1.Nodup->DR key h C (BM w A1) l->∃AO:CB k,DR key h C (BM (Ay AO) A1) l
 |[],_,_,e=>⟨λ_=>⟨[],aH1 k⟩,e⟩|p::A1,_,nd,⟨k',u,r,e,a,b,c⟩=>by
  refine xE (d6 hw (ET.mp nd).2 c) ?_;intro AO d;obtain⟨t,hm,b'⟩:=aH0 (hw p) b;refine⟨λq=>if q=p then⟨t,hm⟩else AO q,k',u,r,e,a,?_,?_⟩
  . show VR h C (Ay (k:=k) (λq=>if q=p then⟨t,hm⟩else AO q) p) u;simp only[Ay,Kk];exact b'
  . have :BM (Ay λq=>if q=p then(⟨t,hm⟩:{t:Tx//t∈Bn k})else AO q) A1=BM (Ay AO) A1:=by
     refine gh λq hq=>?_;have Cc:q≠p:=λz=>(ET.mp nd).1 (z▸hq);simp only[Ay,CS Cc]
    show DR key h C (BM _ A1) r;rw[this];exact d
theorem Gd.KS(g:Gd B F K A H C s)(hi:AL H.h i=G o)(ho:∀a,C[i]?=G a->Ca B.prog B.w s.heap C a o->Ca B.prog B.w s.heap C a o'):Gd B F K A (H.set i o') C s:=⟨g.kinds,g.len,g.nodup,g.fresh,g.live,g.D5,g.D2,λj p e=>by
 rcases aB e with B6|BJ;refine xA B6 ?_;(try clear B6);intro Bu C9;subst Bu;subst C9;rotate_left;refine xA BJ ?_;(try clear BJ);intro _ e;rotate_left;. refine AC (g.objs _ _ hi) ?_;intro a ha r;exact⟨a,ha,ho a ha r⟩
 . exact g.objs j p e,g.env,g.base,g.os,g.gens,g.frames,g.DP,g.Cz,g.mods,g.handled,g.depth,g.units⟩
theorem Gd.syms(g:Gd B F K A H C s){w:Tx->V}(hi:AL H.h i=G (.dict (BM w A1)))(nd:A1.Nodup)(hw:∀p,Mq k (w p)):∃AO:CB k,Gd B F K A (H.set i (.dict (BM (Ay AO) A1))) C s:=by
 refine AC (g.objs i _ hi) ?_;intro a ha r;have key:∃AO:CB k,Dm B.prog B.w s.heap C a (BM (Ay AO) A1):=by
  rcases r with BP|Bp;refine AC BP ?_;(try clear BP);intro Az d r;rotate_left;refine AC Bp ?_;(try clear Bp);intro Az d r;rotate_left;. refine xE (d6 hw nd r) ?_;(try clear r);intro AO r;exact⟨AO,.inl ⟨Az,d,r⟩⟩
  . refine xE (d6 hw nd r) ?_;(try clear r);intro AO r;exact⟨AO,.inr ⟨Az,d,r⟩⟩
 refine xE key ?_;(try clear key);intro AO q;refine⟨AO,g.KS hi λa' Fp _=>?_⟩;rw[ha]at Fp;injection Fp with Fp;subst Fp;exact q
end
noncomputable def U1(p:Tx)(l:I Tx):AK:=l.any (CU p)
theorem X8{p:Tx}(h:U1 p l=M):p∈l:=AC (ID.mp h) λ_ m e=>Eb.mp e▸m
noncomputable def keyLt(a b:V):AK:=vStr a A6 λx=>vStr b A6 λy=>EY x y
noncomputable def X9(e:V×V):I (V×V)->I (V×V)
 |[]=>[e]|x::l=>bC (keyLt e.1 x.1) (e::x::l) (x::X9 e l)
noncomputable def XA:I (V×V)->I (V×V)
 |[]=>[]|e::l=>X9 e (XA l)
theorem aH2{e:V×V}{l:I (V×V)}:(X9 e l).Perm (e::l):=by induction l with
 |nil=>exact .refl _|cons x l ih=>
 refine(?_:(bC (keyLt e.1 x.1) (e::x::l) (x::X9 e l)).Perm _);cases keyLt e.1 x.1 with
 |true=>exact .refl _|false=>exact(ih.cons x).trans (.swap ..)
theorem aH3{l:I (V×V)}:(XA l).Perm l:=by induction l with
 |nil=>exact .refl _|cons e l ih=>exact aH2.trans (ih.cons e)
noncomputable def XB(h:I (O×Ob)):O->V->AD (I O)
 |0,_=>L|n+1,v=>DN v (G []) λi=>B' (AL h i) λo=>FU o L λN=>B' ((XA N).foldr (λe r=>B' (XB h n e.2) λa=>B' r λb=>G (a++b)) (G [])) λl=>G (i::l)
theorem aH4{h:I (O×Ob)}(e:XB h n (.ref i)=G B7):B7[0]?=G i:=by cases n with
 |zero=>exact(BE e).elim|succ n=>
 refine BI (show B' (AL h i) _=G B7 from e) λo _ e=>?_;apply JA e AF;intro N e;exact BI e λl _ e=>Bl e▸rfl
noncomputable def XC:I O->O->AD O
 |[],_=>L|a::l,i=>bC (BC a i) (G 0) (B' (XC l i) λk=>G (k+1))
theorem aH5{l:I O}:∀{k:O},XC l i=G k->l[k]?=G i:=by induction l with
 |nil=>exactλh=>(AF h).elim|cons a l ih=>
 intro k h;refine Ea (show bC (BC a i) (G 0) (B' (XC l i) λk=>G (k+1))=G k from h) (λe h=>?_) λ_ h=>BI h λk' hk h=>?_;. rw[<-Bl h,CD e];rfl
 . rw[<-Bl h];exact ih hk
noncomputable def d7(B7:I O)(v:V):AD V:=DN v (bT (Vj v) L (G v)) λi=>B' (XC B7 i) λk=>G (.ref k)
theorem aH6(h:Vj v=M):E6 B9 v=v:=by cases v<;>first|rfl|exact(B0 h).elim
theorem aH7(h:d7 B7 v=G v'):E6 (DJ n B7) v'=v:=by
 apply Va h
 . intro i h;refine BI h λk hk h=>?_;rw[<-Bl h];refine congrArg V.ref ?_;unfold DJ;rw[aH5 hk]
 . intro h;exact Ce h AF λq h=>Bl h▸aH6 q
noncomputable def d8(B7:I O):I (V×V)->AD (I (V×V))
 |[]=>G []|e::l=>B' (d7 B7 e.2) λv=>B' (d8 B7 l) λm=>G ((e.1,v)::m)
theorem aH8{l:I (V×V)}:∀{m:I (V×V)},d8 B7 l=G m->m.map (JR (DJ n B7))=l:=by induction l with
 |nil=>exactλh=>Bl h▸rfl|cons e l ih=>
 intro m h;refine BI (show B' (d7 B7 e.2) _=G m from h) λv hv h=>BI h λr hm h=>?_;rw[<-Bl h,J',ih hm];exact congrArg (·::l) (NO rfl (aH7 hv))
noncomputable def XD(h:I (O×Ob))(B7:I O):I O->O->AD (I (O×Ob))
 |[],_=>G []|i::l,j=>B' (AL h i) λo=>FU o L λN=>B' (d8 B7 (XA N)) λm=>B' (XD h B7 l (j+1)) λr=>G ((j,.B3 m)::r)
noncomputable def og(o:A0):AD (I O×I (O×Ob)):=K2 o L λv H=>DN v L λi=>B' (XB H.h 20 (.ref i)) λB7=>B' (XD H.h B7 B7 0) λBF=>G (B7,BF)
theorem oh{o:A0}{p:I O×I (O×Ob)}(e:og o=G p){P:Prop}(c:∀i H,o=.ok (.v (.ref i)) H->XB H.h 20 (.ref i)=G p.1->XD H.h p.1 p.1 0=G p.2->P):P:=by
 apply Vy e AF;intro v H ho e;revert ho;apply EH e AF;intro i e ho;refine BI e λB7 h1 e=>BI e λBF h2 e=>?_;exact c i H ho (Bl e▸h1) (Bl e▸h2)
theorem om{h:I (O×Ob)}{l:I O}:∀{j:O}{BF:I (O×Ob)},XD h B7 l j=G BF->BF.length=l.length/\(∀i∈l,∃N,AL h i=G (.dict N))/\∀j' o,AL BF j'=G o->∃k i N BN,j'=j+k/\l[k]?=G i/\AL h i=G (.dict BN)/\o=.B3 N/\∀n,BN.Perm (N.map (JR (DJ n B7))):=by induction l with
 |nil=>exactλe=>Bl e▸⟨rfl,λ_ m=>(nomatch m),λ_ _ q=>(AF q).elim⟩|cons i l ih=>
 intro j BF e;refine BI (show B' (AL h i) _=G BF from e) λob hi e=>?_;revert hi;apply JA e AF;intro N e hi;refine BI e λm hm e=>BI e λr hr e=>?_;rw[<-Bl e];have z:=ih hr;refine⟨congrArg (·+1) z.1,λi' m=>(Ck.mp m).elim (λe=>⟨N,e▸hi⟩) (z.2.1 i'),λj' o q=>?_⟩;refine Zz (P:=λj' o=>∃k i' N BN,j'=j+k/\(i::l)[k]?=G i'/\AL h i'=G (.dict BN)/\o=.B3 N/\∀n,BN.Perm (N.map (JR (DJ n B7)))) q ?_ λ_ q=>?_;. exact⟨0,i,m,N,rfl,rfl,hi,rfl,λn=>by rw[aH8 hm];exact aH3.symm⟩
 . refine VM (z.2.2 j' o q) ?_;intro k i' F2 es2 e1 e2 e3 e4 e5;exact⟨k+1,i',F2,es2,by rw[e1,NM,Lj 1 k],e2,e3,e4,e5⟩
noncomputable def grown(sc:BU)(k:AK)(AO:CB k)(A1:I Tx):A0:=ev CQ 100 ⟨sc,8⟩ (.call (.top (.ref 411)) [.ref 0]) ⟨[],[(0,.dict (BM (Ay AO) A1))],1⟩
noncomputable def d9:I O->AK
 |[]=>M|x::l=>!l.any (BC x)&&d9 l
noncomputable def Es(sc:BU)(k:AK)(AO:CB k)(A1:I Tx):AD (I (O×Ob)):=B' (og (grown sc k AO A1)) λp=>bT (d9 p.1&&p.1.all (EP 1)) L (G p.2)
noncomputable def U2(A1 Av:I Tx):AK:=A1.all (λp=>U1 p Av)&&Av.all (λp=>U1 p A1)
noncomputable def CC(A1:I Tx):I (I Tx)->O
 |[]=>0|Av::l=>match U2 A1 Av with|true=>0|false=>CC A1 l+1
noncomputable def DX:I (I Tx):=[[q0,q6,q7,q8,q9],[q0,q6,q7,q8,q9,AY],[q1,q3,q6,q7,q8,q9],[q1,q3,q6,q7,q8,q9,AY],[q1,q6,q7,q8,q9],[q1,q6,q7,q8,q9,AY],[q2,q3,q6,q7,q8,q9],[q2,q3,q6,q7,q8,q9,AY],[q2,q6,q7,q8,q9],[q2,q6,q7,q8,q9,AY],[q3,q6,q7,q8,q9],[q3,q6,q7,q8,q9,AY]]
noncomputable def F3:O->CB A6->I (O×Ob)
 |0,AO=>[(0,.B3 [(.str [97],Ay AO q0),(.str [104],Ay AO q6),(.str [107],.ref 1),(.str [109],Ay AO q9)]),(1,.B3 [(.str [112],Ay AO q7),(.str [113],Ay AO q8)])]|1,AO=>[(0,.B3 [(.str [97],Ay AO q0),(.str [104],Ay AO q6),(.str [107],.ref 1),(.str [109],Ay AO q9),(.str [110],.ref 2)]),(1,.B3 [(.str [112],Ay AO q7),(.str [113],Ay AO q8)]),(2,.B3 [(.str [107],Ay AO AY)])]|2,AO=>[(0,.B3 [(.str [97],.ref 1),(.str [104],Ay AO q6),(.str [107],.ref 2),(.str [109],Ay AO q9)]),(1,.B3 [(.str [98],Ay AO q1),(.str [102],Ay AO q3)]),(2,.B3 [(.str [112],Ay AO q7),(.str [113],Ay AO q8)])]|3,AO=>[(0,.B3 [(.str [97],.ref 1),(.str [104],Ay AO q6),(.str [107],.ref 2),(.str [109],Ay AO q9),(.str [110],.ref 3)]),(1,.B3 [(.str [98],Ay AO q1),(.str [102],Ay AO q3)]),(2,.B3 [(.str [112],Ay AO q7),(.str [113],Ay AO q8)]),(3,.B3 [(.str [107],Ay AO AY)])]|4,AO=>[(0,.B3 [(.str [97],.ref 1),(.str [104],Ay AO q6),(.str [107],.ref 2),(.str [109],Ay AO q9)]),(1,.B3 [(.str [98],Ay AO q1)]),(2,.B3 [(.str [112],Ay AO q7),(.str [113],Ay AO q8)])]|5,AO=>[(0,.B3 [(.str [97],.ref 1),(.str [104],Ay AO q6),(.str [107],.ref 2),(.str [109],Ay AO q9),(.str [110],.ref 3)]),(1,.B3 [(.str [98],Ay AO q1)]),(2,.B3 [(.str [112],Ay AO q7),(.str [113],Ay AO q8)]),(3,.B3 [(.str [107],Ay AO AY)])]|6,AO=>[(0,.B3 [(.str [97],.ref 1),(.str [104],Ay AO q6),(.str [107],.ref 3),(.str [109],Ay AO q9)]),(1,.B3 [(.str [98],.ref 2),(.str [102],Ay AO q3)]),(2,.B3 [(.str [103],Ay AO q2)]),(3,.B3 [(.str [112],Ay AO q7),(.str [113],Ay AO q8)])]|7,AO=>[(0,.B3 [(.str [97],.ref 1),(.str [104],Ay AO q6),(.str [107],.ref 3),(.str [109],Ay AO q9),(.str [110],.ref 4)]),(1,.B3 [(.str [98],.ref 2),(.str [102],Ay AO q3)]),(2,.B3 [(.str [103],Ay AO q2)]),(3,.B3 [(.str [112],Ay AO q7),(.str [113],Ay AO q8)]),(4,.B3 [(.str [107],Ay AO AY)])]|8,AO=>[(0,.B3 [(.str [97],.ref 1),(.str [104],Ay AO q6),(.str [107],.ref 3),(.str [109],Ay AO q9)]),(1,.B3 [(.str [98],.ref 2)]),(2,.B3 [(.str [103],Ay AO q2)]),(3,.B3 [(.str [112],Ay AO q7),(.str [113],Ay AO q8)])]|9,AO=>[(0,.B3 [(.str [97],.ref 1),(.str [104],Ay AO q6),(.str [107],.ref 3),(.str [109],Ay AO q9),(.str [110],.ref 4)]),(1,.B3 [(.str [98],.ref 2)]),(2,.B3 [(.str [103],Ay AO q2)]),(3,.B3 [(.str [112],Ay AO q7),(.str [113],Ay AO q8)]),(4,.B3 [(.str [107],Ay AO AY)])]|10,AO=>[(0,.B3 [(.str [97],.ref 1),(.str [104],Ay AO q6),(.str [107],.ref 2),(.str [109],Ay AO q9)]),(1,.B3 [(.str [102],Ay AO q3)]),(2,.B3 [(.str [112],Ay AO q7),(.str [113],Ay AO q8)])]|_,AO=>[(0,.B3 [(.str [97],.ref 1),(.str [104],Ay AO q6),(.str [107],.ref 2),(.str [109],Ay AO q9),(.str [110],.ref 3)]),(1,.B3 [(.str [102],Ay AO q3)]),(2,.B3 [(.str [112],Ay AO q7),(.str [113],Ay AO q8)]),(3,.B3 [(.str [107],Ay AO AY)])]
theorem Gz{k:AK}{f:I Tx->CB k->I (O×Ob)}{l:I (I Tx)}(h:∀(sc:BU)(AO:CB k),l.map (Es sc k AO)=l.map λA1=>G (f A1 AO)):∀A1∈l,∀(sc:BU)(AO:CB k),Es sc k AO A1=G (f A1 AO):=λA1 m sc AO=>H3.mp (h sc AO) A1 m
theorem aH9:∀A1∈cc,∀(sc:BU)(AO:CB A6),Es sc A6 AO A1=G (F3 (CC A1 DX) AO):=Gz (f:=λA1=>F3 (CC A1 DX)) λsc AO=>by kernel_rfl
theorem aI0:∀A1∈cg,∀(sc:BU)(AO:CB A6),Es sc A6 AO A1=G (F3 (CC A1 DX) AO):=Gz (f:=λA1=>F3 (CC A1 DX)) λsc AO=>by kernel_rfl
theorem aI1:∀A1∈ch,∀(sc:BU)(AO:CB A6),Es sc A6 AO A1=G (F3 (CC A1 DX) AO):=Gz (f:=λA1=>F3 (CC A1 DX)) λsc AO=>by kernel_rfl
theorem aI2:∀A1∈ci,∀(sc:BU)(AO:CB A6),Es sc A6 AO A1=G (F3 (CC A1 DX) AO):=Gz (f:=λA1=>F3 (CC A1 DX)) λsc AO=>by kernel_rfl
theorem aI3:∀A1∈cj,∀(sc:BU)(AO:CB A6),Es sc A6 AO A1=G (F3 (CC A1 DX) AO):=Gz (f:=λA1=>F3 (CC A1 DX)) λsc AO=>by kernel_rfl
theorem aI4:∀A1∈ck,∀(sc:BU)(AO:CB A6),Es sc A6 AO A1=G (F3 (CC A1 DX) AO):=Gz (f:=λA1=>F3 (CC A1 DX)) λsc AO=>by kernel_rfl
theorem aI5:∀A1∈cm,∀(sc:BU)(AO:CB A6),Es sc A6 AO A1=G (F3 (CC A1 DX) AO):=Gz (f:=λA1=>F3 (CC A1 DX)) λsc AO=>by kernel_rfl
theorem aI6:∀A1∈cp,∀(sc:BU)(AO:CB A6),Es sc A6 AO A1=G (F3 (CC A1 DX) AO):=Gz (f:=λA1=>F3 (CC A1 DX)) λsc AO=>by kernel_rfl
theorem aI7(h:A1∈Of):∀(sc:BU)(AO:CB A6),Es sc A6 AO A1=G (F3 (CC A1 DX) AO):=(Ci (Ci (Ci (Ci (Ci (Ci (Ci aH9 aI0) aI1) aI2) aI3) aI4) aI5) aI6) A1 h
noncomputable def DY:I (I Tx):=[[q0,q4,q5,q6,q9,AY],[q1,q3,q4,q5,q6,q9,AY],[q1,q4,q5,q6,q9,AY],[q2,q3,q4,q5,q6,q9,AY],[q2,q4,q5,q6,q9,AY],[q3,q4,q5,q6,q9,AY]]
noncomputable def F4:O->CB M->I (O×Ob)
 |0,AO=>[(0,.B3 [(.str [97],Ay AO q0),(.str [103],.ref 1),(.str [104],Ay AO q6),(.str [109],Ay AO q9),(.str [110],.ref 2)]),(1,.B3 [(.str [112],Ay AO q4),(.str [113],Ay AO q5)]),(2,.B3 [(.str [107],Ay AO AY)])]|1,AO=>[(0,.B3 [(.str [97],.ref 1),(.str [103],.ref 2),(.str [104],Ay AO q6),(.str [109],Ay AO q9),(.str [110],.ref 3)]),(1,.B3 [(.str [98],Ay AO q1),(.str [102],Ay AO q3)]),(2,.B3 [(.str [112],Ay AO q4),(.str [113],Ay AO q5)]),(3,.B3 [(.str [107],Ay AO AY)])]|2,AO=>[(0,.B3 [(.str [97],.ref 1),(.str [103],.ref 2),(.str [104],Ay AO q6),(.str [109],Ay AO q9),(.str [110],.ref 3)]),(1,.B3 [(.str [98],Ay AO q1)]),(2,.B3 [(.str [112],Ay AO q4),(.str [113],Ay AO q5)]),(3,.B3 [(.str [107],Ay AO AY)])]|3,AO=>[(0,.B3 [(.str [97],.ref 1),(.str [103],.ref 3),(.str [104],Ay AO q6),(.str [109],Ay AO q9),(.str [110],.ref 4)]),(1,.B3 [(.str [98],.ref 2),(.str [102],Ay AO q3)]),(2,.B3 [(.str [103],Ay AO q2)]),(3,.B3 [(.str [112],Ay AO q4),(.str [113],Ay AO q5)]),(4,.B3 [(.str [107],Ay AO AY)])]|4,AO=>[(0,.B3 [(.str [97],.ref 1),(.str [103],.ref 3),(.str [104],Ay AO q6),(.str [109],Ay AO q9),(.str [110],.ref 4)]),(1,.B3 [(.str [98],.ref 2)]),(2,.B3 [(.str [103],Ay AO q2)]),(3,.B3 [(.str [112],Ay AO q4),(.str [113],Ay AO q5)]),(4,.B3 [(.str [107],Ay AO AY)])]|_,AO=>[(0,.B3 [(.str [97],.ref 1),(.str [103],.ref 2),(.str [104],Ay AO q6),(.str [109],Ay AO q9),(.str [110],.ref 3)]),(1,.B3 [(.str [102],Ay AO q3)]),(2,.B3 [(.str [112],Ay AO q4),(.str [113],Ay AO q5)]),(3,.B3 [(.str [107],Ay AO AY)])]
theorem aI8:∀A1∈cq,∀(sc:BU)(AO:CB M),Es sc M AO A1=G (F4 (CC A1 DY) AO):=Gz (f:=λA1=>F4 (CC A1 DY)) λsc AO=>by kernel_rfl
theorem aI9:∀A1∈cr,∀(sc:BU)(AO:CB M),Es sc M AO A1=G (F4 (CC A1 DY) AO):=Gz (f:=λA1=>F4 (CC A1 DY)) λsc AO=>by kernel_rfl
theorem aJ0:∀A1∈cw,∀(sc:BU)(AO:CB M),Es sc M AO A1=G (F4 (CC A1 DY) AO):=Gz (f:=λA1=>F4 (CC A1 DY)) λsc AO=>by kernel_rfl
theorem aJ1:∀A1∈cx,∀(sc:BU)(AO:CB M),Es sc M AO A1=G (F4 (CC A1 DY) AO):=Gz (f:=λA1=>F4 (CC A1 DY)) λsc AO=>by kernel_rfl
theorem aJ2:∀A1∈cy,∀(sc:BU)(AO:CB M),Es sc M AO A1=G (F4 (CC A1 DY) AO):=Gz (f:=λA1=>F4 (CC A1 DY)) λsc AO=>by kernel_rfl
theorem aJ3:∀A1∈cz,∀(sc:BU)(AO:CB M),Es sc M AO A1=G (F4 (CC A1 DY) AO):=Gz (f:=λA1=>F4 (CC A1 DY)) λsc AO=>by kernel_rfl
theorem aJ4:∀A1∈d3,∀(sc:BU)(AO:CB M),Es sc M AO A1=G (F4 (CC A1 DY) AO):=Gz (f:=λA1=>F4 (CC A1 DY)) λsc AO=>by kernel_rfl
theorem aJ5:∀A1∈d4,∀(sc:BU)(AO:CB M),Es sc M AO A1=G (F4 (CC A1 DY) AO):=Gz (f:=λA1=>F4 (CC A1 DY)) λsc AO=>by kernel_rfl
theorem aJ6(h:A1∈Og):∀(sc:BU)(AO:CB M),Es sc M AO A1=G (F4 (CC A1 DY) AO):=(Ci (Ci (Ci (Ci (Ci (Ci (Ci aI8 aI9) aJ0) aJ1) aJ2) aJ3) aJ4) aJ5) A1 h
@[irreducible]noncomputable def Et:As:=Ba 30
@[irreducible]noncomputable def Iq(k:O):As:=(Fi Et)[k]?.getD (.Pass ⟨0,0,0,0⟩)
@[irreducible]noncomputable def dA:AA:=G4 (Iq 1) (.Constant .none 0 ⟨0,0,0,0⟩) λt _ _ _ _=>t
@[irreducible]noncomputable def XE:AA:=G4 (Iq 1) (.Constant .none 0 ⟨0,0,0,0⟩) λ_ t _ _ _=>t
@[irreducible]noncomputable def KU:I As:=G4 (Iq 1) [] λ_ _ b _ _=>b
@[irreducible]noncomputable def aJ7:BA:=G4 (Iq 1) ⟨0,0,0,0⟩ λ_ _ _ _ p=>p
noncomputable def Ms:U:=⟨⟨[116,114,101,101]⟩⟩
noncomputable def HZ:U:=⟨⟨[112,108,97,99,101]⟩⟩
noncomputable def H_:U:=⟨⟨[105,110,110,101,114]⟩⟩
noncomputable def Mt:U:=⟨⟨[112,97,116,104]⟩⟩
noncomputable def dB:Tx->Tx
 |[]=>[]|c::l=>match BC c 47 with|true=>[]|false=>c::dB l
noncomputable def Qn(q p:Tx):AD Tx:=match q with
 |[47]=>G (dB (p.drop 1))|q=>match K0 (q++[47]) p with|true=>G (dB (p.drop (q.length+1)))|false=>L
noncomputable def Oh(r:O)(Y:I Sg)(N:I (V×V))(q p:Tx):Mine.St:=⟨[(Ms,.ref 1),(HZ,.str q),(H_,.ref 0),(Mt,.str p)],[(0,.rows r Y),(1,.dict N)],2⟩
noncomputable def XG(r:O)(Y:I Sg)(N:I (V×V))(q p:Tx):Mine.St:=match Qn q p with
 |some t=>Oh r (Y++[.tx t]) N q [47]|none=>Oh (r+1) Y N q [47]
noncomputable def oo(q p:Tx):Prop:=∀(r:O)(Y:I Sg)(N:I (V×V)),ev CQ 60 ⟨BV Et,6⟩ (.ss KU) (Oh (r+1) Y N q p)=.ok (.f .next) (XG r Y N q p)
noncomputable def KV:I Tx:=[q0,q1,q2,q3,q4,q5,q6,q7,q8,q9,AY]
noncomputable def KW:I Tx:=[[47],[47,97],[47,97,47,98],[47,107],[47,110],[47,103]]
theorem in_tab:∀q∈KW,∀p∈KV,oo q p:=λq m p m' r Y N=>H3.mp (H3.mp (show KW.map (λq=>KV.map λp=>ev CQ 60 ⟨BV Et,6⟩ (.ss KU) (Oh (r+1) Y N q p))=KW.map (λq=>KV.map λp=>.ok (.f .next) (XG r Y N q p))by kernel_rfl) q m) p m'
theorem aJ8{p:Tx}(hq:q∈KW)(hp:p∈KV):oo q p:=in_tab q hq p hp
noncomputable def LS(r:O)(Y:I Sg)(N:I (V×V))(q:Tx):Mine.St:=⟨[(Ms,.ref 0),(HZ,.str q),(H_,.ref 1)],[(1,.rows r Y),(0,.dict N)],2⟩
noncomputable def Oi(r:O)(Y:I Sg)(N:I (V×V))(q p:Tx):Mine.St:=⟨[(Ms,.ref 0),(HZ,.str q),(H_,.ref 1),(Mt,.str p)],[(1,.rows r Y),(0,.dict N)],2⟩
theorem aJ9(d r:O)(Y:I Sg)(N:I (V×V))(q p:Tx):ev CQ 60 ⟨BV Et,d⟩ (.asg dA (.str p)) (LS r Y N q)=.ok (.f .next) (Oi r Y N q p):=by kernel_rfl
noncomputable def E8(q:Tx)(l:I Tx):I Tx:=l.filterMap (Qn q)
section
variable{J:I A8}
theorem Gd.drop{env:I (U×V)}{h:I (O×Ob)}(g:Gd B F K A ⟨env,h,n⟩ C s)(hs:∀x v,Ah K5 x=G v->Ah env x=G v):Gd B F K A ⟨K5,h,n⟩ C s:=⟨g.kinds,g.len,g.nodup,g.fresh,g.live,g.D5,g.D2,g.objs,by
 refine CZ g.env ?_;intro m ns ce r;exact⟨m,ns,ce,λx v e=>r x v (hs x v e)⟩,g.base,g.os,g.gens,g.frames,g.DP,g.Cz,g.mods,g.handled,g.depth,g.units⟩
theorem aK0(AV:(Bb P).In B.base)(AM:Df B)(hd:6<=d){p:Tx}(hq:q∈KW)(hp:p∈KV){Y:I Sg}(hc:∀e∈N,Cl e.2)(g:Gd B F ⟨BV Et,d⟩ A (Oi (r+1) Y N q p) C s):CJ B F ⟨BV Et,d⟩ A (match Qn q p with|some t=>Oi r (Y++[.tx t]) N q [47]|none=>Oi (r+1) Y N q [47]) C s (Iz KU F.env) (FR .next):=by
 have A9:=(all1 AV AM 60).s;have run:=aJ8 hq hp r Y N;have Er:∀j,(C' C [1,0])[j]?=C[DJ 2 [1,0] j]?:=λj=>by
   have :=GI (J:=[]) (n:=2) g.len (B7:=[1,0]) (by decide) j;rw[HL,HL]at this;exact this
 refine aC2 (K:=⟨BV Et,d⟩) (d:=6) (DI:=Oh (r+1) Y N q p) (AB:=XG r Y N q p) (B7:=[1,0]) (λ{h C u}e Q AT=>e) (λg'=>A9.ss run g') hd g ⟨rfl,by decide,by show∀i∈_,i<2;decide,λj o e=>?_⟩ (Cf.pick Er g.env λx v e=>?_) ?_;. match j,e with
 |0,e=>injection e with e;subst e;exact⟨1,rfl,rfl⟩|1,e=>injection e with e;subst e;exact⟨0,rfl,by show G (Ob.dict N)=G (Ob.dict (N.map _));rw[KQ hc]⟩|j+2,e=>exact(BE e).elim
 . exact T4 (f:=E6 _) (by rfl) e
 . have fin:∀(r':O)(ys:I Sg),cU (Oi (r+1) Y N q p) (Oh (r+1) Y N q p) (Oh r' ys N q [47]) (Oi r' ys N q [47]) [1,0]:=λr' ys=>by
    refine⟨rfl,DE _,rfl,λi o e=>?_⟩;match i,e with
 |0,e=>injection e with e;subst e;exact .inl ⟨1,_,rfl,rfl,by show Ob.dict N=Ob.dict (N.map _);rw[KQ hc]⟩|1,e=>injection e with e;subst e;exact .inl ⟨0,_,rfl,rfl,rfl⟩|i+2,e=>exact(BE e).elim
   unfold XG;cases Qn q p with
 |some t=>exact fin _ _|none=>exact fin _ _
theorem aK1(AV:(Bb P).In B.base)(AM:Df B)(hd:6<=d)(hq:q∈KW)(hc:∀e∈N,Cl e.2){AS:Dr->AR->Prop}(hI:Af.get? AE=L)(post:I Tx):∀(pre:I Tx)(r:O)(Y:I Sg){C:I A8}{s:AR},(∀p∈post,p∈KV)->post.length<=r->N.map (·.1)=(pre++post).map .str->Gd B F ⟨BV Et,d⟩ A (LS r Y N q) C s->Nx F.D F.A_ Af s.heap BG C->CM B F C s.heap AE->E5 s.heap C (.keys 0 N.length) pre.length AE->(∀r' AT s',Gd B F ⟨BV Et,d⟩ A (LS r' (Y++(E8 q post).map .tx) N q) AT s'->Nx F.D F.A_ Af s'.heap BG AT->AS (.ok .next) s')->D7 (AQ B.prog B.w) A (.forLoop dA (.ref AE) KU [] F.env) AS s:=by induction post with
 |nil=>
  intro pre r Y C s _ _ U3 g Cr fr it k;have hn:(Gp N pre.length).map (·.1)=L:=by rw[HV,<-VC,U3];simp
  have AP:IQ (.keys 0 N.length) pre.length (LS r Y N q).h=G L:=by
   show bT (BC N.length N.length) L (G ((Gp N pre.length).map (·.1)))=_;rw[Iy,hn];rfl
  refine MT (K7 g fr it AP (λx hx=>by exact(BE hx).elim) λhx Q tk AN DQ=>?_);refine k r C _ ?_ (Cr.F0 DQ hI);simpa[E8]using AN|cons p post ih=>
  intro pre r Y C s hp hr U3 g Cr fr it k;have hn:(Gp N pre.length).map (·.1)=G (.str p):=by rw[HV,<-VC,U3];simp
  have AP:IQ (.keys 0 N.length) pre.length (LS r Y N q).h=G (G (.str p)):=by
   show bT (BC N.length N.length) L (G ((Gp N pre.length).map (·.1)))=_;rw[Iy,hn];rfl
  have A9:=(all1 AV AM 60).s;obtain⟨r,rfl⟩:∃r',r=r'+1:=⟨r-1,by simp at hr;(with_reducible exact Mine.yH (by assumption))⟩;refine MT (K7 g fr it AP (λx hx u Q tk AN DQ En Aq Ht=>?_) λhx=>by(exfalso;cases hx));injection hx with hx;subst hx;have L6:=Cr.F0 DQ hI;refine QI Aq (A9.asg (aJ9 d _ _ _ _ p) AN Ht _ _ λ_ Au Ai AU Al _=>aK0 AV AM hd hq (hp p (Cp ..)) hc AU _ _ λMU BS Ax Ao B8 BQ=>?_);cases BQ;have xx:=Al.trans B8;have ED:=En.nx xx;have Gs:=Aq.nx xx En.C En.w;have Eo:=L6.trans xx;have e:pre++p::post=(pre++[p])++post:=by simp
  have drop:∀{r':O}{ys:I Sg}{a:I A8}{s:AR},Gd B F ⟨BV Et,d⟩ A (Oi r' ys N q [47]) a s->Gd B F ⟨BV Et,d⟩ A (LS r' ys N q) a s:=λg=>g.drop λx v e=>T4 (f:=id) (by rfl) e;have HW:E5 Ax.heap BS (.keys 0 N.length) (pre++[p]).length AE:=by rw[FC];exact Gs
  cases JX:Qn q p with
 |some t=>
   rw[JX]at Ao;refine ih (pre++[p]) r (Y++[.tx t]) (λq m=>hp q (Cq _ m)) (by simp at hr;(with_reducible assumption)) (by rw[<-e];exact U3) (drop Ao) Eo ED HW λr' AT s' g' x'=>k r' AT s' ?_ x';simpa[E8,JX]using g'|none=>
   rw[JX]at Ao;refine ih (pre++[p]) (r+1) Y (λq m=>hp q (Cq _ m)) (by simp at hr;(with_reducible exact ge (by assumption))) (by rw[<-e];exact U3) (drop Ao) Eo ED HW λr' AT s' g' x'=>k r' AT s' ?_ x';simpa[E8,JX]using g'
end
@[irreducible]noncomputable def dC:AA:=S' (Iq 2) (.Constant .none 0 ⟨0,0,0,0⟩) λz1 _=>oS z1 (.Constant .none 0 ⟨0,0,0,0⟩) λe=>e
@[irreducible]noncomputable def aK2:BA:=(Iq 2).pos
@[irreducible]noncomputable def aK3:BA:=EB dC ⟨0,0,0,0⟩ λz1 _ _ _=>DM z1 ⟨0,0,0,0⟩ λ_ p=>p
@[irreducible]noncomputable def aK4:BA:=EB dC ⟨0,0,0,0⟩ λ_ _ _ p=>p
@[irreducible]noncomputable def oq:BA:=EB dC ⟨0,0,0,0⟩ λ_ z1 _ _=>l1 z1 ⟨0,0,0,0⟩ λz2=>DM z2 ⟨0,0,0,0⟩ λ_ p=>p
@[irreducible]noncomputable def aK5:BA:=DM XE ⟨0,0,0,0⟩ λ_ p=>p
theorem aK6:Fi Et=[Iq 0,Iq 1,Iq 2]:=by kernel_rfl
theorem aK7:Iq 1=.For dA XE KU [] aJ7:=by kernel_rfl
theorem aK8:XE=.Name Ms aK5:=by kernel_rfl
theorem aK9:Iq 2=.Return (G (.Call (.Name Q7 aK3) [.Name H_ oq] [] aK4)) aK2:=by kernel_rfl
noncomputable def ot(N:I (V×V))(q:Tx):Mine.St:=⟨[(Ms,.ref 0),(HZ,.str q)],[(0,.B3 N)],1⟩
noncomputable def dD(N:I (V×V))(q:Tx):Mine.St:=⟨[(Ms,.ref 0),(HZ,.str q),(H_,.ref 1)],[(1,.list []),(0,.B3 N)],2⟩
theorem aL0(d:O)(N:I (V×V))(q:Tx):ev CQ 60 ⟨BV Et,d⟩ (.s (Iq 0)) (ot N q)=.ok (.f .next) (dD N q):=by kernel_rfl
theorem aL1(d r:O)(Y:I Sg)(N:I (V×V))(q:Tx):ev CQ 60 ⟨BV Et,d⟩ (.e XE) (LS r Y N q)=.ok (.v (.ref 0)) (LS r Y N q):=by kernel_rfl
noncomputable def Qo(l:I Tx)(N:I (V×V))(q:Tx):Mine.St:=⟨[(Ms,.ref 0),(HZ,.str q),(H_,.ref 1)],[(1,.list (l.map .str)),(0,.B3 N)],2⟩
theorem aL2(d:O)(l:I Tx)(N:I (V×V))(q:Tx):ev CQ 60 ⟨BV Et,d⟩ (.e (.Name H_ oq)) (Qo l N q)=.ok (.v (.ref 1)) (Qo l N q):=by kernel_rfl
theorem aL3:Dh (BV Et) Q7=M:=by kernel_rfl
theorem aL4:Ah CQ.glob Q7=G (.top (.builtin "sorted")):=by kernel_rfl
theorem ou:∀{l:I Tx},DO (l.map .tx)=l.map .str
 |[]=>rfl|t::l=>by
  show IV (.tx t)++DO (l.map .tx)=_;rw[ou];rfl
section
variable{J:I A8}
theorem ow:HS (l.map .str)=G l:=by induction l with
 |nil=>rfl|cons t l ih=>exact congrArg (λo=>B' o λr=>G (t::r)) ih
theorem aL5{m:I Tx}(p:l.Perm m):E_ l=E_ m:=bz9 (le:=(·<=·)) (λa b _ _ h1 h2=>bA0 h1 h2) (Wm l) (Wm m) ((Wl l).trans (p.trans (Wl m).symm))
theorem Gd.forget{env:I (U×V)}{h Q:I (O×Ob)}(g:Gd B F K A ⟨env,h,n⟩ C s)(hs:∀i o,AL Q i=G o->AL h i=G o):Gd B F K A ⟨env,Q,n⟩ C s:=⟨g.kinds,g.len,g.nodup,g.fresh,g.live,g.D5,g.D2,λi o e=>g.objs i o (hs i o e),g.env,g.base,g.os,g.gens,g.frames,g.DP,g.Cz,g.mods,g.handled,g.depth,g.units⟩
theorem aL6(AV:(Bb P).In B.base)(AM:Df B)(hd:6<=d)(hq:q∈KW){w:Tx->V}(hw:∀p,Cl (w p))(hL:∀p∈A1,p∈KV)(Ch:A1.length<=20)(g:Gd B F ⟨BV Et,d⟩ A (ot (BM w A1) q) C s):CJ B F ⟨BV Et,d⟩ A ⟨(dD (BM w A1) q).env,[(2,.list ((E_ (E8 q A1)).map .str)),(0,.B3 (BM w A1))],3⟩ C s (Iz (Fi Et) F.env) (FR (.ret (.ref 2))):=by
 intro A2 E k;have A9:=(all1 AV AM 60).s;rw[aK6];refine DH (A9.s (aL0 d _ _) g _ _ λu AZ AJ AN Ab Aq=>?_);cases Aq;refine S2 (AN.open (i:=0) (N:=BM w A1) rfl) ?_;intro BN hp AU _ _ _;have JY:BN.Perm (BM w A1):=hp.1;have hc:∀e∈BN,Cl e.2:=λe m=>Mp hw e (JY.subset m);refine AC (by
   refine AC (cG (f:=λp=>((V.str p,w p):V×V)) JY) ?_;intro L' a b;exact⟨L',a,b⟩) ?_;intro L' Qp BJ;subst BJ;have Ao:Gd B F ⟨BV Et,d⟩ A (LS Dl [] (BM w L') q) AZ AJ:=AU.KS (i:=1) (o:=.list []) (o':=.rows Dl []) rfl λa _ r=>by
   refine AC r ?_;(try clear r);intro us p v;exact⟨us,p,v,by show 0+Dl<=Dl;omega⟩
 refine DH ?_;rw[aK7];refine Y2 (A9.eW (aL1 d _ _ _ _) Ao _ _ λu QP Ef Co EK Ic=>OB Co Ic (it:=.keys 0 (BM w L').length) rfl λAE Q tk GZ GF hI cY cZ=>?_) ?_
 . refine aK1 AV AM hd hq hc hI L' [] Dl [] (λp m=>hL p (Qp.subset m)) ?_ ?_ GZ GF.FY cY cZ λr' bf bg Tg Qf=>?_;. rw[Qp.length_eq];exact B4 Ch (by decide)
   . show(L'.map λp=>((V.str p,w p):V×V)).map (·.1)=(L':I Tx).map .str;rw[Jo];rfl
   . have c_:Gd B F ⟨BV Et,d⟩ A (Qo (E8 q L') (BM w A1) q) bf bg:=by
      have a1:=Tg.KS (i:=1) (o:=.rows r' ([]++(E8 q L').map .tx)) (o':=.list ((E8 q L').map .str)) rfl λa _ r=>by
       refine CZ r ?_;(try clear r);intro us p v _;rw[tu,ou]at v;exact⟨us,p,v⟩
      exact a1.KS (i:=0) (o:=.dict (BM w L')) (o':=.B3 (BM w A1)) rfl λa _ r=>⟨BM w L',⟨JY,trivial⟩,r⟩
     refine DH ?_;rw[aK9];have aL7:(E8 q L').length<60:=by
      have :(E8 q L').length<=L'.length:=bx4 ..;have :=Qp.length_eq;(with_reducible exact Mine.vl (by assumption) (by assumption) (by assumption))
     have hs:O2 ((E8 q L').map .str) (Qo (E8 q L') (BM w A1) q)=.ok (.v (.ref 2)) ((Qo (E8 q L') (BM w A1) q).new (.list ((E_ (E8 q L')).map .str))).2:=by
      unfold O2;rw[ow];show A0.iff (G0 (E8 q L').length 60) _=_;rw[show G0 (E8 q L').length 60=M from uI aL7];rfl
     refine si (bW (Bk:=GH AV) (AB:=Qo (E8 q L') (BM w A1) q) aL3 aL4 (λh=>CW.builtin) rfl c_ (λBG EM p F_ Cr=>Wc rfl (A9.e (aL2 d _ _ _) F_) p) λus bL1 bL2 aL8 aL9 ox=>?_);refine Bv ox ?_;(try clear ox);intro u1 us1 B6 ru e1;subst B6;cases e1;refine mY aL8 (i:=1) rfl ru hs _ _ λy aM0 aM1 oy aM2 aM3=>?_;have hm:(E8 q L').Perm (E8 q A1):=Qp.filterMap (Qn q);rw[aL5 hm]at oy;refine k _ aM0 aM1 (oy.forget (Q:=[(2,.list ((E_ (E8 q A1)).map .str)),(0,.B3 (BM w A1))]) λi o e=>?_) ?_ ⟨y,rfl,aM3⟩;. match i,e with
 |0,e=>injection e with e;subst e;rfl|2,e=>injection e with e;subst e;rfl|1,e=>exact(BE e).elim|i+3,e=>exact(BE e).elim
     . exact Ab.trans (EK.trans (Qf.trans ((aL9.trans aM2).FY)))
 . intro x;rw[aK8];kernel_rfl
end
noncomputable def Ir:I (V×V)->Tx->V
 |[],_=>.none|e::l,p=>match e.1 with
 |.str q=>(match CU q p with|true=>e.2|false=>Ir l p)|_=>Ir l p
noncomputable def U4:I (V×V)->AD (I Tx)
 |[]=>G []|e::l=>match e.1,U4 l with|.str q,G m=>G (q::m)|_,_=>L
noncomputable def Oj:I (V×V)->AK
 |[]=>M|e::l=>match e.2 with|.str _=>Oj l|.sym _ _ _=>Oj l|_=>A6
set_option tactic.hygienic true in
theorem oz:∀{N:I (V×V)}{A1:I Tx},U4 N=G A1->A1.Nodup->N=BM (Ir N) A1
 |[],A1,h,_=>by injection h with h;subst h;rfl|e::l,A1,h,nd=>by
  simp only[U4]at h;split at h
  . rename_i q m he hm;injection h with h;subst h;obtain⟨e1,e2⟩:=e;simp only at he;subst he;have ih:=oz hm (ET.mp nd).2;show _=(V.str q,Ir ((V.str q,e2)::l) q)::BM (Ir ((V.str q,e2)::l)) m;have h1:Ir ((V.str q,e2)::l) q=e2:=by simp only[Ir];rw[Eb.mpr rfl]
    have h2:BM (Ir ((V.str q,e2)::l)) m=BM (Ir l) m:=by
     refine gh λp hp=>?_;have Cc:CU q p=A6:=by cases z:CU q p with
 |false=>rfl|true=>exact absurd (Eb.mp z▸hp) (ET.mp nd).1
     simp only[Ir,Cc]
    rw[h1,h2,<-ih]
  . exact(BE h).elim
set_option tactic.hygienic true in
theorem dE:∀{N:I (V×V)},Oj N=M->∀p,Cl (Ir N p)
 |[],_,p=>λ_=>rfl|e::l,h,p=>by
  have hl:Oj l=M/\Cl e.2:=by
    simp only[Oj]at h;split at h;. rename_i q;exact⟨h,by rw[q];exactλ_=>rfl⟩
    . rename_i q;exact⟨h,by rw[q];exactλ_=>rfl⟩
    . exact(E4 h).elim
  simp only[Ir];split
  . split;. exact hl.2
    . exact dE hl.1 p
  . exact dE hl.1 p
section
variable{J:I A8}
theorem aM4(AV:(Bb P).In B.base)(AM:Df B)(hq:q∈KW){w:Tx->V}(hw:∀p,Cl (w p))(hL:∀p∈A1,p∈KV)(Ch:A1.length<=20)(g:Gd B F ⟨sc,7⟩ A ⟨[],[(0,.B3 (BM w A1))],1⟩ C s)(rs:Aa s.heap C [.ref 0,.str q] us):Ae B F ⟨sc,7⟩ A ⟨[],[(2,.list ((E_ (E8 q A1)).map .str)),(0,.B3 (BM w A1))],3⟩ C s (CE (.ref 399) us) (RV (.ref 2)):=by
 have hf:AL Ii 399=G (DD (Ba 30)):=by kernel_rfl
 refine DA (Mi AV (Mk AV) (O_ P hf)) ?_;intro o fd ok;have hb:JE (DD (Ba 30)) [.ref 0,.str q]=G [(Ms,.ref 0),(HZ,.str q)]:=by kernel_rfl
 exact oB (H:=⟨[],[(0,.B3 (BM w A1))],1⟩) (K:=⟨sc,7⟩) (d:=6) ok (AB:=⟨(dD (BM w A1) q).env,[(2,.list ((E_ (E8 q A1)).map .str)),(0,.B3 (BM w A1))],3⟩) hb rfl (.inr rfl) (λg'=>(by have q:=@aL6;rw[show Et=Ba 30 by unfold Et;rfl]at q;exact q AV AM (DE _) hq hw hL Ch g')) g rs
theorem aM5(AV:(Bb P).In B.base)(AM:Df B)(hq:q∈KW)(hk:U4 N=G A1)(nd:A1.Nodup)(hc:Oj N=M)(hL:∀p∈A1,p∈KV)(Ch:A1.length<=20)(hd:7<=K.d)(hi:AL H.h i=G (.B3 N))(g:Gd B F K A H C s)(rs:Aa s.heap C [.ref i,.str q] us):Ae B F K A ⟨H.env,(H.n+1,.list ((E_ (E8 q A1)).map .str))::H.h,H.n+2⟩ C s (CE (.ref 399) us) (RV (.ref (H.n+1))):=by
 have he:=oz hk nd;have hw:=dE hc;have pA:∀e∈N,Cl e.2:=by rw[he];exact Mp hw
 refine nH (A7:=⟨H.env,(H.n+1,.list ((E_ (E8 q A1)).map .str))::H.h,H.n+2⟩) (B7:=[i]) (DI:=⟨[],[(0,.B3 N)],1⟩) (AB:=⟨[],[(2,.list ((E_ (E8 q A1)).map .str)),(0,.B3 N)],3⟩) (d:=7) (MP:=[.ref 0,.str q]) (Wx:=.ref 2) (λ{F A C s us}g' Fs=>?_) rfl hd g ⟨rfl,ET.mpr ⟨(by simp),HK⟩,λj m=>?_,λj o e=>?_⟩ ⟨rfl,by show 1<=3;(with_reducible exact fC _ _),rfl,λj o e=>?_⟩ rfl rfl rs
 . rw[he]at g' ⊢;have :=aM4 AV AM hq hw hL Ch g' Fs;exact this
 . rw[CI.mp m];exact Im g hi
 . match j,e with
 |0,e=>injection e with e;subst e;exact⟨i,rfl,by rw[hi];show _=G (Ob.B3 (N.map _));rw[KQ pA]⟩|j+1,e=>exact(BE e).elim
 . refine Ea (y:=AL H.h j) e (λhj e=>?_) λ_ e=>?_
   . injection e with e;subst e;have :=CD hj;clear hj;subst this;refine .inl ⟨2,_,rfl,rfl,?_⟩;show _=Ob.list (Cs _ ((E_ (E8 q A1)).map .str));rw[LN]
   . by_cases pB:j=i
     . clear rs;subst pB;rw[hi]at e;injection e with e;subst e;exact .inl ⟨0,_,rfl,rfl,by show _=Ob.B3 (N.map _);rw[KQ pA]⟩
     . exact .inr ⟨e,by simpa using pB⟩
end
noncomputable def Hz(a b:BA):AK:=BC a.line b.line&&(BC a.col b.col&&(BC a.endLine b.endLine&&BC a.endCol b.endCol))
theorem Iu{a b:BA}(h:Hz a b=M):a=b:=by
 cases a;cases b;have n:=λ{x y:O}(e:BC x y=M)=>CD e;exact congr (congr (congr (congrArg Pos.mk (n (B1 h))) (n (B1 (Ak h)))) (n (B1 (Ak (Ak h))))) (n (Ak (Ak (Ak h))))
noncomputable def pC(f:AA->AA->AK)(g g':FP):AK:=f g.target g'.target&&(f g.iter g'.iter&&(all2 f g.ifs g'.ifs&&decide (g.is_async=g'.is_async)))
noncomputable def pE(f:AA->AA->AK)(a b:AA):AK:=DM a A6 (λx p=>DM b A6 λy q=>Cy x y&&Hz p q)||(HP a A6 (λc k p=>HP b A6 λc' l q=>decide (c=c')&&(BC k l&&Hz p q))||(Js a A6 (λY k p=>Js b A6 λys l q=>all2 f Y ys&&(BC k l&&Hz p q))||(EB a A6 (λg Y kw p=>EB b A6 λg' ys pF q=>f g g'&&(all2 f Y ys&&l0 kw A6 (l0 pF A6 (Hz p q))))||(H5 a A6 (λv i p=>H5 b A6 λw j q=>f v w&&(Cy i j&&Hz p q))||(J5 a A6 (λv i p=>J5 b A6 λw j q=>f v w&&(f i j&&Hz p q))||(Kq a A6 (λl o r p=>Kq b A6 λl' o' r' q=>f l l'&&(decide (o=o')&&(all2 f r r'&&Hz p q)))||(Nh a A6 (λl o r p=>Nh b A6 λl' o' r' q=>f l l'&&(decide (o=o')&&(f r r'&&Hz p q)))||IF a A6 λe gs sc p=>IF b A6 λe' gs' IR q=>f e e'&&(all2 (pC f) gs gs'&&(decide (sc=IR)&&Hz p q)))))))))
theorem aM6{f:AA->AA->AK}(hf:∀a b,f a b=M->a=b)(a b:FP)(h:pC f a b=M):a=b:=by
 cases a;cases b;exact congr (congr (congr (congrArg bR1 (hf _ _ (B1 h))) (hf _ _ (B1 (Ak h)))) (Nm hf _ _ (B1 (Ak (Ak h))))) (of_decide_eq_true (Ak (Ak (Ak h))))
theorem aM7{f:AA->AA->AK}(hf:∀a b,f a b=M->a=b)(a b:AA)(h:pE f a b=M):a=b:=by
 have F:=λ{a b:AA}(e:f a b=M)=>hf a b e;have n:=λ{x y:O}(e:BC x y=M)=>CD e;have A:=Nm hf;refine Ju h (λh=>?_) λh=>?_
 . apply EU h B0;intro x p h;apply EU h B0;intro y q h;exact congr (congrArg Expr.Name (E1.mp (B1 h))) (Iu (Ak h))
 refine Ju h (λh=>?_) λh=>?_
 . apply J4 h B0;intro c k p h;apply J4 h B0;intro c' l q h;exact congr (congr (congrArg Expr.Constant (of_decide_eq_true (B1 h))) (n (B1 (Ak h)))) (Iu (Ak (Ak h)))
 refine Ju h (λh=>?_) λh=>?_
 . apply Rw h B0;intro x k p h;apply Rw h B0;intro y l q h;exact congr (congr (congrArg Expr.Tuple (A _ _ (B1 h))) (n (B1 (Ak h)))) (Iu (Ak (Ak h)))
 refine Ju h (λh=>?_) λh=>?_
 . apply M3 h B0;intro g Y kw p h;apply M3 h B0;intro g' ys pF q h;apply EV (Ak (Ak h)) B0;intro h1;apply EV h1 B0;intro h2;exact congr (congr (congr (congrArg Expr.Call (F (B1 h))) (A _ _ (B1 (Ak h)))) rfl) (Iu h2)
 refine Ju h (λh=>?_) λh=>?_
 . apply Rx h B0;intro v i p h;apply Rx h B0;intro w j q h;exact congr (congr (congrArg Expr.Attribute (F (B1 h))) (E1.mp (B1 (Ak h)))) (Iu (Ak (Ak h)))
 refine Ju h (λh=>?_) λh=>?_
 . apply Ng h B0;intro v i p h;apply Ng h B0;intro w j q h;exact congr (congr (congrArg Expr.Subscript (F (B1 h))) (F (B1 (Ak h)))) (Iu (Ak (Ak h)))
 refine Ju h (λh=>?_) λh=>?_
 . apply Ry h B0;intro v i r p h;apply Ry h B0;intro w j s q h;exact congr (congr (congr (congrArg Expr.Compare (F (B1 h))) (of_decide_eq_true (B1 (Ak h)))) (A _ _ (B1 (Ak (Ak h))))) (Iu (Ak (Ak (Ak h))))
 refine Ju h (λh=>?_) λh=>?_
 . apply gz h B0;intro v i r p h;apply gz h B0;intro w j s q h;exact congr (congr (congr (congrArg Expr.BinOp (F (B1 h))) (of_decide_eq_true (B1 (Ak h)))) (F (B1 (Ak (Ak h))))) (Iu (Ak (Ak (Ak h))))
 apply Yd h B0;intro v i r p h;apply Yd h B0;intro w j s q h;exact congr (congr (congr (congrArg Expr.ListComp (F (B1 h))) (Nm (aM6 hf) _ _ (B1 (Ak h)))) (of_decide_eq_true (B1 (Ak (Ak h))))) (Iu (Ak (Ak (Ak h))))
noncomputable def pG(n:O):AA->AA->AK:=RN (λ_ _=>A6) (λ_ f=>pE f) n
theorem aM8(n:O):∀a b,pG n a b=M->a=b:=RN (λ_ _ h=>(B0 h).elim) (λ_ ih=>aM7 ih) n
noncomputable def Qq(a b:AA):AK:=pG 12 a b
theorem Qr{a b:AA}(h:Qq a b=M):a=b:=aM8 12 a b h
noncomputable def pH(a b:As):AK:=Jt a A6 λc s o p=>Jt b A6 λc' s' o' q=>Qq c c'&&(Hz p q&&l0 o A6 (l0 o' A6 (l1 s A6 λx=>l1 s' A6 λy=>Ph x A6 λe p=>Ph y A6 λe' q=>Qq e e'&&Hz p q)))
theorem aM9{a b:As}(h:pH a b=M):a=b:=by
 apply Ye h B0;intro c s o p h;apply Ye h B0;intro c' s' o' q h;apply EV (Ak (Ak h)) B0;intro h1;apply EV h1 B0;intro h1;apply Ct h1 B0;intro x h1;apply Ct h1 B0;intro y h1;apply Yf h1 B0;intro e p1 h1;apply Yf h1 B0;intro e' q1 h1;rw[Qr (B1 h),Iu (B1 (Ak h)),Qr (B1 h1),Iu (Ak h1)]
noncomputable def pI(a b:As):AK:=G4 a A6 λt i s o p=>G4 b A6 λt' i' s' o' q=>Qq t t'&&(Qq i i'&&(Hz p q&&l0 o A6 (l0 o' A6 (l1 s A6 λx=>l1 s' A6 λy=>pH x y))))
theorem aN0{a b:As}(h:pI a b=M):a=b:=by
 apply hV h B0;intro c i s o p h;apply hV h B0;intro c' i' s' o' q h;apply EV (Ak (Ak (Ak h))) B0;intro h1;apply EV h1 B0;intro h1;apply Ct h1 B0;intro x h1;apply Ct h1 B0;intro y h1;rw[Qr (B1 h),Qr (B1 (Ak h)),Iu (B1 (Ak (Ak h))),aM9 h1]
noncomputable def HE:As:=Ba 31
noncomputable def Mu:As:=Ba 36
noncomputable def Qs(l:I As)(k:O):As:=l[k]?.getD (.Pass ⟨0,0,0,0⟩)
noncomputable def Mv:As:=G4 (Qs (Fi HE) 3) (.Pass ⟨0,0,0,0⟩) λ_ _ b _ _=>Jt (Qs b 1) (.Pass ⟨0,0,0,0⟩) λ_ s _ _=>Qs s 0
noncomputable def Mw:AA:=G4 (Qs (Fi Mu) 1) (.Constant .none 0 ⟨0,0,0,0⟩) λ_ _ b _ _=>Jt (Qs b 1) (.Constant .none 0 ⟨0,0,0,0⟩) λ_ s _ _=>Pj (Qs s 0) (.Constant .none 0 ⟨0,0,0,0⟩) λ_ e _=>e
section
variable{J:I A8}
theorem Ca.Fv(hc:∀B9,DS B9 o=o)(r:Ca prog w h AZ a o):Ca prog w h Au a o:=by
 have h1:Ca prog w h [] a o:=by
  refine(Ca.DV (B9:=λj=>AZ.length+j) (Au:=AZ) λj=>?_).mpr (by rw[hc];exact r);rw[V9 (H2 ..)];rfl
 have :=(Ca.DV (h:=h) (prog:=prog) (w:=w) (a:=a) (o:=o) (B9:=λj=>Au.length+j) (AZ:=[]) (Au:=Au) λj=>(by rw[V9 (H2 ..)];rfl)).mp h1;rw[hc]at this;exact this
theorem pJ(g:Gd B F K A H C s)(g':Gd B F K' A' AB AT s')(x':Nx F.D [] s.heap s'.heap [] AT)(hj:AL AB.h j=G o)(hc:∀B9,DS B9 o=o)(r:VR s'.heap AT (.ref j) u):∃a,u=.ref a/\Gd B F K A ⟨H.env,(H.n,o)::H.h,H.n+1⟩ (C++[a]) s'/\Nx F.D [] s.heap s'.heap C (C++[a]):=by
 refine AC r ?_;(try clear r);intro a ha Aw;subst Aw;have hm:=Ev ha;refine AC (x'.pre) ?_;intro J e GA;rw[tu]at e;subst e;have hn:=GA a hm;have hx:Nx F.D [] s.heap s'.heap C (C++[a]):=⟨⟨[a],rfl,λb m=>by rw[CI.mp m];exact hn⟩,x'.live,x'.Bw,λb o e _ m=>x'.same b o e (by simp) m⟩;refine⟨a,rfl,g.back hx (by rw[FC,g.len];rfl) ?_ ?_ ?_ ?_ g'.base g'.os g'.gens (Cf.Gu g g.env hx),hx⟩
 . refine I9.mpr ⟨g.nodup,by simp,λb hb c hc e=>?_⟩;rw[CI.mp hc]at e;clear ha hc hm hx;subst e;refine xE (g.live b hb) ?_;intro o q;rw[hn]at q;exact(BE q).elim
 . intro b m;rcases Dp.mp m with m|m;. exact g.fresh b m
   . rw[CI.mp m];exact g'.fresh a hm
 . intro b m;rcases Dp.mp m with m|m;. refine xE (g.live b m) ?_;intro o e;exact x'.live b o e
   . rw[CI.mp m];exact g'.live a hm
 . intro i p e;refine Ea (y:=AL H.h i) e (λq e=>?_) λ_ e=>?_
   . injection e with e;subst e;have q:=CD q;subst q;have ro:=g'.obj hj ha;exact⟨a,by rw[<-g.len];simp,ro.Fv hc⟩
   . refine AC (g.objs i p e) ?_;intro b hb rb;exact⟨b,FX hb,rb.mono x'.Bw λy ey=>x'.keep b y ey (by simp) (by simp) (λz=>absurd (Ev hb) (g.Cz b z).1)⟩
theorem pK(g:Gd B F K A H C s)(hd:d<=K.d):Gd B F ⟨K.sc,d⟩ A ⟨[],[],0⟩ [] s:=g.sub (B7:=[]) ⟨rfl,HK,λi m=>(by(exfalso;cases m)),λj o e=>(by exact(BE e).elim)⟩ hd (Cf.nil g)
theorem aN1(Oc:∀{F:Fm}{A:CK}{C:I A8}{s:AR}{us:I A4},Gd B F ⟨K.sc,d⟩ A ⟨[],[],0⟩ C s->Aa s.heap C args us->Ae B F ⟨K.sc,d⟩ A AB C s (CE fu us) (RV (.ref i)))(hi:AL AB.h i=G o)(hc:∀B9,DS B9 o=o)(ha:JS args=M)(hd:d<=K.d)(g:Gd B F K A H C s)(rs:Aa s.heap C args us):Ae B F K A ⟨H.env,(H.n,o)::H.h,H.n+1⟩ C s (CE fu us) (RV (.ref H.n)):=by
 intro A2 E k;refine Oc (pK g hd) (Aa.Fv ha rs) A2 E λu AT s' g' x' r'=>?_;refine CZ (pJ g g' x' hi hc r') ?_;intro a B6 gg xx;clear r';subst B6;exact k _ _ s' gg xx ⟨a,by rw[<-g.len];simp,rfl⟩
theorem pL{l:I (I Tx)}:DS B9 (.list (l.map λr=>.tup L (r.map .str)))=.list (l.map λr=>.tup L (r.map .str)):=by
 show Ob.list (Cs B9 _)=_;rw[Oa,Jo];refine congrArg Ob.list (gh λr _=>?_);show V.tup L (Cs B9 (r.map .str))=_;rw[LN]
theorem Qt{v:A4}:VR h C (.top v) v:=rfl
theorem aN2(AV:(Bb P).In B.base)(AM:Df B){a b:Tx}(ha:a∈Bn A6)(hb:b∈Bn M)(hd:20<=K.d)(g:Gd B F K A H C s)(rs:Aa s.heap C [.str a,.str b] us):Ae B F K A ⟨H.env,(H.n,.list ((C8 a b).map λr=>.tup L (r.map .str)))::H.h,H.n+1⟩ C s (CE (.ref 430) us) (RV (.ref H.n)):=by
 refine EW (ay4 ha hb K.sc) ?_;intro i AB h1 h2;exact aN1 (λ{F A C s us}g' Fs=>(Ts AV AM 300).s.call h1 g' Qt Fs) h2 (λB9=>pL) rfl hd g rs
end
@[irreducible]noncomputable def dF:AA:=G4 Mv (.Constant .none 0 ⟨0,0,0,0⟩) λt _ _ _ _=>t
@[irreducible]noncomputable def Mx:AA:=G4 Mv (.Constant .none 0 ⟨0,0,0,0⟩) λ_ t _ _ _=>t
@[irreducible]noncomputable def XH:I As:=G4 Mv [] λ_ _ b _ _=>b
@[irreducible]noncomputable def aN3:BA:=G4 Mv ⟨0,0,0,0⟩ λ_ _ _ _ p=>p
theorem aN4:Mv=.For dF Mx XH [] aN3:=by kernel_rfl
noncomputable def Qu:U:=⟨⟨[83,101,113,117,101,110,99,101,77,97,116,99,104,101,114]⟩⟩
@[irreducible]noncomputable def Ol:I AA:=EB Mx [] λz1 _ _ _=>H5 z1 [] λz2 _ _=>EB z2 [] λ_ a _ _=>a
@[irreducible]noncomputable def dG:BA:=EB Mx ⟨0,0,0,0⟩ λz1 _ _ _=>H5 z1 ⟨0,0,0,0⟩ λz2 _ _=>EB z2 ⟨0,0,0,0⟩ λz3 _ _ _=>DM z3 ⟨0,0,0,0⟩ λ_ p=>p
@[irreducible]noncomputable def dH:BA:=EB Mx ⟨0,0,0,0⟩ λz1 _ _ _=>H5 z1 ⟨0,0,0,0⟩ λz2 _ _=>EB z2 ⟨0,0,0,0⟩ λ_ _ _ p=>p
@[irreducible]noncomputable def Qv:BA:=EB Mx ⟨0,0,0,0⟩ λz1 _ _ _=>H5 z1 ⟨0,0,0,0⟩ λ_ _ p=>p
@[irreducible]noncomputable def I0:BA:=EB Mx ⟨0,0,0,0⟩ λ_ _ _ p=>p
theorem pM:Mx=.Call (.Attribute (.Call (.Name Qu dG) Ol [] dH) Ml Qv) [] [] I0:=by kernel_rfl
theorem aN5:BC Qv.endLine I0.line=M:=by kernel_rfl
theorem aN6:Ol.all CP=M:=by kernel_rfl
theorem aN7:Vi (.Call (.Name Qu dG) Ol [] dH)=M:=by kernel_rfl
theorem aN8:Ah CQ.glob Qu=G (.top (.ref 242)):=by kernel_rfl
section
variable{J:I A8}
theorem LU{Bk:Gl B A3}{args:I AA}{w:A4}(hg:Dh K.sc id=M)(hw:Ah A3.glob id=G (.top w))(hp:args.all CP=M)(g:Gd B F K A H C s)(h:∀BG EM p,Gd B F K A H BG EM->Nx F.D [] s.heap EM.heap C BG->Ae B F K A AB BG EM (Lm (F8 p (Dz args F.env))) (O7 vs))(hk:∀us AZ AJ,Gd B F K A AB AZ AJ->Nx F.D [] s.heap AJ.heap C AZ->Aa AJ.heap AZ vs us->CW (AQ B.prog B.w) AJ.heap w/\AH (AQ B.prog B.w) A (CE w us) A2 E AJ):AH (AQ B.prog B.w) A (eval (.Call (.Name id p) args [] pos) F.env) A2 E s:=by exact Wd (Bk:=Bk) hg hw hp g λAZ AJ AN Ab=>h AZ AJ pos AN Ab _ E λus Au Ai AU Al BB=>hk us Au Ai AU (Ab.trans Al) BB
theorem pN{l:I Op}:DS B9 (.list (l.map F1))=.list (l.map F1):=by
 show Ob.list (Cs B9 _)=_;rw[Oa,Jo];rfl
theorem aN9(AV:(Bb P).In B.base)(AM:Df B){a b:Tx}(ha:a∈Bn A6)(hb:b∈Bn M)(hd:20<=K.d)(hg:Dh K.sc Qu=M)(hv:ev CQ 60 K (.N Ol) H=.ok (.vs [.none,.sym A6 a ha,.sym M b hb]) AB)(g:Gd B F K A H C s)(k:∀(CN:I Op)u AT s',(∀o∈CN,o∈KN)->CN.flatMap Ik=C8 a b->CN.length<=15->Gd B F K A ⟨AB.env,(AB.n,.list (CN.map F1))::AB.h,AB.n+1⟩ AT s'->Nx F.D [] s.heap s'.heap C AT->VR s'.heap AT (.ref AB.n) u->A2 u s'):AH (AQ B.prog B.w) A (eval Mx F.env) A2 E s:=by
 rw[pM];have A9:=(all1 AV AM 60).s;refine iG (nk ha hb K.sc) ?_;intro i σM j σO CN hM pO hk hO hj dI Qw Ch;obtain⟨bL3,pP,nM⟩:=σM;dsimp only at pO;subst pO;have T:=Ts AV AM 300;rw[bp8,aW aN7];refine A5 (LU (Bk:=GH AV) (A3:=CQ) hg aN8 aN6 g (λBG EM p F_ Cr=>A9.N hv p F_) λus AZ AJ AN Ab Aq=>?_);have gs:=pK (d:=20) AN hd;have ru:Aa AJ.heap [] [.none,.str a,.str b] us:=Aa.Fv (v:=[.none,.str a,.str b]) rfl (show Aa AJ.heap AZ [.none,.str a,.str b] us from Aq);refine⟨T.c.MW hM gs Qt,T.s.call hM gs Qt ru _ _ λum Au Ai AU Al BB=>A5 (Ek ?_)⟩;show AH _ A (PV _ Ml Qv I0 F.env um (([]:I AA).length+0) (F8 I0 (Dz [] F.env)) (Um I0 (Un [] F.env))) A2 E Ai;unfold PV;rw[show bp9 (([]:I AA).length+0) (F8 I0 (Dz [] F.env)) (Um I0 (Un [] F.env))=M from rfl];refine A5 (C0 ?_);show AH _ A (Jj um Ml _) _ E Ai;refine mh (cE AV) cF AU BB hk _ _ _ λfv first Ax Ao B8 mv=>?_;show AH _ A (Jk M _ F.env Qv I0>>=λp=>PU p fv first (F8 I0 (Dz [] F.env)) []) A2 E Ax;have OC:Jk M (.Call (.Name Qu dG) Ol [] dH) F.env Qv I0=pure I0:=by
  unfold Jk;have :(Qv.endLine==I0.line)=M:=by simpa using aN5
  rw[this];rfl
 rw[OC];refine A5 (AW ?_);refine fc (P:=λh=>CW (AQ B.prog B.w) h fv) (by rfl) (λh c=>c) ?_;refine aV ?_;refine(T.s.N (l:=[]) (v:=[]) (K:=⟨K.sc,20⟩) (H:=⟨[],pP,nM⟩) (A7:=⟨[],pP,nM⟩) rfl I0 Ao) _ _ λus IZ EE CA D' JM=>?_;cases JM;refine⟨T.c.kS hO CA mv,T.c.HT hO CA mv (VR.nx D' (VR.nx B8 BB)) rfl _ _ λbW3 QP Ef Co EK Ic=>?_⟩;refine CZ (pJ AN Co (Al.trans (B8.trans (D'.trans EK))) hj (λB9=>pN) Ic) ?_;intro ad Aw gg xx;clear Ic;subst Aw;exact k CN _ _ Ef dI Qw Ch gg (Ab.trans xx) ⟨ad,by rw[<-AN.len];simp,rfl⟩
end
noncomputable def Om:U:=⟨⟨[111,110,101]⟩⟩
noncomputable def On:U:=⟨⟨[116,119,111]⟩⟩
noncomputable def Oo:U:=⟨⟨[103,111,110,101]⟩⟩
noncomputable def Oq:U:=⟨⟨[99,111,109,101]⟩⟩
noncomputable def JZ:U:=⟨⟨[114,111,119,115]⟩⟩
noncomputable def KX:U:=⟨⟨[110,97,109,101]⟩⟩
noncomputable def aO0:U:=⟨⟨[116,97,103]⟩⟩
noncomputable def nmI:U:=⟨⟨[105]⟩⟩
noncomputable def nmK:U:=⟨⟨[107]⟩⟩
noncomputable def nmJ:U:=⟨⟨[106]⟩⟩
noncomputable def nmM:U:=⟨⟨[109]⟩⟩
noncomputable def Qx(f:U->A4)(p:Tx):I (U×V):=[(Om,.top (f Om)),(On,.top (f On)),(HZ,.top (f HZ)),(H_,.top (f H_)),(Oo,.top (f Oo)),(Oq,.top (f Oq)),(JZ,.ref 0),(KX,.top (f KX)),(Mt,.str p)]
noncomputable def My(f:U->A4)(p:Tx)(r:O)(Y:I Sg)(l:I V):Mine.St:=⟨Qx f p,[(0,.rows r Y),(1,.list l)],2⟩
noncomputable def Mz(f:U->A4)(p:Tx)(o:Op)(r:O)(Y:I Sg)(l:I V):Mine.St:=⟨Qx f p++[(aO0,.str o.tag),(nmI,.int o.i),(nmK,.int o.k),(nmJ,.int o.j),(nmM,.int o.m)],[(0,.rows r Y),(1,.list l)],2⟩
theorem aO1(d:O)(f:U->A4)(p:Tx)(o:Op)(r:O)(Y:I Sg)(l:I V):ev CQ 60 ⟨BV HE,d⟩ (.asg dF (F1 o)) (My f p r Y l)=.ok (.f .next) (Mz f p o r Y l):=by kernel_rfl
noncomputable def Ha(p:Tx):I Tx->Sg
 |t::r=>.it (t::p::r)|[]=>.it [p]
noncomputable def I1(p:Tx)(o:Op):I Sg:=(Ik o).map (Ha p)
noncomputable def pQ(o:Op):Prop:=∀(f:U->A4)(p:Tx)(r:O)(Y:I Sg)(l:I V),ev CQ 60 ⟨BV HE,6⟩ (.ss XH) (Mz f p o (r+1) Y l)=.ok (.f .next) (match I1 p o with|[]=>Mz f p o (r+1) Y l|x::_=>Mz f p o r (Y++[x]) l)
theorem dJ(o:Op):(∃x,Ik o=[x])\/Ik o=[]:=by
 unfold Ik;split;. exact .inr rfl
 . exact .inl ⟨_,rfl⟩
section
variable{J:I A8}
theorem Gd.aO2{env:I (U×V)}{h:I (O×Ob)}{Y:I Sg}(g:Gd B F K A ⟨env,h,m⟩ C s)(hi:AL h i=G (.rows (r+1) Y)):Gd B F K A ⟨env,putN h i (.rows r Y),m⟩ C s:=g.KS (H:=⟨env,h,m⟩) hi λa _ q=>by
 refine CZ q ?_;(try clear q);intro us p v l;exact⟨us,p,v,by omega⟩
theorem aO3(AV:(Bb P).In B.base)(AM:Df B)(hd:6<=d)(tt:∀o∈KN,pQ o){f:U->A4}{p:Tx}{AS:Dr->AR->Prop}(hI:Af.get? AE=L)(post:I Op):∀(pre:I Op)(r:O)(Y:I Sg){C:I A8}{s:AR},(∀o∈post,o∈KN)->post.length<=r->Gd B F ⟨BV HE,d⟩ A (My f p r Y ((pre++post).map F1)) C s->Nx F.D F.A_ Af s.heap BG C->CM B F C s.heap AE->E5 s.heap C (.lst 1) pre.length AE->(∀AT s',Gd B F ⟨BV HE,d⟩ A (My f p (r-post.length) (Y++post.flatMap (I1 p)) ((pre++post).map F1)) AT s'->Nx F.D F.A_ Af s'.heap BG AT->AS (.ok .next) s')->D7 (AQ B.prog B.w) A (.forLoop dF (.ref AE) XH [] F.env) AS s:=by induction post with
 |nil=>
  intro pre r Y C s _ _ g Cr fr it k;have AP:IQ (.lst 1) pre.length (My f p r Y ((pre++[]).map F1)).h=G L:=by
   show G (Gp ((pre++[]).map F1) pre.length)=_;rw[HV];simp
  refine MT (K7 g fr it AP (λx hx=>by exact(BE hx).elim) λhx Q tk AN DQ=>?_);refine k C _ ?_ (Cr.F0 DQ hI);simpa using AN|cons o post ih=>
  intro pre r Y C s hp hr g Cr fr it k;have AP:IQ (.lst 1) pre.length (My f p r Y ((pre++o::post).map F1)).h=G (G (F1 o)):=by
   show G (Gp ((pre++o::post).map F1) pre.length)=_;rw[HV];simp
  have A9:=(all1 AV AM 60).s;obtain⟨r,rfl⟩:∃r',r=r'+1:=⟨r-1,by simp at hr;(with_reducible exact Mine.yH (by assumption))⟩;refine MT (K7 g fr it AP (λx hx u Q tk AN DQ En Aq Ht=>?_) λhx=>by(exfalso;cases hx));injection hx with hx;subst hx;have L6:=Cr.F0 DQ hI;refine QI Aq (A9.asg (aO1 d f p o _ _ _) AN Ht _ _ λ_ Au Ai AU Al _=>A9.ss (tt o (hp o (Cp ..)) f p r Y _) (AU.low hd) _ _ λMU BS Ax Ao B8 BQ=>?_);cases BQ;have Ao:=AU.lift Ao;have xx:=Al.trans B8;have ED:=En.nx xx;have Gs:=Aq.nx xx En.C En.w;have Eo:=L6.trans xx;have e:pre++o::post=(pre++[o])++post:=by simp
  have drop:∀{r':O}{ys:I Sg}{l:I V}{a:I A8}{s:AR},Gd B F ⟨BV HE,d⟩ A (Mz f p o r' ys l) a s->Gd B F ⟨BV HE,d⟩ A (My f p r' ys l) a s:=λg=>g.drop λx v e=>T4 (l:=Qx f p) (f:=id) rfl e;have HW:E5 Ax.heap BS (.lst 1) (pre++[o]).length AE:=by rw[FC];exact Gs
  have CA:Gd B F ⟨BV HE,d⟩ A (My f p r (Y++I1 p o) ((pre++o::post).map F1)) BS Ax:=by
   rcases dJ o with D8|hx;refine xE D8 ?_;(try clear D8);intro x hx;rotate_left;rotate_left
   . have hs:I1 p o=[Ha p x]:=by unfold I1;rw[hx];rfl
     rw[hs]at Ao ⊢;exact drop Ao
   . have hs:I1 p o=[]:=by unfold I1;rw[hx];rfl
     rw[hs]at Ao ⊢;rw[HL];exact Gd.aO2 (drop Ao) (i:=0) rfl
  refine ih (pre++[o]) r (Y++I1 p o) (λq m=>hp q (Cq _ m)) (by simp at hr;(with_reducible assumption)) (by rw[<-e];exact CA) Eo ED HW λAT s' g' x'=>k AT s' ?_ x';rw[<-e]at g';have hl:r+1-(o::post).length=r-post.length:=by simp
  rw[hl,YY,<-Uj];exact g'
end
theorem aO4:∀o∈KN,pQ o:=λo m f p r Y l=>H3.mp (show KN.map (λo=>ev CQ 60 ⟨BV HE,6⟩ (.ss XH) (Mz f p o (r+1) Y l))=KN.map λo=>.ok (.f .next) (match I1 p o with|[]=>Mz f p o (r+1) Y l|x::_=>Mz f p o r (Y++[x]) l)by kernel_rfl) o m
section
variable{J:I A8}
theorem Cf.pR{env:I (U×V)}(e:Cf F h C env):∃f:U->A4,(∀x v,Ah env x=G v->K3 F x->VR h C v (f x))/\∀(AT:I A8)(CV:I (U×V)),(∀x v',Ah CV x=G v'->K3 F x->(∃v,Ah env x=G v)/\VR h AT v' (f x))->Cf F h AT CV:=by
 refine CZ e ?_;intro m ns ce r;have key:∀x,∃u,∀v,Ah env x=G v->K3 F x->Sx F h m x u/\VR h C v u:=λx=>by cases hv:Ah env x with
 |none=>exact⟨.none,λv e=>(AF e).elim⟩|some v=>
  by_cases hf:K3 F x;. exact xE (r x v hv hf) λu q=>⟨u,λv' e _=>Bl e▸q⟩
  . exact⟨.none,λ_ _ q=>absurd q hf⟩
 have hf:=λx=>(key x).choose_spec;exact⟨λx=>(key x).choose,λx v e q=>(hf x v e q).2,λAT CV he=>⟨m,ns,ce,λx v' e q=>⟨_,xE (he x v' e q).1 λv hv=>(hf x v hv q).1,(he x v' e q).2⟩⟩⟩
theorem Gd.aO5{env:I (U×V)}{h:I (O×Ob)}(g:Gd B F K A ⟨env,h,m⟩ C s)(he:Cf F s.heap C CV):Gd B F K A ⟨CV,h,m⟩ C s:=⟨g.kinds,g.len,g.nodup,g.fresh,g.live,g.D5,g.D2,g.objs,he,g.base,g.os,g.gens,g.frames,g.DP,g.Cz,g.mods,g.handled,g.depth,g.units⟩
theorem aO6{p:Tx}{CN:I Op}{a b:Tx}(h:CN.flatMap Ik=C8 a b):DO (CN.flatMap (I1 p))=(C8 a b).map (O5 p):=by
 rw[<-h];clear h;induction CN with
 |nil=>rfl|cons o CN ih=>
 rw[YY,YY,NX,<-ih];show(I1 p o++_).flatMap IV=_;rw[bv3];congr 1;unfold I1;rcases dJ o with Bp|hx;refine xE Bp ?_;(try clear Bp);intro x hx;rotate_left;rotate_left
 . rw[hx];cases x<;>rfl
 . rw[hx];rfl
noncomputable def Qy(v:O->V)(k:O)(p:Tx):I (U×V):=[(Om,v 0),(On,v 1),(HZ,v 2),(H_,v 3),(Oo,v 4),(Oq,v 5),(JZ,.ref k),(KX,v 6),(Mt,.str p)]
noncomputable def aO7(env:I (U×V))(v:O->V)(k:O)(p:Tx):Prop:=∀x w,Ah (Qy v k p) x=G w->Ah env x=G w
theorem aO8:Dh (BV HE) Qu=M:=by kernel_rfl
theorem aO9(AV:(Bb P).In B.base)(AM:Df B)(hd:20<=d){a b p:Tx}(ha:a∈Bn A6)(hb:b∈Bn M){v:O->V}{k:O}{Y:I Sg}(hv:ev CQ 60 ⟨BV HE,d⟩ (.N Ol) H=.ok (.vs [.none,.sym A6 a ha,.sym M b hb]) AB)(he:aO7 AB.env v k p)(pS:k<AB.n)(U5:AL AB.h AB.n=L)(hk:AL AB.h k=G ob)(hr:FV ob=G (r,Y))(pT:15<=r)(g:Gd B F ⟨BV HE,d⟩ A H C s):CJ B F ⟨BV HE,d⟩ A ⟨Qy v k p,(k,.rows (r-15) (Y++[.run p a b]))::AB.h,AB.n+1⟩ C s (exec Mv F.env) (FR .next):=by
 intro A2 E kk;rw[aN4];refine Y2 (aN9 AV AM ha hb (K:=⟨BV HE,d⟩) hd aO8 hv g λCN u AZ AJ dI Qw Ch AN Ab Aq=>?_) ?_
 . have N0:AL ((AB.n,Ob.list (CN.map F1))::AB.h) k=G ob:=by
    have :BC AB.n k=A6:=by cases q:BC AB.n k with
 |false=>rfl|true=>exact absurd (CD q) (by(with_reducible exact PT (by assumption)))
    simp only[AL,this,S0];exact hk
   have AU:=AN.KS (i:=k) (o:=ob) (o':=.rows r Y) N0 λa ha _=>by
    refine HQ (WU AN ⟨a,ha,rfl⟩ N0 hr) ?_;intro a' us e p v l;injection e with e;subst e;exact⟨us,p,v,l⟩
   refine AC AU.env.pR ?_;intro f hf mk;generalize LV:Mine.St.set ⟨AB.env,(AB.n,Ob.list (CN.map F1))::AB.h,AB.n+1⟩ k (.rows r Y)=Bc at AU;have XI:Bc.n=AB.n+1:=by rw[<-LV];rfl
   have OG:AL Bc.h k=G (.rows r Y):=by rw[<-LV];exact ML N0
   have I2:∀i,i≠k->AL Bc.h i=AL ((AB.n,Ob.list (CN.map F1))::AB.h) i:=λi hi=>by rw[<-LV];exact MM (o:=.rows r Y) (l:=(AB.n,Ob.list (CN.map F1))::AB.h) hi
   have Eg:AL Bc.h AB.n=G (.list (CN.map F1)):=by rw[I2 _ (by(with_reducible exact PT (by assumption)))];exact JI
   have AG:Sub Bc (My f p r Y (CN.map F1)) [k,AB.n]:=⟨rfl,by simp;(with_reducible exact EQ (by assumption)),λi m=>by rw[XI];simp at m;(with_reducible exact Mine.vO (by assumption) (by assumption)),λj o e=>by match j,e with
 |0,e=>injection e with e;subst e;exact⟨k,rfl,OG⟩|1,e=>injection e with e;subst e;exact⟨AB.n,rfl,by rw[Eg,pN]⟩|j+2,e=>exact(BE e).elim⟩;have Er:∀j,(C' AZ [k,AB.n])[j]?=AZ[DJ Bc.n [k,AB.n] j]?:=λj=>by
    have :=GI (J:=[]) AU.len AG.lt j;simpa using this
   have gS:=AU.sub AG (DE d) (mk _ _ λx v' e q=>by
    have rows:VR AJ.heap (C' AZ [k,AB.n]) (.ref 0) (f JZ)↔VR AJ.heap AZ (.ref k) (f JZ):=VR.DV Er;exact(show∀z∈Qx f p,K3 F z.1->(∃v,Ah AB.env z.1=G v)/\VR AJ.heap (C' AZ [k,AB.n]) z.2 (f z.1)from all_cons (λq=>⟨⟨_,he Om _ rfl⟩,rfl⟩) (all_cons (λq=>⟨⟨_,he On _ rfl⟩,rfl⟩) (all_cons (λq=>⟨⟨_,he HZ _ rfl⟩,rfl⟩) (all_cons (λq=>⟨⟨_,he H_ _ rfl⟩,rfl⟩) (all_cons (λq=>⟨⟨_,he Oo _ rfl⟩,rfl⟩) (all_cons (λq=>⟨⟨_,he Oq _ rfl⟩,rfl⟩) (all_cons (λq=>⟨⟨_,he JZ _ rfl⟩,rows.mpr (hf _ _ (he JZ _ rfl) q)⟩) (all_cons (λq=>⟨⟨_,he KX _ rfl⟩,rfl⟩) (all_cons (λq=>⟨⟨_,he Mt _ rfl⟩,hf _ _ (he Mt _ rfl) q⟩) EC))))))))) _ (FF e) q);have rS:VR AJ.heap (C' AZ [k,AB.n]) (.ref 1) u:=(VR.DV Er).mpr Aq;refine OB gS rS (it:=.lst 1) rfl λAE Q tk Ao B8 hI ED Gs=>?_;refine aO3 AV AM (by omega) aO4 (Af:=AJ.heap) hI CN [] r Y dI (by(with_reducible exact B4 (by assumption) (by assumption))) Ao B8.FY ED Gs λAT s' g' x'=>?_;have CA:=g'.KS (i:=0) (o':=.rows (r-15) (Y++[.run p a b])) rfl λa' _ q=>by
    refine CZ q ?_;(try clear q);intro us pl vr l;have N:DO (Y++CN.flatMap (I1 p))=DO (Y++[.run p a b]):=by
      rw[OP,OP,aO6 Qw];show _=_++(IV (.run p a b)++[]);rw[HL];rfl
    rw[N]at vr l;exact⟨us,pl,vr,by(with_reducible exact Mine.v8 (by assumption) (by assumption))⟩
   have Co:=Gd.drop (K5:=[]) CA λx v e=>by exact(BE e).elim
   refine CZ (AU.oC AG Co x' (A7:=⟨[],(k,.rows (r-15) (Y++[.run p a b]))::AB.h,AB.n+1⟩) ⟨rfl,DE _,by rw[XI];rfl,λi o e=>by
    refine Ea (b:=BC k i) (y:=AL AB.h i) e (λq e=>?_) λq e=>?_
    . injection e with e;subst e;rw[<-CD q];exact .inl ⟨0,_,rfl,rfl,rfl⟩
    . have h1:i≠k:=λz=>by rw[z,Iy]at q;(exfalso;cases q)
      have h2:i≠AB.n:=λz=>by rw[z,U5]at e;exact(BE e).elim
      refine .inr ⟨?_,by simp;exact⟨h1,h2⟩⟩;rw[I2 i h1];have :BC AB.n i=A6:=by cases q:BC AB.n i with
 |false=>rfl|true=>exact absurd (CD q).symm h2
      simp only[AL,this,S0];exact e⟩) ?_;intro J BP gg xx;clear CA Co x';subst BP;refine AC (g'.env.pR) ?_;intro f' FJ mk';refine kk _ _ s' (gg.aO5 (mk' _ (Qy v k p) λx w e q=>?_)) (Ab.FY.trans xx) rfl;have same:∀(y:U)(z:V),K3 F y->Ah (Qx f p) y=G (.top (f y))->Ah AB.env y=G z->VR s'.heap (AZ++J) z (f' y):=λy z q h1 h2=>by
    have e1:=FJ y _ h1 q;have e1:f' y=f y:=e1;rw[e1];exact(hf y z h2 q).nx xx
   exact(show∀z∈Qy v k p,K3 F z.1->(∃v,Ah (Qx f p) z.1=G v)/\VR s'.heap (AZ++J) z.2 (f' z.1)from all_cons (λq=>⟨⟨_,rfl⟩,same Om _ q rfl (he Om _ rfl)⟩) (all_cons (λq=>⟨⟨_,rfl⟩,same On _ q rfl (he On _ rfl)⟩) (all_cons (λq=>⟨⟨_,rfl⟩,same HZ _ q rfl (he HZ _ rfl)⟩) (all_cons (λq=>⟨⟨_,rfl⟩,same H_ _ q rfl (he H_ _ rfl)⟩) (all_cons (λq=>⟨⟨_,rfl⟩,same Oo _ q rfl (he Oo _ rfl)⟩) (all_cons (λq=>⟨⟨_,rfl⟩,same Oq _ q rfl (he Oq _ rfl)⟩) (all_cons (λq=>⟨⟨_,rfl⟩,(VR.DV (GI AU.len AG.lt)).mp (FJ JZ (.ref 0) rfl q)⟩) (all_cons (λq=>⟨⟨_,rfl⟩,same KX _ q rfl (he KX _ rfl)⟩) (all_cons (λq=>⟨⟨_,rfl⟩,FJ Mt (.str p) rfl q⟩) EC))))))))) _ (FF e) q
 . intro x;rw[pM];kernel_rfl
end
@[irreducible]noncomputable def LW:AA:=Nh Mw (.Constant .none 0 ⟨0,0,0,0⟩) λ_ _ r _=>r
@[irreducible]noncomputable def aP0:BA:=Nh Mw ⟨0,0,0,0⟩ λz1 _ _ _=>DM z1 ⟨0,0,0,0⟩ λ_ p=>p
@[irreducible]noncomputable def aP1:BA:=Nh Mw ⟨0,0,0,0⟩ λ_ _ _ p=>p
@[irreducible]noncomputable def dK:AA:=IF LW (.Constant .none 0 ⟨0,0,0,0⟩) λe _ _ _=>e
@[irreducible]noncomputable def waT:AA:=IF LW (.Constant .none 0 ⟨0,0,0,0⟩) λ_ z1 _ _=>l1 z1 (.Constant .none 0 ⟨0,0,0,0⟩) λz2=>z2.target
@[irreducible]noncomputable def U6:I AA:=IF LW [] λ_ z1 _ _=>l1 z1 [] λz2=>EB z2.iter [] λ_ a _ _=>a
@[irreducible]noncomputable def pU:BA:=IF LW ⟨0,0,0,0⟩ λ_ z1 _ _=>l1 z1 ⟨0,0,0,0⟩ λz2=>EB z2.iter ⟨0,0,0,0⟩ λz3 _ _ _=>DM z3 ⟨0,0,0,0⟩ λ_ p=>p
@[irreducible]noncomputable def pV:BA:=IF LW ⟨0,0,0,0⟩ λ_ z1 _ _=>l1 z1 ⟨0,0,0,0⟩ λz2=>EB z2.iter ⟨0,0,0,0⟩ λ_ _ _ p=>p
noncomputable def U7:BU:=IF LW ⟨.function,[],A6,A6,[]⟩ λ_ _ sc _=>sc
@[irreducible]noncomputable def aP2:BA:=IF LW ⟨0,0,0,0⟩ λ_ _ _ p=>p
noncomputable def XJ:U:=⟨⟨[95,108,97,119,95,99,104,97,110,103,101,115]⟩⟩
noncomputable def dL:U:=⟨⟨[119,97,121]⟩⟩
noncomputable def Qz:FP:=⟨waT,.Call (.Name XJ pU) U6 [] pV,[],0⟩
theorem aP3:Mw=.BinOp (.Name JZ aP0) .Add LW aP1:=by kernel_rfl
theorem aP4:LW=.ListComp dK [Qz] U7 aP2:=by kernel_rfl
theorem aP5:MG Qz=M:=by kernel_rfl
theorem aP6:U6.all CP=M:=by kernel_rfl
theorem aP7:Dh (BV Mu) XJ=M:=by kernel_rfl
theorem aP8:Ah CQ.glob XJ=G (.top (.ref 430)):=by kernel_rfl
noncomputable def U8:I (Tx×Tx):=[([47,97,47],[102]),([47,97,47,98,47],[103]),([47],[104]),([47],[109]),([47,97,47],[98]),([47,110,47],[107]),([47],[97])]
noncomputable def U9(p:Tx×Tx):I (U×V):=[(dL,.str p.1),(KX,.str p.2)]
noncomputable def Gb(p:Tx):I Tx->I Tx
 |t::r=>t::p::r|[]=>[p]
noncomputable def F5(m:I (I Tx)):I V:=m.map λr=>.tup L (r.map .str)
noncomputable def pW(a b:Tx)(p:Tx×Tx):AK:=match ev CQ 60 ⟨U7,6⟩ (.GR dK Qz [] (.lst 0) 0 []) ⟨U9 p,[(0,.list (F5 (C8 a b)))],1⟩with
 |.ok (.vs l) H=>BC H.n 1&&cL l ((C8 a b).map (Gb (p.1++p.2)))|_=>A6
theorem aP9:(U8.all λp=>Ku (BV Mu) U7 (U9 p))=M:=by kernel_rfl
theorem aQ0:∀a∈Bn A6,((Bn M).all λb=>U8.all (pW a b))=M:=by
 unfold Bn;repeat(refine all_cons (by kernel_rfl) ?_)
 exact EC
set_option tactic.hygienic true in
theorem aQ1{a b:Tx}(ha:a∈Bn A6)(hb:b∈Bn M){p:Tx×Tx}(hp:p∈U8):∃H,ev CQ 60 ⟨U7,6⟩ (.GR dK Qz [] (.lst 0) 0 []) ⟨U9 p,[(0,.list (F5 (C8 a b)))],1⟩=.ok (.vs (F5 ((C8 a b).map (Gb (p.1++p.2))))) H/\H.n=1:=by
 have h:=Bq.mp (Bq.mp (aQ0 a ha) b hb) p hp;unfold pW at h;split at h
 . rename_i l H e;simp only[D6]at h;refine⟨H,?_,CD h.1⟩;rw[e,n_ h.2];rfl
 . exact(E4 h).elim
theorem pX{m:I (I Tx)}:Cs B9 (F5 m)=F5 m:=by
 have :=pL (B9:=B9) (l:=m);injection this
theorem aQ2{p:Tx}{x:I Tx}:Vh (.tup L ((Gb p x).map .str))=G (Ha p x):=(congrArg (λo=>B' o λl=>G (Sg.it l)) ow).trans (by cases x<;>rfl)
theorem aQ3{p:Tx}{m:I (I Tx)}:Q6 (F5 (m.map (Gb p)))=G (m.map (Ha p)):=by induction m with
 |nil=>rfl|cons x m ih=>exact(congrArg (λo=>B' o λt=>B' (Q6 (F5 (m.map (Gb p)))) λr=>G (t::r)) aQ2).trans (congrArg (λo=>B' o λr=>G (Ha p x::r)) ih)
theorem aQ4{p:Tx}{m:I (I Tx)}:DO (m.map (Ha p))=m.map (O5 p):=by induction m with
 |nil=>rfl|cons x m ih=>exact(congrArg (IV (Ha p x)++·) ih).trans (by cases x<;>rfl)
theorem aQ5(o:Op):(Ik o).length<=1:=by
 rcases dJ o with⟨x,e⟩|e<;>rw[e];. exact DE _
 . exact Nf _
theorem aQ6{CN:I Op}:(CN.flatMap Ik).length<=CN.length:=by induction CN with
 |nil=>exact DE _|cons o CN ih=>rw[YY,FC];exact B4 (Uh (aQ5 o) ih) (Ej (Lj 1 _))
theorem aQ7{a b:Tx}(ha:a∈Bn A6)(hb:b∈Bn M):(C8 a b).length<=15:=by
 refine iG (nk ha hb U7) ?_;intro _ _ _ _ CN _ _ _ _ _ _ h l;rw[<-h];exact B4 aQ6 l
section
variable{J:I A8}
theorem aQ8(SL:OD B A3 n){A1 l:I V}(Ia:MG g=M)(Bk:Gd B F K A H C s)(hs:Ku K.sc sc K5=M)(hd:d<=K.d)(hi:Ae B F K A ⟨AB.env,(AB.n,.list A1)::AB.h,AB.n+1⟩ C s (eval g.iter F.env) (RV (.ref AB.n)))(U5:AL AB.h AB.n=L)(hL:∀B9,Cs B9 A1=A1)(hl:∀B9,Cs B9 l=l)(he:∀x v,Ah K5 x=G v->Ah AB.env x=G v/\Cl v)(h:ev A3 n ⟨sc,d⟩ (.GR C_ g gens (.lst 0) 0 []) ⟨K5,[(0,.list A1)],1⟩=.ok (.vs l) Bc)(hn:Bc.n=1):Ae B F K A ⟨AB.env,(AB.n+1,.list l)::AB.h,AB.n+2⟩ C s (eval (.ListComp C_ (g::gens) sc pos) F.env) (RV (.ref (AB.n+1))):=by
 refine xA (QJ Ia) ?_;intro hp ha;intro A2 E kk;refine S1 (Bk.kinds.comp hs (A1:=s.heap.objs.size) rfl λc m z=>by refine H6 (Bk.D2 c m) ?_;intro _ o e;rw[z,GD]at e;exact(BE e).elim) ?_;intro _ hk MZ D3 M_ _;rw[bq8];have OI:Uq (g::gens)=A6:=by obtain⟨_,_,_,k⟩:=g;show(k !=0)=A6;simp only at ha;rw[ha];rfl
 have OJ:Ur (g::gens) F.env=eval g.iter F.env:=by obtain⟨_,_,_,_⟩:=g;rfl
 rw[OI,OJ];refine fq (use:=L) (g:=g) (gs:=gens) rfl (λx=>QG hp x) (WG D3) hk M_ ?_;refine hi _ _ λu AZ AJ AN Ab Aq=>?_;have Eg:AL ((AB.n,Ob.list A1)::AB.h) AB.n=G (.list A1):=JI;have AG:Sub ⟨AB.env,(AB.n,.list A1)::AB.h,AB.n+1⟩ ⟨K5,[(0,.list A1)],1⟩ [AB.n]:=⟨rfl,by simp,λi m=>by simp at m;show i<AB.n+1;omega,λj o e=>by match j,e with
 |0,e=>injection e with e;subst e;exact⟨AB.n,rfl,by show AL ((AB.n,Ob.list A1)::AB.h) AB.n=G (Ob.list (Cs _ A1));rw[Eg,hL]⟩|j+1,e=>exact(BE e).elim⟩;have Er:∀j,(C' AZ [AB.n])[j]?=AZ[DJ (AB.n+1) [AB.n] j]?:=λj=>by
  have :=GI (J:=[]) AN.len AG.lt j;simpa using this
 have gS:=AN.sub AG hd (Cf.pick Er AN.env λx v e=>by rw[(he x v e).2];exact(he x v e).1);have rS:VR AJ.heap (C' AZ [AB.n]) (.ref 0) u:=(VR.DV Er).mpr Aq;refine af (K:=⟨K.sc,d⟩) (RR:=λAm A1=>sx (AQ B.prog B.w) A E L A2 Am A1) SL Ia gS hs rS (it:=.lst 0) rfl h λLf D AT s' g' Qp hD x' a'=>?_;refine AC (id g'.env) ?_;intro m ns _;refine⟨m,ns,λQ De=>?_⟩;refine Hl a' ?_;(try clear a');intro fD us FZ vr;have Hv:∀o,s'.heap.get? Lf=G o->C2 o=A6:=λo e=>by
  refine Gn ns ?_;(try clear ns);intro o' N ep e' d _;have e':s'.heap.get? Lf=G o':=e';rw[e']at e;injection e with e;subst e;unfold C2;rw[d];simp
 have KD:D≠Lf:=λz=>fD.w (by rw[z];exact CI.mpr rfl);have im:=Gr De.extBut Hv;refine xA (gS.leave (F':=Hw F sc Lf) rfl g' Qp hD x' fD De Hv (o:=.list l) ⟨us,FZ.extBut De.extBut KD,vr.mono im⟩) ?_;intro gg xx;have I2:=g'.len;rw[hn]at I2;refine CZ (AN.out AG gg xx (A7:=⟨AB.env,(AB.n+1,.list l)::AB.h,AB.n+2⟩) ⟨rfl,by show 1<=Bc.n+1;(with_reducible exact fC _ _),by show AB.n+2=AB.n+1+(Bc.n+1-1);(with_reducible exact Mine.vA (by assumption)),λi o e=>by
  refine Ea (b:=BC (AB.n+1) i) (y:=AL AB.h i) e (λq e=>?_) λq e=>?_
  . injection e with e;subst e;rw[<-CD q];refine .inl ⟨Bc.n,.list l,(by show AL ((Bc.n,Ob.list l)::Bc.h) Bc.n=_;exact JI),?_,?_⟩;. rw[hn];rfl
    . show _=Ob.list (Cs _ l);rw[hl]
  . have h2:i≠AB.n:=λz=>by rw[z,U5]at e;exact(BE e).elim
    refine .inr ⟨?_,by simpa using h2⟩;have :BC AB.n i=A6:=by cases q:BC AB.n i with
 |false=>rfl|true=>exact absurd (CD q).symm h2
    show AL ((AB.n,_)::AB.h) i=G o;simp only[AL,this,S0];exact e⟩) ?_;intro J eα bW4 xb;refine kk _ _ _ bW4 (Ab.trans xb) ⟨D,?_,rfl⟩;have GA:(C' AZ [AB.n]++J)[1]?=G D:=by
  rw[<-eα];have :(AT++[D])[AT.length]?=G D:=by simp
  rw[I2]at this;exact this
 have :=GI (J:=J) AN.len AG.lt 1;rw[GA]at this;exact this.symm
end
section
variable{J:I A8}
theorem XK{a b:O}(h:a≠b):BC a b=A6:=by cases q:BC a b with
 |false=>rfl|true=>exact absurd (CD q) h
theorem aQ9{Y:I Sg}(hr:FV ob=G (r,Y))(q:Ca prog w h C a (.rows r Y)):Ca prog w h C a ob:=by
 refine CZ (id q) ?_;intro us p v _;revert q;apply bB hr;. exactλ_ _ _=>⟨us,p,v⟩
 . exact id
theorem aR0(AV:(Bb P).In B.base)(AM:Df B)(hd:20<=d){a b:Tx}(ha:a∈Bn A6)(hb:b∈Bn M){p:Tx×Tx}(hp:p∈U8){k:O}{Y:I Sg}(Qw:Ah H.env JZ=G (.ref k))(hv:ev CQ 60 ⟨BV Mu,d⟩ (.N U6) H=.ok (.vs [.sym A6 a ha,.sym M b hb]) AB)(hw:Ah AB.env dL=G (.str p.1))(hnm:Ah AB.env KX=G (.str p.2))(pS:k<AB.n)(U5:AL AB.h AB.n=L)(hn2:AL AB.h (AB.n+1)=L)(hk:AL AB.h k=G ob)(hr:FV ob=G (r,Y))(pT:15<=r)(hrc:r<=Dl)(g:Gd B F ⟨BV Mu,d⟩ A H C s):Ae B F ⟨BV Mu,d⟩ A ⟨AB.env,(AB.n+2,.rows (r-15) (Y++[.run (p.1++p.2) a b]))::AB.h,AB.n+3⟩ C s (eval Mw F.env) (RV (.ref (AB.n+2))):=by
 intro A2 E kk;rw[aP3];have A9:=(all1 AV AM 60).s;refine AC (aQ1 ha hb hp) ?_;intro σw LX hn;refine se (aI (v:=.ref k) g (by kernel_rfl) Qw _ _ λu AZ AJ AN Ab Aq=>?_);rw[aP4];have hi:Ae B F ⟨BV Mu,d⟩ A ⟨AB.env,(AB.n,.list (F5 (C8 a b)))::AB.h,AB.n+1⟩ AZ AJ (eval Qz.iter F.env) (RV (.ref AB.n)):=by
   intro A2 E k;show AH _ A (eval (.Call (.Name XJ pU) U6 [] pV) F.env) A2 E AJ;refine LU (Bk:=GH AV) (A3:=CQ) aP7 aP8 aP6 AN (λBG EM p F_ Cr=>A9.N hv p F_) λus Au Ai AU Al BB=>?_;have hf:AL Ii 430=G (DD (Ba 35)):=by kernel_rfl
   refine DA (Mi AV (Mk AV) (O_ P hf)) ?_;intro o fd ok;refine⟨CW.func (AU.base _ _ ok.get) ok.data,aN2 AV AM ha hb hd AU (show Aa Ai.heap Au [.str a,.str b] us from BB) _ _ λu BS Ax Ao B8 BQ=>k u BS Ax Ao (Al.trans B8) BQ⟩
 refine aQ8 (all1 AV AM 60).l (g:=Qz) (gens:=[]) (K5:=U9 p) (A1:=F5 (C8 a b)) aP5 AN (Bq.mp aP9 p hp) (d:=6) (by show 6<=d;omega) hi U5 (λB9=>pX) (λB9=>pX) (λx v e=>?_) LX hn _ _ λu' Au Ai AU Al BB=>?_
 . have :=FF e;simp only[U9,Ck,bD9,Jp,Jq]at this;rcases this with Aw|B6;refine xA Aw ?_;(try clear Aw);intro BJ BP;subst BJ;subst BP;rotate_left;refine xA B6 ?_;(try clear B6);intro Bp Bg;subst Bp;subst Bg;rotate_left;. exact⟨hw,λ_=>rfl⟩
   . exact⟨hnm,λ_=>rfl⟩
 . have N0:AL ((AB.n+1,Ob.list (F5 ((C8 a b).map (Gb (p.1++p.2)))))::AB.h) k=G ob:=by rw[IU (show AB.n+1≠k by omega)];exact hk
   have Ao:=AU.KS (i:=k) (o:=ob) (o':=.rows r Y) N0 λa' Fp _=>by
     refine HQ (WU AU ⟨a',Fp,rfl⟩ N0 hr) ?_;intro a'' us e p v l;injection e with e;subst e;exact⟨us,p,v,l⟩
   generalize LV:Mine.St.set ⟨AB.env,(AB.n+1,Ob.list (F5 ((C8 a b).map (Gb (p.1++p.2)))))::AB.h,AB.n+2⟩ k (.rows r Y)=Bc at Ao;have XI:Bc.n=AB.n+2:=by rw[<-LV];rfl
   have Ie:Bc.env=AB.env:=by rw[<-LV];rfl
   have OG:AL Bc.h k=G (.rows r Y):=by rw[<-LV];exact ML N0
   have I2:∀i,i≠k->AL Bc.h i=AL ((AB.n+1,Ob.list (F5 ((C8 a b).map (Gb (p.1++p.2)))))::AB.h) i:=λi hi=>by rw[<-LV];exact MM (o:=.rows r Y) (l:=(AB.n+1,Ob.list (F5 ((C8 a b).map (Gb (p.1++p.2)))))::AB.h) hi
   have Eg:AL Bc.h (AB.n+1)=G (.list (F5 ((C8 a b).map (Gb (p.1++p.2))))):=by rw[I2 _ (by omega)];exact JI
   have Ch:=aQ7 ha hb;have hL:(F5 ((C8 a b).map (Gb (p.1++p.2)))).length=(C8 a b).length:=by simp[F5]
   have pY:CH (F5 ((C8 a b).map (Gb (p.1++p.2))))=M:=by unfold CH;rw[hL];exact uI (by(with_reducible exact B4 (by assumption) (by decide)))
   have Hx:Vp .Add (.ref k) (.ref (AB.n+1)) Bc=.ok (.v (.ref (AB.n+2))) ⟨AB.env,(AB.n+2,.rows (r-(C8 a b).length) (Y++(C8 a b).map (Ha (p.1++p.2))))::Bc.h,AB.n+3⟩:=by
     have e0:Sn k (AB.n+1) Bc=A0.of (FV (.rows r Y)) λx=>A0.of (FV (.list (F5 ((C8 a b).map (Gb (p.1++p.2)))))) λy=>A0.iff (EP Dl (x.1+y.1)) (FW (Bc.new (.rows (x.1+y.1-Dl) (x.2++y.2)))):=by unfold Sn;rw[OG,Eg];rfl
     show Sn k (AB.n+1) Bc=_;rw[e0,show FV (.rows r Y)=G (r,Y)from rfl,show FV (.list (F5 ((C8 a b).map (Gb (p.1++p.2)))))=bT (CH (F5 ((C8 a b).map (Gb (p.1++p.2))))) L (B' (Q6 (F5 ((C8 a b).map (Gb (p.1++p.2))))) λl=>G (Dl-(F5 ((C8 a b).map (Gb (p.1++p.2)))).length,l))from rfl,pY,aQ3,hL];simp only[bT,B',A0.of];have h1:r+(Dl-(C8 a b).length)-Dl=r-(C8 a b).length:=yC (B4 Ch (by decide));rw[show EP Dl (r+(Dl-(C8 a b).length))=M from uI (yD (B4 Ch (by decide)) (B4 Ch pT))];simp only[A0.iff,FW,St.new,XI,Ie,h1]
   refine OQ.bin Ao (Aq.nx Al) BB Hx _ _ λy BS Ax CA B8 BQ=>?_;have QY:AL ((AB.n+2,Ob.rows (r-(C8 a b).length) (Y++(C8 a b).map (Ha (p.1++p.2))))::Bc.h) k=G (.rows r Y):=by rw[IU (show AB.n+2≠k by omega)];exact OG
   have Co:=(CA.KS (i:=k) (o':=ob) QY λa' _ q=>aQ9 hr q).KS (i:=AB.n+2) (o:=.rows (r-(C8 a b).length) (Y++(C8 a b).map (Ha (p.1++p.2)))) (o':=.rows (r-15) (Y++[.run (p.1++p.2) a b])) (by
     refine(MM (j:=AB.n+2) (o:=ob) (l:=(AB.n+2,Ob.rows (r-(C8 a b).length) (Y++(C8 a b).map (Ha (p.1++p.2))))::Bc.h) (by omega)).trans ?_;exact JI) λa' _ q=>by
     refine CZ q ?_;(try clear q);intro us pl vr l;have N:DO (Y++(C8 a b).map (Ha (p.1++p.2)))=DO (Y++[.run (p.1++p.2) a b]):=by
       rw[OP,OP,aQ4];show _=_++(IV (.run (p.1++p.2) a b)++[]);rw[HL];rfl
     rw[N]at vr l;exact⟨us,pl,vr,B4 (HI (f9 Ch r) _) l⟩
   refine kk y BS Ax (Gd.forget (env:=AB.env) (n:=AB.n+3) Co λi o e=>?_) (Ab.trans (Al.trans B8)) BQ;show AL (putN (putN ((AB.n+2,Ob.rows (r-(C8 a b).length) (Y++(C8 a b).map (Ha (p.1++p.2))))::Bc.h) k ob) (AB.n+2) (.rows (r-15) (Y++[.run (p.1++p.2) a b]))) i=G o;by_cases h2:i=AB.n+2
   . subst h2;rw[JI]at e;replace e:=Bl e;rw[<-e];refine ML (w:=.rows (r-(C8 a b).length) (Y++(C8 a b).map (Ha (p.1++p.2)))) ?_;rw[MM (by omega)];exact JI
   . rw[IU (CX h2)]at e;rw[MM h2];by_cases h3:i=k
     . clear Co Hx pS N0 OG I2 Qw LV Aq;subst h3;rw[hk]at e;injection e with e;subst e;exact ML QY
     . rw[MM h3];have h4:i≠AB.n+1:=λz=>by rw[z,hn2]at e;exact(BE e).elim
       rw[IU (CX h2)];rw[I2 i h3];rw[IU (CX h4)];exact e
end
noncomputable def pZ(a b:I (U×E2)):AK:=all2 (λa b=>Cy a.1 b.1&&decide (a.2=b.2)) a b
theorem aR1{a b:I (U×E2)}(h:pZ a b=M):a=b:=Nm (λa b e=>NO (E1.mp (B1 e)) (of_decide_eq_true (Ak e))) a b h
noncomputable def dM(a b:BU):AK:=decide (a.kind=b.kind)&&(pZ a.names b.names&&(decide (a.isGenerator=b.isGenerator)&&(decide (a.isCoroutine=b.isCoroutine)&&decide (a.more=b.more))))
theorem p_{a b:BU}(h:dM a b=M):a=b:=by
 cases a;cases b;exact congr (congr (congr (congr (congrArg Scope.mk (of_decide_eq_true (B1 h))) (aR1 (B1 (Ak h)))) (of_decide_eq_true (B1 (Ak (Ak h))))) (of_decide_eq_true (B1 (Ak (Ak (Ak h)))))) (of_decide_eq_true (Ak (Ak (Ak (Ak h)))))
noncomputable def dN(v:V)(d:J)(k:(b:AK)->(t:Tx)->t∈Bn b->J):J:=if h:v.ctorIdx=9 then V.sym.elim (motive_1:=λ_=>J) v h k else d
theorem aR2{d:J}{k:(b:AK)->(t:Tx)->t∈Bn b->J}{r:J}(h:dN v d k=r)(hd:d=r->Bi){P:V->Prop}(c:∀b t ok,k b t ok=r->P (.sym b t ok)):P v:=if q:v.ctorIdx=9 then V.sym.elim (motive_1:=λv=>dN v d k=r->P v) v q (λb t ok h=>c b t ok h) h else(hd ((Cj q).symm.trans h)).elim
noncomputable def UA(b:AK)(v:V):AD {t:Tx//t∈Bn b}:=dN v L λb' t ok=>if h:b'=b then G ⟨t,h▸ok⟩else L
theorem XM{a:{t:Tx//t∈Bn b}}(h:UA b v=G a){P:V->Prop}(c:P (.sym b a.1 a.2)):P v:=by
 apply aR2 h AF;intro b' t ok h;cases bR2 (b'=b)with
 |inr n=>rw[Cj n]at h;exact(AF h).elim|inl e=>
 subst e;rw[dif_pos rfl]at h;have :=Bl h;clear h;subst this;exact c
noncomputable def dO(o:A0)(k:I V->Mine.St->AD J):AD J:=match o with|.bad=>L|.ok r H=>match r with|.vs l=>k l H|.v _=>L|.b _=>L|.f _=>L|.ps _=>L
theorem pa{o:A0}{k:I V->Mine.St->AD J}{r:J}(h:dO o k=G r){P:A0->Prop}(c:∀l H,k l H=G r->P (.ok (.vs l) H)):P o:=by cases o with
 |bad=>exact(AF h).elim|ok x H=>cases x with
 |vs l=>exact c l H h|_=>exact(AF h).elim
noncomputable def pb(o:A0):AD ({t:Tx//t∈Bn A6}×{t:Tx//t∈Bn M}×Mine.St):=dO o λl H=>lC l L λz l=>IN z L (l2 l L λa b=>B' (UA A6 a) λa=>B' (UA M b) λb=>G (a,b,H))
theorem aR3{o:A0}{a:{t:Tx//t∈Bn A6}}{b:{t:Tx//t∈Bn M}}(h:pb o=G (a,b,H)):o=.ok (.vs [.none,.sym A6 a.1 a.2,.sym M b.1 b.2]) H:=by
 apply pa h;intro l A7 h;apply FS h AF;intro z l h;apply Pu h AF;intro h;apply Hk h AF;intro x y h;refine BI h λa' ha h=>BI h λb' hb h=>?_;apply XM ha;apply XM hb;apply M5 h;rfl
noncomputable def pc(o:A0):AD ({t:Tx//t∈Bn A6}×{t:Tx//t∈Bn M}×Mine.St):=dO o λl H=>l2 l L λa b=>B' (UA A6 a) λa=>B' (UA M b) λb=>G (a,b,H)
theorem aR4{o:A0}{a:{t:Tx//t∈Bn A6}}{b:{t:Tx//t∈Bn M}}(h:pc o=G (a,b,H)):o=.ok (.vs [.sym A6 a.1 a.2,.sym M b.1 b.2]) H:=by
 apply pa h;intro l A7 h;apply Hk h AF;intro x y h;refine BI h λa' ha h=>BI h λb' hb h=>?_;apply XM ha;apply XM hb;apply M5 h;rfl
noncomputable def dP(v:V):AD O:=DN v L G
noncomputable def isStr(v:V):AD Tx:=vStr v L G
theorem pd{k:O}(h:dP v=G k):v=.ref k:=by apply EH h AF;intro i h;apply Br h;rfl
theorem dQ{k:Tx}(h:isStr v=G k):v=.str k:=by apply Dc h AF;intro i h;apply Br h;rfl
noncomputable def pe(a b c d e f g:V):O->V|0=>a|1=>b|2=>c|3=>d|4=>e|5=>f|_=>g
noncomputable def XO(h:I (O×Ob))(i:O):AK:=oN (AL h i) A6 M
theorem dR{h:I (O×Ob)}(e:XO h i=M):AL h i=L:=by exact GP (P:=λo=>o=L) e B0 λ_=>rfl
noncomputable def UB(b:AK)(x:AD J):AD J:=bT b L x
noncomputable def pf(K:Kx)(H:Mine.St):AD A0:=UB (EP 20 K.d&&dM K.sc (BV HE))<|B' (pb (ev CQ 60 K (.N Ol) H)) λt=>B' (Ah t.2.2.env Om) λv0=>B' (Ah t.2.2.env On) λv1=>B' (Ah t.2.2.env HZ) λv2=>B' (Ah t.2.2.env H_) λv3=>B' (Ah t.2.2.env Oo) λv4=>B' (Ah t.2.2.env Oq) λv5=>B' (Ah t.2.2.env KX) λv6=>B' (Ah t.2.2.env JZ) λrv=>B' (dP rv) λk=>B' (Ah t.2.2.env Mt) λpv=>B' (isStr pv) λp=>B' (AL t.2.2.h k) λob=>B' (FV ob) λrx=>UB (G0 k t.2.2.n&&(XO t.2.2.h t.2.2.n&&EP 15 rx.1)) (G (.ok (.f .next) ⟨Qy (pe v0 v1 v2 v3 v4 v5 v6) k p,(k,.rows (rx.1-15) (rx.2++[.run p t.1.1 t.2.1.1]))::t.2.2.h,t.2.2.n+1⟩))
noncomputable def pg(p:Tx×Tx)(l:I (Tx×Tx)):AK:=l.any λx=>CU p.1 x.1&&CU p.2 x.2
theorem aR5{p:Tx×Tx}{l:I (Tx×Tx)}(h:pg p l=M):p∈l:=by
 refine AC (ID.mp h) ?_;intro x m e;rw[show p=x from NO (Eb.mp (B1 e)) (Eb.mp (Ak e))];exact m
noncomputable def ph(K:Kx)(H:Mine.St):AD A0:=UB (EP 20 K.d&&dM K.sc (BV Mu))<|B' (Ah H.env JZ) λrv=>B' (dP rv) λk=>B' (pc (ev CQ 60 K (.N U6) H)) λt=>B' (Ah t.2.2.env dL) λwv=>B' (isStr wv) λw=>B' (Ah t.2.2.env KX) λnv=>B' (isStr nv) λnm=>B' (AL t.2.2.h k) λob=>B' (FV ob) λrx=>UB (pg (w,nm) U8&&(G0 k t.2.2.n&&(XO t.2.2.h t.2.2.n&&(XO t.2.2.h (t.2.2.n+1)&&(EP 15 rx.1&&EP rx.1 Dl))))) (G (.ok (.v (.ref (t.2.2.n+2))) ⟨t.2.2.env,(t.2.2.n+2,.rows (rx.1-15) (rx.2++[.run (w++nm) t.1.1 t.2.1.1]))::t.2.2.h,t.2.2.n+3⟩))
noncomputable def dS(K:Kx)(args:I V)(H:Mine.St):AD A0:=l2 args L λa b=>DN a L λi=>vStr b L λq=>B' (AL H.h i) λo=>MD o L λN=>B' (U4 N) λA1=>UB (EP 7 K.d&&(U1 q KW&&(LR A1&&(Oj N&&(A1.all (U1 · KV)&&EP A1.length 20))))) (G (.ok (.v (.ref (H.n+1))) ⟨H.env,(H.n+1,.list ((E_ (E8 q A1)).map .str))::H.h,H.n+2⟩))
noncomputable def dU(K:Kx)(c:Cd)(H:Mine.St):AD A0:=match c with
 |.call f args=>IM f L λw=>Kt w L λa=>bC (BC a 399) (dS K args H) (Qk K (.call (.top (.ref a)) args) H)|.s x=>bT (pI x Mv) L (pf K H)|.e x=>bT (Qq x Mw) L (ph K H)|_=>L
noncomputable abbrev UC:Mine.Ctx:=Mj dU
theorem aR6:JH Mw=A6:=by kernel_rfl
section
theorem aR7(AV:(Bb P).In B.base)(AM:Df B)(h:dS K args H=G (.ok (.v v) A7))(g:Gd B F K A H C s)(rs:Aa s.heap C args us):Ae B F K A A7 C s (CE (.ref 399) us) (RV v):=by
 revert rs;apply Hk h AF;intro a b h;apply EH h AF;intro i h;apply Dc h AF;intro q h rs;refine BI h λo hi h=>?_;revert hi;apply SV h AF;intro N h hi;refine BI h λA1 hk h=>Ce h AF λhc h=>?_;apply B5 (Bl h);have c1:=Ak hc;have c2:=Ak c1;have c3:=Ak c2;have c4:=Ak c3;exact aM5 AV AM (X8 (B1 c1)) hk (Mr (B1 c2)) (B1 c3) (λp m=>X8 (Bq.mp (B1 c4) p m)) (Dj (Ak c4)) (Dj (B1 hc)) hi g rs
theorem pi{f:V}{o:A0}(h:dU K (.call f args) H=G o){AS:V->Prop}(i:dS K args H=G o->AS (.top (.ref 399)))(e:Qk K (.call f args) H=G o->AS f):AS f:=by
 revert e;apply Ny h AF;intro w h;apply Pw h AF;intro a h e;refine Nk h (λq h=>?_) e;rw[CD q];exact i h
theorem aR8(AV:(Bb P).In B.base)(AM:Df B)(h:ph K H=G (.ok (.v v) A7))(g:Gd B F K A H C s):Ae B F K A A7 C s (eval Mw F.env) (RV v):=by
 refine Ce h AF λh0 h=>?_;obtain⟨sc,d⟩:=K;obtain rfl:=p_ (Ak h0);refine BI h λrv e1 h=>BI h λk e2 h=>BI h λt e3 h=>BI h λwv e4 h=>BI h λw e5 h=>BI h λnv e6 h=>BI h λnm bW5 h=>BI h λob e8 h=>BI h λrx e9 h=>Ce h AF λhc h=>?_;apply B5 (Bl h);rw[pd e2]at e1;rw[dQ e5]at e4;rw[dQ bW5]at e6;have c1:=Ak hc;have c2:=Ak c1;have c3:=Ak c2;have c4:=Ak c3;exact aR0 AV AM (Dj (B1 h0)) t.1.2 t.2.1.2 (p:=(w,nm)) (aR5 (B1 hc)) e1 (aR4 e3) e4 e6 (gM (Dj (B1 c1))) (dR (B1 c2)) (dR (B1 c3)) e8 e9 (Dj (B1 c4)) (Dj (Ak c4)) g
theorem aR9(AV:(Bb P).In B.base)(AM:Df B)(h:pf K H=G (.ok (.f f) A7))(g:Gd B F K A H C s):CJ B F K A A7 C s (exec Mv F.env) (FR f):=by
 refine Ce h AF λh0 h=>?_;obtain⟨sc,d⟩:=K;obtain rfl:=p_ (Ak h0);refine BI h λt e3 h=>BI h λv0 e10 h=>BI h λv1 e11 h=>BI h λv2 e12 h=>BI h λv3 e13 h=>BI h λv4 e14 h=>BI h λv5 e15 h=>BI h λv6 e16 h=>BI h λrv e1 h=>BI h λk e2 h=>BI h λpv e4 h=>BI h λp e5 h=>BI h λob e8 h=>BI h λrx e9 h=>Ce h AF λhc h=>?_;apply BX (Bl h);rw[pd e2]at e1;rw[dQ e5]at e4;have all:∀q∈Qy (pe v0 v1 v2 v3 v4 v5 v6) k p,Ah t.2.2.env q.1=G q.2:=all_cons e10 (all_cons e11 (all_cons e12 (all_cons e13 (all_cons e14 (all_cons e15 (all_cons e1 (all_cons e16 (all_cons e4 EC))))))));exact aO9 AV AM (Dj (B1 h0)) t.1.2 t.2.1.2 (aR3 e3) (λx w e=>all _ (FF e)) (gM (Dj (B1 hc))) (dR (B1 (Ak hc))) e8 e9 (Dj (Ak (Ak hc))) g
theorem sm3(AV:(Bb P).In B.base)(AM:Df B):Mh B UC where
 only:=λ{K c H o}h=>by
  change dU K c H=G o at h;cases c with
 |call f args=>exact .inl ⟨_,_,rfl⟩|s x=>exact .inr (.inr ⟨_,rfl⟩)|e x=>exact Ce h AF λq _=>.inr (.inl ⟨_,rfl,by rw[Qr q];exact aR6⟩)|_=>exact(AF h).elim
 MW:=λ{K f args H A7 v}h{F A C s fu}g r=>by
  revert r;refine pi (AS:=λf=>VR s.heap C f fu->CW (AQ B.prog B.w) s.heap fu) h ?_ ?_;rotate_left;. exactλh r=>(cK AV AM).MW h g r
  intro _ r;cases r;have hf:AL Ii 399=G (DD (Ba 30)):=by kernel_rfl
  refine DA (Mi AV (Mk AV) (O_ P hf)) ?_;intro o fd ok;exact CW.func (g.base _ _ ok.get) ok.data
 call:=λ{K f args H A7 v}h{F A C s fu us}g r rs=>by
  revert r;refine pi (AS:=λf=>VR s.heap C f fu->Ae B F K A A7 C s (call fu us) (RV v)) h ?_ ?_;rotate_left;. exactλh r=>(cK AV AM).call h g r rs
  intro h r;cases r;exact aR7 AV AM h g rs
 e:=λ{K x H A7 v}h{F A C s}g=>Ce h AF λq h=>by rw[Qr q];exact aR8 AV AM h g
 s:=λ{K x H A7 f}h{F A C s}g=>Ce h AF λq h=>by rw[aN0 q];exact aR9 AV AM h g
theorem aS0(AV:(Bb P).In B.base)(AM:Df B)(n:O):All B UC n:=Wr (cI AV AM (sm3 AV AM)) n
end
noncomputable def XP(k:O)(o:A0):AD (I Sg):=K2 o L λv H=>DN v L λi=>bT (EP k i) L<|B' (AL H.h i) λo=>B' (FV o) λr=>G r.2
noncomputable def pj(CG:CB A6)(C7:CB M)(L0 L1:I Tx):Mine.St:=⟨[],[(0,.B3 (BM (Ay CG) L0)),(1,.B3 (BM (Ay C7) L1))],2⟩
noncomputable def UD(sc:BU)(CG:CB A6)(C7:CB M)(L0 L1:I Tx):AD (I Sg):=XP 2 (ev UC 200 ⟨sc,40⟩ (.call (.top (.ref 404)) [.ref 0,.ref 1,.str [47]]) (pj CG C7 L0 L1))
noncomputable def Gc(n:O)(BF:I (O×Ob)):I (O×Ob):=BF.map λp=>(n+p.1,DS (n+·) p.2)
noncomputable def pk(H0 H1:I (O×Ob)):Mine.St:=⟨[],H0++Gc H0.length H1,H0.length+H1.length⟩
noncomputable def dV(sc:BU)(H0 H1:I (O×Ob)):AD (I Sg):=XP (H0.length+H1.length) (ev UC 200 ⟨sc,40⟩ (.call (.top (.ref 435)) [.ref 0,.ref H0.length,.str [47]]) (pk H0 H1))
noncomputable def Agree(L0 L1:I Tx)(H0:CB A6->I (O×Ob))(H1:CB M->I (O×Ob)):Prop:=∀(sc:BU)(CG:CB A6)(C7:CB M),∃l,UD sc CG C7 L0 L1=G l/\dV sc (H0 CG) (H1 C7)=G l
theorem Ot{H0:CB A6->I (O×Ob)}{H1:CB M->I (O×Ob)}(h:∀(sc:BU)(CG:CB A6)(C7:CB M),(UD sc CG C7 L0 L1,dV sc (H0 CG) (H1 C7))=(G ((UD sc CG C7 L0 L1).getD []),G ((UD sc CG C7 L0 L1).getD []))):Agree L0 L1 H0 H1:=λsc CG C7=>⟨_,congrArg bu9 (h sc CG C7),congrArg Prod.snd (h sc CG C7)⟩
noncomputable def Ag(p:O×O):Prop:=Agree (DX.getD p.1 []) (DY.getD p.2 []) (F3 p.1) (F4 p.2)
theorem ag0:∀p∈[((0,0):O×O),(0,1),(0,2),(0,3),(0,4),(0,5)],Ag p:=by
 repeat(refine all_cons (Ot λsc CG C7=>by kernel_rfl) ?_)
 exact EC
theorem ag1:∀p∈[((1,0):O×O),(1,1),(1,3),(2,0),(2,1),(2,2)],Ag p:=by
 repeat(refine all_cons (Ot λsc CG C7=>by kernel_rfl) ?_)
 exact EC
theorem ag2:∀p∈[((2,3):O×O),(2,4),(2,5),(3,0),(3,1),(3,3)],Ag p:=by
 repeat(refine all_cons (Ot λsc CG C7=>by kernel_rfl) ?_)
 exact EC
theorem ag3:∀p∈[((4,0):O×O),(4,1),(4,3),(5,1),(6,0),(6,1)],Ag p:=by
 repeat(refine all_cons (Ot λsc CG C7=>by kernel_rfl) ?_)
 exact EC
theorem ag4:∀p∈[((6,2):O×O),(6,3),(6,4),(6,5),(7,0),(7,1)],Ag p:=by
 repeat(refine all_cons (Ot λsc CG C7=>by kernel_rfl) ?_)
 exact EC
theorem ag5:∀p∈[((7,2):O×O),(7,3),(7,4),(7,5),(8,0),(8,1)],Ag p:=by
 repeat(refine all_cons (Ot λsc CG C7=>by kernel_rfl) ?_)
 exact EC
theorem ag6:∀p∈[((8,3):O×O),(9,1),(10,0),(10,1),(10,3),(11,1)],Ag p:=by
 repeat(refine all_cons (Ot λsc CG C7=>by kernel_rfl) ?_)
 exact EC
noncomputable def pn:I (O×O):=[(0,0),(0,1),(0,2),(0,3),(0,4),(0,5)]++[(1,0),(1,1),(1,3),(2,0),(2,1),(2,2)]++[(2,3),(2,4),(2,5),(3,0),(3,1),(3,3)]++[(4,0),(4,1),(4,3),(5,1),(6,0),(6,1)]++[(6,2),(6,3),(6,4),(6,5),(7,0),(7,1)]++[(7,2),(7,3),(7,4),(7,5),(8,0),(8,1)]++[(8,3),(9,1),(10,0),(10,1),(10,3),(11,1)]
theorem aS1:∀p∈pn,Ag p:=(Ci (Ci (Ci (Ci (Ci (Ci ag0 ag1) ag2) ag3) ag4) ag5) ag6)
noncomputable def Hb(k:AK)(a:O):I O:=match k,a with
 |false,0=>[6]|false,1=>[0,2,6,7]|false,2=>[0,1,2,3,4,6,7,8,10]|false,_=>[0,1,2,3,4,5,6,7,8,9,10,11]|true,0=>[1]|true,1=>[0,1,3]|true,2=>[0,1,2,3,4,5]|true,_=>[0,1,2,3,4,5]
noncomputable def J_(a:O):I O->AK
 |[]=>A6|x::l=>match BC a x with|true=>M|false=>J_ a l
set_option tactic.hygienic true in
theorem LY{a:O}:∀{l:I O},J_ a l=M->a∈l
 |[],h=>by exact(E4 h).elim|x::l,h=>by
  simp only[J_]at h;split at h;. rename_i e;rw[CD e];exact Cp ..
  . exact Cq _ (LY h)
noncomputable def XQ(a:O×O):I (O×O)->AK
 |[]=>A6|x::l=>match BC a.1 x.1&&BC a.2 x.2 with|true=>M|false=>XQ a l
set_option tactic.hygienic true in
theorem po{a:O×O}:∀{l:I (O×O)},XQ a l=M->a∈l
 |[],h=>by exact(E4 h).elim|x::l,h=>by
  simp only[XQ]at h;split at h
  . rename_i e;simp only[D6]at e;rw[show a=x from NO (CD e.1) (CD e.2)];exact Cp ..
  . exact Cq _ (po h)
theorem aS2:((lv A6 0).all λA1=>J_ (CC A1 DX) (Hb A6 0))=M:=by kernel_rfl
theorem aS3:((lv M 0).all λA1=>J_ (CC A1 DY) (Hb M 0))=M:=by kernel_rfl
theorem aS4:((lv A6 1).all λA1=>J_ (CC A1 DX) (Hb A6 1))=M:=by kernel_rfl
theorem aS5:((lv M 1).all λA1=>J_ (CC A1 DY) (Hb M 1))=M:=by kernel_rfl
theorem aS6:((lv A6 2).all λA1=>J_ (CC A1 DX) (Hb A6 2))=M:=by kernel_rfl
theorem aS7:((lv M 2).all λA1=>J_ (CC A1 DY) (Hb M 2))=M:=by kernel_rfl
theorem aS8:((lv A6 3).all λA1=>J_ (CC A1 DX) (Hb A6 3))=M:=by kernel_rfl
theorem aS9:((lv M 3).all λA1=>J_ (CC A1 DY) (Hb M 3))=M:=by kernel_rfl
theorem li0{a:O}(ha:a<=3)(h:A1∈lv A6 a):CC A1 DX∈Hb A6 a:=by exact(show∀a∈[0,1,2,3],A1∈lv A6 a->CC A1 DX∈Hb A6 a from all_cons (λh=>LY (Bq.mp aS2 A1 h)) (all_cons (λh=>LY (Bq.mp aS4 A1 h)) (all_cons (λh=>LY (Bq.mp aS6 A1 h)) (all_cons (λh=>LY (Bq.mp aS8 A1 h)) EC)))) a (Pf.mpr (fG ha):a∈DT 4) h
theorem li1{a:O}(ha:a<=3)(h:A1∈lv M a):CC A1 DY∈Hb M a:=by exact(show∀a∈[0,1,2,3],A1∈lv M a->CC A1 DY∈Hb M a from all_cons (λh=>LY (Bq.mp aS3 A1 h)) (all_cons (λh=>LY (Bq.mp aS5 A1 h)) (all_cons (λh=>LY (Bq.mp aS7 A1 h)) (all_cons (λh=>LY (Bq.mp aS9 A1 h)) EC)))) a (Pf.mpr (fG ha):a∈DT 4) h
theorem aT0:((DT 4).all λa=>(DT (4-a)).all λb=>(Hb A6 a).all λi=>(Hb M b).all λj=>XQ (i,j) pn)=M:=by kernel_rfl
theorem aT1(h:Ag (i,j)):Agree (DX.getD i []) (DY.getD j []) (F3 i) (F4 j):=by unfold Ag at h;exact h
theorem aT2{a b:O}(G_:a+b<=3){Av:I Tx}(h:A1∈lv A6 a)(Q:Av∈lv M b):Agree (DX.getD (CC A1 DX) []) (DY.getD (CC Av DY) []) (F3 (CC A1 DX)) (F4 (CC Av DY)):=by
 have h1:=li0 (by omega) h;have h2:=li1 (by omega) Q;have :=Bq.mp (Bq.mp (Bq.mp (Bq.mp aT0 a (Pf.mpr (by omega))) b (Pf.mpr (by(with_reducible exact Mine.vg (by assumption))))) _ h1) _ h2;exact aT1 (aS1 (CC A1 DX,CC Av DY) (po this))
theorem dW{J:Type}{o:J}{x y:I (O×J)}:AL (x++y) i=G o->AL x i=G o\/(AL x i=L/\AL y i=G o):=by induction x with
 |nil=>exactλh=>.inr ⟨rfl,h⟩|cons p x ih=>
 intro h;rw[IT];refine Ea (show bC (BC p.1 i) (G p.2) (AL (x++y) i)=G o from h) (λq h=>?_) λq h=>?_;. rw[q];exact .inl h
 . rw[q];exact ih h
theorem XR:AL (Gc n BF) i=G o->∃j o',i=n+j/\AL BF j=G o'/\o=DS (n+·) o':=by induction BF with
 |nil=>exactλh=>(AF h).elim|cons p BF ih=>
 intro h;refine Ea (show bC (BC (n+p.1) i) (G (DS (n+·) p.2)) (AL (Gc n BF) i)=G o from h) (λq h=>?_) λq h=>?_;. exact⟨p.1,p.2,(CD q).symm,JI,(Bl h).symm⟩
 . refine Bv (ih h) ?_;intro j o' e l r;exact⟨j,o',e,(IU λz=>by rw[z,<-e,Iy]at q;(exfalso;cases q)).trans l,r⟩
theorem pp(hc:∀B9,DS B9 o=o):Gc n [(0,o)]=[(n,o)]:=by
 show[(n+0,DS (n+·) o)]=_;rw[hc];rfl
section
variable{J:I A8}
theorem dZ(g:Gd B F K A H C s)(AG:Sub H DI Dv)(g':Gd B F K' A' AB AT s')(x':Nx F.D [] s.heap s'.heap (C' C Dv) AT)(nd:B7.Nodup)(KL:∀i∈B7,Dv.length<=i/\i<AB.n){Q:I (O×Ob)}(hH:∀j o,AL BF j=G o->∃i o',B7[j]?=G i/\AL AB.h i=G o'/\∀a,Ca B.prog B.w s'.heap AT a o'->Ca B.prog B.w s'.heap AT a (DS (DJ AB.n B7) o))(hh:∀i o,AL Q i=G o->(AL H.h i=G o/\i∉Dv)\/∃j,Dv[j]?=G i/\AL AB.h j=G o/\∀B9,DS B9 o=o):Gd B F K A ⟨H.env,Gc H.n BF++Q,H.n+B7.length⟩ (C++C' AT B7) s'/\Nx F.D [] s.heap s'.heap C (C++C' AT B7):=by
 refine AC (x'.pre) ?_;intro J Aw GA;subst Aw;have hz:(C' C Dv).length=Dv.length:=by simp[C']
 have CF:∀i∈B7,i<AB.n:=λi m=>(KL i m).2;have KU:∀a∈C' (C' C Dv++J) B7,a∈J:=λa m=>by
   refine AC (E'.mp m) ?_;intro i hi B6;clear m;subst B6;have h1:=KL i hi;have hl:i<(C' C Dv++J).length:=by rw[g'.len];exact h1.2
   have hb:i-Dv.length<J.length:=by rw[FC,hz]at hl;(with_reducible exact Mine.vX (by assumption) (by assumption))
   have :(C' C Dv++J)[i]?=G J[i-Dv.length]:=by rw[VA (by omega),hz,Hi hb]
   rw[Kn,this];exact gH hb
 have hx:Nx F.D [] s.heap s'.heap C (C++C' (C' C Dv++J) B7):=⟨⟨_,rfl,λb m=>GA b (KU b m)⟩,x'.live,x'.Bw,λb o e n m=>x'.same b o e (λz=>n (LO g.len AG.lt z)) m⟩;have UE:∀j,(C' (C' C Dv++J) B7)[j]?=(C' C Dv++J)[DJ AB.n B7 j]?:=λj=>by
   have :=GI (J:=[]) g'.len CF j;simpa using this
 have pq:∀j,(C' (C' C Dv++J) B7)[j]?=(C++C' (C' C Dv++J) B7)[H.n+j]?:=λj=>by rw[VA (by rw[g.len];(with_reducible exact H2 _ _)),g.len,bD6]
 refine⟨g.back hx (by rw[FC,g.len];simp[C']) ?_ ?_ ?_ ?_ g'.base g'.os g'.gens (Cf.Gu g g.env hx),hx⟩
 . refine I9.mpr ⟨g.nodup,?_,λa ha b hb e=>?_⟩
   . unfold C';rw[uF,fk];refine nd.imp_of_mem λ{a b}ha hb Cc e=>Cc ?_;have h1:a<(C' C Dv++J).length:=by rw[g'.len];exact CF a ha
     have h2:b<(C' C Dv++J).length:=by rw[g'.len];exact CF b hb
     have e':(C' C Dv++J)[a]?=(C' C Dv++J)[b]?:=by
       change(C' C Dv++J).getD a 0=(C' C Dv++J).getD b 0 at e;rw[Kn,Kn,Hi h1,Hi h2]at e;rw[Hi h1,Hi h2];exact congrArg G e
     exact(RQ h1 g'.nodup).mp e'
   . subst e;refine xE (g.live a ha) ?_;intro o e;rw[GA a (KU a hb)]at e;exact(BE e).elim
 . intro a m;rcases Dp.mp m with m|m;. exact g.fresh a m
   . exact g'.fresh a (Pe _ (KU a m))
 . intro a m;rcases Dp.mp m with m|m;. refine xE (g.live a m) ?_;intro o e;exact x'.live a o e
   . exact g'.live a (Pe _ (KU a m))
 . intro i o e;rcases dW e with e|Bg;rotate_left;refine xA Bg ?_;(try clear Bg);intro _ e;rotate_left
   . refine Bv (XR e) ?_;intro j o' BJ hj BP;clear e;subst BJ;clear e;subst BP;refine Bv (hH j o' hj) ?_;intro i' o'' hp hl conv;refine AC (g'.objs i' o'' hl) ?_;intro a ha r;refine⟨a,?_,(Ca.DV pq).mp ((Ca.DV UE).mpr (conv a r))⟩;rw[<-pq,UE];unfold DJ;rw[hp];exact ha
   . rcases hh i o e with Bu|C9;refine xA Bu ?_;(try clear Bu);intro e hi;rotate_left;refine CZ C9 ?_;(try clear C9);intro j hj hl hc;rotate_left
     . refine AC (g.objs i o e) ?_;intro a ha r;refine⟨a,FX ha,r.mono x'.Bw λy ey=>x'.keep a y ey (λz=>hi ?_) (by simp) (λz=>absurd (Ev ha) (g.Cz a z).1)⟩;refine AC (E'.mp z) ?_;intro j hj e';have h1:j<C.length:=by rw[g.len];exact AG.lt j hj
       have h2:C[j]?=G a:=by rw[<-e'];simp[Kn,h1]
       have :j=i:=(RQ h1 g.nodup).mp (h2.trans ha.symm);exact this▸hj
     . refine AC (g'.objs j o hl) ?_;intro a ha r;refine⟨a,?_,r.Fv hc⟩;have :=GI (J:=J) g.len AG.lt j;rw[ha]at this;have h3:DJ H.n Dv j=i:=by unfold DJ;rw[hj]
       rw[h3]at this;have hi:i<C.length:=by rw[g.len];exact AG.lt i (Ev hj)
       rw[Y' hi]at this;exact FX this.symm
theorem d_(g:Gd B F K A H C s)(g':Gd B F K' A' AB AT s')(KL:∀i∈B7,i<AB.n)(hi:B7[0]?=G i)(r:VR h AT (.ref i) u):VR h (C++C' AT B7) (.ref H.n) u:=by
 refine AC r ?_;(try clear r);intro a ha Bp;subst Bp;refine⟨a,?_,rfl⟩;have UE:=GI (J:=[]) g'.len KL 0;simp only[HL]at UE;rw[VA (by rw[g.len];exact DE _),g.len,Nat.sub_self,UE];unfold DJ;rw[hi];exact ha
theorem pr(hl:AL AB.h j=G ob)(c:∀a,Ca B.prog B.w s'.heap AT a ob->Ca B.prog B.w s'.heap AT a (DS B9 o)):∀q UF,AL [(0,o)] q=G UF->∃i o',[j][q]?=G i/\AL AB.h i=G o'/\∀a,Ca B.prog B.w s'.heap AT a o'->Ca B.prog B.w s'.heap AT a (DS B9 UF):=λq UF e=>Zz (P:=λq UF=>∃i o',[j][q]?=G i/\AL AB.h i=G o'/\∀a,Ca B.prog B.w s'.heap AT a o'->Ca B.prog B.w s'.heap AT a (DS B9 UF)) e ⟨j,ob,rfl,hl,c⟩ λ_ e=>(AF e).elim
theorem LZ{w:Tx->V}(hw:∀p,Cl (w p)):DS B9 (.dict (BM w A1))=.dict (BM w A1)/\DS B9 (.B3 (BM w A1))=.B3 (BM w A1):=by
 constructor;. show Ob.dict ((BM w A1).map _)=_;rw[KQ (Mp hw)]
 . show Ob.B3 ((BM w A1).map _)=_;rw[KQ (Mp hw)]
theorem pt(g:Gd B F K A H C s)(hi:AL H.h i=G o)(hc:∀B9,DS B9 o=o):Sub H ⟨[],[(0,o)],1⟩ [i]:=⟨rfl,ET.mpr ⟨(by simp),HK⟩,λj m=>by rw[CI.mp m];exact Im g hi,λj p e=>by match j,e with
 |0,e=>injection e with e;subst e;exact⟨i,rfl,by rw[hi,hc]⟩|j+1,e=>exact(BE e).elim⟩
theorem pu(AV:(Bb P).In B.base)(AM:Df B){A9:I Tx}{w:Tx->V}(hw:∀p,Cl (w p))(hS:Fb A1)(hp:A1.Perm A9)(hd:8<=K.d)(hi:AL H.h i=G (.dict (BM w A1)))(g:Gd B F K A H C s)(rs:Aa s.heap C [.ref i] us):Ae B F K A ⟨H.env,(H.n,.B3 (BM w A9))::H.h,H.n+1⟩ C s (CE (.ref 392) us) (RV (.ref H.n)):=by
 refine Vy (hS K.sc w) AF λv AB LX hs=>?_;revert LX;apply EH hs AF;intro j hs LX;refine Ce hs AF λhj hs=>BI hs λob hl hs=>?_;revert hl;apply JA hs AF;intro N hs hl;refine BI hs λob0 h0 hs=>?_;revert h0;apply JA hs AF;intro cb hs h0;have hs:=Bl hs;have hl:AL AB.h j=G (.dict (BM w A1)):=(congrArg (·.1) hs:N=BM w A1)▸hl;have h0:AL AB.h 0=G (.dict (BM w A1)):=(congrArg (·.2) hs:cb=BM w A1)▸h0;have AG:=pt g hi λB9=>(LZ hw).1;intro A2 E k;refine(all1 AV AM 100).s.call LX (g.sub AG hd (Cf.nil g)) Qt ((Aa.DV λj=>?_).mpr (show Aa s.heap C (Cs (DJ H.n [i]) [.ref 0]) us from rs)) A2 E λu AT s' g' x' r'=>?_
 . have :=GI (J:=[]) g.len AG.lt j;rwa[HL,HL]at this
 . have UG:=Im g' hl;refine xA (dZ (B7:=[j]) (BF:=[(0,.B3 (BM w A9))]) (Q:=H.h) g AG g' x' ((gc _ _)) (λk m=>by rw[CI.mp m];exact⟨Dj hj,UG⟩) (pr hl λa r=>by
     rw[(LZ hw).2];exact⟨_,⟨hp.map _,trivial⟩,r⟩) (λk o e=>?_)) ?_
   . by_cases hk:k=i
     . rw[hk,hi]at e;exact .inr ⟨0,congrArg G hk.symm,Bl e▸h0,λB9=>Bl e▸(LZ hw).1⟩
     . exact .inl ⟨e,λm=>hk (CI.mp m)⟩
   intro gg xx;rw[pp λB9=>(LZ hw).2]at gg;exact k u _ s' gg xx (d_ g g' (λi m=>by rw[CI.mp m];exact UG) rfl r')
theorem aT3{l:I O}:d9 l=M->l.Nodup:=by induction l with
 |nil=>exactλ_=>HK|cons x l ih=>exactλh=>ET.mpr ⟨λm=>Ug ((nb (B1 h)).symm.trans (ID.mpr ⟨x,m,Iy x⟩)),ih (Ak h)⟩
theorem UH{k:AK}{AO:CB k}:∀p,Cl (Ay AO p):=λ_ _=>rfl
theorem aT4(AV:(Bb P).In B.base)(AM:Df B){k:AK}{AO:CB k}{Q:I (O×Ob)}(hS:Es K.sc k AO A1=G BF)(hd:8<=K.d)(hi:AL H.h i=G (.dict (BM (Ay AO) A1)))(hh:∀j o,AL Q j=G o->AL H.h j=G o/\j≠i)(g:Gd B F K A H C s)(rs:Aa s.heap C [.ref i] us):Ae B F K A ⟨H.env,Gc H.n BF++Q,H.n+BF.length⟩ C s (CE (.ref 411) us) (RV (.ref H.n)):=by
 refine BI hS λp hp hS=>Ce hS AF λhc hS=>oh hp λj AB LX db aT5=>?_;rw[<-Bl hS];have z:=om aT5;have AG:=pt g hi λB9=>(LZ UH).1;intro A2 E kk;refine(all1 AV AM 100).s.call (show ev CQ 100 ⟨K.sc,8⟩ _ _=_ from LX) (g.sub AG hd (Cf.nil g)) Qt ((Aa.DV λj=>?_).mpr (show Aa s.heap C (Cs (DJ H.n [i]) [.ref 0]) us from rs)) A2 E λu AT s' g' x' r'=>?_
 . have :=GI (J:=[]) g.len AG.lt j;rwa[HL,HL]at this
 . have CF:∀i∈p.1,i<AB.n:=λi m=>xE (z.2.1 i m) λN he=>Im g' he;refine xA (dZ (B7:=p.1) (BF:=p.2) (Q:=Q) g AG g' x' (aT3 (B1 hc)) (λi m=>⟨Dj (Bq.mp (Ak hc) i m),CF i m⟩) (λq o e=>by
   refine VM (z.2.2 q o e) ?_;intro q' i' N BN e1 e2 e3 e4 e5;rw[e4];exact⟨i',_,e1▸(Ui q').symm▸e2,e3,λa r=>⟨_,⟨e5 _,trivial⟩,r⟩⟩) (λq o e=>.inl ⟨(hh q o e).1,λm=>(hh q o e).2 (CI.mp m)⟩)) ?_;intro gg xx;rw[<-z.1]at gg;exact kk u _ s' gg xx (d_ g g' CF (aH4 db) r')
theorem aT6{k:O}{o:A0}{l:I Sg}(h:XP k o=G l):∃i H ob r,o=.ok (.v (.ref i)) H/\k<=i/\AL H.h i=G ob/\FV ob=G (r,l):=by
 apply Vx h AF;intro v H h;apply EH h AF;intro i h;refine Ce h AF λhk h=>BI h λob hb h=>BI h λr hr h=>?_;exact⟨i,H,ob,r.1,rfl,Dj hk,hb,Bl h▸hr⟩
theorem aT7{Y:I Sg}(hr:FV ob=G (r,Y))(q:Ca prog w h C a ob):Ca prog w h C a (.rows 0 Y):=by
 revert q;apply bB hr;. exactλhf _ q=>AC q λus p v=>⟨us,p,v,B4 (Ee hf) (show 100000<=Dl by decide)⟩
 . exactλq=>CZ q λus p v l=>⟨us,p,v,B4 (HI (Nf r) _) l⟩
theorem pw(AV:(Bb P).In B.base)(AM:Df B){f:O}{l:I Sg}{Q:I (O×Ob)}(hR:XP DI.n (ev UC 200 ⟨K.sc,40⟩ (.call (.top (.ref f)) MP) DI)=G l)(he:DI.env=[])(AG:Sub H DI Dv)(hd:40<=K.d)(ha:args=Cs (DJ H.n Dv) MP)(hh:∀j o,AL Q j=G o->AL H.h j=G o/\j∉Dv)(g:Gd B F K A H C s)(rs:Aa s.heap C args us):Ae B F K A ⟨H.env,(H.n,.rows 0 l)::Q,H.n+1⟩ C s (CE (.ref f) us) (RV (.ref H.n)):=by
 refine VL (aT6 hR) ?_;intro i AB ob r LX hi hl hr;subst ha;intro A2 E kk;refine(aS0 AV AM 200).s.call LX (g.sub AG hd (by rw[he];exact Cf.nil g)) Qt ((Aa.DV λj=>?_).mpr rs) A2 E λu AT s' g' x' r'=>?_
 . have :=GI (J:=[]) g.len AG.lt j;simpa using this
 . have UG:=Im g' hl;refine xA (dZ (B7:=[i]) (BF:=[(0,.rows 0 l)]) (Q:=Q) g AG g' x' ((gc _ _)) (λk m=>by rw[CI.mp m,AG.len];exact⟨hi,UG⟩) (pr hl λa r=>aT7 hr r) (λk o e=>.inl (hh k o e))) ?_;intro gg xx;rw[pp λB9=>rfl]at gg;exact kk u _ s' gg xx (d_ g g' (λi m=>by rw[CI.mp m];exact UG) rfl r')
end
section
theorem aT8{fn:Fn}{o:Bm}(ok:FnAt B a fn o fd){b:I (U×V)}(hb:JE fn args=G b)(hd:K.d=d+1)(g:Ga B F K A ⟨[],[],0⟩ [] s)(rs:Aa s.heap [] args us)(D:∀{F:Fm}{A:CK}{AJ:AR},Gd B F ⟨fn.sc,d⟩ A ⟨b,[],0⟩ [] AJ->(∀b o,s.heap.get? b=G o->AJ.heap.get? b=G o)->AH (AQ B.prog B.w) A (Iz fn.body F.env) (λf s'=>∃v,f=.ret v/\A2 v s') (λ_ _=>Bi) AJ):AH (AQ B.prog B.w) A (CE (.ref a) us) A2 E s:=by
 refine HN (g.into hd ok hb rs λAN keep _ _=>codeAny_func (Ff (D AN keep) (λf s' q=>?_) λ_ _ q=>q.elim));refine AC q ?_;(try clear q);intro v BP q;subst BP;exact q
end
noncomputable def N1(nm:U)(x:AA):AK:=EB x A6 λf _ k _=>DM f A6 λid _=>l0 k A6 (Cy id nm)
noncomputable def I3(x:AA):I AA:=EB x [] λ_ a _ _=>a
theorem Ou{nm:U}{x:AA}(h:N1 nm x=M):∃p p',x=.Call (.Name nm p) (I3 x) [] p':=by
 apply M3 h B0;intro f a k p h;apply EU h B0;intro id p' h;apply EV h B0;intro h;rw[E1.mp h];exact⟨_,_,rfl⟩
noncomputable def dc(x:AA)(i:O):AA:=(I3 x).getD i (.Constant .none 0 ⟨0,0,0,0⟩)
noncomputable def de(nm:U)(x:As):AK:=Pj x A6 λl _ _=>l1 l A6 λy=>DM y A6 λid _=>Cy id nm
noncomputable def Ja(x:As):AA:=Pj x (S' x (.Constant .none 0 ⟨0,0,0,0⟩) λe _=>oS e (.Constant .none 0 ⟨0,0,0,0⟩) λe=>e) λ_ e _=>e
theorem py{nm:U}{x:As}(h:de nm x=M):∃p p',x=.Assign [.Name nm p] (Ja x) p':=by
 apply h_ h B0;intro l e p h;apply Ct h B0;intro y h;apply EU h B0;intro id p' h;rw[E1.mp h];exact⟨_,_,rfl⟩
noncomputable def pz(x:As):AK:=S' x A6 λe _=>oS e A6 λ_=>M
theorem aT9{x:As}(h:pz x=M):∃p,x=.Return (G (Ja x)) p:=by
 apply uh h B0;intro e p h;apply Nl h B0;intro e _;exact⟨_,rfl⟩
noncomputable def qA(x:AA):AK:=Kq x A6 λ_ o r _=>l1 o A6 λo=>l1 r A6 λ_=>decide (o=.Eq)
noncomputable def UI(x:AA):AA:=Kq x (J5 x x λv _ _=>v) λl _ _ _=>l
noncomputable def dg(x:AA):AA:=Kq x x λ_ _ r _=>l1 r x λr=>r
theorem aU0{x:AA}(h:qA x=M):∃p,x=.Compare (UI x) [.Eq] [dg x] p:=by
 apply Ry h B0;intro l o r p h;apply Ct h B0;intro o h;apply Ct h B0;intro r h;rw[of_decide_eq_true h];exact⟨_,rfl⟩
noncomputable def qB(x:AA):AK:=J5 x A6 λ_ s _=>Ni s A6 λa b c _=>oN a A6 (oN c A6 (oS b A6 λb=>HP b A6 λk _ _=>decide (k=.int 3)))
theorem aU1{x:AA}(h:qB x=M):∃k p p' XS,x=.Subscript (UI x) (.Slice L (G (.Constant (.int 3) k p)) L p') XS:=by
 apply Ng h B0;intro v s XS h;apply h' h B0;intro a b c p' h;apply GP h B0;intro h;apply GP h B0;intro h;apply Nl h B0;intro b h;apply J4 h B0;intro k n p h;rw[of_decide_eq_true h];exact⟨n,p,p',XS,rfl⟩
noncomputable def DZ:As:=Ba 37
@[irreducible]noncomputable def FM(k:O):As:=(Fi DZ)[k]?.getD (.Pass ⟨0,0,0,0⟩)
@[irreducible]noncomputable def Ov:AA:=Ja (FM 0)
@[irreducible]noncomputable def R':AA:=Ja (FM 1)
@[irreducible]noncomputable def UJ:AA:=dg (Ja (FM 2))
@[irreducible]noncomputable def UK:AA:=dc Ov 0
@[irreducible]noncomputable def I4(k:O):AA:=dc R' k
@[irreducible]noncomputable def I5(k:O):AA:=dc UJ k
@[irreducible]noncomputable def qC:AA:=UI (Ja (FM 2))
noncomputable def L_:U:=⟨⟨[115,99,114,105,112,116]⟩⟩
noncomputable def Ei:U:=⟨⟨[100,114,97,119,110]⟩⟩
noncomputable def HF:U:=⟨⟨[116,111,108,100,95,115,111]⟩⟩
noncomputable def XV:U:=⟨⟨[95,108,97,119,95,116,114,101,101,115]⟩⟩
noncomputable def UL:U:=⟨⟨[95,108,97,119,95,115,116,114,97,105,103,104,116]⟩⟩
noncomputable def XW:U:=⟨⟨[95,108,97,119,95,116,111,108,100]⟩⟩
noncomputable def UM:U:=⟨⟨[95,108,97,119,95,103,114,111,119,110]⟩⟩
noncomputable def XX:U:=⟨⟨[95,108,97,119,95,119,97,108,107,101,100]⟩⟩
theorem aU2:Fi DZ=[FM 0,FM 1,FM 2]:=by kernel_rfl
theorem dh:de Ei (FM 0)=M/\Ja (FM 0)=Ov/\N1 XV Ov=M/\I3 Ov=[UK]/\qB UK=M/\JH Ov=A6/\MI [] Ov=A6/\CP UK=M:=⟨by kernel_rfl,by kernel_rfl,by kernel_rfl,by kernel_rfl,by kernel_rfl,by kernel_rfl,by kernel_rfl,by kernel_rfl⟩
theorem qD:de HF (FM 1)=M/\Ja (FM 1)=R'/\N1 XW R'=M/\I3 R'=[I4 0,I4 1,I4 2]/\N1 UL (I4 0)=M/\N1 UL (I4 1)=M/\JH R'=A6:=⟨by kernel_rfl,by kernel_rfl,by kernel_rfl,by kernel_rfl,by kernel_rfl,by kernel_rfl,by kernel_rfl⟩
theorem qE:pz (FM 2)=M/\qA (Ja (FM 2))=M/\UI (Ja (FM 2))=qC/\dg (Ja (FM 2))=UJ/\N1 XX UJ=M/\I3 UJ=[I5 0,I5 1,I5 2]/\N1 UM (I5 0)=M/\N1 UM (I5 1)=M:=⟨by kernel_rfl,by kernel_rfl,by kernel_rfl,by kernel_rfl,by kernel_rfl,by kernel_rfl,by kernel_rfl,by kernel_rfl⟩
theorem aU3:([XV,UL,XW,UM,XX].all (Dh (BV DZ)))=M:=by kernel_rfl
theorem Ow:Ah CQ.glob XV=G (.top (.ref 387))/\Ah CQ.glob UL=G (.top (.ref 392))/\Ah CQ.glob XW=G (.top (.ref 404))/\Ah CQ.glob UM=G (.top (.ref 411))/\Ah CQ.glob XX=G (.top (.ref 435)):=⟨by kernel_rfl,by kernel_rfl,by kernel_rfl,by kernel_rfl,by kernel_rfl⟩
noncomputable def XY(CG:CB A6)(C7:CB M)(L0 L1:I Tx):Mine.St:=⟨[(Ei,.ref 0)],[(0,.list [.ref 1,.ref 2]),(1,.dict (BM (Ay CG) L0)),(2,.dict (BM (Ay C7) L1))],3⟩
theorem aU4(d:O)(l:A8):ev CQ 60 ⟨BV DZ,d⟩ (.e (UI UK)) ⟨[(L_,.top (.ref l))],[],0⟩=.ok (.v (.top (.ref l))) ⟨[(L_,.top (.ref l))],[],0⟩:=by kernel_rfl
theorem aU5(d:O)(p:BA)(l:A8)(BF:I (O×Ob)):ev CQ 60 ⟨BV DZ,d⟩ (.GQ [.Name Ei p] (.ref 3)) ⟨[(L_,.top (.ref l))],BF,6⟩=.ok (.f .next) ⟨[(L_,.top (.ref l)),(Ei,.ref 3)],BF,6⟩:=by kernel_rfl
theorem Ox{nm:U}(h:nm∈[XV,UL,XW,UM,XX]):Dh (BV DZ) nm=M:=Bq.mp aU3 nm h
section
variable{J:I A8}
theorem Oy(AV:(Bb P).In B.base)(g:Gd B F K A H C s){k:O}(hf:AL Ii a=G (DD (Ba k))):CW (AQ B.prog B.w) s.heap (.ref a):=by
 refine DA (Mi AV (Mk AV) (O_ P hf)) ?_;intro o fd ok;exact CW.func (g.base _ _ ok.get) ok.data
theorem aU6:Hq (E7 rs) L (G 3)=E7 (rs.take 3):=by
 rw[WS];show((E7 rs).take (Hg (E7 rs).length 3)).drop 0=_;rw[YI];unfold E7;rw[List.map_take];have :Hg (rs.map (V.IK 12)).length 3=min 3 rs.length:=by rw[Jl];exact clipAt_nat rs.length 3
 rw[this];by_cases h:rs.length<=3;. rw[bE0 h,gC (by simp),gC (by simpa using h)]
 . rw[bE1 (by(with_reducible exact uJ (by assumption)))]
theorem aU7(AV:(Bb P).In B.base)(AM:Df B){l:A8}{us:BW A4}(hl:B.base.IsList l us)(hv:Aa B.base [] (E7 rs) us.toList)(UN:us.size<=100)(g:Gd B F ⟨BV DZ,d⟩ A ⟨[(L_,.top (.ref l))],[],0⟩ [] s):Ae B F ⟨BV DZ,d⟩ A ⟨[(L_,.top (.ref l))],[(0,.list (E7 (rs.take 3)))],1⟩ [] s (eval UK F.env) (RV (.ref 0)):=by
 intro A2 E kk;refine ut (aU1 dh.2.2.2.2.1) ?_;intro k p p' XS e;rw[e];have A9:=(all1 AV AM 60).s;refine YJ (A9.e (aU4 d l) g _ _ λu AZ AJ AN Ab Aq=>tN (CJ.pure (A_:=[]) (IX:=RV .none) AN rfl _ _ λa Au Ai AU Al BB=>W4 (L4:=k) (pos:=p) (v:=.int 3) AU rfl _ _ λb BS Ax Ao B8 BQ=>?_));rw[evalPart_none];refine AW ?_;cases Aq;cases BB;refine xE BQ ?_;(try clear BQ);intro t Aw;subst Aw;have h0:BS=[]:=gi Ao.len;subst h0;refine Pm hl ?_;(try clear hl);intro o ho hc n hd;have kp:∀b o,Ax.heap.get? b=G o->(Ax.heap.push {cls:=.type "slice",data:=.fields #[.none,.int 3 t,.none]}).get? b=G o:=λb o e=>C1 _ e;have CA:=Ao.ext (tk:=Ax.toks) kp;have qF:(Ax.heap.push {cls:=.type "slice",data:=.fields #[.none,.int 3 t,.none]}).IsList l us:=⟨o,CA.base _ _ ho,hc,n,hd⟩;have hs:(Ax.heap.push {cls:=.type "slice",data:=.fields #[.none,.int 3 t,.none]}).IsSlice Ax.heap.objs.size L (G (3,t)) L:=⟨_,CY _ rfl,rfl,rfl⟩;refine Km qF.typeIs P_.lookup (tM qF hs (WT L) (WT (G (3,t))) gI (by simp) ?_ (B4 UN (by decide))) rfl;have di:∀b o,(Ax.heap.push {cls:=.type "slice",data:=.fields #[.none,.int 3 t,.none]}).get? b=G o->((Ax.heap.push {cls:=.type "slice",data:=.fields #[.none,.int 3 t,.none]}).push {cls:=.type "list",data:=.seq (Hh us L (G 3) L)}).get? b=G o:=λb o e=>C1 _ e;have hg:=CY (Ax.heap.push {cls:=.type "slice",data:=.fields #[.none,.int 3 t,.none]}) (o:={cls:=.type "list",data:=.seq (Hh us L (G 3) L)}) rfl;have EK:Nx F.D ([]:I A8) Ax.heap (Ax.heap.push {cls:=.type "slice",data:=.fields #[.none,.int 3 t,.none]}) [] []:=Nx.ext kp;have hn:=GD (Ax.heap.push {cls:=.type "slice",data:=.fields #[.none,.int 3 t,.none]});refine kk _ [_] _ (CA.new (tk:=Ax.toks) di hn ⟨_,hg⟩ (o:=.list (E7 (rs.take 3))) ⟨_,⟨_,hg⟩,?_⟩) ((Ab.trans (Al.trans (B8.trans EK))).trans (Nx.add [_] di λb hb=>by rw[CI.mp hb];exact hn)) ⟨_,rfl,rfl⟩;have :=b6 (Aa.mono (Q:=(Ax.heap.push {cls:=.type "slice",data:=.fields #[.none,.int 3 t,.none]}).push {cls:=.type "list",data:=.seq (Hh us L (G 3) L)}) (J:=[(Ax.heap.push {cls:=.type "slice",data:=.fields #[.none,.int 3 t,.none]}).objs.size]) (λb o e _=>di _ _ (CA.base b o e)) hv) L (G 3);rw[aU6]at this;exact this
theorem aU8(h:∀r∈rs,r<12):∀r∈rs.take 3,r<12:=λr m=>h r (List.mem_of_mem_take m)
theorem qG{t:AA}{l:O}(h:JH e=A6):by0 [t] e l env=pure A6:=T6 h
theorem aU9(AV:(Bb P).In B.base)(AM:Df B)(hd:40<=d){l:A8}{us:BW A4}(hl:B.base.IsList l us)(hv:Aa B.base [] (E7 rs) us.toList)(UN:us.size<=100)(hr:∀r∈rs,r<12)(g:Gd B F ⟨BV DZ,d⟩ A ⟨[(L_,.top (.ref l))],[],0⟩ [] s){A2:HM->AR->Prop}(k:∀(a b:O)(L0 L1:I Tx)(CG:CB A6)(C7:CB M)(AT:I A8)(s':AR),a+b<=3->L0∈lv A6 a->L1∈lv M b->Gd B F ⟨BV DZ,d⟩ A (XY CG C7 L0 L1) AT s'->A2 .next s'):AH (AQ B.prog B.w) A (exec (FM 0) F.env) A2 E s:=by
 refine iB dh ?_;(try clear dh);intro h1 h2 h3 h4 h5 h6 h7 h8;refine DA (py h1) ?_;intro p p' e;rw[e,h2];have A9:=(all1 AV AM 60).s;refine DA (Ou h3) ?_;intro q q' e2;refine fa ?_ (qG h6) (aM (by show MI [.Name Ei p] Ov=A6;rw[e2];rfl));rw[e2,h4];refine LU (Bk:=GH AV) (A3:=CQ) (Ox (by simp)) Ow.1 (by simp[h8]) g (λBG EM p F_ Cr=>Wc h8 (by
  have h0:BG=[]:=gi F_.len;clear Cr;subst h0;exact aU7 AV AM hl hv UN F_) p) λDw AZ AJ AN Ab Aq=>⟨Oy AV (k:=28) AN (by kernel_rfl),?_⟩;refine Bv Aq ?_;(try clear Aq);intro u Dw B6 ru e3;subst B6;cases e3;have qH:=aU8 hr;obtain⟨d',rfl⟩:∃d',d=d'+1:=⟨d-1,by(with_reducible exact Mine.yH (by assumption))⟩;refine aE7 AV AM (K:=⟨BV DZ,d'+1⟩) (rs:=rs.take 3) rfl (by omega) (by simp;(with_reducible exact Xv _ _)) qH AN ru _ _ λu Au Ai AU Al BB=>?_;refine A9.GQ (aU5 _ p l _) AU BB _ _ λ_ BS Ax Ao B8 _=>?_;refine EW (X6 (rs.take 3) oU qH) ?_;intro a b G_ Er;have L8:=oZ (rs.take 3) aG9;have EJ:((rs.take 3).foldl Tr.turn T0).Cl:=by
  have :∀(l:I O){T:Tr},T.Cl->(l.foldl Tr.turn T).Cl:=λl=>by induction l with
 |nil=>exactλh=>h|cons r l ih=>exactλh=>ih (h.turn r)
  exact this _ oO
 generalize(rs.take 3).foldl Tr.turn T0=T at Ao Er L8 EJ;have CA:Gd B F ⟨BV DZ,d'+1⟩ A ⟨[(Ei,.ref 0)],[(0,.list [.ref 1,.ref 2]),(1,.dict (BM T.w0 T.L0)),(2,.dict (BM T.w1 T.L1))],3⟩ (C' BS [3,4,5]) Ax:=by
  refine Ao.pick (B7:=[3,4,5]) ⟨rfl,by decide,by show∀i∈_,i<6;decide,λk o e=>?_⟩ λx v e=>?_;. match k,e with
 |0,e=>injection e with e;subst e;exact⟨3,rfl,rfl⟩|1,e=>injection e with e;subst e;exact⟨4,rfl,by show G (Ob.dict (BM T.w0 T.L0))=G (DS _ (Ob.dict (BM T.w0 T.L0)));rw[(LZ EJ.c0).1]⟩|2,e=>injection e with e;subst e;exact⟨5,rfl,by show G (Ob.dict (BM T.w1 T.L1))=G (DS _ (Ob.dict (BM T.w1 T.L1)));rw[(LZ EJ.c1).1]⟩|k+3,e=>exact(BE e).elim
  . exact T4 (f:=E6 _) (by rfl) e
 have nd0:T.L0.Nodup:=Mr (Bq.mp (o_ A6) _ (X7 (by have :=Pa (i:=3) (l:=rs);omega) Er.l0));have nd1:T.L1.Nodup:=Mr (Bq.mp (o_ M) _ (X7 (by have :=Pa (i:=3) (l:=rs);omega) Er.l1));refine xE (CA.syms (k:=A6) (i:=1) (w:=T.w0) (A1:=T.L0) rfl nd0 L8.w0) ?_;intro CG Co;refine xE (Co.syms (k:=M) (i:=2) (w:=T.w1) (A1:=T.L1) rfl nd1 L8.w1) ?_;intro C7 GZ;refine k a b T.L0 T.L1 CG C7 _ Ax ?_ Er.l0 Er.l1 GZ;have :=Pa (i:=3) (l:=rs);(with_reducible exact Mine.vG (by assumption) (by assumption))
end
theorem qI{A9:I Tx}(h:U2 A1 A9=M)(nd:A1.Nodup)(nd':A9.Nodup):A1.Perm A9:=by
 simp only[U2,D6]at h;exact(bE2 nd nd').mpr λp=>⟨λm=>X8 (Bq.mp h.1 p m),λm=>X8 (Bq.mp h.2 p m)⟩
noncomputable def KY(A1:I Tx):I Tx:=DX.getD (CC A1 DX) []
noncomputable def La(A1:I Tx):I Tx:=DY.getD (CC A1 DY) []
theorem pm0:(Of.all λA1=>U2 A1 (KY A1)&&LR A1&&LR (KY A1))=M:=by kernel_rfl
theorem pm1:(Og.all λA1=>U2 A1 (La A1)&&LR A1&&LR (La A1))=M:=by kernel_rfl
theorem aV0(h:A1∈Of):A1.Perm (KY A1):=by
 have :=Bq.mp pm0 A1 h;simp only[D6]at this;exact qI this.1.1 (Mr this.1.2) (Mr this.2)
theorem aV1(h:A1∈Og):A1.Perm (La A1):=by
 have :=Bq.mp pm1 A1 h;simp only[D6]at this;exact qI this.1.1 (Mr this.1.2) (Mr this.2)
noncomputable def N2(CG:CB A6)(C7:CB M)(L0 L1:I Tx):I (O×Ob):=[(0,.list [.ref 1,.ref 2]),(1,.dict (BM (Ay CG) L0)),(2,.dict (BM (Ay C7) L1))]
theorem aV2(d:O)(CG:CB A6)(C7:CB M)(L0 L1:I Tx):ev CQ 60 ⟨BV DZ,d⟩ (.N (I3 (I4 0))) (XY CG C7 L0 L1)=.ok (.vs [.ref 1]) (XY CG C7 L0 L1):=by kernel_rfl
theorem aV3(d:O)(CG:CB A6)(C7:CB M)(L0 L1:I Tx)(o:Ob):ev CQ 60 ⟨BV DZ,d⟩ (.N (I3 (I4 1))) ⟨[(Ei,.ref 0)],(3,o)::N2 CG C7 L0 L1,4⟩=.ok (.vs [.ref 2]) ⟨[(Ei,.ref 0)],(3,o)::N2 CG C7 L0 L1,4⟩:=by kernel_rfl
theorem aV4(d:O)(H:Mine.St):ev CQ 60 ⟨BV DZ,d⟩ (.e (I4 2)) H=.ok (.v (.str [47])) H:=by kernel_rfl
theorem qJ:(I3 (I4 0)).all CP=M/\(I3 (I4 1)).all CP=M/\CP (I4 0)=M/\CP (I4 1)=M/\CP (I4 2)=M:=⟨by kernel_rfl,by kernel_rfl,by kernel_rfl,by kernel_rfl,by kernel_rfl⟩
theorem aV5(d:O)(p:BA)(BF:I (O×Ob)):ev CQ 60 ⟨BV DZ,d⟩ (.GQ [.Name HF p] (.ref 5)) ⟨[(Ei,.ref 0)],BF,6⟩=.ok (.f .next) ⟨[(Ei,.ref 0),(HF,.ref 5)],BF,6⟩:=by kernel_rfl
section
variable{GW:Mine.St}{J:I A8}
theorem qK{x y z:AA}{a b c:V}(hx:CP x=M)(hy:CP y=M)(hz:CP z=M)(bW6:Ae B F K A AB C s (eval x F.env) (RV a))(bW7:∀{AZ:I A8}{AJ:AR},Gd B F K A AB AZ AJ->Ae B F K A Bc AZ AJ (eval y F.env) (RV b))(bW8:∀{Au:I A8}{Ai:AR},Gd B F K A Bc Au Ai->Ae B F K A GW Au Ai (eval z F.env) (RV c))(pos:BA):Ae B F K A GW C s (Lm (F8 pos (Dz [x,y,z] F.env))) (O7 [a,b,c]):=by
 intro A2 E k;have cn:∀{x:AA}{l:I AA},CP x=M->Dz (x::l) F.env=(A6,eval x F.env)::Dz l F.env:=λh=>K6 h;refine Ln (bW6 _ _ λu AZ AJ AN Ab Aq=>Ln (bW7 AN _ _ λv Au Ai AU Al BB=>Ln (bW8 AU _ _ λw BS Ax Ao B8 BQ=>Uk (k _ BS Ax Ao (Ab.trans (Al.trans B8)) ⟨u,_,rfl,(Aq.nx Al).nx B8,v,_,rfl,BB.nx B8,w,_,rfl,BQ,rfl⟩)) (cn hz)) (cn hy)) (cn hx)
theorem aV6(AV:(Bb P).In B.base)(AM:Df B)(hd:42<=d){CG:CB A6}{C7:CB M}(h0:L0∈Of)(h1:L1∈Og){l:I Sg}(hR:UD (BV DZ) CG C7 (KY L0) (La L1)=G l)(g:Gd B F ⟨BV DZ,d⟩ A (XY CG C7 L0 L1) C s){A2:HM->AR->Prop}(k:∀(AT:I A8)(s':AR),Gd B F ⟨BV DZ,d⟩ A ⟨[(Ei,.ref 0),(HF,.ref 5)],(5,.rows 0 l)::N2 CG C7 L0 L1,6⟩ AT s'->A2 .next s'):AH (AQ B.prog B.w) A (exec (FM 1) F.env) A2 E s:=by
 refine i9 qD ?_;(try clear qD);intro h2 h3 h4 h5 h6 h7 h8;refine VJ qJ ?_;(try clear qJ);intro dj R0 UO UP UQ;refine DA (py h2) ?_;intro p p' e;rw[e,h3];have A9:=(all1 AV AM 60).s;refine DA (Ou h4) ?_;intro q q' e2;refine DA (Ou h6) ?_;intro p0 p0' e0;refine DA (Ou h7) ?_;intro p1 p1' e1;refine fa ?_ (qG h8) (aM (by show MI [.Name HF p] R'=A6;rw[e2];rfl));rw[e2,h5];refine LU (Bk:=GH AV) (A3:=CQ) (Ox (by simp)) Ow.2.2.1 (by simp[UO,UP,UQ]) g (AB:=⟨[(Ei,.ref 0)],(4,.B3 (BM (Ay C7) (La L1)))::(3,.B3 (BM (Ay CG) (KY L0)))::N2 CG C7 L0 L1,5⟩) (vs:=[.ref 3,.ref 4,.str [47]]) (λBG EM pos F_ Cr=>qK UO UP UQ (AB:=⟨[(Ei,.ref 0)],(3,.B3 (BM (Ay CG) (KY L0)))::N2 CG C7 L0 L1,4⟩) (Bc:=⟨[(Ei,.ref 0)],(4,.B3 (BM (Ay C7) (La L1)))::(3,.B3 (BM (Ay CG) (KY L0)))::N2 CG C7 L0 L1,5⟩) ?_ ?_ ?_ pos) λus AZ AJ AN Ab Aq=>⟨Oy AV (k:=31) AN (by kernel_rfl),?_⟩
 . intro A2 E kk;rw[e0];refine LU (Bk:=GH AV) (A3:=CQ) (Ox (by simp)) Ow.2.1 dj F_ (λAZ AJ pos AN Ab=>A9.N (aV2 d CG C7 L0 L1) pos AN) λus Au Ai AU Al BB=>⟨Oy AV (k:=29) AU (by kernel_rfl),?_⟩;exact pu AV AM UH (aF6 h0) (aV0 h0) (by show 8<=d;omega) (i:=1) rfl AU BB _ _ λu BS Ax Ao B8 BQ=>kk u BS Ax Ao (Al.trans B8) BQ
 . intro AZ AJ AN A2 E kk;rw[e1];refine LU (Bk:=GH AV) (A3:=CQ) (Ox (by simp)) Ow.2.1 R0 AN (λAZ AJ pos AN Ab=>A9.N (aV3 d CG C7 L0 L1 _) pos AN) λus Au Ai AU Al BB=>⟨Oy AV (k:=29) AU (by kernel_rfl),?_⟩;exact pu AV AM UH (aG6 h1) (aV1 h1) (by show 8<=d;omega) (i:=2) rfl AU BB _ _ λu BS Ax Ao B8 BQ=>kk u BS Ax Ao (Al.trans B8) BQ
 . intro Au Ai AU;exact A9.e (aV4 d _) AU
 . have cl0:∀B9,DS B9 (.B3 (BM (Ay CG) (KY L0)))=.B3 (BM (Ay CG) (KY L0)):=λB9=>(LZ UH).2;have cl1:∀B9,DS B9 (.B3 (BM (Ay C7) (La L1)))=.B3 (BM (Ay C7) (La L1)):=λB9=>(LZ UH).2;refine pw AV AM (K:=⟨BV DZ,d⟩) (f:=404) (l:=l) (DI:=pj CG C7 (KY L0) (La L1)) (Dv:=[3,4]) (MP:=[.ref 0,.ref 1,.str [47]]) (Q:=N2 CG C7 L0 L1) hR rfl ⟨rfl,by decide,by show∀i∈_,i<5;decide,λj o e=>?_⟩ (by show 40<=d;omega) rfl (λj o e=>?_) AN Aq _ _ λu Au Ai AU Al BB=>?_;. match j,e with
 |0,e=>injection e with e;subst e;exact⟨3,rfl,by rw[cl0];rfl⟩|1,e=>injection e with e;subst e;exact⟨4,rfl,by rw[cl1];rfl⟩|j+2,e=>exact(BE e).elim
   . match j,e with
 |0,e=>exact⟨e,by decide⟩|1,e=>exact⟨e,by decide⟩|2,e=>exact⟨e,by decide⟩|j+3,e=>exact(BE e).elim
   . exact A9.GQ (aV5 d p _) AU BB _ _ λ_ BS Ax Ao B8 _=>k BS Ax Ao
end
mutual
theorem XZ{AO:O->O}:∀v:V,E6 B9 (E6 AO v)=E6 (λj=>B9 (AO j)) v
 |.none=>rfl|.bool _=>rfl|.int _=>rfl|.str _=>rfl|.sym _ _ _=>rfl|.IK _ _=>rfl|.Nv _=>rfl|.any=>rfl|.top _=>rfl|.ref _=>rfl|.H7 _ _=>rfl|.B' _ _=>rfl|.tup c Y=>by
  show V.tup c (Cs B9 (Cs AO Y))=V.tup c (Cs _ Y);rw[dk Y]
theorem dk{AO:O->O}:∀l:I V,Cs B9 (Cs AO l)=Cs (λj=>B9 (AO j)) l
 |[]=>rfl|v::l=>by
  show E6 B9 (E6 AO v)::Cs B9 (Cs AO l)=E6 _ v::Cs _ l;rw[XZ v,dk l]
end
theorem aV7{AO:O->O}(o:Ob):DS B9 (DS AO o)=DS (λj=>B9 (AO j)) o:=by cases o with
 |list Y=>show Ob.list _=Ob.list _;rw[dk]|dict N=>show Ob.dict _=Ob.dict _;rw[Jo];congr 2;funext e;simp[JR,XZ]|B3 N=>show Ob.B3 _=Ob.B3 _;rw[Jo];congr 2;funext e;simp[JR,XZ]|EX N=>show Ob.EX _=Ob.EX _;rw[Jo];congr 2;funext e;simp[Qj,XZ]|rows r Y=>rfl|HR=>rfl|inst c d=>rfl
theorem qL{J:Type}{o:J}{x y:I (O×J)}:AL x i=G o->AL (x++y) i=G o:=by induction x with
 |nil=>exactλh=>(AF h).elim|cons p x ih=>exactλh=>(IT (l:=x++y)).trans (Ea (IT.symm.trans h) (λq h=>by rw[q];exact h) λq h=>by rw[q];exact ih h)
theorem dm{J:Type}{x y:I (O×J)}:AL x i=L->AL (x++y) i=AL y i:=by induction x with
 |nil=>exactλ_=>rfl|cons p x ih=>exactλh=>(IT (l:=x++y)).trans (Ea (IT.symm.trans h) (λ_ h=>nomatch h) λq h=>by rw[q];exact ih h)
theorem qM:AL BF j=G o->AL (Gc n BF) (n+j)=G (DS (n+·) o):=by induction BF with
 |nil=>exactλh=>(AF h).elim|cons p BF ih=>
 intro h;refine Ea (IT.symm.trans h) (λq h=>?_) λq h=>?_;. rw[<-CD q,<-Bl h];exact JI
 . exact(IU λz=>by rw[Nat.add_left_cancel z,Iy]at q;(exfalso;cases q)).trans (ih h)
theorem qN(h:∀j o,AL BF j=G o->i≠n+j):AL (Gc n BF) i=L:=by cases e:AL (Gc n BF) i with
 |none=>rfl|some o=>
 refine Bv (XR e) ?_;intro j o' q l _;exact absurd q (h j o' l)
theorem qO{k:AK}{AO:CB k}(hS:Es sc k AO A1=G BF):∀j o,AL BF j=G o->j<BF.length:=by
 refine BI hS λp hp hS=>Ce hS AF λ_ hS=>oh hp λi H _ _ hc=>?_;rw[<-Bl hS];intro j o e;have z:=om hc;refine uw (z.2.2 j o e) ?_;intro q' i' N BN e1 e2 _;rw[z.1,e1,Ui];exact(HJ.mp e2).1
theorem qP{f:V->V->AD AK}(h:∀v∈Y,f v v=G M):Jz f Y Y=G M:=by induction Y with
 |nil=>rfl|cons v Y ih=>
 show B' (f v v) (λp=>B' (Jz f Y Y) λq=>G (p&&q))=_;rw[h v Cp,ih λw m=>h w (Cq _ m)];rfl
theorem aV8{x:Sg}:∀v∈IV x,G7 v v=G M:=by
 have t0:∀t:Tx,CU t t=M:=λt=>Eb.mpr rfl;have HC:∀l:I Tx,Jz Q1 (l.map .str) (l.map .str)=G M:=λl=>qP λv m=>AC (E'.mp m) λt _ e=>e▸congrArg G (t0 t);intro v m;cases x with
 |it l=>rw[CI.mp m];exact HC l|tx t=>rw[CI.mp m];show G (CU t t)=_;rw[t0]|run p a b=>
 refine AC (E'.mp m) ?_;intro r _ Aw;subst Aw;cases r with
 |nil=>exact HC [p]|cons t r=>exact HC (t::p::r)
theorem aV9{l:I Sg}:Zc (DO l) (DO l)=G M:=qP λv m=>AC (uH.mp m) λ_ _ m=>aV8 v m
theorem aW0(j:O):DJ (6+m) (gj 6 m) j=6+j:=by
 unfold DJ;by_cases h:j<m;. rw[uK h];simp
 . rw[V9 (by rw[uL];(with_reducible exact fB (by assumption)))];rw[uL];show 6+m+(j-m)=6+j;(with_reducible exact Mine.vK (by assumption))
theorem aW1(d:O)(BF:I (O×Ob))(m:O):ev CQ 60 ⟨BV DZ,d⟩ (.e qC) ⟨[(Ei,.ref 0),(HF,.ref 5)],BF,m⟩=.ok (.v (.ref 5)) ⟨[(Ei,.ref 0),(HF,.ref 5)],BF,m⟩:=by kernel_rfl
theorem aW2(d m:O)(o o1 o2:Ob):ev CQ 60 ⟨BV DZ,d⟩ (.N (I3 (I5 0))) ⟨[(Ei,.ref 0),(HF,.ref 5)],[(5,o),(0,.list [.ref 1,.ref 2]),(1,o1),(2,o2)],m⟩=.ok (.vs [.ref 1]) ⟨[(Ei,.ref 0),(HF,.ref 5)],[(5,o),(0,.list [.ref 1,.ref 2]),(1,o1),(2,o2)],m⟩:=by kernel_rfl
theorem aW3(d m:O)(o o2:Ob)(AG:I (O×Ob)):ev CQ 60 ⟨BV DZ,d⟩ (.N (I3 (I5 1))) ⟨[(Ei,.ref 0),(HF,.ref 5)],(5,o)::(0,.list [.ref 1,.ref 2])::(2,o2)::AG,m⟩=.ok (.vs [.ref 2]) ⟨[(Ei,.ref 0),(HF,.ref 5)],(5,o)::(0,.list [.ref 1,.ref 2])::(2,o2)::AG,m⟩:=by kernel_rfl
theorem aW4(d:O)(H:Mine.St):ev CQ 60 ⟨BV DZ,d⟩ (.e (I5 2)) H=.ok (.v (.str [47])) H:=by kernel_rfl
theorem qQ:(I3 (I5 0)).all CP=M/\(I3 (I5 1)).all CP=M/\CP (I5 0)=M/\CP (I5 1)=M/\CP (I5 2)=M:=⟨by kernel_rfl,by kernel_rfl,by kernel_rfl,by kernel_rfl,by kernel_rfl⟩
theorem aW5:sX .Eq UJ=A6:=by kernel_rfl
section
variable{GW:Mine.St}{J:I A8}
theorem qR(AV:(Bb P).In B.base)(AM:Df B){k:AK}{AO:CB k}{Q:I (O×Ob)}(hS:Es K.sc k AO A1=G BF)(hd:8<=K.d)(hi:AL H.h i=G (.dict (BM (Ay AO) A1)))(hh:∀j o,AL Q j=G o->AL H.h j=G o/\j≠i)(g:Gd B F K A H C s)(rs:Aa s.heap C [.ref i] us):Ae B F K A ⟨H.env,Q++Gc H.n BF,H.n+BF.length⟩ C s (CE (.ref 411) us) (RV (.ref H.n)):=by
 intro A2 E kk;refine aT4 AV AM hS hd hi hh g rs _ _ λu AZ AJ AN Ab Aq=>kk u AZ AJ (AN.forget λj o e=>?_) Ab Aq;rcases dW e with e|Bg;rotate_left;refine xA Bg ?_;(try clear Bg);intro _ e;rotate_left
 . have CF:=Im g (hh j o e).1;rw[dm (qN λq _ _=>by omega)];exact e
 . exact qL e
theorem aW6(AV:(Bb P).In B.base)(AM:Df B)(hd:42<=d){CG:CB A6}{C7:CB M}(h0:L0∈Of)(h1:L1∈Og){l:I Sg}(hR:dV (BV DZ) (F3 (CC L0 DX) CG) (F4 (CC L1 DY) C7)=G l)(g:Gd B F ⟨BV DZ,d⟩ A ⟨[(Ei,.ref 0),(HF,.ref 5)],(5,.rows 0 l)::N2 CG C7 L0 L1,6⟩ C s){A2:HM->AR->Prop}(k:∀(A7:Mine.St)(AT:I A8)(s':AR),Gd B F ⟨BV DZ,d⟩ A A7 AT s'->A2 (.ret (.bool M)) s'):AH (AQ B.prog B.w) A (exec (FM 2) F.env) A2 E s:=by
 refine iB qE ?_;(try clear qE);intro h2 h3 h4 h5 h6 h7 h8 h9;refine VJ qQ ?_;(try clear qQ);intro dj R0 UO UP UQ;refine xE (aT9 h2) ?_;intro p e;refine xE (aU0 h3) ?_;intro p' e';rw[e,e',h4,h5];have A9:=(all1 AV AM 60).s;refine DA (Ou h6) ?_;intro q q' e2;refine DA (Ou h8) ?_;intro p0 p0' e0;refine DA (Ou h9) ?_;intro p1 p1' e1;have dn:=aI7 h0 (BV DZ) CG;have dq:=aJ6 h1 (BV DZ) C7;have dt:=qO dn;have qS:=qO dq;generalize F3 (CC L0 DX) CG=H0 at hR dn dt;generalize F4 (CC L1 DY) C7=H1 at hR dq qS;refine si (bo5 (A9.e (aW1 d _ _) g _ _ λu AZ AJ AN Ab Aq=>?_) aW5);rw[e2,h7];refine LU (Bk:=GH AV) (A3:=CQ) (Ox (by simp)) Ow.2.2.2.2 (by simp[UO,UP,UQ]) AN (AB:=⟨[(Ei,.ref 0),(HF,.ref 5)],((5,.rows 0 l)::Gc 6 H0)++Gc (6+H0.length) H1,6+H0.length+H1.length⟩) (vs:=[.ref 6,.ref (6+H0.length),.str [47]]) (λBG EM pos F_ Cr=>qK UO UP UQ (AB:=⟨[(Ei,.ref 0),(HF,.ref 5)],[(5,.rows 0 l),(0,.list [.ref 1,.ref 2]),(2,.dict (BM (Ay C7) L1))]++Gc 6 H0,6+H0.length⟩) (Bc:=⟨[(Ei,.ref 0),(HF,.ref 5)],((5,.rows 0 l)::Gc 6 H0)++Gc (6+H0.length) H1,6+H0.length+H1.length⟩) ?_ ?_ ?_ pos) λus Au Ai AU Al BB=>⟨Oy AV (k:=36) AU (by kernel_rfl),?_⟩
 . intro A2 E kk;rw[e0];refine LU (Bk:=GH AV) (A3:=CQ) (Ox (by simp)) Ow.2.2.2.1 dj F_ (λAZ AJ pos AN Ab=>A9.N (aW2 d _ _ _ _) pos AN) λus Au Ai AU Al BB=>⟨Oy AV (k:=32) AU (by kernel_rfl),?_⟩;refine qR AV AM (i:=1) (Q:=[(5,.rows 0 l),(0,.list [.ref 1,.ref 2]),(2,.dict (BM (Ay C7) L1))]) dn (by show 8<=d;omega) rfl (λj o e=>?_) AU BB _ _ λu BS Ax Ao B8 BQ=>kk u BS Ax Ao (Al.trans B8) BQ;match j,e with
 |0,e=>exact⟨e,by decide⟩|2,e=>exact⟨e,by decide⟩|5,e=>exact⟨e,by decide⟩|1,e=>exact(BE e).elim|3,e=>exact(BE e).elim|4,e=>exact(BE e).elim|j+6,e=>exact(BE e).elim
 . intro AZ AJ AN A2 E kk;rw[e1];refine LU (Bk:=GH AV) (A3:=CQ) (Ox (by simp)) Ow.2.2.2.1 R0 AN (λAZ AJ pos AN Ab=>A9.N (aW3 d _ _ _ _) pos AN) λus Au Ai AU Al BB=>⟨Oy AV (k:=32) AU (by kernel_rfl),?_⟩;refine qR AV AM (i:=2) (Q:=(5,.rows 0 l)::Gc 6 H0) dq (by show 8<=d;omega) rfl (λj o e=>?_) AU BB _ _ λu BS Ax Ao B8 BQ=>kk u BS Ax Ao (Al.trans B8) BQ;by_cases h:j=5;. subst h;exact⟨e,by decide⟩
   . rw[IU (CX h)]at e;refine Bv (XR e) ?_;intro q o' e3 _ _;refine⟨?_,by omega⟩;change AL ([(5,Ob.rows 0 l),(0,Ob.list [.ref 1,.ref 2]),(2,Ob.dict (BM (Ay C7) L1))]++Gc 6 H0) j=G o;rw[dm (by simp only[AL,S0,XK (show 5≠j by omega),XK (show 0≠j by omega),XK (show 2≠j by omega)])];exact e
 . intro Au Ai AU;exact A9.e (aW4 d _) AU
 . have qT:DJ (6+H0.length+H1.length) (gj 6 (H0.length+H1.length))=λj=>6+j:=by
     funext j;rw[NM];exact aW0 j
   refine pw AV AM (K:=⟨BV DZ,d⟩) (f:=435) (l:=l) (DI:=pk H0 H1) (Dv:=gj 6 (H0.length+H1.length)) (MP:=[.ref 0,.ref H0.length,.str [47]]) (Q:=[(5,.rows 0 l)]) hR rfl ⟨by rw[uL];rfl,List.nodup_range',λi m=>by
     have :=bE3.mp m;show i<6+H0.length+H1.length;(with_reducible exact Mine.ve (by assumption)),λj o e=>?_⟩ (by show 40<=d;omega) ?_ (λj o e=>?_) AU BB _ _ λw BS Ax Ao B8 BQ=>?_
   . rw[qT];rcases dW e with e|Bu;rotate_left;refine xA Bu ?_;(try clear Bu);intro hn e;rotate_left
     . have hj:=dt j o e;refine⟨6+j,by rw[uK (by(with_reducible exact Nat.lt_add_right _ (by assumption)))];simp,?_⟩;refine qL ?_;rw[IU (show 5≠6+j by omega)];exact qM e
     . refine Bv (XR e) ?_;intro j1 o1 B6 e3 BJ;subst B6;subst BJ;have hj:=qS j1 o1 e3;refine⟨6+(H0.length+j1),by rw[uK (by(with_reducible exact Nat.add_lt_add_left (by assumption) _))];simp,?_⟩;rw[dm (by
       rw[IU (show 5≠6+(H0.length+j1)by omega)];exact qN λq o' e4 z=>by have :=dt q o' e4;omega)];rw[aV7,show 6+(H0.length+j1)=6+H0.length+j1 by(with_reducible exact Eq.symm (NM _ _ _)),qM e3];congr 2;funext q;(with_reducible exact NM _ _ _)
   . show _=Cs (DJ (6+H0.length+H1.length) (gj 6 (H0.length+H1.length))) _;rw[qT];rfl
   . by_cases h:j=5
     . subst h;exact⟨e,λm=>by have :=bE3.mp m;omega⟩
     . rw[IU (CX h)]at e;exact(BE e).elim
   . refine AC (Ao.objs 5 (.rows 0 l) (by simp only[AL,S0,i7,XK (show 6+H0.length+H1.length≠5 by omega),Iy])) ?_;intro a1 ha1 o1;refine AC (Ao.objs (6+H0.length+H1.length) (.rows 0 l) JI) ?_;intro a2 ha2 o2;refine CZ o1 ?_;(try clear o1);intro us1 pl1 v1 _;refine CZ o2 ?_;(try clear o2);intro I6 pl2 v2 _;refine AC ((Aq.nx Al).nx B8) ?_;intro b1 R1 BP;subst BP;refine AC BQ ?_;(try clear BQ);intro b2 Hx Bp;subst Bp;rw[ha1]at R1;injection R1 with R1;subst R1;have Hx:BS[6+H0.length+H1.length]?=G b2:=Hx;rw[ha2]at Hx;injection Hx with Hx;subst Hx;have hu:A.units+4<IE:=by have :A.units+10*d<9000:=g.units;exact Iw (show _<9000 by(with_reducible exact Mine.vT (by assumption) (by assumption))) (by decide)
     exact lX hu pl1.isList pl2.isList v1 v2 aV9 (k _ BS Ax Ao)
end
section
open PyProof.Rows
noncomputable def Oz:Gf:={scope:=EF.main.scope,locals:=3,globals:=3,cells:=[],code:=.ref 13,frame:=G 14}
noncomputable def N3:BA:=⟨0,0,0,0⟩
noncomputable def qU:BA:=⟨725,0,728,82⟩
noncomputable def Jb:Code:=.body EF.main.body Oz
noncomputable def X_(w:F7)(os:Jh):SharedT:=⟨wF w.params,15,{},#[],VD,187,os⟩
noncomputable def KZ(w:F7)(os:Jh):SharedT:=⟨jL w.params,443,{},#[],VD,876,os⟩
theorem aW7(w:F7)(os:Jh):segRunT VE EF w 11 (G (.ref 6)) 1 3500 (X_ w os) (piecesOf EF.main.body Oz Jb N3 [gk N3])=G (.next,KZ w os,Jb,qU):=by
 unfold Jb Oz piecesOf;rw[w7,bR3,bR4,J7];delta bn6;rewrite[w5];kernel_rfl
end
section
open PyProof.Rows
theorem aW8(w:F7)(os:Jh):topGo VE EF w 11 (G (.ref 6)) 12 ⟨boot_heap w.params,#[],VD,uM,os⟩ (topStub EF)=G ((X_ w os).abs,⟨denote VE Jb,Jb,N3,[gk N3]⟩):=by
 unfold Jb Oz;rw[fM,bR5,bR6,J7];kernel_rfl
theorem aW9(w:F7)(os:Jh):segRun VE EF w 11 (G (.ref 6)) 1 1 (X_ w os).abs (blockOf EF.main.body Oz Jb N3 [gk N3])=G (.next,(X_ w os).abs,Jb,N3):=by
 unfold Jb Oz;rw[fM,bR7,J7];kernel_rfl
theorem aX0(w:F7)(os:Jh):topRun VE EF w 11 (G (.ref 6)) 3 (KZ w os).abs ⟨doneF .next,Jb,qU,[gk N3]⟩=G (KZ w os).abs:=by
 unfold Jb Oz;rw[fM,bR8,J7];kernel_rfl
theorem aX1(w:F7)(os:Jh):topRun VE EF w 11 (G (.ref 6)) (12+(1+(3500+3))) ⟨boot_heap w.params,#[],VD,uM,os⟩ (topStub EF)=G (KZ w os).abs:=by
 refine go_top (aW8 w os) ?_;refine piece_block (aW9 w os) ?_;have h:=piece_app (rest:=[]) (segRun_of (aW7 w os)) (piece_nil (aX0 w os));rw[HL]at h;exact h
end
section
open PyProof.Rows
noncomputable def P':Hc:={S6 with main:={S6.main with body:=[Ba 37]}}
noncomputable def R2:I U:=["_wall","_tuplegetter","Match","_calculate_ratio","SequenceMatcher","_format_range_unified","_plain_name","ABCMeta","_ABCLike","_abc_plain_meta","fspath","_check_arg_types","_get_sep","join","splitroot","basename","dirname","normpath","sorted_list_difference","_law_trees","_law_straight","_law_inner","_law_told","_law_grown","_law_pairs","_law_range","_law_changes","_law_walked"]
noncomputable def dv:I A8:=DT 443
theorem qV(P:Dx):dv=(Bb P).map (·.1):=by kernel_rfl
noncomputable def Lb:Hook:=kHook Bb dv qV
theorem aX2(w:F7)(os:Jh):(staticsOk (bE4 EF.main.body) (boot_heap w.params) (KZ w os).abs.heap&&namesBound EF (KZ w os).abs.heap&&gensDone (KZ w os).abs&&laidKept (boot_heap w.params) (KZ w os).abs.heap)=M:=by
 rw[J7];kernel_rfl
theorem aX3(w:F7)(os:Jh):Lb.obs (KZ w os).abs=Lb.val w:=by kernel_rfl
theorem aX4(w:F7)(os:Jh):openSeen P' R2 (bE4 EF.main.body) (λ_=>M) M (KZ w os).abs=openGood P' R2:=by
 rw[J7,bR9];kernel_rfl
end
section
open PyProof.Rows
theorem aX5:LeftO EF P' R2 (λ_=>M) Lb.obs Lb.val 3516:=by
 refine LeftO.of_pieces (H₀:=boot_heap) (H₁:=λP=>absHeap (jL P) 443 {}) (gs₀:=#[]) (gs₁:=#[]) (d₀:=VD) (d₁:=VD) (k₀:=uM) (k₁:=876) (m₀:=11) (ann:=G (.ref 6)) (M:=12+(1+(3500+3))) (boot_open ?e ?n ?f) ?size (λw os=>aX1 w os) ?le (λw=>?looks);case e=>rw[J7];kernel_rfl
 case n=>kernel_rfl
 case f=>intro s;kernel_rfl
 case size=>intro w;kernel_rfl
 case le=>kernel_rfl
 case looks=>
  funext os;exact NO (aX2 w os) (NO (aX4 w os) (aX3 w os))
noncomputable def Xa:DefRec:={name:=iQ (Ba 37),params:=S7 (Ba 37),body:=Fi (Ba 37),scope:=BV (Ba 37),pos:=(Ba 37).pos}
theorem aX6(call:WalkO P' R2 (λ_ _=>PP) Lb.says M2.row.toRowW Xa [] λf vs=>CE f vs)(k1:M2.row.wellSaid=M):M2.row.Holds:=by
 refine holds_open (q:=P') (loose:=R2) (Xt:=λ_=>M) (XP:=λ_ _=>PP) (YP:=Lb.says) (d:=Xa) (kwd:=[]) aX5 Lb.of Lb.keeps (λ_ _=>trivial) (λ_ _ _ _ _=>trivial) ?aX7 ?hp ?hk (λ_ _=>?rec) ?hwr k1 ?ok ?hb ?hw call;case aX7=>kernel_rfl
 case hp=>show EF.theDef _=_;rw[J7];kernel_rfl
 case hk=>kernel_rfl
 case rec=>exact recFacts_nil rfl
 case hwr=>rfl
 case ok=>show(chainsOk P'&&opensWell EF&&_)=M;rw[J7];kernel_rfl
 case hb=>show EF.bare;rw[J7];exact⟨by kernel_rfl,by kernel_rfl,by kernel_rfl,by kernel_rfl,by kernel_rfl,by kernel_rfl⟩
 case hw=>w_witness2
end
theorem aX8{m m':U->AD A4}(x:h.Ns a m)(y:h.Ns a m'):m=m':=by
 refine J6 x ?_;(try clear x);intro o N ep e d _ f;refine J6 y ?_;(try clear y);intro o' BN zH e' d' _ f';rw[e]at e';injection e' with e';subst e';rw[d]at d';injection d' with d1 d2;subst d1;funext n;rw[<-f n,<-f' n]
theorem aX9{args:I WData}(h:M2.row.toRowW.claim.pre args=M):∃ns:I AX,args=[.list (ns.map .int)]/\ns.length<=63:=by
 have h:(bE5 [] args [.list .int]&&M2.pre.holds [] {args:=args})=M:=h;cases args with
 |nil=>exact(NU (B1 h)).elim|cons x Y=>
 have h1:(WShape.has [] x (.list .int)&&bE5 [] Y [])=M:=B1 h;have h2:=Ak h;clear h;cases Y with
 |cons _ _=>exact(NU (Ak h1)).elim|nil=>
 refine AC (hasW_list (B1 h1)) ?_;intro ds Aw hi;subst Aw;refine xE (items_int hi) ?_;intro ns B6;subst B6;refine⟨ns,rfl,bx6 λhl=>?_⟩;have h2:(WTm.and (.not (.lit (.bool (decide ((63:AX)<(ns.map WData.int).length))))) (.lit (.bool M))).holds [] {args:=[.list (ns.map .int)]}=M:=h2;rw[Jl,Rf (show(63:AX)<ns.length from fH.mpr (bn3 hl))]at h2;exact NU h2
theorem qW(i:AX):((i%12).toNat:AX)=i%12:=tR (bv9 i (by decide))
theorem aY0{cl:U->AD A8}{ns:I AX}:∀{vs:I A4}{as:I A8},ReadsAllW [] cl h vs (ns.map .int) as->∃rs:I O,rs.length=ns.length/\(∀r∈rs,r<12)/\Aa h [] (E7 rs) vs:=by induction ns with
 |nil=>intro vs as r;exact⟨[],rfl,λ_ m=>(by(exfalso;cases m)),(bE6 r).1⟩|cons i ns ih=>
 intro vs as r;refine VL (bE7 r) ?_;intro v vs a1 a2 BJ _ r1 r2;subst BJ;refine CZ (ih r2) ?_;intro rs hl hr hv;refine AC (readsW_int_inv r1) ?_;intro t BP _;subst BP;refine⟨(i%12).toNat::rs,congrArg (·+1) hl,λr m=>?_,_,_,rfl,⟨i,t,rfl,(qW i).symm⟩,hv⟩;rcases Ck.mp m with rfl|m;. exact fH.mp (qW i▸bw0 i (show(0:AX)<12 by decide))
 . exact hr r m
theorem aY1:([]:I (U×V))=[]/\Ah Wv Xa.name=G (.top (.ref 442)):=⟨rfl,by kernel_rfl⟩
theorem aY2(l:A8):JE (DD (Ba 37)) [.top (.ref l)]=G [(L_,.top (.ref l))]:=by kernel_rfl
theorem aY3(P:Dx):∃o,(Bb P).lookup NP=G o:=⟨_,show(Bb P).lookup NP=G ((Bb P).lookup NP).get! by kernel_rfl⟩
theorem aY4(AM:∀(B:Bs)(P:Dx),(Bb P).In B.base->Df B):WalkO P' R2 (λ_ _=>PP) Lb.says M2.row.toRowW Xa [] λf vs=>CE f vs:=by
 intro w EM AJ mg mb Bk An a o pm cd doc bX2 bX3 ho hod hcr hdf hmg aY5 args bM0 as db bM1 aY6 bM2 bM3;have AV:(Bb w.params).In AJ.heap:=kIn_of (K:=Bb) (as:=dv) (e:=qV) An;refine AC (aX9 db) ?_;intro ds Bp UN;subst Bp;have ha:a=442:=by
  refine Bv ((GH (B:=⟨EF,w,AJ.heap,AJ.os,AJ.gens⟩) (P:=w.params) (on:=M) (CR:=Qk) AV).ns) ?_;intro mg' mb' n3 n0 hh;have e:=aX8 Bk.T.g n3;refine AC (hh _ _ aY1.2) ?_;intro v hv q;injection hv with hv;subst hv;rw[<-e,hmg]at q;rcases q with q|Cn;rotate_left;refine xA Cn ?_;(try clear Cn);intro q _;rotate_left;. cases q;rfl
  . (exfalso;cases q)
 subst ha;refine VL (bE7 aY6) ?_;intro bM4 OR a1 a2 Bg _ r1 r2;subst Bg;refine xA (bE6 r2) ?_;intro Bu _;subst Bu;refine iE (readsW_list_open r1) ?_;intro l ol vs n ai C9 be aY7 aY8 OF _;subst C9;refine CZ (aY0 OF) ?_;intro rs hrl hr hv;have Ed:vs.size<=100:=by
  have h1:=hv.length;rw[show(E7 rs).length=rs.length from Jl _,hrl]at h1;exact B4 (Ej h1.symm) (B4 UN (by decide))
 let B:Bs:=⟨EF,w,AJ.heap,AJ.os,AJ.gens⟩;have R3:(Bb w.params).In B.base:=AV;have hf:AL Ii 442=G (DD (Ba 37)):=by kernel_rfl
 refine DA (Mi (B:=B) R3 (Mk R3) (O_ w.params hf)) ?_;intro of fd ok;refine xE (aY3 w.params) ?_;intro bX4 hom;have ga:Ga B ⟨default,[],[]⟩ ⟨BV DZ,50⟩ callerA ⟨[],[],0⟩ [] AJ:={len:=rfl,nodup:=HK,fresh:=λ_ m=>(by(exfalso;cases m)),live:=λ_ m=>(by(exfalso;cases m)),objs:=λ_ _ e=>(by exact(BE e).elim),base:=λ_ _ e=>e,os:=rfl,gens:=rfl,frames:=rfl,DP:=trivial,Cz:=λ_ m=>(by(exfalso;cases m)),mods:=⟨bX4,AV _ _ hom⟩,handled:=rfl,depth:=by decide,units:=by decide};have Zb:=AM B w.params R3;show AH (AQ B.prog B.w) callerA (CE (.ref 442) [.ref l]) _ _ AJ;refine aT8 (d:=49) ok (aY2 l) rfl ga (args:=[.top (.ref l)]) ⟨_,_,rfl,rfl,rfl⟩ λ{F A Ai}g keep=>?_;have hb:(DD (Ba 37)).body=[FM 0,FM 1,FM 2]:=aU2;rw[hb];have g:Gd B F ⟨BV DZ,49⟩ A ⟨[(L_,.top (.ref l))],[],0⟩ [] Ai:=g;refine DH (aU9 R3 Zb (by decide) (us:=vs) (rs:=rs) ⟨ol,be,aY7,n,aY8⟩ hv Ed hr g λa b L0 L1 CG C7 AZ Ax G_ h0 h1 AN=>?_);refine AC (aT2 G_ h0 h1 (BV DZ) CG C7) ?_;intro l2 hR hW;have o0:=X5 (Bq.mp aF7 _ (X7 (by omega) h0));have o1:=X5 (Bq.mp aG7 _ (X7 (by omega) h1));refine DH (aV6 R3 Zb (by decide) o0 o1 hR AN λAu EE AU=>?_);refine DH (aW6 R3 Zb (by decide) o0 o1 hW AU λA7 BS Ef Ao=>?_);refine⟨_,rfl,.inl ⟨.bool M,.bool M,[],rfl,λ_=>rfl,.bool M,?_,λ_=>⟨HK,λ_ m=>(by(exfalso;cases m))⟩⟩,.of_keep λb o e=>Ao.base b o e,Ao.os,.of_eq (Ao.gens.trans aY5)⟩;kernel_rfl
section
theorem Jc(g:Gd B F K A H C s)(hl:D1 K.sc x=M)(hv:Ah H.env x=G v)(k:∀u,VR s.heap C v u->A2 u s):AH (AQ B.prog B.w) A' (eval (.Name x pos) F.env) A2 E s:=wpAny_Name (aH g hl hv k) (aG g.kinds.sc hl).1
theorem dw{A2:Do->AR->Prop}(g:Gd B F K A H C s)(hl:G8 K.sc x=M)(r:VR s.heap C v u)(k:∀s',Gd B F K A ⟨EZ H.env x v,H.h,H.n⟩ C s'->Nx F.D F.A_ s.heap s'.heap C C->A2 () s'):AH (AQ B.prog B.w) A' (fS F.env x u) A2 E s:=by
 refine CZ g.env ?_;intro m ns ce er;rcases g.kinds.own x hl with q|B6;rotate_left;refine Hl B6 ?_;(try clear B6);intro q c hc hw;rotate_left
 . refine bo6 q ns (λQ hn hs=>?_) (kI g);refine xA (g.k8 (Q:=Q) (tk:=s.toks+1) q r er hn hs) ?_;intro g' x';exact k _ g' x'
 . refine xE (ce _ (mem_of_lookup hc)) ?_;intro T1 hv;refine bo7 g.kinds.fn q hc hv (λQ hn hs=>?_);refine xA (g.k9 (Q:=Q) (tk:=s.toks) q hc hw r hv hn hs) ?_;intro g' x';exact k _ g' x'
theorem qX{p':BA}{a:AX}{A2:HM->AR->Prop}(g:Gd B F K A H C s)(hl:D1 K.sc x=M)(ho:G8 K.sc x=M)(hv:Ah H.env x=G (.int a))(k:∀s',Gd B F K A ⟨EZ H.env x (.int (a+1)),H.h,H.n⟩ C s'->Nx F.D F.A_ s.heap s'.heap C C->A2 .next s'):AH (AQ B.prog B.w) A' (exec (.AugAssign (.Name x p) .Add (.Constant (.int 1) k0 p') pos) F.env) A2 E s:=by
 refine bp5 (aH g hl hv λu⟨t,e⟩=>?_);subst e;refine bo4 (br1 ?_);exact dw ((g.tok (s.toks+1)).tok _) ho (v:=.int (a+1)) ⟨_,rfl⟩ λs' g' x'=>k s' g' x'
theorem Gd.free(g:Gd B F K A H C s){AG:I A8}(x:Nx F.D AG s.heap Q C C)(ha:∀a∈C,∀o,s.heap.get? a=G o->Q.get? a=G o)(fr:∀a∈AG,CM B F C s.heap a):Gd B F K A H C {s with heap:=Q,toks:=tk}:=by
 have vr:∀{v:V}{u:A4},VR s.heap C v u->VR Q C v u:=λr=>r.nx x;refine II (g.D5 _ g.kinds.IW) ?_;intro qY hL2 oL hL3;have hLX:F.env.locals∉AG:=λm=>(fr _ m).w g.kinds.IW;have cell:∀{n:U}{c:A8}{u:AD A4},(n,c)∈F.env.cells->s.heap.IsCell c u->Q.IsCell c u:=λ{n c u}m⟨o,e,d⟩=>⟨o,x.keep c o e (g.D2 _ m).1 (λz=>(fr _ z).cells _ m rfl) (λ_=>by unfold H9;rw[d]),d⟩;refine⟨g.kinds,g.len,g.nodup,g.fresh,λa m=>?_,λa m=>?_,λc m=>?_,λi o e=>?_,?_,λb o e=>?_,g.os,g.gens,g.frames,?_,λA1 m=>?_,g.mods,g.handled,g.depth,g.units⟩;. refine xE (g.live a m) ?_;intro o e;exact⟨o,ha a m o e⟩
 . refine II (g.D5 a m) ?_;intro p q o e;exact⟨p,q,x.live a o e⟩
 . refine H6 (g.D2 c m) ?_;intro q o e;exact⟨q,x.live _ o e⟩
 . refine AC (g.objs i o e) ?_;intro a p r;have :=r.mono (J:=[]) x.Bw λy ey=>ha a (Ev p) y ey;exact⟨a,p,by simpa using this⟩
 . exact g.env.imp (λ_ ns=>Ns.slots ns λo e=>x.data _ o e hL2 hLX) (λ_ _ _ m=>cell m) λ_ _=>vr
 . refine x.keep b o (g.base b o e) (λm=>?_) (λm=>?_) (λm=>?_);. rw[g.fresh b m]at e;exact(BE e).elim
   . rw[(fr b m).base]at e;exact(BE e).elim
   . rw[(g.DP.mem m).1]at e;exact(BE e).elim
 . have hf:∀A1∈F.outs.filterMap (·.frame),A1∉C/\A1∉AG:=λA1 m=>⟨(g.Cz A1 m).1,λz=>(fr A1 z).outs m⟩;have hL:=g.DP;revert hf hL;generalize F.outs=l;intro hf hL;show Q.FunFrames B.base l;induction l with
 |nil=>trivial|cons e r ih=>
   refine G5 hL ?_;(try clear hL);intro hk Aw hr;refine HQ Aw ?_;(try clear Aw);intro A1 o D3 hb ho hd;refine xA (hf A1 (by simp[D3])) ?_;intro q1 q2;refine xE (x.data A1 o ho q1 q2) ?_;intro sl z;exact⟨hk,⟨A1,_,D3,hb,z,hd⟩,ih (λL' m'=>hf L' (by rw[RP,D3];exact Cq _ m')) hr⟩
 . refine Pl (g.Cz A1 m) ?_;intro p q o e d;refine xE (x.data A1 o e p (λz=>(fr A1 z).outs m)) ?_;(try clear z);intro sl z;exact⟨p,q,_,z,d⟩
structure XT(B:Bs)(F:Fm)(C:I A8)(Af h:BK)(e:A8)(c fl:A4):Prop where
 fe:CM B F C h e
 ne:Af.get? e=L
 obj:∃T oe vs oT ts,CM B F C h T/\Af.get? T=L/\T≠e/\h.get? e=G oe/\oe.cls=.type "IndexError"/\oe.data=.fields vs/\vs[1]?=G (.ref T)/\vs[2]?=G c/\h.get? T=G oT/\oT.data=.fields ts/\ts[3]?=G fl/\Vu oT.cls=A6
noncomputable def XN(h Q:BK)(e:A8)(c:A4):Prop:=(∀b o,h.get? b=G o->Q.get? b=G o)/\h.get? e=L/\∃oe vs,Q.get? e=G oe/\oe.cls=.type "IndexError"/\oe.data=.fields vs/\vs[1]?=G .none/\vs[2]?=G c
theorem XT.nx{e:A8}(t:XT B F C Af h e c fl)(x:Nx AM A_ h Q C AT)(hw:∀b∈A_,b∈F.A_):XT B F AT Af Q e c fl:=by
 obtain⟨fe,ne,T,oe,vs,oT,ts,fT,nT,Jd,he,hc,hd,h1,h2,hT,PA,h3,hi⟩:=t;refine⟨fe.nx x,ne,T,oe,vs,oT,ts,fT.nx x,nT,Jd,?_,hc,hd,h1,h2,?_,PA,h3,hi⟩;. exact x.keep _ _ he fe.C (λm=>fe.w (hw _ m)) (λ_=>by unfold H9;rw[hd])
 . exact x.keep _ _ hT fT.C (λm=>fT.w (hw _ m)) (λ_=>by unfold H9;rw[PA])
end
section
variable{e:A8}
structure XF(B:Bs)(F:Fm)(C:I A8)(Af h:BK)(e:A8)(c:A4):Prop where
 fe:CM B F C h e
 ne:Af.get? e=L
 obj:∃oe vs,h.get? e=G oe/\oe.cls=.type "IndexError"/\oe.data=.fields vs/\vs[1]?=G .none/\vs[2]?=G c
theorem qZ{f:Bm->Bm}:Dq a h (h.update a f):=(Fg h a f).extBut
theorem aY9{o:Bm}(h:o.cls=.type "IndexError"):C2 o=A6:=by unfold C2;rw[h];rfl
theorem aZ0{o:Bm}(h:Vu o.cls=A6):C2 o=A6:=by unfold C2;rw[h];rfl
theorem Gd.slots(g:Gd B F K A H C s)(x:Heap.SlotsOnly (F.outs.filterMap (·.frame)) s.heap Q):Gd B F K A H C {s with heap:=Q}/\Nx F.D A_ s.heap Q C C:=by
 have ex:∀b o,s.heap.get? b=G o->(b∈F.D->H9 o=A6)->Q.get? b=G o:=λb o q z=>by
  rw[x.2.1 b λm=>?_];exact q;refine Pl (g.Cz b m) ?_;intro _ _ o' q' d;rw[q]at q';injection q' with q';subst q';rw[z m]at d;exact(E4 d).elim
 have nx:∀A_,Nx F.D A_ s.heap Q C C:=λA_=>⟨⟨[],by simp,λ_ m=>by(exfalso;cases m)⟩,λb o q=>let⟨sl,z⟩:=x.2.2 b o q;⟨_,z⟩,λb o q i=>ex b o q λ_=>by
  unfold C2 at i;unfold H9;cases hd:o.data<;>first|rfl|(rw[hd]at i;simp at i),λb o q _ _=>by
  refine xE (x.2.2 b o q) ?_;intro sl z;refine⟨sl,z,λw=>?_⟩;have :=ex b o q w;rw[z]at this;injection this with this;exact congrArg Obj.slots this⟩;exact⟨g.free (tk:=s.toks) (nx []) (λa m o q=>ex a o q λz=>absurd m (g.Cz a z).1) (λ_ m=>by(exfalso;cases m)),nx A_⟩
theorem aZ1{vs:BW A4}{oe:Bm}{q_:A4}{aZ2:AK}{A2:Do->AR->Prop}(hF:F.outs=F.env::C4)(hf:F.env.frame=G F.env.locals)(hA:A'.frames=G F.outs)(g:Gd B F K A H C s)(Cw:Nx F.D F.A_ Af s.heap BG C)(fe:CM B F C s.heap e)(ne:Af.get? e=L)(he:s.heap.get? e=G oe)(hc:oe.cls=.type "IndexError")(hd:oe.data=.fields vs)(h1:1<vs.size)(h2:vs[2]?=G c)(k:∀s',Gd B F K A H C s'->Nx F.D F.A_ Af s'.heap BG C->XT B F C Af s'.heap e c (ES F.env.locals)->A2 () s'):AH (AQ B.prog B.w) A' (do let a<-frameOf F.env;let pl<-entryPlaceOf F.env.locals aZ2;let b<-bS0 q_ a .none (ES F.env.locals) .none pl;tZ (.ref e) 1 b) A2 E s:=by
 refine A5 (wpAny_frameOf_fun (base:=B.base) (hA.trans (congrArg G hF)) (hF▸g.DP) hf λAP HY=>?_);rw[<-hF]at HY;refine xA (g.slots HY (A_:=F.A_)) ?_;intro AN Ab;have QX:AP.get? e=G oe:=(HY.2.1 e fe.outs).trans he;have Je:=Cw.trans Ab;have aZ3:=fe.nx Ab;refine A5 (wpAny_entryPlaceOf λpl FZ=>?_);skip;refine A5 (IB ?_ (FZ.sizeOk5 _ _ _ _ _));obtain⟨BL,hO⟩:∃BL:Bm,BL={cls:=.type "traceback",dict:=L,data:=.fields ([q_,.ref F.env.locals,.none,ES F.env.locals,.none]++(if pl.isEmpty then Xy 6 Hf else pl)).toArray}:=⟨_,rfl⟩;rw[<-hO];have R4:(AP.push BL).get? AP.objs.size=G BL:=CY AP (by rw[hO];rfl);have kp:∀b o,AP.get? b=G o->(AP.push BL).get? b=G o:=λb o q=>C1 _ q;have hT:AP.get? AP.objs.size=L:=KA (DE _);have AU:=AN.ext (tk:=s.toks) kp;have Al:Nx F.D F.A_ AP (AP.push BL) C C:=Nx.ext kp;have FN:=Je.trans Al;have fT:=AN.freeOf hT ⟨_,R4⟩;have nT:Af.get? AP.objs.size=L:=HA Je.live hT;have Ie:=kp _ _ QX;have qa:=aZ3.nx Al;refine Lv Ie hd h1 ?_;have ek:=qZ (h:=AP.push BL) (a:=e) (f:=Ru (·.setIfInBounds 1 (Jn AP.objs.size)));have Ao:=AU.move (tk:=s.toks) qa ek (λo q=>by rw[Ie]at q;injection q with q;subst q;exact aY9 hc);have I7:=FN.F0 ek ne;have UR:=g8 hd (·.setIfInBounds 1 (Jn AP.objs.size));have JN:=FQ (Ru (·.setIfInBounds 1 (Jn AP.objs.size))) Ie (tH UR);have Jd:AP.objs.size≠e:=PT (Dg QX);refine k _ Ao I7 ⟨qa.at ⟨_,JN⟩,ne,AP.objs.size,_,_,_,_,fT.at ⟨_,ek _ _ Jd (R4)⟩,nT,Jd,JN,(tI _ _).trans hc,UR,by simp[h1],?_,ek _ _ Jd R4,by rw[hO],?_,by rw[hO];rfl⟩;. rw[Array.getElem?_setIfInBounds_ne (by decide)];exact h2
 . first|(simp;done)|((rcases FZ with rfl|Aw;rotate_left;obtain⟨_,_,_,_,_,_,_,rfl⟩:=Aw;rotate_left)<;>simp)
theorem qb{A2:Do->AR->Prop}(hF:F.outs=F.env::C4)(hf:F.env.frame=G F.env.locals)(hA:A'.frames=G F.outs)(g:Gd B F K A H C s)(Cw:Nx F.D F.A_ Af s.heap BG C)(t:XF B F C Af s.heap e c)(k:∀s',Gd B F K A H C s'->Nx F.D F.A_ Af s'.heap BG C->XT B F C Af s'.heap e c (ES F.env.locals)->A2 () s'):AH (AQ B.prog B.w) A' (IA (.ref e) F.env) A2 E s:=by
 obtain⟨fe,ne,oe,vs,he,hc,hd,h1,h2⟩:=t;unfold IA;simp only[hf];refine A5 (Gm he hd h1 ?_);skip;exact aZ1 hF hf hA g Cw fe ne he hc hd (gG.mp h1).1 h2 k
theorem Xb{A2:Do->AR->Prop}(hf:F.env.frame=G F.env.locals)(t:XT B F C Af s.heap e c (ES F.env.locals))(k:A2 () s):AH (AQ B.prog B.w) A' (IA (.ref e) F.env) A2 E s:=by
 obtain⟨fe,ne,T,oe,vs,oT,ts,fT,nT,Jd,he,hc,hd,h1,h2,hT,PA,h3,hi⟩:=t;exact wpAny_noteFrame_inFlight hf he hd h1 hT PA h3 k
theorem US{A2:Do->AR->Prop}{fr:AD A8}(g:Gd B F K A H C s)(Cw:Nx F.D F.A_ Af s.heap BG C)(t:XT B F C Af s.heap e c fl)(k:∀s',Gd B F K A H C s'->Nx F.D F.A_ Af s'.heap BG C->XT B F C Af s'.heap e c (fr.elim .none λf=>ES f)->A2 () s'):AH (AQ B.prog B.w) A' (gl (.ref e) fr) A2 E s:=by
 obtain⟨fe,ne,T,oe,vs,oT,ts,fT,nT,Jd,he,hc,hd,h1,h2,hT,PA,h3,hi⟩:=t;have Ed:3<ts.size:=(gG.mp h3).1;unfold gl;refine A5 (Gm he hd h1 ?_);skip;refine Lv hT PA Ed ?_;have ek:=qZ (h:=s.heap) (a:=T) (f:=Ru (·.setIfInBounds 3 (fr.elim Hf λf=>ES f)));have UR:=g8 PA (·.setIfInBounds 3 (fr.elim Hf λf=>ES f));have UT:=FQ (Ru (·.setIfInBounds 3 (fr.elim Hf λf=>ES f))) hT (tH UR);have JN:=ek _ _ (CX Jd) he;refine k _ (g.move (tk:=s.toks) fT ek (λo q=>by rw[hT]at q;injection q with q;subst q;exact aZ0 hi)) (Cw.F0 ek nT) ⟨fe.at ⟨_,JN⟩,ne,T,oe,vs,_,_,fT.at ⟨_,UT⟩,nT,Jd,JN,hc,hd,h1,h2,UT,UR,by simp[Ed],?_⟩;rw[tI];exact hi
end
theorem aZ4:Lr Ls "proto.unchain"=G EA.«proto.unchain»:=entryFor_of_fast (by kernel_rfl)
section
variable{C:Type}
theorem aZ5{A2:C->AR->Prop}{e0 e:A8}{o0 oe:Bm}{Lc vs:BW A4}(hh:A.handled=G (.ref e0))(he:s.heap.get? e0=G o0)(hd:o0.data=.fields Lc)(h2:Lc[2]?=G .none)(Cc:e0≠e)(UU:s.heap.get? e=G oe)(hde:oe.data=.fields vs)(h2e:2<vs.size)(h:E (.ref e) {s with heap:=s.heap.update e (Ru (·.setIfInBounds 2 (.ref e0)))}):AH (AQ prog w) A (gm (.ref e):Dy C) A2 E s:=by
 unfold gm;refine A5 (tJ ?_);rw[hh];dsimp only;rw[DF (show(Jn e0 !=Jn e)=M from by simpa using Cc)];refine A5 (C0 (uN (J0 aZ4 ?_)));skip;skip;refine A5 (Gm he hd h2 ?_);skip;refine AW ?_;show AH _ A (do updateField e 2 (Jn e0);throw (Jn e)) A2 E s;refine A5 ?_;simp only[updateField];refine A5 (NT UU ?_);rw[hde];show AH _ A (if 2<vs.size then _ else _) _ _ _;rw[DF h2e];exact wpAny_update UU (gA h)
theorem qc{Xc:D9}{A2:C->AR->Prop}{e0:A8}{o0:Bm}{Lc:BW A4}(hh:A.handled=G (.ref e0))(he:s.heap.get? e0=G o0)(hd:o0.data=.fields Lc)(h2:Lc[2]?=G .none)(h:∀Q tk e,XN s.heap Q e (.ref e0)->E (.ref e) {s with heap:=Q,toks:=tk}):AH (AQ prog w) A (bE8 "IndexError" Xc:Dy C) A2 E s:=by
 unfold bE8;refine A5 (tS (A5 ?_));skip;refine A5 (IB ?_);refine A5 (m:=V' _ _) (NV (a:=Hf) (by simp only[V',plainExc_IndexError.first];rfl) ?_);skip;refine IB ?_;have Xd:=C1 (h:=s.heap) {cls:=Ko "tuple",data:=gf #[Lx (Eu Xc) s.toks]} he;have CF:=Dg Xd;have UU:=CY (s.heap.push {cls:=Ko "tuple",data:=gf #[Lx (Eu Xc) s.toks]}) (o:={cls:=.type "IndexError",data:=.fields (#[.ref s.heap.objs.size,.none,.none,.none,.bool A6,.none]++#[])}) rfl;refine aZ5 (oe:={cls:=.type "IndexError",data:=.fields (#[.ref s.heap.objs.size,.none,.none,.none,.bool A6,.none]++#[])}) hh (C1 _ Xd) hd h2 (EQ CF) UU rfl (show 2<6 by decide) ?_;refine h _ _ _ ⟨λb o q=>?_,KA (by show s.heap.objs.size<=(s.heap.push _).objs.size;rw[IC];(with_reducible exact H2 _ _)),_,_,FQ _ UU rfl,rfl,rfl,rfl,rfl⟩;have q1:=C1 (h:=s.heap) {cls:=Ko "tuple",data:=gf #[Lx (Eu Xc) s.toks]} q;show((_:BK).update _ _).get? b=_;rw[GN _ _ (CX (EQ (Dg q1)))];exact C1 _ q1
noncomputable def qd(A:CK)(h:BK):Prop:=A.handled=L\/∃e0 o0 Lc,A.handled=G (.ref e0)/\h.get? e0=G o0/\o0.data=.fields Lc/\Lc[2]?=G Hf
theorem aZ6{l:A8}{k:AX}(hA:qd A s.heap)(hl:s.heap.IsList l Cb)(dx:(Cb.size:AX)<=k)(dy:k<2^63)(hE:∀Q tk e c,XN s.heap Q e c->(A.handled=L->c=.none)->E (.ref e) {s with heap:=Q,toks:=tk}):AH (AQ prog w) A (PX (.ref l) (.int k t)) A2 E s:=by
 rcases hA with hA|Aw;rotate_left;refine J6 Aw ?_;(try clear Aw);intro e0 o0 Lc hh he qe h2;rotate_left;. exact wpAny_getItem_list_out hA hl (.inr dx) (by omega) dy λQ tk e x=>hE Q tk e .none ⟨x.keeps,x.new,let⟨ob,t,q,bX5,bX6⟩:=x.there;⟨ob,_,q,bX5,bX6,rfl,rfl⟩⟩ λ_=>rfl
 . refine Pm (id hl) ?_;intro o ho hc ne hd;unfold PX;try with_reducible refine C0 ?_
   first|refine A5 (AW ?_)|skip
   refine A5 (t6 hl.typeIs (by decide) ?_);refine A5 (Lq (name:=Eu "__getitem__") hl.typeIs P_ (Gj P_ hl.typeIs entry_list_getitem ?_ (args_list_getitem _ _)));show AH _ _ (bx1 (.int k t)>>=_) _ _ s;refine A5 (bx2 (fitsIndex_both (by omega) dy) ?_);clear dy;cases k with
 |ofNat j=>
    have hx:Cb[j]?=L:=Array.getElem?_eq_none (by have :(Cb.size:AX)<=(j:AX):=dx;omega);skip;refine A5 (A5 (bx3 ho hd (AW ?_)));rw[hx];first
    |exact A5 (Gi (by refine qc (by exact hh) he qe h2 λQ tk e x=>hE Q tk e _ x λz=>by rw[hh]at z;cases z))|exact A5 (Gi (A5 (by refine qc (by exact hh) he qe h2 λQ tk e x=>hE Q tk e _ x λz=>by rw[hh]at z;(exfalso;cases z))))
 |negSucc j=>exact absurd dx (by have :=Int.negSucc_lt_zero j;omega)
end
noncomputable def Ld(A9:As):AD (U×U×U):=Rz A9 L λt b e _=>Kq t L λc o r _=>J5 c L λl i _=>DM l L λl _=>DM i L λi _=>l1 r L λr=>DM r L λk _=>l1 b L λb=>VH b L λj o' z _=>DM j L λj _=>HP z L λz _ _=>l0 e L (bT (Cy i j&&(decide (o=[.Eq])&&(decide (o'=.Add)&&decide (z=.int 1)))) L (G (l,i,k)))
theorem aZ7{l i k:U}(h:Ld A9=G (l,i,k)){P:As->Prop}(c:∀p1 p2 p3 p4 p5 p6 k0 p7 p8 p9,P (.While (.Compare (.Subscript (.Name l p1) (.Name i p2) p3) [.Eq] [.Name k p4] p5) [.AugAssign (.Name i p6) .Add (.Constant (.int 1) k0 p7) p8] [] p9)):P A9:=by
 apply hZ h AF;intro t b e p9 h;apply Ry h AF;intro t o r p5 h;apply Ng h AF;intro l' i' p3 h;apply EU h AF;intro l' p1 h;apply EU h AF;intro i' p2 h;apply Ct h AF;intro r h;apply EU h AF;intro k' p4 h;apply Ct h AF;intro b h;apply i3 h AF;intro j o' z p8 h;apply EU h AF;intro j p6 h;apply J4 h AF;intro z k0 p7 h;apply EV h AF;intro h;refine Ce h AF λq h=>?_;apply xJ (B1 q);apply IG (B1 (Ak q));apply IG (B1 (Ak (Ak q)));apply IG (Ak (Ak (Ak q)));apply M5 h.symm;exact c ..
noncomputable def Le(env CV:I (U×V))(i:U)(q:O):Prop:=∀y,Ah CV y=if i=y then G (.int (q:AX))else Ah env y
section
variable{e:A8}
noncomputable def Cm(B:Bs)(F:Fm)(C:I A8)(Af:BK)(A:CK)(h:BK):Prop:=A.handled=L\/∃e0 fl,A.handled=G (.ref e0)/\XT B F C Af h e0 .none fl
theorem Cm.calm(x:Cm B F C Af A h):qd A h:=by
 rcases x with x|Bp;rotate_left;refine EW Bp ?_;(try clear Bp);intro e0 fl x t;rotate_left;. exact .inl x
 . obtain⟨_,_,T,oe,vs,oT,ts,_,_,_,he,_,hd,_,h2,_⟩:=t;exact .inr ⟨e0,oe,vs,x,he,hd,h2⟩
theorem Cm.nx(x:Cm B F C Af A h)(y:Nx AM A_ h Q C C)(hw:∀b∈A_,b∈F.A_):Cm B F C Af A Q:=by
 rcases x with x|Bg;rotate_left;refine EW Bg ?_;(try clear Bg);intro e0 fl x t;rotate_left;. exact .inl x
 . exact .inr ⟨e0,fl,x,t.nx y hw⟩
theorem qf{t x:Tx}{Y:I Tx}(h:CU x t=M):DG t (x::Y)=DG t Y:=by rw[DG,h]
theorem aZ8{t x:Tx}{Y:I Tx}(h:CU x t=A6):DG t (x::Y)=x::Y:=by rw[DG,h]
theorem item_at{l i:U}{p:O}{Y:I Tx}(hf:Y.length<=100000)(hl:D1 K.sc l=M)(hi:D1 K.sc i=M)(g:Gd B F K A H C s)(el:Ah H.env l=G (.ref r))(hr:AL H.h r=G (.list (Y.map .str)))(ei:Ah H.env i=G (.int (p:AX)))(hp:p<=Y.length)(Cw:Nx F.D F.A_ Af s.heap BG C)(hC:Cm B F C Af A' s.heap)(bX7:∀u x,Y[p]?=G x->VR s.heap C (.str x) u->A2 u s)(ke:∀s' e c,p=Y.length->Gd B F K A H C s'->Nx F.D F.A_ Af s'.heap BG C->XF B F C Af s'.heap e c->(A'.handled=L->c=.none)->E (.ref e) s'):AH (AQ B.prog B.w) A' (eval (.Subscript (.Name l p1) (.Name i p2) p3) F.env) A2 E s:=by
 refine YJ (Jc g hl el λu ru=>Jc g hi ei λw Fc=>?_);refine Bv (g.listAt ru hr) ?_;intro a us Aw FZ vr;clear ru;subst Aw;refine xE Fc ?_;(try clear Fc);intro tk B6;subst B6;have Ch:us.size=Y.length:=by have :=vr.length;simpa using this.symm
 refine Km FZ.isList.typeIs P_.lookup ?_ (ON (by intro a b p z;(exfalso;cases z)));by_cases CF:p<Y.length
 . have e2:(Y.map V.str)[p]?=G (.str Y[p]):=by simp[CF]
   refine AC (vr.get e2) ?_;intro y ey ry;exact tL FZ.isList (by(with_reducible exact fF _)) (by omega) (by simpa using ey) (bX7 y _ (Hi CF) ry)
 . refine aZ6 hC.calm FZ.isList (by omega) (by omega) λQ tk' e c x hc=>?_;refine EW x.2.2 ?_;intro oe vs he r;exact ke _ e c (by(with_reducible exact Mine.yF (by assumption) (by assumption))) (g.ext (tk:=tk') x.1) (Cw.trans (Nx.ext x.1)) ⟨g.freeOf x.2.1 ⟨oe,he⟩,HA Cw.live x.2.1,oe,vs,he,r⟩ hc
noncomputable def dz(B:Bs)(F:Fm)(K:Kx)(A A':CK)(H:Mine.St)(C BG:I A8)(Af:BK)(l i k:U)(p1 p2 p3 p4 p5 p6 p7 p8:BA)(k0 r:O)(Y:I Tx)(t:Tx)(m:O):Prop:=∀(p:O){env:I (U×V)}{s:AR},m+p=Y.length->Gd B F K A ⟨env,H.h,H.n⟩ C s->Ah env l=G (.ref r)->Ah env i=G (.int (p:AX))->Ah env k=G (.str t)->Nx F.D F.A_ Af s.heap BG C->Cm B F C Af A' s.heap->∀{AS:Dr->AR->Prop},(∀q CV s',q<Y.length->Y.drop q=DG t (Y.drop p)->Le env CV i q->Gd B F K A ⟨CV,H.h,H.n⟩ C s'->Nx F.D F.A_ Af s'.heap BG C->Cm B F C Af A' s'.heap->AS (.ok .next) s')->(∀CV s' e c,DG t (Y.drop p)=[]->Le env CV i Y.length->Gd B F K A ⟨CV,H.h,H.n⟩ C s'->Nx F.D F.A_ Af s'.heap BG C->XT B F C Af s'.heap e c (ES F.env.locals)->(A'.handled=L->c=.none)->AS (.error (.ref e)) s')->D7 (AQ B.prog B.w) A' (.whileLoop (.Compare (.Subscript (.Name l p1) (.Name i p2) p3) [.Eq] [.Name k p4] p5) [.AugAssign (.Name i p6) .Add (.Constant (.int 1) k0 p7) p8] [] F.env) AS s
theorem qg{l i k:U}{p5 p6 p7 p8:BA}{Y:I Tx}{t:Tx}(hf:Y.length<=100000)(hl:D1 K.sc l=M)(hi:D1 K.sc i=M)(ho:G8 K.sc i=M)(hk:D1 K.sc k=M)(n1:i≠l)(n2:i≠k)(hF:F.outs=F.env::C4)(D3:F.env.frame=G F.env.locals)(hA:A'.frames=G F.outs)(hr:AL H.h r=G (.list (Y.map .str)))(ih:∀m',m=m'+1->dz B F K A A' H C BG Af l i k p1 p2 p3 p4 p5 p6 p7 p8 k0 r Y t m'):dz B F K A A' H C BG Af l i k p1 p2 p3 p4 p5 p6 p7 p8 k0 r Y t m:=by
 intro p env s hm g el ei ek Cw hC AS kn ke;have same:Le env env i p:=λy=>by
   by_cases z:i=y;. rw[DF z,<-z,ei]
   . rw[CS z]
 refine W7 (fU (item_at hf hl hi g el hr ei (by omega) Cw hC (λu x hx ru=>?_) λs' e c hp g' N' tf hc=>?_) rfl)
 . have CF:p<Y.length:=(HJ.mp hx).1;have e7:Y.drop p=x::Y.drop (p+1):=by rw[YF CF,(HJ.mp hx).2]
   refine Jc g hk ek λw Fc=>?_;refine xE ru ?_;(try clear ru);intro t1 BJ;subst BJ;refine xE Fc ?_;(try clear Fc);intro t2 BP;subst BP;refine bs2 (NS ?_);rw[show((⟨⟨x⟩⟩:U).cps.toList==(⟨⟨t⟩⟩:U).cps.toList)=CU x t from TJ];cases q:CU x t with
 |false=>
    rw[CS (by simp)];exact kn p env s CF (by rw[e7,aZ8 q]) same g Cw hC|true=>
    rw[DF rfl];refine DH (qX g hi ho ei λs' g' x'=>G1 ?_);obtain⟨m',rfl⟩:∃m',m=m'+1:=⟨m-1,by(with_reducible exact Mine.vE (by assumption) (by assumption))⟩;have JX:∀y,Ah (EZ env i (.int ((p:AX)+1))) y=if i=y then G (.int ((p+1:O):AX))else Ah env y:=λy=>by rw[QE];simp
    have tr:∀{q:O}{CV:I (U×V)},Le (EZ env i (.int ((p:AX)+1))) CV i q->Le env CV i q:=λhe y=>by
     rw[he y];by_cases z:i=y;. rw[DF z,DF z]
     . rw[CS z,CS z,JX y,CS z]
    refine ih m' rfl (p+1) (by(with_reducible exact Mine.vc (by assumption))) g' ?_ ?_ ?_ (Cw.trans x') (hC.nx x' λ_ m=>m) (λq CV s' h1 h2 h3=>kn q CV s' h1 (by rw[h2,e7,qf (by assumption)]) (tr h3)) (λCV s' e c h2 h3=>ke CV s' e c (by rw[e7,qf (by assumption)];exact h2) (tr h3));. rw[JX,CS n1];exact el
    . rw[JX,DF rfl]
    . rw[JX,CS n2];exact ek
 . show AH _ A' (IA (.ref e) F.env) _ _ _;refine qb hF D3 hA g' N' tf λK_ PB UV t'=>ke env K_ e c ?_ (hp▸same) PB UV t' hc;rw[hp,Jr];rfl
theorem aZ9{l i k:U}{p5 p6 p7 p8:BA}{Y:I Tx}{t:Tx}(hf:Y.length<=100000)(hl:D1 K.sc l=M)(hi:D1 K.sc i=M)(ho:G8 K.sc i=M)(hk:D1 K.sc k=M)(n1:i≠l)(n2:i≠k)(hF:F.outs=F.env::C4)(D3:F.env.frame=G F.env.locals)(hA:A'.frames=G F.outs)(hr:AL H.h r=G (.list (Y.map .str)))(m:O):dz B F K A A' H C BG Af l i k p1 p2 p3 p4 p5 p6 p7 p8 k0 r Y t m:=by induction m with
 |zero=>exact qg hf hl hi ho hk n1 n2 hF D3 hA hr λm' e=>by(exfalso;cases e)|succ m ih=>exact qg hf hl hi ho hk n1 n2 hF D3 hA hr λm' e=>YM e▸ih
end
noncomputable def eA(A9:As)(m:U)(k:U->AA->AD J):AD J:=Ph A9 L λe _=>EB e L λf a w p=>H5 f L λo m' ap=>DM o L λo _=>l1 a L λa=>l0 w L (bT (Cy m' m&&BC ap.endLine p.line) L (k o a))
theorem qh{m:U}{k:U->AA->AD J}{r:J}(h:eA A9 m k=G r){P:As->Prop}(c:∀o a p0 ap p p2,k o a=G r->(ap:BA).endLine=(p:BA).line->P (.Expr (.Call (.Attribute (.Name o p0) m ap) [a] [] p) p2)):P A9:=by
 apply Yf h AF;intro e p2 h;apply M3 h AF;intro f a w p h;apply Rx h AF;intro o m' ap h;apply EU h AF;intro o p0 h;apply Ct h AF;intro a h;apply EV h AF;intro h;refine Ce h AF λq h=>?_;rw[E1.mp (B1 q)];exact c _ _ _ _ _ _ h (CD (Ak q))
noncomputable def Xe(A9:As):AD (U×U):=eA A9 (⟨⟨[97,112,112,101,110,100]⟩⟩:U) λo a=>DM a L λx _=>G (o,x)
theorem ba0{o:U}(h:Xe A9=G (o,x)){P:As->Prop}(c:∀p0 ap p1 pos p2,(ap:BA).endLine=(pos:BA).line->P (.Expr (.Call (.Attribute (.Name o p0) (⟨⟨[97,112,112,101,110,100]⟩⟩:U) ap) [.Name x p1] [] pos) p2)):P A9:=by
 apply qh h;intro o' a p0 ap p p2 h q;apply EU h AF;intro x' p1 h;apply uk h.symm;exact c _ _ _ _ _ q
noncomputable def R5(A9:As):AD (U×U×U):=eA A9 (⟨⟨[101,120,116,101,110,100]⟩⟩:U) λo a=>J5 a L λl s _=>DM l L λl _=>Ni s L λa b c _=>oN b L (oN c L (oS a L λi=>DM i L λi _=>G (o,l,i)))
theorem ba1{o l i:U}(h:R5 A9=G (o,l,i)){P:As->Prop}(c:∀p0 ap p1 p2 sp p3 pos p4,(ap:BA).endLine=(pos:BA).line->P (.Expr (.Call (.Attribute (.Name o p0) (⟨⟨[101,120,116,101,110,100]⟩⟩:U) ap) [.Subscript (.Name l p1) (.Slice (G (.Name i p2)) L L sp) p3] [] pos) p4)):P A9:=by
 apply qh h;intro o' a p0 ap p p2 h q;apply Ng h AF;intro l' s p3 h;apply EU h AF;intro l' p1 h;apply h' h AF;intro a b c' sp h;apply GP h AF;intro h;apply GP h AF;intro h;apply Nl h AF;intro i' h;apply EU h AF;intro i' p2 h;apply M5 h.symm;exact c _ _ _ _ _ _ _ _ q
section
variable{e:A8}
theorem ba2{l:I J}{p:O}:Hq l (G (p:AX)) L=l.drop p:=by
 show(l.take l.length).drop (Hg l.length p)=_;rw[bE9,clipAt_nat];by_cases h:p<=l.length;. rw[bE1 h]
 . rw[bE0 (uJ h),Jr,List.drop_of_length_le (uJ h)]
theorem qi{o m:U}{id:D9}{p0 ap:BA}{arg:AA}{A2:HM->AR->Prop}(FZ:CP arg=M)(UW:ap.endLine=pos.line)(hl:D1 K.sc o=M)(g:Gd B F K A H C s)(ho:Ah H.env o=G (.ref r))(hr:AL H.h r=G (.list Y))(slot:Ly "list" m id)(Ti:He (.builtin id)=pure (.type "method_descriptor"))(k:∀a us n,C[r]?=G a->s.heap.get? a=G {cls:=.type "list",data:=.seq us n}->Aa s.heap C Y us.toList->AH (AQ B.prog B.w) A' (PU pos (.builtin id) [.ref a] [(A6,eval arg F.env)] []) (λ_=>A2 .next) E s):AH (AQ B.prog B.w) A' (exec (.Expr (.Call (.Attribute (.Name o p0) m ap) [arg] [] pos) p2) F.env) A2 E s:=by
 refine bp3 ?_ (by have :=g.kinds.fn;unfold interactive;simp[this]) (T6 rfl);skip;refine A5 (Jc g hl ho λu ru=>A5 (Ek ?_));have HC:Dz [arg] F.env=[(A6,eval arg F.env)]:=K6 FZ;show AH _ A' (PV (.Name o p0) m ap pos F.env u 1 (F8 pos (Dz [arg] F.env)) (Um pos (Un [] F.env))) _ E s;rw[HC];unfold PV;skip;refine A5 (C0 ?_);show AH _ A' (Jj u m _) _ E s;refine AC ru ?_;(try clear ru);intro a ha Aw;subst Aw;refine AC (g.obj hr ha) ?_;intro us B6 vr;refine xE B6 ?_;(try clear B6);intro n hg;refine gd ⟨_,hg,rfl⟩ bB4 slot Ti (λb e=>by injection e with e;subst e;exact⟨_,hg,rfl⟩) ?_;show AH _ A' (Jk M (.Name o p0) F.env ap pos>>=λp=>PU p (.builtin id) [.ref a] [(A6,eval arg F.env)] []) _ E s;have OC:Jk M (.Name o p0) F.env ap pos=pure pos:=by
  unfold Jk;have :(ap.endLine==pos.line)=M:=by simpa using UW
  rw[this];rfl
 rw[OC];exact A5 (AW (k a us n ha hg vr))
theorem qj{o:U}{A2:HM->AR->Prop}(hS:Xe A9=G (o,x))(hl:D1 K.sc o=M)(hx:D1 K.sc x=M)(g:Gd B F K A H C s)(ho:Ah H.env o=G (.ref r))(hr:AL H.h r=G (.list Y))(hf:Y.length<=100000)(hv:Ah H.env x=G v)(k:∀s',Gd B F K A (H.set r (.list (Y++[v]))) C s'->Nx F.D [] s.heap s'.heap C C->A2 .next s'):AH (AQ B.prog B.w) A' (exec A9 F.env) A2 E s:=by
 apply ba0 hS;intro p0 ap p1 pos p2 UW;refine qi rfl UW hl g ho hr (id:="list.append") bB2 bB3 λa us n ha hg vr=>PySem.P.append_list (Jc g hx hv λw Fc=>?_);have Ch:Y.length=us.size:=by rw[vr.length];simp
 refine⟨us,n,B4 (show us.size<=100000 by(with_reducible exact Mine.yS (by assumption) (by assumption))) (by decide),hg,?_⟩;have UX:=FQ (GL λY=>Y.push w) hg rfl;refine xA (g.set (Q:=s.heap.update a (GL λY=>Y.push w)) (tk:=s.toks) (o':=.list (Y++[v])) ha hr (λ_ _ e=>by(exfalso;cases e)) (Fg ..).extBut ⟨_,UX⟩ λim=>⟨us.push w,⟨_,UX⟩,by rw[V7];exact(vr.Bw im).app ⟨_,_,rfl,Fc.Bw im,rfl⟩⟩) ?_;intro g' x';exact k _ g' x'
theorem qk{o l i:U}{b p:O}{Av:I V}{A2:HM->AR->Prop}(hS:R5 A9=G (o,l,i))(hl:D1 K.sc o=M)(I2:D1 K.sc l=M)(hi:D1 K.sc i=M)(g:Gd B F K A H C s)(ho:Ah H.env o=G (.ref r))(hr:AL H.h r=G (.list Av))(hM:Av.length<=1000000)(hb:Ah H.env l=G (.ref b))(bx:AL H.h b=G (.list Y))(hf:Y.length<=100000)(hv:Ah H.env i=G (.int (p:AX)))(k:∀s',Gd B F K A (H.set r (.list (Av++Y.drop p))) C s'->Nx F.D [] s.heap s'.heap C C->A2 .next s'):AH (AQ B.prog B.w) A' (exec A9 F.env) A2 E s:=by
 apply ba1 hS;intro p0 ap p1 p2 sp p3 pos p4 UW;refine qi rfl UW hl g ho hr (id:="list.extend") PySem.F.slot_list_extend PySem.F.type_list_extend λa us n ha hg vr=>PySem.P.extend_list (YJ (Jc g I2 hb λu ru=>tN (Jc g hi hv λw Fc=>?_)));skip;refine AW (AW ?_);refine xE Fc ?_;(try clear Fc);intro t BJ;subst BJ;refine Bv (g.listAt ru bx) ?_;intro y I6 BP hp ql;clear ru;subst BP;have I2:I6.size<=100000:=by have :=ql.length;simp at this;(with_reducible exact Mine.yS (by assumption) (by assumption))
 have Eg:us.size<=1000000:=by have :=vr.length;simp at this;(with_reducible exact Mine.yS (by assumption) (by assumption))
 have kp:∀b o,s.heap.get? b=G o->(s.heap.push {cls:=.type "slice",data:=.fields #[.int (p:AX) t,.none,.none]}).get? b=G o:=λb o e=>C1 _ e;have g1:=g.ext (tk:=s.toks) kp;have R0:(s.heap.push {cls:=.type "slice",data:=.fields #[.int (p:AX) t,.none,.none]}).PlainList y I6:=hp.at (λo e=>kp _ _ e);refine Km (s:={s with heap:=s.heap.push {cls:=.type "slice",data:=.fields #[.int (p:AX) t,.none,.none]}}) R0.isList.typeIs P_.lookup (tM R0.isList ⟨_,CY _ rfl,rfl,rfl⟩ (IsPart.int (p:AX) t) gI gI (by simp) ?_ (B4 I2 (by decide))) rfl;have hz:(Hh I6 (G (p:AX)) L L).size<=I6.size:=by rw[bu3];simp
 have LA:∀b o,s.heap.get? b=G o->((s.heap.push {cls:=.type "slice",data:=.fields #[.int (p:AX) t,.none,.none]}).push {cls:=.type "list",data:=.seq (Hh I6 (G (p:AX)) L L)}).get? b=G o:=λb o e=>C1 _ (kp b o e);have g2:=g.ext (tk:=s.toks) LA;have qm:=LA _ _ hg;refine⟨_,us,Hh I6 (G (p:AX)) L L,n,0,B4 Eg (by decide),B4 (show us.size+(Hh I6 (G (p:AX)) L L).size<=1100000 by(with_reducible exact Mine.iL (by assumption) (by assumption) (by assumption))) (by decide),?_,rfl,qm,CY _ rfl,?_⟩
 . unfold bS1;have h3:us.size+(Hh I6 (G (p:AX)) L L).size<=1100000:=by(with_reducible exact Mine.iL (by assumption) (by assumption) (by assumption))
   have h4:¬(us.size+(Hh I6 (G (p:AX)) L L).size>F9):=by
    have :1100000<=F9:=by decide
    omega
   simp[h4]
 . have UX:=FQ (GL λY=>Y++Hh I6 (G (p:AX)) L L) qm rfl;refine xA (g2.set (tk:=s.toks) (o':=.list (Av++Y.drop p)) ha hr (λ_ _ e=>by(exfalso;cases e)) (Fg _ a (GL λY=>Y++Hh I6 (G (p:AX)) L L)).extBut ⟨_,UX⟩ λim=>by
    refine⟨us++Hh I6 (G (p:AX)) L L,⟨_,UX⟩,?_⟩;rw[Array.toList_append];refine Aa.app ?_ ?_;. exact(vr.Bw (λb o e _=>LA b o e)).Bw im
    . have :=b6 (ql.Bw (λb o e _=>LA b o e)) (G (p:AX)) L;rw[ba2]at this;exact this.Bw im) ?_;intro g' x';exact k _ g' ((Nx.ext LA).trans x')
end
section
variable{e:A8}{Av:I Tx}
theorem Gd.view{env:I (U×V)}{h Q:I (O×Ob)}(g:Gd B F K A ⟨env,h,m⟩ C s)(he:∀p∈CV,Ah env p.1=G p.2)(hh:∀p∈Q,AL h p.1=G p.2):Gd B F K A ⟨CV,Q,m⟩ C s:=⟨g.kinds,g.len,g.nodup,g.fresh,g.live,g.D5,g.D2,λi o e=>g.objs i o (hh _ (Su e)),let⟨q,ns,ce,r⟩:=g.env;⟨q,ns,ce,λx v e=>r x v (he _ (FF e))⟩,g.base,g.os,g.gens,g.frames,g.DP,g.Cz,g.mods,g.handled,g.depth,g.units⟩
theorem Nx.w0(x:Nx AM [] h Q C AT):Nx AM A_ h Q C AT:=x.FY
noncomputable def XU(B:Bs)(F:Fm)(C:I A8)(Af h:BK)(e:A8)(c:A4):Prop:=XF B F C Af h e c\/XT B F C Af h e c (ES F.env.locals)
theorem ba3{A2:Do->AR->Prop}(hF:F.outs=F.env::C4)(hf:F.env.frame=G F.env.locals)(hA:A'.frames=G F.outs)(g:Gd B F K A H C s)(Cw:Nx F.D F.A_ Af s.heap BG C)(t:XU B F C Af s.heap e c)(k:∀s',Gd B F K A H C s'->Nx F.D F.A_ Af s'.heap BG C->XT B F C Af s'.heap e c (ES F.env.locals)->A2 () s'):AH (AQ B.prog B.w) A' (IA (.ref e) F.env) A2 E s:=by
 rcases t with t|t;. exact qb hF hf hA g Cw t k
 . exact Xb hf t (k s g Cw t)
theorem qn(hf:F.env.frame=G F.env.locals)(g:Gd B F K A H C s)(Cw:Nx F.D F.A_ Af s.heap BG C)(t:XT B F C Af s.heap e c fl)(k:∀s',Gd B F K A H C s'->Nx F.D F.A_ Af s'.heap BG C->XT B F C Af s'.heap e c (ES F.env.locals)->E (.ref e) s'):uO (AQ B.prog B.w) A' F.env E (.ref e) s:=by
 unfold uO;obtain⟨fe,ne,T,oe,vs,oT,ts,fT,nT,Jd,he,hc,hd,h1,r⟩:=id t;refine A5 (Gm he hd h1 ?_);skip;rw[hf];exact US g Cw t k
theorem ba4{tag:D9}{A2:J->AR->Prop}(hf:F.env.frame=G F.env.locals)(g:Gd B F K A H C s)(Cw:Nx F.D F.A_ Af s.heap BG C)(t:XT B F C Af s.heap e c fl)(k:∀s',Gd B F K A H C s'->Nx F.D F.A_ Af s'.heap BG C->XT B F C Af s'.heap e c (ES F.env.locals)->E (.ref e) s'):AH (AQ B.prog B.w) A' (passOn tag (.ref e) F.env:Dy J) A2 E s:=by
 unfold passOn;obtain⟨fe,ne,T,oe,vs,oT,ts,fT,nT,Jd,he,hc,hd,h1,r⟩:=id t;refine A5 (Gm he hd h1 ?_);skip;rw[hf];exact A5 (US g Cw t λs' g' N' t'=>gA (k s' g' N' t'))
theorem Xf{l i k:U}{p:O}{Y:I Tx}{t:Tx}{A2:HM->AR->Prop}(hS:Ld A9=G (l,i,k))(hf:Y.length<=100000)(hl:D1 K.sc l=M)(hi:D1 K.sc i=M)(ho:G8 K.sc i=M)(hk:D1 K.sc k=M)(n1:i≠l)(n2:i≠k)(hF:F.outs=F.env::C4)(D3:F.env.frame=G F.env.locals)(hA:A'.frames=G F.outs)(hr:AL H.h r=G (.list (Y.map .str)))(hp:p<=Y.length)(g:Gd B F K A H C s)(el:Ah H.env l=G (.ref r))(ei:Ah H.env i=G (.int (p:AX)))(ek:Ah H.env k=G (.str t))(Cw:Nx F.D F.A_ Af s.heap BG C)(hC:Cm B F C Af A' s.heap)(kn:∀q CV s',q<Y.length->Y.drop q=DG t (Y.drop p)->Le H.env CV i q->Gd B F K A ⟨CV,H.h,H.n⟩ C s'->Nx F.D F.A_ Af s'.heap BG C->Cm B F C Af A' s'.heap->A2 .next s')(ke:∀CV s' e c,DG t (Y.drop p)=[]->Le H.env CV i Y.length->Gd B F K A ⟨CV,H.h,H.n⟩ C s'->Nx F.D F.A_ Af s'.heap BG C->XT B F C Af s'.heap e c (ES F.env.locals)->(A'.handled=L->c=.none)->E (.ref e) s'):AH (AQ B.prog B.w) A' (exec A9 F.env) A2 E s:=by
 apply aZ7 hS;intro p1 p2 p3 p4 p5 p6 k0 p7 p8 p9;refine sn (aZ9 hf hl hi ho hk n1 n2 hF D3 hA hr (Y.length-p) p (by(with_reducible exact Xu (by assumption))) g el ei ek Cw hC kn λCV s' e c h1 h2 g' N' t' hc=>?_);exact qn D3 g' N' t' λK_ PB UV H8=>ke CV K_ e c h1 h2 PB UV H8 hc
noncomputable def qo(A9:As):AD (I As×As×I As):=Nj A9 L λb h o f _=>l1 h L λh=>l0 o L (l0 f L (Yi h λt n hb _=>oS t L λt=>DM t L λx _=>oN n L (lC hb L λh0 hb=>bT (Cy x (⟨⟨[73,110,100,101,120,69,114,114,111,114]⟩⟩:U)) L (G (b,h0,hb)))))
theorem ba5{b hb:I As}{h0:As}(h:qo A9=G (b,h0,hb)){P:As->Prop}(c:∀p1 p2 p3,P (.Try b [.ExceptHandler (G (.Name (⟨⟨[73,110,100,101,120,69,114,114,111,114]⟩⟩:U) p1)) L (h0::hb) p2] [] [] p3)):P A9:=by
 apply i4 h AF;intro b Q o f p3 h;apply Ct h AF;intro Q h;apply EV h AF;intro h;apply EV h AF;intro h;apply uj h;intro t n hb p2 h;apply Nl h AF;intro t h;apply EU h AF;intro x p1 h;apply GP h AF;intro h;apply FS h AF;intro h0 hb h;refine Ce h AF λq h=>?_;rw[E1.mp q];apply M5 h.symm;exact c ..
noncomputable def eB(A9:As):AD (I As×As×I As):=Nj A9 L λb h o f _=>l0 h L (l0 o L (lC f L λbX8 bX9=>G (b,bX8,bX9)))
theorem ba6{b hb:I As}{h0:As}(h:eB A9=G (b,h0,hb)){P:As->Prop}(c:∀p3,P (.Try b [] [] (h0::hb) p3)):P A9:=by
 apply i4 h AF;intro b Q o f p3 h;apply EV h AF;intro h;apply EV h AF;intro h;apply FS h AF;intro h0 hb h;apply M5 h.symm;exact c _
noncomputable def eE(A9:As):AD (AA×I As×I As):=Jt A9 L λt a b _=>G (t,a,b)
theorem qp{a b:I As}{t:AA}(h:eE A9=G (t,a,b)){P:As->Prop}(c:∀p3,P (.If t a b p3)):P A9:=by
 apply Ye h AF;intro t a b p h;apply M5 h.symm;exact c _
noncomputable def eF(A9:As):AD (U×U×U):=Pj A9 L λx v _=>l1 x L λx=>DM x L λx _=>J5 v L λl i _=>DM l L λl _=>DM i L λi _=>G (x,l,i)
theorem qq{l i:U}(h:eF A9=G (x,l,i)){P:As->Prop}(c:∀p1 p2 p3 p4 p5,P (.Assign [.Name x p1] (.Subscript (.Name l p2) (.Name i p3) p4) p5)):P A9:=by
 apply h_ h AF;intro x v p5 h;apply Ct h AF;intro x h;apply EU h AF;intro x p1 h;apply Ng h AF;intro l i p4 h;apply EU h AF;intro l p2 h;apply EU h AF;intro i p3 h;apply M5 h.symm;exact c ..
noncomputable def UY(o:PL)(x y:U)(e:AA):AK:=Kq e A6 λa o' b _=>DM a A6 λa _=>l1 b A6 λb=>DM b A6 λb _=>Cy a x&&(Cy b y&&decide (o'=[o]))
theorem qr{o:PL}{y:U}{e:AA}(h:UY o x y e=M){P:AA->Prop}(c:∀p1 p2 p3,P (.Compare (.Name x p1) [o] [.Name y p2] p3)):P e:=by
 apply Ry h B0;intro a o' b p3 h;apply EU h B0;intro a p1 h;apply Ct h B0;intro b h;apply EU h B0;intro b p2 h;rw[E1.mp (B1 h),E1.mp (B1 (Ak h)),of_decide_eq_true (Ak (Ak h))];exact c ..
noncomputable def N4(A9:As):AD U:=VH A9 L λi o z _=>DM i L λi _=>HP z L λz _ _=>bT (decide (o=.Add)&&decide (z=.int 1)) L (G i)
theorem ba7{i:U}(h:N4 A9=G i){P:As->Prop}(c:∀p1 k0 p2 p3,P (.AugAssign (.Name i p1) .Add (.Constant (.int 1) k0 p2) p3)):P A9:=by
 apply i3 h AF;intro i o z p3 h;apply EU h AF;intro i p1 h;apply J4 h AF;intro z k0 p2 h;refine Ce h AF λq h=>?_;apply IG (B1 q);apply IG (Ak q);apply Br h.symm;exact c ..
noncomputable def eG(A9:As):AK:=Yg A9 A6 λ_=>M
theorem ba8(h:eG A9=M){P:As->Prop}(c:∀p,P (.Break p)):P A9:=by
 apply ug h B0;intro p _;exact c p
theorem ba9{t:AA}{y:U}{a b:Tx}{A2:AK->AR->Prop}(ht:UY .Lt x y t=M)(hx:D1 K.sc x=M)(hy:D1 K.sc y=M)(g:Gd B F K A H C s)(ex:Ah H.env x=G (.str a))(ey:Ah H.env y=G (.str b))(k:A2 (EY a b) s):AH (AQ B.prog B.w) A' (NQ t F.env (eval t F.env)) A2 E s:=by
 apply qr ht;intro p1 p2 p3;refine fU (Jc g hx ex λu ru=>Jc g hy ey λw Fc=>?_) rfl;refine xE ru ?_;(try clear ru);intro t1 Aw;subst Aw;refine xE Fc ?_;(try clear Fc);intro t2 B6;subst B6;refine bs3 (NS ?_);rw[show decide ((⟨⟨a⟩⟩:U).cps.toList<(⟨⟨b⟩⟩:U).cps.toList)=EY a b from ah];exact k
theorem bb0{t:AA}{y:U}{a b:Tx}{A2:AK->AR->Prop}(ht:UY .Gt x y t=M)(hx:D1 K.sc x=M)(hy:D1 K.sc y=M)(g:Gd B F K A H C s)(ex:Ah H.env x=G (.str a))(ey:Ah H.env y=G (.str b))(k:A2 (EY b a) s):AH (AQ B.prog B.w) A' (NQ t F.env (eval t F.env)) A2 E s:=by
 apply qr ht;intro p1 p2 p3;refine fU (Jc g hx ex λu ru=>Jc g hy ey λw Fc=>?_) rfl;refine xE ru ?_;(try clear ru);intro t1 BJ;subst BJ;refine xE Fc ?_;(try clear Fc);intro t2 BP;subst BP;refine PySem.P.gt_str (NS ?_);rw[show decide ((⟨⟨b⟩⟩:U).cps.toList<(⟨⟨a⟩⟩:U).cps.toList)=EY b a from ah];exact k
end
noncomputable def Fd:U:=⟨⟨[101,120,112,101,99,116,101,100]⟩⟩
noncomputable def FO:U:=⟨⟨[97,99,116,117,97,108]⟩⟩
noncomputable def Fx:U:=⟨⟨[105]⟩⟩
noncomputable def F6:U:=⟨⟨[106]⟩⟩
noncomputable def Ka:U:=⟨⟨[109,105,115,115,105,110,103]⟩⟩
noncomputable def N5:U:=⟨⟨[117,110,101,120,112,101,99,116,101,100]⟩⟩
noncomputable def Jf:U:=⟨⟨[101]⟩⟩
noncomputable def Iv:U:=⟨⟨[97]⟩⟩
noncomputable def UZ:U:=⟨⟨[73,110,100,101,120,69,114,114,111,114]⟩⟩
noncomputable def Fe(i j:O):I (U×V):=[(Fx,.int (i:AX)),(F6,.int (j:AX)),(Ka,.ref 2),(N5,.ref 3),(Fd,.ref 0),(FO,.ref 1)]
noncomputable def Fy(i j:O)(x y:Tx):I (U×V):=(Jf,.str x)::(Iv,.str y)::Fe i j
noncomputable def DL(AG An Av CL:I Tx):I (O×Ob):=[(0,.list (AG.map .str)),(1,.list (An.map .str)),(2,.list (Av.map .str)),(3,.list (CL.map .str))]
structure R6(sc:BU):Prop where
 ex:D1 sc Fd=M
 ac:D1 sc FO=M
 i:D1 sc Fx=M
 j:D1 sc F6=M
 mi:D1 sc Ka=M
 un:D1 sc N5=M
 e:D1 sc Jf=M
 a:D1 sc Iv=M
 io:G8 sc Fx=M
 jo:G8 sc F6=M
 eo:G8 sc Jf=M
 bY0:G8 sc Iv=M
 ie:Dh sc UZ=M
noncomputable def Xg(B:Bs):Prop:=∃mg mb,B.base.Ns 3 mg/\B.base.Ns 0 mb/\mg UZ=L/\mb UZ=G (.type "IndexError")
section
variable{e:A8}{Av:I Tx}
theorem R7{env:I (U×V)}{h:I (O×Ob)}(g:Gd B F K A ⟨env,h,m⟩ C s)(h1:Ah env Fx=G (.int (i:AX)))(h2:Ah env F6=G (.int (j:AX)))(h3:Ah env Ka=G (.ref 2))(h4:Ah env N5=G (.ref 3))(h5:Ah env Fd=G (.ref 0))(h6:Ah env FO=G (.ref 1)):Gd B F K A ⟨Fe i j,h,m⟩ C s:=⟨g.kinds,g.len,g.nodup,g.fresh,g.live,g.D5,g.D2,g.objs,let⟨q,ns,ce,r⟩:=g.env;⟨q,ns,ce,λx v e=>r x v ((show∀p∈Fe i j,Ah env p.1=G p.2 from all_cons h1<|all_cons h2<|all_cons h3<|all_cons h4<|all_cons h5<|all_cons h6 EC) _ (FF e))⟩,g.base,g.os,g.gens,g.frames,g.DP,g.Cz,g.mods,g.handled,g.depth,g.units⟩
theorem PC{env:I (U×V)}{h:I (O×Ob)}{x:Tx}(g:Gd B F K A ⟨env,h,m⟩ C s)(h1:Ah env Fx=G (.int (i:AX)))(h2:Ah env F6=G (.int (j:AX)))(h3:Ah env Ka=G (.ref 2))(h4:Ah env N5=G (.ref 3))(h5:Ah env Fd=G (.ref 0))(h6:Ah env FO=G (.ref 1))(h7:Ah env Jf=G (.str x))(h8:Ah env Iv=G (.str y)):Gd B F K A ⟨Fy i j x y,h,m⟩ C s:=⟨g.kinds,g.len,g.nodup,g.fresh,g.live,g.D5,g.D2,g.objs,let⟨q,ns,ce,r⟩:=g.env;⟨q,ns,ce,λz v e=>r z v ((show∀p∈Fy i j x y,Ah env p.1=G p.2 from all_cons h7<|all_cons h8<|all_cons h1<|all_cons h2<|all_cons h3<|all_cons h4<|all_cons h5<|all_cons h6 EC) _ (FF e))⟩,g.base,g.os,g.gens,g.frames,g.DP,g.Cz,g.mods,g.handled,g.depth,g.units⟩
theorem QM(SB:Xg B)(SK:R6 K.sc){A2:HM->AR->Prop}(hX:AG.length<=100000)(hY:An.length<=100000)(hM:Av.length<=1000000)(hU:CL.length<=1000000)(h1:R5 K4=G (Ka,Fd,Fx))(h2:R5 ext2=G (N5,FO,F6))(h3:eG brk=M)(hF:F.outs=F.env::C4)(hf:F.env.frame=G F.env.locals)(g:Gd B F K A ⟨Fe i j,DL AG An Av CL,4⟩ C s)(Cw:Nx F.D F.A_ Af s.heap BG C)(t:XU B F C Af s.heap e c)(kB:∀s',Gd B F K A ⟨Fe i j,DL AG An (Av++AG.drop i) (CL++An.drop j),4⟩ C s'->Nx F.D F.A_ Af s'.heap BG C->A2 .brk s'):AH (AQ B.prog B.w) A (IA (.ref e) F.env) (λ_ Ai=>AH (AQ B.prog B.w) A (gl (.ref e) L) (λ_ Ax=>AH (AQ B.prog B.w) A (handleBy (.ref e) F.env [.ExceptHandler (G (.Name UZ p1)) L (K4::[ext2,brk]) p2]) A2 E Ax) E Ai) E s:=by
 refine HQ SB ?_;(try clear SB);intro mg mb n3 n0 hm hw;apply ba8 h3;intro p;refine ba3 hF hf g.frames g Cw t λAJ AN Je Mf=>US (fr:=L) AN Je Mf λAi AU FN Eh=>?_;have st:∀b o,B.base.get? b=G o->Ai.heap.get? b=G o:=AU.base;have m3:Ai.heap.Ns F.env.globals mg:=by rw[g.kinds.g3];refine Hm n3 ?_;(try clear n3);intro o N ep e r;exact⟨o,N,ep,st _ _ e,r⟩
 have m0:Ai.heap.Ns F.env.builtins mb:=by rw[g.kinds.b0];refine Hm n0 ?_;(try clear n0);intro o N ep e r;exact⟨o,N,ep,st _ _ e,r⟩
 refine iE Eh.obj ?_;intro T oe vs oT ts _ _ _ he hc _;refine wpAny_handleBy_builtin (X:="IndexError") (T:="IndexError") (b:=M) PySem.F.isExc_IndexError PySem.F.notTuple_IndexError PySem.F.self_IndexError ?_;refine bw6 AU.kinds.fn (AU.kinds.glob _ SK.ie) (bw7 m3 hm m0 hw ⟨rfl,⟨oe,he,hc⟩,?_⟩) (ls g.kinds.sc SK.ie);rw[DF rfl];refine US (fr:=L) AU FN Eh λAx Ao I7 R8=>?_;refine DH (qk h1 SK.mi SK.ex SK.i Ao rfl rfl (by simpa using hM) rfl rfl (by simpa using hX) rfl λEE CA D'=>?_);have e4:Av.map V.str++(AG.map V.str).drop i=(Av++AG.drop i).map V.str:=by simp
 rw[e4]at CA;have CA:Gd B F K A ⟨Fe i j,DL AG An (Av++AG.drop i) CL,4⟩ C EE:=CA;refine DH (qk h2 SK.un SK.ac SK.j CA rfl rfl (by simpa using hU) rfl rfl (by simpa using hY) rfl λEf Co EK=>?_);have e5:CL.map V.str++(An.map V.str).drop j=(CL++An.drop j).map V.str:=by simp
 rw[e5]at Co;have Co:Gd B F K A ⟨Fe i j,DL AG An (Av++AG.drop i) (CL++An.drop j),4⟩ C Ef:=Co;exact DH (wpAny_Break (kB Ef Co (I7.trans (D'.w0.trans EK.w0))))
theorem Xh{a:AX}{A2:HM->AR->Prop}(hS:N4 A9=G x)(g:Gd B F K A H C s)(hl:D1 K.sc x=M)(ho:G8 K.sc x=M)(hv:Ah H.env x=G (.int a))(k:∀s',Gd B F K A ⟨EZ H.env x (.int (a+1)),H.h,H.n⟩ C s'->Nx F.D F.A_ s.heap s'.heap C C->A2 .next s'):AH (AQ B.prog B.w) A' (exec A9 F.env) A2 E s:=by
 apply ba7 hS;intro p1 k0 p2 p3;exact qX g hl ho hv k
theorem qs(SK:R6 K.sc){x:Tx}{A2:HM->AR->Prop}(hY:An.length<=100000)(h1:N4 JJ=G F6)(h2:Ld JK=G (FO,F6,Iv))(hj:j<An.length)(hF:F.outs=F.env::C4)(hf:F.env.frame=G F.env.locals)(hA:A'.frames=G F.outs)(g:Gd B F K A ⟨Fy i j x y,DL AG An Av CL,4⟩ C s)(Cw:Nx F.D F.A_ Af s.heap BG C)(hC:Cm B F C Af A' s.heap)(kn:∀q s',q<An.length->An.drop q=DG y (An.drop (j+1))->Gd B F K A ⟨Fy i q x y,DL AG An Av CL,4⟩ C s'->Nx F.D F.A_ Af s'.heap BG C->Cm B F C Af A' s'.heap->A2 .next s')(ke:∀s' e c,DG y (An.drop (j+1))=[]->Gd B F K A ⟨Fy i An.length x y,DL AG An Av CL,4⟩ C s'->Nx F.D F.A_ Af s'.heap BG C->XT B F C Af s'.heap e c (ES F.env.locals)->E (.ref e) s'):AH (AQ B.prog B.w) A' (Iz [JJ,JK] F.env) A2 E s:=by
 refine DH (Xh h1 g SK.j SK.jo rfl λAJ AN Ab=>?_);have AN:Gd B F K A ⟨Fy i (j+1) x y,DL AG An Av CL,4⟩ C AJ:=PC AN rfl (by show G (V.int ((j:AX)+1))=_;simp) rfl rfl rfl rfl rfl rfl;have vw:∀{CV:I (U×V)}{q:O}{Ai:AR},Le (Fy i (j+1) x y) CV F6 q->Gd B F K A ⟨CV,DL AG An Av CL,4⟩ C Ai->Gd B F K A ⟨Fy i q x y,DL AG An Av CL,4⟩ C Ai:=λhe AU=>PC AU (he _) (he _) (he _) (he _) (he _) (he _) (he _) (he _);refine DH (Xf (p:=j+1) h2 hY SK.ac SK.j SK.jo SK.a (by decide) (by decide) hF hf hA rfl hj AN rfl rfl rfl (Cw.trans Ab) (hC.nx Ab λ_ m=>m) (λq CV Ai h3 h4 h5 AU FN bb1=>G1 (kn q Ai h3 h4 (vw h5 AU) FN bb1)) λCV Ai e c h3 h4 AU FN Eh _=>ke Ai e c h3 (vw h4 AU) FN Eh)
theorem eH{x:Tx}(g:Gd B F K A ⟨Fy i j x y,DL AG An Av CL,4⟩ C s):Gd B F K A ⟨Fe i j,DL AG An Av CL,4⟩ C s:=R7 g rfl rfl rfl rfl rfl rfl
theorem bb2(SK:R6 K.sc){x:Tx}{A2:HM->AR->Prop}(hX:AG.length<=100000)(hY:An.length<=100000)(h0:eB tf=G ([Ky],JJ,[JK]))(h3:Ld Ky=G (Fd,Fx,Jf))(h1:N4 JJ=G F6)(h2:Ld JK=G (FO,F6,Iv))(hi:i<=AG.length)(hj:j<An.length)(hF:F.outs=F.env::C4)(hf:F.env.frame=G F.env.locals)(g:Gd B F K A ⟨Fy i j x y,DL AG An Av CL,4⟩ C s)(Cw:Nx F.D F.A_ Af s.heap BG C)(kn:∀i' j' s',i'<=AG.length->j'<=An.length->AG.drop i'=DG x (AG.drop i)->An.drop j'=DG y (An.drop (j+1))->Gd B F K A ⟨Fe i' j',DL AG An Av CL,4⟩ C s'->Nx F.D F.A_ Af s'.heap BG C->A2 .next s')(ke:∀i' j' s' e c,i'<=AG.length->j'<=An.length->AG.drop i'=DG x (AG.drop i)->An.drop j'=DG y (An.drop (j+1))->(i'=AG.length\/j'=An.length)->Gd B F K A ⟨Fe i' j',DL AG An Av CL,4⟩ C s'->Nx F.D F.A_ Af s'.heap BG C->XU B F C Af s'.heap e c->E (.ref e) s'):AH (AQ B.prog B.w) A (exec tf F.env) A2 E s:=by
 apply ba6 h0;intro p3;have vw:∀{CV:I (U×V)}{q:O}{Ai:AR},Le (Fy i j x y) CV Fx q->Gd B F K A ⟨CV,DL AG An Av CL,4⟩ C Ai->Gd B F K A ⟨Fy q j x y,DL AG An Av CL,4⟩ C Ai:=λhe AU=>PC AU (he _) (he _) (he _) (he _) (he _) (he _) (he _) (he _);have back:∀{q Ai e c}{eI:CK},q<=AG.length->AG.drop q=DG x (AG.drop i)->DG y (An.drop (j+1))=[]->Gd B F K A ⟨Fy q An.length x y,DL AG An Av CL,4⟩ C Ai->Nx F.D F.A_ Af Ai.heap BG C->XT B F C Af Ai.heap e c (ES F.env.locals)->RT (AQ B.prog B.w) eI F.env (uO (AQ B.prog B.w) A F.env E) (.ref e) Ai:=λ{q Ai e c eI}h4 h5 h6 AU FN Eh=>by
   show AH _ eI (IA (.ref e) F.env) _ _ _;exact Xb hf Eh (qn hf AU FN Eh λAx Ao I7 R8=>ke q An.length Ax e c h4 (DE _) h5 (by rw[h6,Jr]) (.inr rfl) (eH Ao) I7 (.inr R8))
 refine wpAny_Try_finally (DH (Xf h3 hX SK.ex SK.i SK.io SK.e (by decide) (by decide) hF hf g.frames rfl hi g rfl rfl rfl Cw (.inl g.handled) (λq CV Ai h4 h5 h6 AU FN _=>G1 (G1 ?_)) λCV Ai e c h4 h5 AU FN Eh hc=>?_));. refine qs SK hY h1 h2 hj hF hf g.frames (vw h6 AU) FN (.inl g.handled) (λq' Ax h7 h8 Ao I7 _=>kn q q' Ax (Gg h4) (Gg h7) h5 h8 (eH Ao) I7) λAx e c h7 Ao I7 R8=>back (Gg h4) h5 h7 Ao I7 R8
 . have hc:=hc g.handled;subst hc;refine Xb hf Eh ⟨(by intro z;(exfalso;cases z)),Xb hf Eh (US (fr:=L) (vw h5 AU) FN Eh λAx Ao I7 R8=>?_)⟩;have qt:AG.drop AG.length=DG x (AG.drop i):=by rw[h4,Jr]
   refine qs SK hY h1 h2 hj hF hf (A':=A.mark (G (.ref e))) (by exact g.frames) Ao I7 (.inr ⟨e,_,rfl,R8⟩) (λq' EE h7 h8 CA Lg R9=>?_) λEE e' c h7 CA Lg eJ=>back (DE _) qt h7 CA Lg eJ;rcases R9 with R9|HB;rotate_left;refine EW HB ?_;(try clear HB);intro e0 fl R9 eJ;rotate_left;. (exfalso;cases R9)
   . have :e=e0:=by
      have q:G (Jn e)=G (Jn e0):=R9;injection q with q;injection q
     clear R9;subst this;exact ba4 hf CA Lg eJ λEf Co HG PD=>ke AG.length q' Ef e _ (DE _) (Gg h7) qt h8 (.inl rfl) (eH Co) HG (.inr PD)
end
theorem RA{ys:I Tx}:D4 m [] ys=([],ys):=by cases m<;>rfl
theorem RC{Y:I Tx}:D4 m Y []=(Y,[]):=by cases m with
 |zero=>rfl|succ m=>cases Y<;>rfl
theorem bb3{t:Tx}{Y:I Tx}:(DG t Y).length<=Y.length:=by induction Y with
 |nil=>exact DE _|cons x Y ih=>
 refine(?_:(match CU x t with|true=>DG t Y|false=>x::Y).length<=_);cases CU x t with
 |true=>exact ge ih|false=>exact DE _
theorem Xi{t:Tx}{p q:O}(hp:p<=AG.length)(hq:q<=AG.length)(h:AG.drop q=DG t (AG.drop p)):p<=q:=by
 have z:(AG.drop q).length<=(AG.drop p).length:=h▸bb3;rw[V1,V1]at z;exact uC hp▸uC hq▸f9 z AG.length
theorem eK{a q b k:O}(hm:a-i+b<=k+1)(hi:i<a)(hq:i+1<=q):a-q+b<=k:=sN (B4 (Nat.succ_add _ _▸Xt (Nat.sub_lt_sub_left hi hq) b) hm)
theorem bb4{a q b k:O}(hm:b+(a-j)<=k+1)(hj:j<a)(hq:j+1<=q):b+(a-q)<=k:=by rw[Lj]at hm ⊢;exact eK hm hj hq
theorem qu{Av:I J}{x:J}{q:O}(hq:i+1<=q):(Av++[x]).length+i<=Av.length+q:=by rw[FC,tj,NM,Lj 1 i];exact HI hq _
theorem qv{Av:I J}{x:J}(h:Av.length<=100000):(Av++[x]).length<=1000000:=by rw[FC];exact B4 (Xt h 1) (by decide)
theorem qw{l:I J}{p:O}{x:J}(h:l[p]?=G x):l.drop p=x::l.drop (p+1):=by
 refine xE (HJ.mp h) ?_;intro CF e;rw[YF CF,e]
structure eM(tr N6 N7 if1 N8 N9 NA if2 NB NC ND NE tf Ky JJ JK K4 ext2 brk:As)(t1 t2:AA):Prop where
 tr:qo tr=G ([N6,N7,if1],K4,[ext2,brk])N6:eF N6=G (Jf,Fd,Fx)N7:eF N7=G (Iv,FO,F6)if1:eE if1=G (t1,[N8,N9,NA],[if2])t1:UY .Lt Jf Iv t1=M
 N8:Xe N8=G (Ka,Jf)N9:N4 N9=G Fx
 NA:Ld NA=G (Fd,Fx,Jf)if2:eE if2=G (t2,[NB,NC,ND],[NE,tf])t2:UY .Gt Jf Iv t2=M
 NB:Xe NB=G (N5,Iv)NC:N4 NC=G F6
 ND:Ld ND=G (FO,F6,Iv)NE:N4 NE=G Fx
 tf:eB tf=G ([Ky],JJ,[JK])Ky:Ld Ky=G (Fd,Fx,Jf)JJ:N4 JJ=G F6
 JK:Ld JK=G (FO,F6,Iv)K4:R5 K4=G (Ka,Fd,Fx)ext2:R5 ext2=G (N5,FO,F6)brk:eG brk=M
section
variable{Av:I Tx}{tr N6 N7 if1 N8 N9 NA if2 NB NC ND NE:As}{t1 t2:AA}
theorem eN{e a:Tx}{Y ys:I Tx}:D4 (n+1) (e::Y) (a::ys)=match EY e a with
 |true=>(e::(D4 n (DG e Y) (a::ys)).1,(D4 n (DG e Y) (a::ys)).2)|false=>match EY a e with
 |true=>((D4 n (e::Y) (DG a ys)).1,a::(D4 n (e::Y) (DG a ys)).2)|false=>D4 n (DG e Y) (DG a ys):=rfl
theorem qx(SB:Xg B)(SK:R6 K.sc)(D:eM tr N6 N7 if1 N8 N9 NA if2 NB NC ND NE tf Ky JJ JK K4 ext2 brk t1 t2){A2:HM->AR->Prop}(hX:AG.length<=100000)(hY:An.length<=100000)(hM:Av.length+m<=90000+900000)(hU:CL.length+m<=90000+900000)(hi:i<=AG.length)(hj:j<=An.length)(hm:AG.length-i+(An.length-j)<=m)(RD:Av.length<=100000)(RE:CL.length<=100000)(hF:F.outs=F.env::C4)(hf:F.env.frame=G F.env.locals)(g:Gd B F K A ⟨Fe i j,DL AG An Av CL,4⟩ C s)(Cw:Nx F.D F.A_ Af s.heap BG C)(kn:∀k i' j' M' U' s',m=k+1->i'<=AG.length->j'<=An.length->AG.length-i'+(An.length-j')<=k->M'.length+i<=Av.length+i'->U'.length+j<=CL.length+j'->Av++(D4 m (AG.drop i) (An.drop j)).1=M'++(D4 k (AG.drop i') (An.drop j')).1->CL++(D4 m (AG.drop i) (An.drop j)).2=U'++(D4 k (AG.drop i') (An.drop j')).2->Gd B F K A ⟨Fe i' j',DL AG An M' U',4⟩ C s'->Nx F.D F.A_ Af s'.heap BG C->A2 .next s')(kB:∀i' j' s',Gd B F K A ⟨Fe i' j',DL AG An (Av++(D4 m (AG.drop i) (An.drop j)).1) (CL++(D4 m (AG.drop i) (An.drop j)).2),4⟩ C s'->Nx F.D F.A_ Af s'.heap BG C->A2 .brk s'):AH (AQ B.prog B.w) A (exec tr F.env) A2 E s:=by
 apply ba5 D.tr;intro p1 p2 p3;have BF:∀{i' j':O}{M' U':I Tx}{Ai:AR}{e:A8}{c:A4},M'.length<=1000000->U'.length<=1000000->M'++AG.drop i'=Av++(D4 m (AG.drop i) (An.drop j)).1->U'++An.drop j'=CL++(D4 m (AG.drop i) (An.drop j)).2->Gd B F K A ⟨Fe i' j',DL AG An M' U',4⟩ C Ai->Nx F.D F.A_ Af Ai.heap BG C->XU B F C Af Ai.heap e c->AH (AQ B.prog B.w) A (IA (.ref e) F.env) (λ_ Ai=>AH (AQ B.prog B.w) A (gl (.ref e) L) (λ_ Ax=>AH (AQ B.prog B.w) A (handleBy (.ref e) F.env [.ExceptHandler (G (.Name UZ p1)) L (K4::[ext2,brk]) p2]) A2 E Ax) E Ai) E Ai:=λ{i' j' M' U' Ai e c}h1 h2 h3 h4 AU FN Eh=>QM SB SK hX hY h1 h2 D.K4 D.ext2 D.brk hF hf AU FN Eh λAx Ao I7=>kB i' j' Ax (by rw[<-h3,<-h4];exact Ao) I7;refine by3 (DH ?_);apply qq D.N6;intro q1 q2 q3 q4 q5;refine bF0 (item_at hX SK.ex SK.i g rfl rfl rfl hi Cw (.inl g.handled) (λu x hx ru=>dw g SK.eo ru λAJ AN Ab=>?_) λAJ e c hp AN Je Mf _=>?_)
 . have Je:=Cw.trans Ab;have PE:i<AG.length:=(HJ.mp hx).1;apply qq D.N7;intro r1 r2 r3 bY1 bY2;refine DH (bF0 (item_at hY SK.ac SK.j AN rfl rfl rfl hj Je (.inl g.handled) (λw y hy Fc=>dw AN SK.bY0 Fc λAi AU Al=>?_) λAi e c hp AU FN Eh _=>?_))
   . have FN:=Je.trans Al;have U_:j<An.length:=(HJ.mp hy).1;have AU:Gd B F K A ⟨Fy i j x y,DL AG An Av CL,4⟩ C Ai:=PC AU rfl rfl rfl rfl rfl rfl rfl rfl;have dX:=qw hx;have dY:=qw hy;refine xE (Nat.exists_eq_add_one.mpr (Iw (Nat.sub_pos_of_lt PE) (B4 (H2 ..) hm))) ?_;intro k hk;have HD:AG.length-i+(An.length-j)<=k+1:=hk▸hm;apply qp D.if1;intro i1;refine DH (sh (ba9 D.t1 SK.e SK.a AU rfl rfl ?_));cases CF:EY x y with
 |true=>
      rw[DF rfl];have hs:D4 m (AG.drop i) (An.drop j)=(x::(D4 k (DG x (AG.drop (i+1))) (An.drop j)).1,(D4 k (DG x (AG.drop (i+1))) (An.drop j)).2):=by rw[hk,dX,dY,eN,CF]
      refine DH (qj D.N8 SK.mi SK.e AU rfl rfl (by simpa using RD) rfl λAx Ao B8=>?_);have e3:Av.map V.str++[V.str x]=(Av++[x]).map V.str:=by simp
      rw[e3]at Ao;have Ao:Gd B F K A ⟨Fy i j x y,DL AG An (Av++[x]) CL,4⟩ C Ax:=Ao;refine DH (Xh D.N9 Ao SK.i SK.io rfl λEE CA D'=>?_);have CA:Gd B F K A ⟨Fy (i+1) j x y,DL AG An (Av++[x]) CL,4⟩ C EE:=PC CA (by show G (V.int ((i:AX)+1))=_;simp) rfl rfl rfl rfl rfl rfl rfl;have Lg:=FN.trans (B8.w0.trans D');refine DH (Xf (p:=i+1) D.NA hX SK.ex SK.i SK.io SK.e (by decide) (by decide) hF hf g.frames rfl PE CA rfl rfl rfl Lg (.inl g.handled) (λq CV Ef h3 h4 h5 Co HG _=>G1 (G1 (G1 ?_))) λCV Ef e c h3 h4 Co HG PD _=>?_)
      . have hq:=Xi PE (Gg h3) h4;refine kn k q j (Av++[x]) CL Ef hk (Gg h3) hj (eK HD PE hq) (qu hq) (DE _) ?_ ?_ (R7 Co (h5 _) (h5 _) (h5 _) (h5 _) (h5 _) (h5 _)) HG;. rw[hs,h4];simp
        . rw[hs,h4]
      . refine BF (i':=AG.length) (j':=j) (M':=Av++[x]) (U':=CL) (qv RD) (B4 RE (by decide)) ?_ ?_ (R7 Co (h4 _) (h4 _) (h4 _) (h4 _) (h4 _) (h4 _)) HG (.inr PD);. rw[hs,h3,RA];simp
        . rw[hs,h3,RA]|false=>
      rw[CS (by simp)];apply qp D.if2;intro i2;refine DH (sh (bb0 D.t2 SK.e SK.a AU rfl rfl ?_));cases qy:EY y x with
 |true=>rw[DF rfl];have hs:D4 m (AG.drop i) (An.drop j)=((D4 k (AG.drop i) (DG y (An.drop (j+1)))).1,y::(D4 k (AG.drop i) (DG y (An.drop (j+1)))).2):=by rw[hk,dX,dY,eN,CF,qy]
        refine DH (qj D.NB SK.un SK.a AU rfl rfl (by simpa using RE) rfl λAx Ao B8=>?_);have e3:CL.map V.str++[V.str y]=(CL++[y]).map V.str:=by simp
        rw[e3]at Ao;have Ao:Gd B F K A ⟨Fy i j x y,DL AG An Av (CL++[y]),4⟩ C Ax:=Ao;refine DH (Xh D.NC Ao SK.j SK.jo rfl λEE CA D'=>?_);have CA:Gd B F K A ⟨Fy i (j+1) x y,DL AG An Av (CL++[y]),4⟩ C EE:=PC CA rfl (by show G (V.int ((j:AX)+1))=_;simp) rfl rfl rfl rfl rfl rfl;have Lg:=FN.trans (B8.w0.trans D');refine DH (Xf (p:=j+1) D.ND hY SK.ac SK.j SK.jo SK.a (by decide) (by decide) hF hf g.frames rfl U_ CA rfl rfl rfl Lg (.inl g.handled) (λq CV Ef h3 h4 h5 Co HG _=>G1 (G1 (G1 (G1 ?_)))) λCV Ef e c h3 h4 Co HG PD _=>?_)
        . have hq:=Xi U_ (Gg h3) h4;refine kn k i q Av (CL++[y]) Ef hk hi (Gg h3) (bb4 HD U_ hq) (DE _) (qu hq) ?_ ?_ (R7 Co (h5 _) (h5 _) (h5 _) (h5 _) (h5 _) (h5 _)) HG;. rw[hs,h4]
          . rw[hs,h4];simp
        . refine BF (i':=i) (j':=An.length) (M':=Av) (U':=CL++[y]) (B4 RD (by decide)) (qv RE) ?_ ?_ (R7 Co (h4 _) (h4 _) (h4 _) (h4 _) (h4 _) (h4 _)) HG (.inr PD);. rw[hs,h3,RC]
          . rw[hs,h3,RC];simp|false=>
        rw[CS (by simp)];have hs:D4 m (AG.drop i) (An.drop j)=D4 k (DG x (AG.drop (i+1))) (DG y (An.drop (j+1))):=by rw[hk,dX,dY,eN,CF,qy]
        refine DH (Xh D.NE AU SK.i SK.io rfl λEE CA D'=>?_);have CA:Gd B F K A ⟨Fy (i+1) j x y,DL AG An Av CL,4⟩ C EE:=PC CA (by show G (V.int ((i:AX)+1))=_;simp) rfl rfl rfl rfl rfl rfl rfl;have Lg:=FN.trans D';refine DH (bb2 SK hX hY D.tf D.Ky D.JJ D.JK PE U_ hF hf CA Lg (λi' j' Ef h3 h4 h5 h6 Co HG=>G1 (G1 (G1 (G1 ?_)))) λi' j' Ef e c h3 h4 h5 h6 h7 Co HG PD=>?_)
        . have z1:=Xi PE h3 h5;have z2:=uP (Xi U_ h4 h6);refine kn k i' j' Av CL Ef hk h3 h4 (B4 (HI (f9 z2 _) _) (eK HD PE z1)) (HI (uP z1) _) (HI z2 _) ?_ ?_ Co HG;. rw[hs,h5,h6]
          . rw[hs,h5,h6]
        . refine BF (i':=i') (j':=j') (M':=Av) (U':=CL) (B4 RD (by decide)) (B4 RE (by decide)) ?_ ?_ Co HG PD
          . rw[hs,<-h5,<-h6];rcases h7 with rfl|rfl;. rw[Jr,RA]
            . rw[Jr,RC]
          . rw[hs,<-h5,<-h6];rcases h7 with rfl|rfl;. rw[Jr,RA]
            . rw[Jr,RC]
   . refine BF (i':=i) (j':=j) (M':=Av) (U':=CL) (B4 RD (by decide)) (B4 RE (by decide)) ?_ ?_ (R7 AU rfl rfl rfl rfl rfl rfl) FN (.inl Eh);. rw[hp,Jr,RC]
     . rw[hp,Jr,RC]
 . refine BF (i':=i) (j':=j) (M':=Av) (U':=CL) (B4 RD (by decide)) (B4 RE (by decide)) ?_ ?_ AN Je (.inl Mf);. rw[hp,Jr,RA]
   . rw[hp,Jr,RA]
end
section
open PyProof.Rows
noncomputable def strOf:A4->U|.str x _=>x|_=>⟨#[]⟩
noncomputable def Lh(N:BW (AX×A4)):I U:=N.toList.map λe=>strOf e.2
structure NF(prog:Hc)(w:F7)(led:AK)(N:BW (AX×A4))(t:G3)(P:I U):Prop where
 el:ElemsOf (Kp prog w) N.toList
 str:∀e∈N.toList,∃x u,e.2=.str x u
 nd:(Lh N).Nodup
 mem:∀x,x∈Lh N↔x∈P
 sz:N.size<Pg
 fits:t.fits N.size=M
 led:t.led=led
 plain:N.size=0\/t.plain=A6
 le:N.size<=P.length
noncomputable def HH(prog:Hc)(w:F7)(led:AK)(h:BK)(a:A8)(P:I U):Prop:=∃N ep t,h.get? a=G {cls:=.type "set",dict:=L,data:=.set N ep t}/\NF prog w led N t P
section
variable{P:I U}
theorem bb5{t:G3}:(t.orStandIn n).led=t.led:=by unfold uQ;split<;>rfl
theorem bb6(t:G3)(N:BW (AX×A4))(h:AX)(x:A4):(YZ t N h x).2.1.led=t.led:=by
 unfold YZ;split;. exact bb5
 . rfl
theorem bb7(t:G3)(N:BW (AX×A4))(h:AX)(x:A4)(hp:t.plain=A6):(YZ t N h x).2.1.plain=A6:=by
 unfold YZ;split
 . show(uQ _ _).plain=A6;unfold uQ;split;. exact hp
   . rfl
 . rfl
theorem bb8{f mv:O}{l p:AK}{hs:BW AX}{r:G3×BW O}(h:bF1 m f mv l p hs=G r):r.1.led=l/\r.1.plain=p:=by
 unfold bF1 at h;simp only[Option.bind_eq_bind,bB6]at h;refine AC h ?_;(try clear h);intro _ _ h;first|(subst h;exact⟨rfl,rfl⟩)|(injection h with h;subst h;exact⟨rfl,rfl⟩)
set_option tactic.hygienic true in
theorem bb9(t:G3)(N:BW (AX×A4))(n:O):(Rv t N n).2.1.led=t.led/\((Rv t N n).2.1.plain=t.plain\/(Rv t N n).2.1.plain=A6):=by
 unfold Rv;split
 . rename_i r t' o h;have :=bb8 h;dsimp only;split;. exact⟨this.1,.inl this.2⟩
   . exact⟨rfl,.inr rfl⟩
 . exact⟨rfl,.inr rfl⟩
theorem qz{N BN:BW (AX×A4)}(p:BN.toList.Perm N.toList):(Lh BN).Perm (Lh N):=p.map _
theorem NF.perm{N BN:BW (AX×A4)}{t t':G3}(h:NF prog w led N t P)(p:BN.toList.Perm N.toList)(f:t'.fits BN.size=M)(hl:t'.led=t.led)(hp:t'.plain=t.plain\/t'.plain=A6):NF prog w led BN t' P:=by
 have hz:BN.size=N.size:=by rw[<-V8,p.length_eq,V8]
 refine⟨h.el.perm p,λe m=>h.str e (p.mem_iff.mp m),(qz p).nodup_iff.mpr h.nd,λx=>((qz p).mem_iff).trans (h.mem x),hz▸h.sz,f,hl.trans h.led,?_,hz▸h.le⟩;rcases h.plain with q|q;. exact .inl (hz.trans q)
 . rcases hp with z|z;. exact .inr (z.trans q)
   . exact .inr z
theorem r0{N BN:BW (AX×A4)}{t t':G3}(ho:h.get? a=G {cls:=.type "set",dict:=L,data:=.set N ep t})(T:NF prog w led BN t' P):(h.update a (Y_ BN t')).get? a=G {cls:=.type "set",dict:=L,data:=.set BN (ep+1) t'}/\HH prog w led (h.update a (Y_ BN t')) a P:=by
 have hg:(h.update a (Y_ BN t')).get? a=G {cls:=.type "set",dict:=L,data:=.set BN (ep+1) t'}:=by
  have :=FQ (Y_ BN t') ho (by rw[putSet_of BN t' rfl];rfl);rw[putSet_of BN t' rfl]at this;exact this
 exact⟨hg,BN,ep+1,t',hg,T⟩
theorem r4{g:AK->Dy Do}(hg:∀(b:AK)(AJ:AR)(Q':Do->AR->Prop),Q' () AJ->AH (AQ prog w) A (g b) Q' E AJ){N:BW (AX×A4)}{t:G3}(ho:s.heap.get? a=G {cls:=.type "set",dict:=L,data:=.set N ep t}){F2:BW (AX×A4)}{t2:G3}(T:NF prog w led F2 t2 P){r5:AK}{AS:AD AK->AR->Prop}(h:∀Q,E3 a s.heap Q->HH prog w led Q a P->AS (G M) {s with heap:=Q}):AH (AQ prog w) A (do
 storeSet a F2 t2 if(!r5&&t2.tooFull)=M then do
   g (Rv t2 F2 (VF F2.size)).2.2storeSet a (Rv t2 F2 (VF F2.size)).1 (Rv t2 F2 (VF F2.size)).2.1pure (G M)else pure (G M)) AS E s:=by
 refine A5 (bF2 ho rfl ?_ (gn T.sz));refine xA (r0 ho T) ?_;intro Tl bY3;have r6:=Fg s.heap a (Y_ F2 t2);split
 . have hp:=relayAll_perm t2 F2 (VF F2.size);have D3:=relayAll_fits t2 F2 (VF F2.size);have hl:=bb9 t2 F2 (VF F2.size);have T2:=T.perm hp D3 hl.1 hl.2;refine A5 (hg _ _ _ ?_);refine A5 (bF2 Tl rfl ?_ (gn T2.sz));exact AW (h _ (r6.trans (Fg _ a _)) (r0 Tl T2).2)
 . exact AW (h _ r6 bY3)
set_option tactic.hygienic true in
theorem bc0{u:EO}{A2:AK->AR->Prop}(hS:HH prog w led s.heap a P)(bc1:P.length+1<Pg)(h:∀b Q,E3 a s.heap Q->HH prog w led Q a (P++[x])->A2 b {s with heap:=Q,toks:=s.toks+1}):AH (AQ prog w) A (uR a (.str x u)) A2 E s:=by
 have EL:(Kp prog w).is x (.str x u)=M:=by simp[Kp,YK]
 unfold uR;refine C0 (A5 ((Kp prog w).pyHash EL ?_));refine Hm hS ?_;(try clear hS);intro N ep t ho T;have R1:N.size+1<Pg:=H' (Lk T.le) bc1;skip;refine C0 (A5 (Ya (s:={s with toks:=s.toks+1}) ho rfl T.fits ?_));dsimp only;rw[byScan_of rfl T.sz T.el];skip;unfold setAddByScan;refine A5 ?_;refine A5 (Gi ?_);refine A5 (wpAny_setScan_of EL ho rfl T.fits T.el ?_);cases hr:List.findIdx? (λe=>(Kp prog w).is x e.2) N.toList with
 |some j=>
  skip;refine AC (List.findIdx?_eq_some_iff_getElem.mp hr) ?_;intro hj hpj _;have hx:x∈Lh N:=by
    refine xE (b_ hpj) ?_;intro tk e;refine E'.mpr ⟨N.toList[j],gH hj,?_⟩;rw[e];rfl
  refine AW (AW ?_);refine h _ s.heap (fs a s.heap) ⟨N,ep,t,ho,T.el,T.str,T.nd,λy=>?_,T.sz,T.fits,T.led,T.plain,B4 T.le (by simp)⟩;rw[T.mem,Dp,CI];exact⟨.inl,λz=>z.elim id λz=>z▸(T.mem x).mp hx⟩|none=>
  skip;have hx:x∉Lh N:=λm=>by
    refine AC (E'.mp m) ?_;intro e he hp;have :=by9.mp hr e he;refine DA (T.str e he) ?_;intro y v q;rw[q]at this hp;have hp:y=x:=hp;clear h EL hr m;subst hp;simp[Kp,YK]at this
  have hgw:∀(b:AK){AJ:AR}{Q':Do->AR->Prop},Q' () AJ->AH (AQ prog w) A (match b with|true=>YH "set.scan.the-table-gave-way"|false=>pure ()) Q' E AJ:=λb AJ Q' hq=>by cases b<;>first|exact AW hq|exact Gi hq
  have JY:=layNew_perm t N ((Kp prog w).hash x) (.str x u);have Xj:=layNew_fits t N ((Kp prog w).hash x) (.str x u);have Ua:=bb6 t N ((Kp prog w).hash x) (.str x u);have FZ:=bb7 t N ((Kp prog w).hash x) (.str x u);generalize hL:YZ t N ((Kp prog w).hash x) (.str x u)=A1 at JY Xj Ua FZ ⊢;obtain⟨F2,t1,r5,gave⟩:=A1;dsimp only at JY Xj Ua FZ ⊢;rw[V7]at JY;have hz:F2.size=N.size+1:=by rw[<-V8,JY.length_eq,FC,V8];rfl
  have Qg:(Lh F2).Perm (Lh N++[x]):=by
    have :=JY.map (λe:AX×A4=>strOf e.2);rw[NX]at this;exact this
  have fin:∀t2:G3,t2.fits F2.size=M->t2.led=t.led->t2.plain=A6->NF prog w led F2 t2 (P++[x]):=λt2 f l p=>by
    refine⟨(T.el.push EL rfl).perm JY,λe m=>?_,?_,λy=>?_,hz▸R1,f,l.trans T.led,.inr p,?_⟩
    . rcases Dp.mp (JY.mem_iff.mp m)with m|m;. exact T.str e m
      . rw[CI.mp m];exact⟨x,u,rfl⟩
    . refine Qg.nodup_iff.mpr (I9.mpr ⟨T.nd,by simp,λy hy z hz e=>?_⟩);rw[CI.mp hz]at e;exact hx (e▸hy)
    . rw[Qg.mem_iff,Dp,Dp,T.mem]
    . rw[hz,FC];exact Lk T.le
  refine A5 (hgw _ ?_);split
  . refine A5 ?_;skip;refine AW ?_;refine r4 (s:={s with toks:=s.toks+1}) ?_ ho (fin {t1 with plain:=A6} (SetTable.fits_plain_off Xj) Ua rfl) ?_;. intro b AJ Q' hq;cases b<;>first|exact AW hq|exact Gi hq
    . intro Q RF Fa;dsimp only;exact AW (h _ Q RF Fa)
  . rename_i hpp;refine A5 (AW ?_);skip;have :t1.plain=A6:=by cases q:t1.plain with|false=>rfl|true=>exact absurd q hpp
    refine r4 (s:={s with toks:=s.toks+1}) ?_ ho (fin _ Xj Ua this) ?_;. intro b AJ Q' hq;cases b<;>first|exact AW hq|exact Gi hq
    . intro Q RF Fa;dsimp only;exact AW (h _ Q RF Fa)
end
end
section
open PyProof.Rows
section
theorem HH.same{A9:A8}{P:I U}(hS:HH prog w led h A9 P)(hk:∀o,h.get? A9=G o->Q.get? A9=G o):HH prog w led Q A9 P:=by refine Hm hS ?_;(try clear hS);intro N ep t ho T;exact⟨N,ep,t,hk _ ho,T⟩
theorem bc2{AS:Dr->AR->Prop}{fp wr:I A8}{Bk:BW fO->BW fO->Prop}{Pv:O->A4->Prop}{St:O->AR->Prop}(ss:I U)(hn:ss.length=n)(A_:WalksS prog w A.in1 AE fp wr Bk n Pv St)(hv:∀i v,Pv i v->∃x t,ss[i]?=G x/\v=.str x t)(A9:A8)(NG:A9∉fp)(hb:n+1<Pg):∀(k i:O)(s:AR),n-i=k->i<=n->St i s->HH prog w led s.heap A9 (ss.take i)->(∀s',Moved (A9::wr) Bk s s'->HH prog w led s'.heap A9 ss->AS (.ok (.ret .none)) s')->D7 (AQ prog w) A (.builtin "set.update.loop" ⟨[.ref A9,.ref AE],[]⟩) AS s:=by
 have r7:A9∉wr:=λh=>NG (A_.sub _ h);have LH:∀b∈wr,b∈A9::wr:=λb hb=>Cq _ hb;intro k;induction k with
 |zero=>
  intro i s hk hi HC hS hR;have JX:i=n:=by(with_reducible exact Xw (by assumption) (bz3 (by assumption)))
  clear hb hi hk;subst JX;refine J0 bF3 ?_;skip;show AH _ A.in1 (ER (.ref AE)>>=_) _ _ s;refine A5 (A_.done s _ _ HC λs' hm=>?_);show AH _ A.in1 (ret Hf) _ _ s';rw[<-hn,bE9]at hS;exact AW (hR s' (hm.mono LH) (hS.same λo e=>hm.heap A9 o r7 e))|succ k ih=>
  intro i s hk hi HC hS hR;have CF:i<n:=by(with_reducible exact Nat.lt_of_sub_eq_succ (by assumption))
  refine J0 bF3 ?_;skip;show AH _ A.in1 (ER (.ref AE)>>=_) _ _ s;refine A5 (A_.item i s _ _ CF HC λv s' hP bc3 hm=>?_);refine EW (hv _ _ hP) ?_;intro x t hx Aw;clear hP;subst Aw;have Fa:=hS.same (Q:=s'.heap) λo e=>hm.heap A9 o r7 e;show AH _ A.in1 (Hd [Lx x t] (uR A9 (.str x t))>>=_) _ _ s';refine A5 (C0 ?_);have hr:(ss.take i).length+1<Pg:=by rw[Pa];exact H' (Lk (B4 (Xv _ _) (Gg CF))) hb
  refine bc0 Fa hr λb Q RF r8=>?_;have e:ss.take i++[x]=ss.take (i+1):=by rw[List.take_add_one,hx];rfl
  rw[e]at r8;refine AW ⟨plainId_quiet F.plain_set_update_loop _,ih (i+1) _ (by(with_reducible exact Mine.yX (by assumption))) CF (A_.frame _ s' _ _ bc3 (PN _) λb hb o e=>?_) r8 λK_ bc4 bc5=>?_⟩;. rw[RF.2 b (λh:b=A9=>NG (by rw[<-h];exact hb))];exact e
  . refine hR K_ (Moved.trans A_.gtrans ((hm.mono LH).then_heap (PN _) λb o hb e=>?_) bc4) bc5;rw[RF.2 b (λh:b=A9=>hb (by rw[h];exact Cp))];exact e
theorem HH.empty(ho:h.get? a=G {cls:=.type "set",dict:=L,data:=.set #[] 0 (.fresh 0 0 led)}):HH prog w led h a []:=⟨#[],0,.fresh 0 0 led,ho,⟨λe m=>(by(exfalso;cases m)),λe m=>(by(exfalso;cases m)),HK,λx=>VB,(by unfold Pg;decide),rfl,rfl,.inl rfl,DE _⟩⟩
theorem code_set_new(a:A4){PF:A4->AR->Prop}(h:PF (.ref s.heap.objs.size) {s with heap:=s.heap.push {cls:=.type "set",dict:=L,data:=.set #[] 0 (.fresh 0 0 (!w.params.followText "set-order"))}}):D7 (AQ prog w) A (.call (.builtin "set.__new__") ⟨[.type "set",a],[]⟩) (YU PF E) s:=by
 refine RZ ?_;show AH _ A.in1 (do g5 "set.__new__" ⟨[.type "set",a],[]⟩;Kh (.builtin "set.__new__" ⟨[.type "set",a],[]⟩)) _ _ s;refine A5 (NV (F.newCall_set_1 a) (AW ⟨plainId_quiet F.plain_set_new _,J0 F.entry_set_new ?_⟩));skip;skip;have LH:=sub_set_self;obtain⟨hp,g,d,tk,os⟩:=s;skip;wp_walk;refine R_ (AW ?_);skip;skip;refine A5 (YA (AW ?_));exact AW h
theorem r9:∀{us:I A4}{ss:I U},M1 us ss->∀{i:O}{v:A4},us[i]?=G v->∃x t,ss[i]?=G x/\v=.str x t
 |_,_,.nil,i,_,h=>by simp at h|_,_,.cons x t _,0,_,h=>by simp at h;exact⟨x,t,rfl,h.symm⟩|_,_,.cons x t r,i+1,_,h=>by simpa using r9 r (i:=i) (by simpa using h)
theorem bc6{T rA rB:D9}{args:I A4}{PF:A4->AR->Prop}(ft:TypeCalled T rA rB)(hct:bF4 T ⟨args,[]⟩=pure ())(bc7:D7 (AQ prog w) A.in1 (.call (.builtin rA) ⟨.type T::args,[]⟩) (YU PF E) s)(bc8:∀obj AJ,PF obj AJ->AJ.TypeIs obj T/\D7 (AQ prog w) A.in1 (.call (.builtin rB) ⟨obj::args,[]⟩) (YU (λr Ai=>r=.none/\A2 obj Ai) E) AJ):AH (AQ prog w) A (call (.type T) args) A2 E s:=by
 refine DA ft.mro ?_;intro c bY4 bM5;have bM6:=ft.made;have LH:=ft.sub;refine HN (RZ ?_);show AH _ _ (Uy (.type T) _) _ _ _;refine AW ⟨tE _ (by decide+kernel),J0 F.entry_type_call ?_⟩;rw[Around.under_plain (weight_type_call_type T args []) rfl];have h1:=ft.notType;have h2:=ft.canCreate;repeat(any_goals(first|assumption|wp_step))
 refine uS bc7 λr AJ hr=>?_;cases r with
 |error e=>exact hr|ok fl=>cases fl with
 |ret obj=>
  refine xA (bc8 _ _ hr) ?_;intro hT L8;have NH:=ft.init.lookup;have hbi:=ft.init.bind obj;repeat(any_goals(first|assumption|wp_step))
  refine uS L8 λBB Ai Xk=>?_;cases BB with
  |error e=>exact Xk|ok bc9=>cases bc9 with
  |ret r=>
   refine xA Xk ?_;(try clear Xk);intro B6 hq;subst B6;repeat(any_goals(first|assumption|wp_step))|_=>exact Xk.elim
 |_=>exact hr.elim
theorem bd0{l:A8}{ss:I U}(hh:A.handled=L)(hl:s.heap.IsList l us.toArray)(hi:M1 us ss)(hb:ss.length+1<Pg)(h:∀(Q:BK)(tk:O),HH prog w (!w.params.followText "set-order") Q s.heap.objs.size ss->(∀b o,s.heap.get? b=G o->Q.get? b=G o)->A2 (.ref s.heap.objs.size) {s with heap:=Q,toks:=tk}):AH (AQ prog w) A (call (.type "set") [.ref l]) A2 E s:=by
 refine bc6 (PF:=λobj AJ=>obj=.ref s.heap.objs.size/\AJ={s with heap:=s.heap.push {cls:=.type "set",dict:=L,data:=.set #[] 0 (.fresh 0 0 (!w.params.followText "set-order"))}}) bF5 (F.typeCall_set_1 _) (code_set_new _ ⟨rfl,rfl⟩) λobj AJ AP=>?_;refine xA AP ?_;(try clear AP);intro BJ BP;subst BJ;subst BP;generalize Ua:(!w.params.followText "set-order")=led at h ⊢;have hS:(s.heap.push {cls:=.type "set",dict:=L,data:=.set #[] 0 (.fresh 0 0 led)}).get? s.heap.objs.size=G {cls:=.type "set",dict:=L,data:=.set #[] 0 (.fresh 0 0 led)}:=CY _ rfl;have hT:bF6 {s with heap:=s.heap.push {cls:=.type "set",dict:=L,data:=.set #[] 0 (.fresh 0 0 led)}} (.ref s.heap.objs.size) "set":=⟨_,hS,rfl⟩;refine⟨hT,Lu bF5.init.plain F.entry_set_init (check_set_init_1 hT ?_)⟩;have rC:l<s.heap.objs.size:=by refine AC hl ?_;(try clear hl);intro ol OM _;exact Dg OM
 have Eg:=bF7 hl {cls:=.type "set",dict:=L,data:=.set #[] 0 (.fresh 0 0 led)};have Xl:bF6 {s with heap:=s.heap.push {cls:=.type "set",dict:=L,data:=.set #[] 0 (.fresh 0 0 led)}} (.ref l) "list":=by refine CZ Eg ?_;(try clear Eg);intro ol OM EJ _;exact⟨ol,OM,EJ⟩
 have rE:l≠(s.heap.push {cls:=.type "set",dict:=L,data:=.set #[] 0 (.fresh 0 0 led)}).objs.size:=by rw[IC];exact EQ (fE rC)
 have NG:s.heap.objs.size∉[(s.heap.push {cls:=.type "set",dict:=L,data:=.set #[] 0 (.fresh 0 0 led)}).objs.size,l]:=by
  rw[IC];simp only[Ck,Jp,Jq,gT];exact⟨EQ (PO _),PT rC⟩
 have hz:us.toArray.size=ss.length:=by
  rw[List.size_toArray];clear h hb Eg rE NG hS hT Xl hl;induction hi with|nil=>rfl|cons _ _ _ ih=>simp[ih]
 have rG:∀(A:CK)(E:A4->AR->Prop)(Q':Do->AR->Prop),A.handled=L->(∀Q tk,HH prog w led Q s.heap.objs.size ss->(∀b o,s.heap.get? b=G o->Q.get? b=G o)->Q' () {s with heap:=Q,toks:=tk})->AH (AQ prog w) A (bF8 "set.__init__" s.heap.objs.size (.ref l)) Q' E {s with heap:=s.heap.push {cls:=.type "set",dict:=L,data:=.set #[] 0 (.fresh 0 0 led)}}:=by
  intro A E Q' hh h;skip;refine A5 (A5 (Lw Xl F.sub_list_set (Lw Xl F.sub_list_frozenset ?_)));show AH _ _ (He (.ref l)>>=_) _ _ _;refine A5 (Rq Xl ?_);skip;refine A5 (fZ Eg (A5 (uN ?_)));have hh3:A.in1.handled=L:=by simp[hh]
  have A_:=(Walks.list (prog:=prog) (w:=w) hh3 _ l rE us.toArray).toS;refine bc2 (A:=A) (n:=us.toArray.size) ss hz.symm A_ (λi v hv=>r9 hi (by rw[<-List.getElem?_toArray];exact hv)) s.heap.objs.size NG (by rw[hz];exact hb) (us.toArray.size-0) 0 _ (by omega) (Nf _) ⟨⟨_,CY _ rfl,rfl,rfl⟩,bF7 Eg _⟩ (HH.empty (C1 _ hS)) λs' hm Fa=>?_;rw[Moved.eq_with hm];refine AW (h s'.heap s'.toks Fa λb o e=>?_);have CF:=Dg e;refine hm.heap b o (λz=>?_) (C1 _ (C1 _ e));simp only[Ck,Jp,Jq,IC]at z;rcases z with z|z<;>rw[z]at CF;. exact Ix _ CF
  . exact absurd (PO _) (Nat.lt_asymm CF)
 unfold EA.«set.__init__»;generalize bF8=bY5 at rG ⊢;wp_walk;refine rG _ _ _ (by simp[hh]) λQ tk Fa k'=>?_;exact AW ⟨rfl,h _ _ Fa k'⟩
end
end
section
open PyProof.Rows
section
theorem bd1{rH:Source}{A2:O->AR->Prop}(hn:n≠0)(h:∀i,i<n->A2 i {s with drawn:=s.drawn.bump rH}):AH Av A (choose rH n) A2 E s:=λ_ _ _=>⟨hn,h _ (bF9 _ (fA hn))⟩
theorem eO:∀{l:I J}{i:O}(h:i<l.length),(l[i]::l.eraseIdx i).Perm l
 |x::l,0,_=>.refl _|x::l,i+1,h=>by
  simp only[List.getElem_cons_succ,List.eraseIdx_cons_succ];exact(bS2 ..).trans ((eO (l:=l) (by simpa using h)).cons x)
theorem rI:∀(n:O)(Y:I J)(s:AR){A2:I J->AR->Prop},Y.length=n->(∀ys dr,ys.Perm Y->A2 ys {s with drawn:=dr})->AH Av A (drawOrder n Y) A2 E s
 |0,Y,s,A2,hl,h=>by
  have :Y=[]:=gi hl;subst this;exact AW (h [] s.drawn (.refl _))|n+1,[],s,A2,hl,h=>by simp at hl|n+1,x::l,s,A2,hl,h=>by
  unfold drawOrder;refine A5 (bd1 (by simp) λi hi=>?_);rw[Hi hi];skip;refine A5 (rI n ((x::l).eraseIdx i) _ (by rw[bG0 hi];simp at hl ⊢;exact hl) λys dr p=>?_);exact AW (h _ dr ((p.cons _).trans (eO hi)))
theorem rJ{next:O->O}:∀(n k:O)(left:I J)(out:BW J),left.length=n->(uT next n k left out).toList.Perm (out.toList++left)
 |0,_,left,out,h=>by
  have :left=[]:=gi h;subst this;unfold uT;simp|n+1,k,left,out,h=>by
  have hi:next k%left.length<left.length:=bF9 _ (by omega);unfold uT;rw[Hi hi];refine(rJ n (k+1) _ _ (by rw[bG0 hi];(with_reducible exact Mine.vM (by assumption)))).trans ?_;rw[V7,Uj];exact(eO hi).append_left _
theorem bd2{next:O->O}{Y:BW J}:(Yb next Y).toList.Perm Y.toList:=by
 have :=rJ (next:=next) Y.size 0 Y.toList #[] (by simp);simpa[Yb]using this
theorem Xm:Ly "set_iterator" "__next__" "set_iterator.__next__":=.of (owner:="set_iterator") (n:="__next__") (by rw[J1,J2];kernel_rfl) (by decide+kernel) (by decide+kernel) (by decide+kernel) (by first|exact .inl (by decide+kernel)|exact .inr (by decide+kernel)) (by rw[J3];kernel_rfl)
theorem bd3:Lr Ls "set_iterator.__next__"=G EA.«set_iterator.__next__»:=Y8 (by kernel_rfl)
theorem rK:bG1.lookup (sU ['r','o','t','a','r','e','t','i','_','t','e','s'].reverse)=G Manifest.sig_set_iterator:=by kernel_rfl
theorem bd4(a:A4):Jm "set_iterator.__next__" ⟨[a],[]⟩:=by unfold Jm;rw[gq (id:="set_iterator.__next__") (n:=['_','_','t','x','e','n','_','_']) (o:=['r','o','t','a','r','e','t','i','_','t','e','s']) (by kernel_rfl) rK];kernel_rfl
theorem bd5:Lr Ls "set.__iter__"=G EA.«frozenset.__iter__»:=uU (id':="frozenset.__iter__") ((VG _).trans (by kernel_rfl)) (by kernel_rfl) (by decide+kernel) ((VG _).trans (by kernel_rfl))
noncomputable def RG(w:F7)(T:A8)(N:BW (AX×A4))(ep:O)(t:G3)(a AE:A8)(h:BK)(ord:I (AX×A4))(i:O)(first:A4):Prop:=(w.params.followText "set-order"=M/\ord=(Yb (w.params.setOrder a ep) N).toList/\∃k:O,first=.int k 0)\/(w.params.followText "set-order"=A6/\N.size<=1/\t.led=M/\ord=N.toList/\∃k:O,first=.int k 0/\gr t.place k=i)\/(∃o us n ps,first=.ref T/\T≠AE/\h.get? T=G o/\o.data=.seq us n/\us.toList=(ps:I O).map (λ(p:O)=>V2 p 0)/\ord.length=ps.length/\∀(j p:O),ps[j]?=G p->∃e,N[p]?=G e/\ord[j]?=G e)
structure SW(w:F7)(T a AE:A8)(N:BW (AX×A4))(ep:O)(t:G3)(ord:I (AX×A4))(i:O)(h:BK):Prop where
 set:h.get? a=G {cls:=.type "set",dict:=L,data:=.set N ep t}it:∃first,h.get? AE=G {cls:=.type "set_iterator",dict:=L,data:=.fields #[first,.int i 0,.ref a,.int N.size 0,.int ep 0]}/\RG w T N ep t a AE h ord i first
theorem rL:gr #[j] 0=0/\gr #[j] (j+1)=1:=by constructor<;>simp[gr,bS3]
theorem rM{t:G3}(this:t.place.size=1):∃j,t.place=#[j]:=by
 refine⟨t.place[0],Array.ext this λn h1 h2=>?_⟩;have :n=0:=by simp at h2;exact h2
 subst this;rfl
theorem eP{A2:AK->AR->Prop}(h:A2 (w.params.followText "set-order") s):AH (AQ prog w) A setsByText A2 E s:=A5 (R_ (AW h))
theorem bd6{T:A8}{N:BW (AX×A4)}{k:O}{t:G3}(ho:s.heap.get? a=G {cls:=.type "set",dict:=L,data:=.set N ep t})(hf:t.fits N.size=M)(hF:RG w T N ep t a AE Af ord i (.int k 0)){A2:AD (A4×O)->AR->Prop}(hs:∀e(k':O),ord[i]?=G e->(∀h,RG w T N ep t a AE h ord (i+1) (.int k' 0))->A2 (G (e.2,k')) s)(hn:ord[i]?=L->A2 L s):AH (AQ prog w) A (uV a k i ep) A2 E s:=by
 unfold uV;refine A5 (Ya ho rfl hf ?_);skip;refine A5 (eP ?_);rcases hF with Aw|B6|BJ;refine II Aw ?_;(try clear Aw);intro hb Cn k' _;subst Cn;rotate_left;refine iA B6 ?_;(try clear B6);intro hb h1 hl D8 k' hk bd7;subst D8;rotate_left;refine Jv BJ ?_;(try clear BJ);intro o us n ps hT _;rotate_left
 . rw[hb];simp only[↓uW];rw[CS (by simp)];refine A5 ?_;unfold setWalk;refine A5 (Ya ho rfl hf ?_);skip;refine A5 (eP ?_);rw[hb];skip;refine A5 (R_ (AW ?_));refine AW ?_;show A2 (gJ _ (Yb (w.params.setOrder a ep) N)[i]?) s;cases hx:(Yb (w.params.setOrder a ep) N)[i]? with
 |none=>exact hn (by rw[Rs];exact hx)|some e=>exact hs e k (by rw[Rs];exact hx) λh=>.inl ⟨hb,rfl,k,rfl⟩
 . rw[hb];simp only[Ki,↓uW];injection hk with hk;have hk:=bS4 hk;subst hk;refine PW (λG_=>?_) (λ_=>?_)
   . have :(!t.plain&&decide (N.size>1))=M:=G_;simp at this;omega
   show AH _ _ ((if(!t.led&&!N.isEmpty)=M then RW "set:maker-not-led"else pure ())>>=_) _ _ s;rw[hl];refine A5 (AW ?_);have hp:t.place.size=N.size:=by have :=hf;simp only[bG2,D6,Rc]at this;exact this.1
   refine AW ?_;rw[bd7];cases hx:N[i]? with
 |none=>exact hn (by rw[Rs];exact hx)|some e=>
     have hi:i<N.size:=(gG.mp hx).1;have h0:i=0:=by(with_reducible exact Mine.vV (by assumption) (by assumption))
     subst h0;refine xE (rM (t:=t) (by(with_reducible exact Mine.vW (by assumption) (by assumption) (by assumption)))) ?_;intro j hj;obtain⟨h,x⟩:=e;rw[hj];exact hs (h,x) (j+1) (by rw[Rs];exact hx) λh=>.inr (.inl ⟨hb,h1,hl,rfl,j+1,rfl,by rw[hj];exact rL.2⟩)
 . (exfalso;cases hT)
theorem RG.el{T:A8}{N:BW (AX×A4)}{t:G3}{first:A4}(F:RG w T N ep t a AE h ord i first){P:Prop}(c1:∀k:O,first=.int k 0->P)(c2:∀o us n ps,first=.ref T->T≠AE->h.get? T=G o->o.data=.seq us n->us.toList=(ps:I O).map (λ(p:O)=>V2 p 0)->ord.length=ps.length->(∀(j p:O),ps[j]?=G p->∃e,N[p]?=G e/\ord[j]?=G e)->P):P:=F.elim (λF=>II F λ_ _ k e=>c1 k e) λF=>F.elim (λF=>iA F λ_ _ _ _ k e _=>c1 k e) λF=>Jv F λo us n ps e r=>S1 r λa b d f g l=>c2 o us n ps e a b d f g l
theorem Ub{j:A8}{v:A4}{vs:BW A4}(g:h.get? AE=G {cls:=.type "set_iterator",dict:=L,data:=.fields vs}):(h.update AE (Ru (·.setIfInBounds j v))).get? AE=G {cls:=.type "set_iterator",dict:=L,data:=.fields (vs.setIfInBounds j v)}:=FQ (Ru (·.setIfInBounds j v)) g rfl
theorem rN{T:A8}{N:BW (AX×A4)}{t:G3}(hh:A.handled=L)(hf:t.fits N.size=M)(hI:a≠AE)(A_:SW w T a AE N ep t ord i s.heap){A2:AD A4->AR->Prop}(h1:∀e,ord[i]?=G e->∀Q,SW w T a AE N ep t ord (i+1) Q->E3 AE s.heap Q->A2 (G e.2) {s with heap:=Q})(h2:ord[i]?=L->∀Q,Dq AE s.heap Q->A2 L {s with heap:=Q}):AH (AQ prog w) A (ER (.ref AE)) A2 E s:=by
 obtain⟨ho,first,Bz,hF⟩:=A_;have hT:s.TypeIs (.ref AE) "set_iterator":=⟨_,Bz,rfl⟩;unfold ER;refine A5 (Rk (Lq (name:=Eu "__next__") hT Xm (Gj Xm hT bd3 ?_ (bd4 _))));refine A5 (AW ?_);refine A5 (wpAny_fieldsOf Bz rfl ?_);show AH _ _ (setEntries a>>=_) _ _ s;refine A5 (bG3 ho rfl hf ?_);rw[CS (by simp)];have rO:ord[i]?=L->∀(s':AR)(hb:Dq AE s.heap s'.heap)(he:s'={s with heap:=s'.heap}),AH (AQ prog w) A.in1 (g9 (.type "StopIteration") []>>=λe=>gm e) (λfin s'=>∃v,fin=Fin.done (Flow.ret v)/\AH (AQ prog w) A (match Except.ok (G v)with|.ok (G v)=>pure (G v)|.ok L=>RW "iter:the-iterator's-class-has-lost-its-__next__-amid-the-walk"|.error e=>do if<-Uz e (.type "StopIteration")then pure L else throw e) A2 E s') (λe s'=>AH (AQ prog w) A (match(Except.error e:Except A4 (AD A4))with|.ok (G v)=>pure (G v)|.ok L=>RW "iter:the-iterator's-class-has-lost-its-__next__-amid-the-walk"|.error e=>do if<-Uz e (.type "StopIteration")then pure L else throw e) A2 E s') s':=by
   intro hx s' hb he;refine A5 ?_;simp only[g9,YE];refine A5 (IB ?_ (by size_fits));refine A5 (m:=V' _ _) (NV (a:=Hf) (by first|rfl|(simp only[V'];rfl)) ?_);refine IB ?_ (by size_fits);simp only[gm];refine A5 (tJ ?_);rw[show A.in1.handled=L from hh];refine A5 (AW (gA ?_));refine A5 (Lw (T:="StopIteration") (b:=M) ⟨_,CY _ rfl,rfl⟩ gB ?_);rw[he];exact AW (h2 hx _ ((hb.push _).push _))
 refine hF.el (λk e=>?_) λo us n ps e RH rP hd rQ hl hp=>?_
 . subst e;show AH _ _ (uV a k i ep>>=_) _ _ s;refine A5 (bd6 ho hf hF (λe k' he hF'=>?_) λhx=>?_)
   . refine A5 (Lv Bz rfl (by simp) ?_);refine A5 (Lv (s:={s with heap:=_}) (Ub Bz) rfl (by simp) ?_);refine AW ⟨_,rfl,AW (h1 e he _ ⟨?_,.int k' 0,Ub (Ub Bz),hF' _⟩ ((Fg ..).trans (Fg ..)))⟩;rw[GN _ _ (CX hI),GN _ _ (CX hI)];exact ho
   . refine A5 (Lv Bz rfl (by simp) ?_);exact rO hx _ (Fg ..).extBut rfl
 . subst e;show AH _ _ (Nb (.ref T)>>=_) _ _ s;refine A5 (Nc rP hd ?_);have hui:us[i]?=(ps[i]?).map λ(p:O)=>V2 p 0:=by rw[<-Rs,rQ,VC]
   dsimp only;rw[g7,hui];cases rR:ps[i]? with
 |some p=>
     refine AC (hp i p rR) ?_;intro e Xd he2;refine A5 (A5 (Ya ho rfl hf ?_));dsimp only;rw[CS (by simp)];rw[g7,Xd];refine AW ?_;refine A5 (Lv Bz rfl (by simp) ?_);refine AW ⟨_,rfl,AW (h1 e he2 _ ⟨?_,.ref T,Ub Bz,.inr (.inr ⟨o,us,n,ps,rfl,RH,?_,hd,rQ,hl,hp⟩)⟩ (Fg ..))⟩;. rw[GN _ _ (CX hI)];exact ho
     . rw[GN _ _ (CX RH)];exact rP|none=>
     refine A5 (Lv Bz rfl (by simp) ?_);refine A5 (Lv (s:={s with heap:=_}) (Ub Bz) rfl (by simp) ?_);exact rO (V9 (hl▸fY.mp rR)) _ ((Fg ..).trans (Fg ..)).extBut rfl
end
end
section
open PyProof.Rows
section
theorem eQ{N:BW J}:∀{ys:I O},(∀p∈ys,p<N.size)->(ys.filterMap λp=>N[p]?).map G=ys.map λp=>N[p]?
 |[],_=>rfl|p::ys,h=>by
  have hp:=h p (Cp ..);rw[bx5 (Ro hp),J',J',eQ λq m=>h q (Cq _ m),Ro hp]
theorem bd8{N:BW J}{ys:I O}(h:∀p∈ys,p<N.size):(ys.filterMap λp=>N[p]?).length=ys.length:=by have :=congrArg Rm (eQ h);simpa using this
theorem bd9{N:BW J}{ys:I O}(h:∀p∈ys,p<N.size):(ys.filterMap λp=>N[p]?)[j]?=(ys[j]?).bind λp=>N[p]?:=by
 have :=congrArg (λl=>l[j]?) (eQ h);simp only[VC]at this;cases h1:ys[j]? with
 |none=>rw[h1]at this;simpa using this|some p=>rw[h1]at this;cases h2:(ys.filterMap λp=>N[p]?)[j]? with
 |none=>rw[h2]at this;simp at this|some e=>rw[h2]at this;simpa using this
theorem be0{N:BW (AX×A4)}{t:G3}{P:I U}(ho:s.heap.get? a=G {cls:=.type "set",dict:=L,data:=.set N ep t})(T:NF prog w (!w.params.followText "set-order") N t P)(hQ:∀(AE T:A8)(ord:I (AX×A4))(Q:BK)(dr:_),s.heap.get? AE=L->(T=a\/s.heap.get? T=L)->T≠AE->ord.Perm N.toList->SW w T a AE N ep t ord 0 Q->(∀b o,s.heap.get? b=G o->Q.get? b=G o)->A2 (.ref AE) {s with heap:=Q,drawn:=dr}):AH (AQ prog w) A (PQ (.ref a)) A2 E s:=by
 have hT:s.TypeIs (.ref a) "set":=⟨_,ho,rfl⟩;have hz:N.size<=F9:=gn T.sz;refine uX hT bG4 (Gj bG4 hT bd5 ?_ (F.args_set_iter_1 _));skip;refine A5 (show AH _ _ (pure a) _ _ s from AW ?_);refine A5 (show AH _ _ (setEntries a>>=_) _ _ s from A5 (bG3 ho rfl T.fits (AW ?_)));refine A5 ?_;skip;refine A5 (Ya ho rfl T.fits ?_);dsimp only;refine A5 (eP (AW ?_));have fin:∀(Tp:A8)(first:A4)(AJ:AR)(ord:I (AX×A4)),ord.Perm N.toList->(∀b o,s.heap.get? b=G o->AJ.heap.get? b=G o)->AJ={s with heap:=AJ.heap,drawn:=AJ.drawn}->(∀h,(∀b o,AJ.heap.get? b=G o->h.get? b=G o)->RG w Tp N ep t a AJ.heap.objs.size h ord 0 first)->(Tp=a\/s.heap.get? Tp=L)->Tp≠AJ.heap.objs.size->AH (AQ prog w) A.in1 (setEpoch a>>=λe=>newFields "set_iterator" [first,ES 0,.ref a,ES N.size,ES e]>>=λv=>ret v) (λfin s'=>∃v,fin=.done (.ret v)/\∃T' r,s'.TypeIs v T'/\Pb (.type T') "__next__"=pure (G r)/\A2 v s') E AJ:=by
  intro Tp first AJ ord hp kp he hF WV RH;refine A5 (wpAny_setEpoch_of (kp _ _ ho) rfl T.fits ?_);refine A5 (IB ?_);refine AW ⟨_,rfl,"set_iterator",_,⟨_,CY _ rfl,rfl⟩,Xm.lookup,?_⟩;have hn:s.heap.get? AJ.heap.objs.size=L:=by cases e:s.heap.get? AJ.heap.objs.size with
 |none=>rfl|some o=>exact absurd (Dg (kp _ _ e)) (Ix _)
  have :=hQ AJ.heap.objs.size Tp ord (AJ.heap.push {cls:=.type "set_iterator",dict:=L,data:=.fields #[first,.int 0 0,.ref a,.int N.size 0,.int ep 0]}) AJ.drawn hn WV RH hp ⟨C1 _ (kp _ _ ho),first,CY _ rfl,hF _ λb o e=>C1 _ e⟩ λb o e=>C1 _ (kp _ _ e);rw[he];exact this
 cases hb:w.params.followText "set-order"with
 |true=>
  simp only[bC0,Bool.false_and,Ki,↓uW];refine A5 (AW (fin a _ s _ bd2 (λ_ _ e=>e) rfl (λh _=>.inl ⟨hb,rfl,0,rfl⟩) (.inl rfl) (EQ (Dg ho))))|false=>
  simp only[Bool.not_false,Bool.true_and];refine PW (λG_=>?_) (λG_=>?_)
  . refine A5 (rI N.size (DT N.size) s (by simp) λys dr hp=>?_);have hl:ys.length=N.size:=by rw[hp.length_eq,bv1]
    refine A5 (gX ?_ (by rw[Jl,hl];exact hz));have CF:∀p∈ys,p<N.size:=λp m=>Pf.mp (hp.mem_iff.mp m);refine fin s.heap.objs.size _ _ (ys.filterMap λp=>N[p]?) ?_ (λb o e=>C1 _ e) rfl (λh k=>.inr (.inr ⟨_,_,_,ys,rfl,?_,k _ _ (CY _ rfl),rfl,?_,?_,?_⟩)) (.inr (GD s.heap)) ?_
    . have :=hp.filterMap λp=>N[p]?;rw[filterMap_getElem?_range]at this;exact this
    rotate_left 4
    . show s.heap.objs.size≠(bG5 _ _).objs.size;rw[IC];exact EQ (PO _)
    . show s.heap.objs.size≠(bG5 _ _).objs.size;rw[IC];exact EQ (PO _)
    . simp[ES]
    . exact bd8 CF
    . intro j p rT;have R4:p<N.size:=CF p (Ev rT);exact⟨N[p],Ro R4,by rw[bd9 CF,rT];exact Ro R4⟩
  . have :(!t.plain&&decide (N.size>1))=A6:=by cases q:(!t.plain&&decide (N.size>1))with
 |false=>rfl|true=>exact absurd q G_
    have h1:N.size<=1:=by
      rcases T.plain with z|z;. omega
      . rw[z]at this;simp at this;exact this
    refine A5 (AW (fin a _ s _ (.refl _) (λ_ _ e=>e) rfl (λh _=>.inr (.inl ⟨hb,h1,?_,rfl,0,rfl,?_⟩)) (.inl rfl) (EQ (Dg ho))));. rw[T.led,hb];rfl
    . have hp:t.place.size=N.size:=by have :=T.fits;simp only[bG2,D6,Rc]at this;exact this.1
      by_cases h0:N.size=0
      . have :t.place=#[]:=bt2 (by(with_reducible exact tv (by assumption) (by assumption)));rw[this];rfl
      . refine xE (rM (t:=t) (by(with_reducible exact Mine.vL (by assumption) (by assumption) (by assumption)))) ?_;intro j hj;rw[hj];exact rL.1
theorem SW.frame{T:A8}{N:BW (AX×A4)}{t:G3}(A_:SW w T a AE N ep t ord i h)(k:∀b∈[AE,a,T],∀o,h.get? b=G o->Q.get? b=G o):SW w T a AE N ep t ord i Q:=by
 obtain⟨ho,first,Bz,hF⟩:=A_;refine⟨k a (by simp) _ ho,first,k AE (by simp) _ Bz,?_⟩;rcases hF with x|x|B6;rotate_left;rotate_left;refine VL B6 ?_;(try clear B6);intro o us n ps e ne g r;rotate_left;. exact .inl x
 . exact .inr (.inl x)
 . exact .inr (.inr ⟨o,us,n,ps,e,ne,k T (by simp) _ g,r⟩)
theorem rU:Ly "set_iterator" "__iter__" "set_iterator.__iter__":=.of (owner:="set_iterator") (n:="__iter__") (by rw[J1,J2];kernel_rfl) (by decide+kernel) (by decide+kernel) (by decide+kernel) (by first|exact .inl (by decide+kernel)|exact .inr (by decide+kernel)) (by rw[J3];kernel_rfl)
theorem be1:Lr Ls "set_iterator.__iter__"=G EA.«dict_keyiterator.__iter__»:=uU (id':="dict_keyiterator.__iter__") ((VG _).trans (by kernel_rfl)) (by kernel_rfl) (by decide+kernel) ((VG _).trans (by kernel_rfl))
theorem be2(a:A4):Jm "set_iterator.__iter__" ⟨[a],[]⟩:=by unfold Jm;rw[gq (id:="set_iterator.__iter__") (n:=['_','_','r','e','t','i','_','_']) (o:=['r','o','t','a','r','e','t','i','_','t','e','s']) (by kernel_rfl) rK];kernel_rfl
theorem be3{T:A8}{N:BW (AX×A4)}{t:G3}(hh:A.handled=L)(hf:t.fits N.size=M)(hI:a≠AE)(hl:ord.length=N.size):WalksS prog w A AE [AE,a,T] [AE] (λa b=>b=a) N.size (λi v=>∃e,ord[i]?=G e/\v=e.2) (λi s=>T≠AE/\SW w T a AE N ep t ord i s.heap)where
 sub:=λb hb=>by simp at hb;simp[hb]
 grefl:=λ_=>rfl;gtrans:=λ_ _ _ h1 h2=>h2.trans h1;frame:=λi s Q tk st _ k=>⟨st.1,st.2.frame k⟩;item:=λi s A2 E hi st hQ=>rN hh hf hI st.2 (λe he Q W' sb=>hQ _ _ ⟨e,he,rfl⟩ ⟨st.1,W'⟩ ⟨λb o hb e=>(sb.2 b (λz=>hb (by simp[z]))).trans e,rfl,rfl,rfl,DE _⟩) λhx=>absurd (fY.mp hx) (Nat.not_le.mpr (hl▸hi));done:=λs A2 E st hQ=>rN hh hf hI st.2 (λe he=>absurd (HJ.mp he).1 (hl▸Ix _)) λ_ Q eb=>hQ _ ⟨λb o hb e=>eb b o (λz=>hb (by simp[z])) e,rfl,rfl,rfl,DE _⟩;self:=λi s A2 E st hQ=>by
  obtain⟨_,ho,first,Bz,_⟩:=st;have hT:s.TypeIs (.ref AE) "set_iterator":=⟨_,Bz,rfl⟩;refine uX hT rU (Gj rU hT be1 ?_ (be2 _));show AH _ _ (ret (.ref AE)) _ _ s;exact AW ⟨_,rfl,"set_iterator",_,hT,Xm.lookup,hQ⟩
theorem be4{r:A8}{A2:AK->AR->Prop}(hT:s.TypeIs (.ref r) "set")(h:A2 A6 s):AH (AQ prog w) A (gt (.ref r)) A2 E s:=by
 unfold gt;refine A5 (YG hT F.slot_set_len.lookup ?_);generalize rW:("set.__len__":D9)=id0;wp_delta;rw[show g6 id0=G ("set","__len__")from by subst rW;decide+kernel];subst rW;refine A5 (Lw (T:="set") (b:=M) hT sub_set_self ?_);refine PW (λG_=>absurd G_ (by decide)) (λ_=>?_);refine PW (λ_=>?_) (λG_=>absurd (by decide+kernel) G_);refine A5 (Rq hT ?_);exact AW h
theorem be5{N:I (AX×A4)}(h:∀e∈N,∃x u,e.2=.str x u):M1 (N.map (·.2)) (N.map λe=>strOf e.2):=by induction N with
 |nil=>exact .nil|cons e N ih=>
 refine DA (h e (Cp ..)) ?_;intro x u q;simp only[J',q];exact .cons x u (ih λe m=>h e (Cq _ m))
theorem be6{P:I U}(hh:A.handled=L)(hS:HH prog w (!w.params.followText "set-order") s.heap a P){AS:I A4->AR->Prop}(hR:∀(vs:I A4)(ss:I U)(s':AR),M1 vs ss->ss.Nodup->(∀x,x∈ss↔x∈P)->(∀b o,s.heap.get? b=G o->s'.heap.get? b=G o)->s'.gens=s.gens->s'.os=s.os->AS vs s'):AH (AQ prog w) A (Y9 (.ref a)) AS E s:=by
 refine Hm hS ?_;(try clear hS);intro N ep t ho T;have hz:N.size<=F9:=gn T.sz;have eR:a≠s.heap.objs.size:=EQ (Dg ho);unfold Y9;refine A5 (uN (J0 entry_proto_collect' ?_));skip;show AH _ A.in1 (sv []>>=λl=>Kh (.builtin "list.__iadd__" ⟨[l,.ref a],[]⟩)) _ _ s;refine A5 (IB ?_);refine AW ⟨plainId_quiet F.plain_list_iadd _,J0 entry_list_iadd' ?_⟩;skip;have Uc:(s.heap.push {cls:=.type "list",data:=.seq ([]:I A4).toArray}).get? s.heap.objs.size=G {cls:=.type "list",data:=.seq #[]}:=CY _ rfl;have OW:(s.heap.push {cls:=.type "list",data:=.seq ([]:I A4).toArray}).get? a=G {cls:=.type "set",dict:=L,data:=.set N ep t}:=C1 _ ho;show AH _ A.in1 (Yc (.ref s.heap.objs.size) (.ref a) (.ref s.heap.objs.size)) _ _ _;unfold Yc;refine A5 (Rq (T:="set") ⟨_,OW,rfl⟩ ?_);have h1:gu (.ref s.heap.objs.size) (.ref a)=A6:=by simp[gu,CX eR]
 have h2:(Ko "set"==Ko "list")=A6:=by decide
 have h3:(Ko "set"==Ko "tuple")=A6:=by decide
 simp only[h1,h2,h3,bG6,Ki,Kj];refine A5 (be0 (s:={s with heap:=s.heap.push {cls:=.type "list",data:=.seq ([]:I A4).toArray}}) OW T λAE Tp ord Q dr PG eS RH hp A_ kp=>?_);have PG:(s.heap.push {cls:=.type "list",data:=.seq ([]:I A4).toArray}).get? AE=L:=PG;have eS:Tp=a\/(s.heap.push {cls:=.type "list",data:=.seq ([]:I A4).toArray}).get? Tp=L:=eS;have kp:∀b o,(s.heap.push {cls:=.type "list",data:=.seq ([]:I A4).toArray}).get? b=G o->Q.get? b=G o:=kp;have hl:ord.length=N.size:=by rw[hp.length_eq,V8]
 have hIa:a≠AE:=λz=>by rw[<-z,OW]at PG;(exfalso;cases PG)
 have LL:s.heap.objs.size≠AE:=λz=>by rw[<-z,Uc]at PG;(exfalso;cases PG)
 have hTS:s.heap.objs.size≠Tp:=by
   rcases eS with z|z;. rw[z];exact CX eR
   . intro q;rw[<-q,Uc]at z;(exfalso;cases z)
 have NG:s.heap.objs.size∉[AE,a,Tp]:=by simp only[Ck,Jp,Jq,gT];exact⟨LL,CX eR,hTS⟩
 have hW:=be3 (prog:=prog) (w:=w) (A:=A.in1) (ep:=ep) (T:=Tp) (by simp[hh]) T.fits hIa hl;have key:∀(h:BK)(eU:O),SW w Tp a AE N ep t ord 0 h->(∀b o,b≠s.heap.objs.size->Q.get? b=G o->h.get? b=G o)->h.get? s.heap.objs.size=G {cls:=.type "list",data:=.seq #[] eU}->D7 (AQ prog w) A (.builtin "list.extend.loop" ⟨[.ref s.heap.objs.size,.ref AE,.ref s.heap.objs.size],[]⟩) (λq s'=>match q with
 |.ok (.ret v)=>AH (AQ prog w) A (match v with
 |.ref a=>load a>>=λo=>match o.data with
      |.seq Y _=>pure Y.toList|_=>RW "internal:collect"
 |_=>RW "internal:collect") AS E s'|.ok _=>Bi|.error e=>E e s') {s with heap:=h,drawn:=dr}:=by
   intro h eU HC hk Uc;refine codeAny_extend_loopS hW hz _ NG _ N.size 0 _ #[] eU rfl (Nf _) ⟨RH,HC⟩ Uc (ItemsOf.nil _) λs' I_ c' hm Fa OX=>?_;show AH _ A (load s.heap.objs.size>>=_) _ _ _;refine A5 (NT Fa (AW ?_));have hv:I_.toList=ord.map (·.2):=by
    refine List.ext_getElem? λj=>?_;rw[Rs,VC];cases q:I_[j]? with
 |none=>
     have :N.size<=j:=by rw[<-OX.1];simpa using q
     rw[V9 (by rw[hl];exact this)];rfl|some v=>refine AC (OX.2 j v q) ?_;intro e he Aw;clear q;subst Aw;rw[he];rfl
   rw[hv];have eV:∀e∈ord,∃x u,e.2=.str x u:=λe m=>T.str e (hp.mem_iff.mp m);have rX:(ord.map λe=>strOf e.2).Perm (Lh N):=hp.map _;refine hR _ _ s' (be5 eV) (rX.nodup_iff.mpr T.nd) (λx=>(rX.mem_iff).trans (T.mem x)) (λb o e=>?_) hm.gens hm.os;have DQ:(s.heap.push {cls:=.type "list",data:=.seq ([]:I A4).toArray}).get? b=G o:=C1 _ e;refine hm.heap b o (λz=>?_) (hk b o (EQ (Dg e)) (kp b o DQ));rcases Ck.mp z with z|z;. exact absurd (Dg e) (by rw[z];exact Ix _)
   . rw[CI.mp z,PG]at DQ;exact(BE DQ).elim
 have RI:=kp _ _ Uc;refine A5 (C0 (be4 ⟨_,kp _ _ OW,rfl⟩ ?_));refine PW (λ_=>?_) (λ_=>AW ⟨plainId_quiet uY _,key _ 0 A_ (λb o _ e=>e) RI⟩);refine A5 (Gi ?_);refine A5 ?_;show AH _ _ (Rr s.heap.objs.size (·.push .none)>>=λ_=>Rr s.heap.objs.size (·.pop)) _ _ _;refine A5 (Nd RI rfl ?_);have Ud:=FQ (GL (·.push Hf)) RI rfl;refine Nd (hz:=by seq_fits) Ud rfl ?_;have eY:=FQ (GL (·.pop)) Ud rfl;refine AW ⟨plainId_quiet uY _,key _ _ ?_ (λb o hb e=>?_) eY⟩
 . refine A_.frame λb hb o e=>?_;have rY:b≠s.heap.objs.size:=λh=>NG (h▸hb);exact(GN _ _ (CX rY)).trans ((GN _ _ (CX rY)).trans e)
 . exact(GN _ _ (CX hb)).trans ((GN _ _ (CX hb)).trans e)
end
end
open PyProof.Rows(StrsAre sortedS risingS)
section
theorem be7{x:A4}(hl:l.length<60)(hc:∀(AS:I A4->AR->Prop)(E:A4->AR->Prop),(∀vs ss s',M1 vs ss->(ss.map tx).Perm l->(∀b o,s.heap.get? b=G o->s'.heap.get? b=G o)->s'.gens=s.gens->s'.os=s.os->AS vs s')->AH (AQ prog w) A.in1 (Y9 x) AS E s)(hQ:∀(D:A8)(us:BW A4)(s':AR)(e:O),s.heap.get? D=L->s'.heap.get? D=G {cls:=.type "list",data:=.seq us e}->(∀b o,s.heap.get? b=G o->s'.heap.get? b=G o)->s'.gens=s.gens->s'.os=s.os->(∀h C,Aa h C ((E_ l).map .str) us.toList)->A2 (.ref D) s'):AH (AQ prog w) A (call (.builtin "sorted") [x]) A2 E s:=by
 refine bA1 bA2 bA3 bA4 (bA5 _) ?_;skip;refine A5 (m:=checkCount "sorted" 1 1 _) (AW ?_);refine A5 (hc _ _ λvs ss s' hS hp kp hg ho=>?_);have Ch:vs.length=l.length:=by
   have h1:=hp.length_eq;have h2:vs.length=ss.length:=by clear hp h1;induction hS with|nil=>rfl|cons _ _ _ ih=>simp[ih]
   simp at h1;(with_reducible exact tv (by assumption) (by assumption))
 have hn:s.heap.get? s'.heap.objs.size=L:=by cases e:s.heap.get? s'.heap.objs.size with
 |none=>rfl|some o=>exact absurd (Dg (kp _ _ e)) (Ix _)
 refine A5 (tw ?_ (by rw[Ch];exact B4 (show l.length<=60 by(with_reducible exact Gg (by assumption))) (by decide)));have KC:(s'.heap.push {cls:=.type "list",data:=.seq vs.toArray}).get? s'.heap.objs.size=G (tz "list" vs.toArray 0):=CY _ rfl;refine A5 (C0 (Gj u0 ⟨_,KC,rfl⟩ u4 (bA6 bA7 KC hS.keysOf (λHt an2 C4 e=>bA8 (by rw[<-e];exact hS)) (by omega) λbk a1 a2=>⟨_,rfl,?_⟩) (u5 _)));refine CZ (bA9 hS a1 a2) ?_;intro OY h1 h2 h3;have key:OY.map tx=E_ l:=mV h3 ((h2.map tx).trans hp);refine xE (u6 (vs:=vs) (out:=(bB0 bk).map (·.2)) KC) ?_;intro e he;refine AW ⟨_,rfl,hQ s'.heap.objs.size _ _ e hn he (λb o q=>?_) hg ho λh C=>?_⟩
 . have lt:=Dg (kp _ _ q);rw[u7 (EQ lt) (by rw[IC];exact fE lt)];exact C1 _ (kp _ _ q)
 . rw[<-key];exact bj h1
end
section
variable{CR:Kx->Cd->Mine.St->AD A0}
theorem Gd.be8(g:Gd B F K A H C s)(hh:s'.heap=s.heap)(ho:s'.os=s.os)(hg:s'.gens=s.gens):Gd B F K A H C s':=⟨g.kinds,g.len,g.nodup,g.fresh,hh▸g.live,hh▸g.D5,hh▸g.D2,hh▸g.objs,hh▸g.env,hh▸g.base,ho.trans g.os,hg.trans g.gens,g.frames,hh▸g.DP,hh▸g.Cz,g.mods,g.handled,g.depth,g.units⟩
theorem rZ{Bk:Gl B A3}{y:AA}{w:A4}(hg:Dh K.sc id=M)(hw:Ah A3.glob id=G (.top w))(hc:∀h,CW (AQ B.prog B.w) h w)(hp:CP y=M)(g:Gd B F K A H C s)(h:∀BG EM,Gd B F K A H BG EM->Nx F.D [] s.heap EM.heap C BG->AH (AQ B.prog B.w) A (eval y F.env) (λu s'=>AH (AQ B.prog B.w) A (CE w [u]) A2 E s') E EM):AH (AQ B.prog B.w) A (eval (.Call (.Name id p) [y] [] pos) F.env) A2 E s:=by exact Wd (Bk:=Bk) hg hw (show(CP y&&M)=M by rw[hp];rfl) g λAZ AJ AN Ab=>Ln (Ff (h AZ AJ AN Ab) (λu s' q=>Uk ⟨hc _,q⟩) λ_ _ e=>e) (K6 hp)
set_option tactic.hygienic true in
theorem Xn:∀{l:I Tx}{x:Tx},x∈Hp l↔x∈l
 |[],x=>VB|y::l,x=>by
  unfold Hp;split
  . rename_i h;refine AC (ID.mp h) ?_;intro z hz e;rw[Xn,Ck];refine⟨.inr,λq=>q.elim (λq=>?_) id⟩;rw[q,Eb.mp e];exact Xn.mp hz
  . rw[Ck,Xn,Ck]
set_option tactic.hygienic true in
theorem e_:∀{l:I Tx},(Hp l).Nodup
 |[]=>HK|y::l=>by
  unfold Hp;split;. exact e_
  . rename_i h;refine ET.mpr ⟨λm=>?_,e_⟩;have :=Y4.mp h y m;exact this (Eb.mpr rfl)
theorem ec:∀{l:I Tx},(Hp l).length<=l.length
 |[]=>DE _|y::l=>by
  unfold Hp;split;. exact ge ec
  . exact Lk ec
theorem be9:Function.Injective tx:=λa b h=>by
 obtain⟨⟨a⟩⟩:=a;obtain⟨⟨b⟩⟩:=b;have :a=b:=h;rw[this]
theorem bf0{ss:I U}(nd:ss.Nodup)(hm:∀x,x∈ss↔x∈l.map λx=>(⟨⟨x⟩⟩:U)):(ss.map tx).Perm (Hp l):=by
 refine(bE2 ?_ e_).mpr λx=>?_
 . rw[uF,fk];exact nd.imp λh e=>h (be9 e)
 . rw[Xn,E'];constructor
   . rintro⟨y,hy,rfl⟩;refine AC (E'.mp ((hm y).mp hy)) ?_;intro z hz Aw;subst Aw;exact hz
   . intro hx;exact⟨⟨⟨x⟩⟩,(hm _).mpr (E'.mpr ⟨x,hx,rfl⟩),rfl⟩
theorem bf1{f x:AA}{args:I AA}(h:Zn f args=G x):∃p p2 Ue,f=.Name Q7 p/\args=[.Call (.Name Zk p2) [x] [] Ue]:=by
 apply Ct h AF;intro c h;apply M3 h AF;intro g a k pos h;apply Ct h AF;intro y h;apply EV h AF;intro h;refine Ce h AF λq h=>?_;apply Q_ (B1 q);intro p;apply Q_ (Ak q);intro p2;apply Br h.symm;exact⟨p,p2,pos,rfl,rfl⟩
theorem r_(AV:(Bb P).In B.base):bt B (Fu on CR):=by
 intro n A9 K f x args pos v F A H A7 C s hp hf hs h g A2 E k;refine Hm (bf1 hs) ?_;intro p p2 Ue B6 BJ;subst B6;subst BJ;refine A0.Be h ?_;clear h;intro hc h;simp only[D6]at hc;refine xA hc ?_;(try clear hc);intro BP h3;refine xA BP ?_;(try clear BP);intro h1 h2;refine A0.Cg h ?_;clear h;intro w AB hx h;revert hx;apply A0.MQ h;clear h;intro i Y hi h hx;refine A0.Bx h ?_;clear h;intro l hl h;refine A0.Be h ?_;clear h;intro ed h;(first|(revert k;(first|apply BX h|apply B5 h|apply BY h|apply BZ h|apply B_ h);intro k)|apply BX h|apply B5 h|apply BY h|apply BZ h|apply B_ h);have ed:l.length<60:=Dj ed;refine rZ (A3:=Fu on CR) (Bk:=GH AV) h1 (w:=.builtin "sorted") (by kernel_rfl) (λ_=>CW.builtin) rfl g λBG EM F_ Cr=>?_;refine bW (A3:=Fu on CR) (Bk:=GH AV) (vs:=[.ref i]) (w:=.type "set") h2 (by kernel_rfl) (λ_=>CW.type) (by simp[h3]) F_ (λAZ AJ p AN Ab=>Wc h3 (A9.e hx AN) p) λus Au Ai AU Al BB=>?_;refine Bv BB ?_;(try clear BB);intro u us Bg ru e;subst Bg;cases e;refine Bv (AU.listAt ru hi) ?_;intro a us Bu pl vr;subst Bu;rw[OO hl]at vr;have eV:=mW vr;refine bd0 AU.handled (by simpa using pl.isList) eV (by rw[Jl];unfold Pg;(with_reducible exact Iw (Nat.succ_lt_succ (by assumption)) (by decide))) λQ tk hS kp=>?_;refine be7 (l:=Hp l) (H' ec ed) (λAS E k=>?_) λD Dw s' e hn hd Td hg ho hv=>?_;. refine be6 (by simp[AU.handled]) hS λvs ss s' hs nd hm kp hg ho=>k vs ss s' hs (bf0 nd hm) kp hg ho
 . have kk:∀b o,Ai.heap.get? b=G o->s'.heap.get? b=G o:=λb o e=>Td b o (kp b o e);have O6:Ai.heap.get? D=L:=by cases q:Ai.heap.get? D with
 |none=>rfl|some o=>have :=kp _ _ q;rw[hn]at this;exact(BE this).elim
   refine xA (AU.newList (tk:=Ai.toks) O6 hd kk hv) ?_;intro g' x';exact k _ _ _ (g'.be8 rfl ho hg) (Cr.trans (Al.trans x')) ⟨_,AU.LG,rfl⟩
end
noncomputable def rc(A9:As):AD As:=Rz A9 L λt b e _=>HP t L λc _ _=>l1 b L λb=>l0 e L (bT (decide (c=.bool M)) L (G b))
theorem bf2{b:As}(h:rc A9=G b):∃k p1 p2,A9=.While (.Constant (.bool M) k p1) [b] [] p2:=by
 apply hZ h AF;intro t b e p h;apply J4 h AF;intro c k p1 h;apply Ct h AF;intro b h;apply EV h AF;intro h;refine Ce h AF λq h=>?_;apply IG q;apply Br h.symm;exact⟨_,_,_,rfl⟩
section
variable{Av:I Tx}{tr N6 N7 if1 N8 N9 NA if2 NB NC ND NE:As}{t1 t2:AA}
theorem bf3(SB:Xg B)(SK:R6 K.sc)(D:eM tr N6 N7 if1 N8 N9 NA if2 NB NC ND NE tf Ky JJ JK K4 ext2 brk t1 t2)(hX:AG.length<=100000)(hY:An.length<=100000)(hF:F.outs=F.env::C4)(hf:F.env.frame=G F.env.locals):∀(m:O){i j:O}{Av CL:I Tx}{s:AR},AG.length-i+(An.length-j)<=m->m<=200000->i<=AG.length->j<=An.length->Av.length<=i->CL.length<=j->Gd B F K A ⟨Fe i j,DL AG An Av CL,4⟩ C s->Nx F.D F.A_ Af s.heap BG C->∀{AS:Dr->AR->Prop},(∀i' j' s',Gd B F K A ⟨Fe i' j',DL AG An (Av++(D4 m (AG.drop i) (An.drop j)).1) (CL++(D4 m (AG.drop i) (An.drop j)).2),4⟩ C s'->Nx F.D F.A_ Af s'.heap BG C->AS (.ok .next) s')->D7 (AQ B.prog B.w) A (.whileLoop (.Constant (.bool M) k0 p) [tr] [] F.env) AS s:=by
 intro m;induction m with
 |zero=>
  intro i j Av CL s hm hm2 hi hj hM hU g Cw AS kk;refine W7 (sg (s_ (NS ?_)));skip;exact DH (qx SB SK D hX hY (by(with_reducible exact Mine.vy (by assumption) (by assumption) (by assumption))) (by(with_reducible exact Mine.vJ (by assumption) (by assumption) (by assumption))) hi hj hm (by(with_reducible exact B4 (by assumption) (B4 (by assumption) (by assumption)))) (by(with_reducible exact B4 (by assumption) (B4 (by assumption) (by assumption)))) hF hf g Cw (λk i' j' M' U' s' hk=>by(exfalso;cases hk)) (λi' j' s' g' N'=>kk i' j' s' g' N'))|succ m ih=>
  intro i j Av CL s hm hm2 hi hj hM hU g Cw AS kk;refine W7 (sg (s_ (NS ?_)));skip;refine DH (qx SB SK D hX hY (by omega) (by(with_reducible exact Mine.vI (by assumption) (by assumption) (by assumption) (by assumption))) hi hj hm (by(with_reducible exact B4 (by assumption) (B4 (by assumption) (by assumption)))) (by(with_reducible exact B4 (by assumption) (B4 (by assumption) (by assumption)))) hF hf g Cw (λk i' j' M' U' s' hk h1 h2 h3 h4 h5 h6 h7 g' N'=>G1 ?_) (λi' j' s' g' N'=>kk i' j' s' g' N'));injection hk with hk;subst hk;exact ih h3 (by(with_reducible exact uP (by assumption))) h1 h2 (by(with_reducible exact Mine.iM (by assumption) (by assumption))) (by(with_reducible exact Mine.iM (by assumption) (by assumption))) g' N' λi'' j'' K_ PB UV=>kk i'' j'' K_ (by rw[h6,h7];exact PB) UV
end
noncomputable def I8(k:O):As:=(Fi (Ba 26))[k]?.getD (.Pass ⟨0,0,0,0⟩)
noncomputable def Fz(l:I As)(k:O):As:=l[k]?.getD (.Pass ⟨0,0,0,0⟩)
noncomputable def whB(A9:As):I As:=Rz A9 [] λ_ b _ _=>b
noncomputable def Xo(A9:As):I As:=Nj A9 [] λb _ _ _ _=>b
noncomputable def re(A9:As):I As:=Nj A9 [] λ_ _ _ f _=>f
noncomputable def ee(A9:As):I As:=Nj A9 [] λ_ h _ _ _=>l1 h [] λh=>Yi h λ_ _ b _=>b
noncomputable def RJ(A9:As):I As:=Jt A9 [] λ_ a _ _=>a
noncomputable def ef(A9:As):I As:=Jt A9 [] λ_ _ b _=>b
noncomputable def rf(A9:As):AA:=Jt A9 (.Constant .none 0 ⟨0,0,0,0⟩) λt _ _ _=>t
noncomputable def NI:As:=Fz (whB (I8 4)) 0
noncomputable def RK:As:=Fz (Xo NI) 2
noncomputable def PH:As:=Fz (ef RK) 0
noncomputable def Xp:As:=Fz (ef PH) 1
theorem bf4:Fi (Ba 26)=[I8 0,I8 1,I8 2,I8 3,I8 4,I8 5]:=by kernel_rfl
theorem bf5:eM NI (Fz (Xo NI) 0) (Fz (Xo NI) 1) RK (Fz (RJ RK) 0) (Fz (RJ RK) 1) (Fz (RJ RK) 2) PH (Fz (RJ PH) 0) (Fz (RJ PH) 1) (Fz (RJ PH) 2) (Fz (ef PH) 0) Xp (Fz (Xo Xp) 0) (Fz (re Xp) 0) (Fz (re Xp) 1) (Fz (ee NI) 0) (Fz (ee NI) 1) (Fz (ee NI) 2) (rf RK) (rf PH):=⟨by kernel_rfl,by kernel_rfl,by kernel_rfl,by kernel_rfl,by kernel_rfl,by kernel_rfl,by kernel_rfl,by kernel_rfl,by kernel_rfl,by kernel_rfl,by kernel_rfl,by kernel_rfl,by kernel_rfl,by kernel_rfl,by kernel_rfl,by kernel_rfl,by kernel_rfl,by kernel_rfl,by kernel_rfl,by kernel_rfl,by kernel_rfl⟩
theorem bf6:rc (I8 4)=G NI:=by kernel_rfl
noncomputable def Li:BU:=BV (Ba 26)
theorem bf7:R6 Li:=⟨by kernel_rfl,by kernel_rfl,by kernel_rfl,by kernel_rfl,by kernel_rfl,by kernel_rfl,by kernel_rfl,by kernel_rfl,by kernel_rfl,by kernel_rfl,by kernel_rfl,by kernel_rfl,by kernel_rfl⟩
noncomputable abbrev NJ:Mine.Ctx:=Fu A6 λ_ _ _=>L
theorem bf8{h:I (O×Ob)}:ev NJ 30 ⟨Li,d⟩ (.s (I8 0)) ⟨[(Fd,.ref 0),(FO,.ref 1)],h,2⟩=.ok (.f .next) ⟨[(Fd,.ref 0),(FO,.ref 1)],h,2⟩:=by kernel_rfl
theorem bf9{h:I (O×Ob)}:ev NJ 30 ⟨Li,d⟩ (.s (I8 1)) ⟨[(Fd,.ref 0),(FO,.ref 1)],h,2⟩=.ok (.f .next) ⟨[(Fd,.ref 0),(FO,.ref 1),(Fx,.int 0),(F6,.int 0)],h,2⟩:=by kernel_rfl
theorem bg0{h:I (O×Ob)}:ev NJ 30 ⟨Li,d⟩ (.s (I8 2)) ⟨[(Fd,.ref 0),(FO,.ref 1),(Fx,.int 0),(F6,.int 0)],h,2⟩=.ok (.f .next) ⟨[(Fd,.ref 0),(FO,.ref 1),(Fx,.int 0),(F6,.int 0),(Ka,.ref 2)],(2,.list [])::h,3⟩:=by kernel_rfl
theorem bg1{h:I (O×Ob)}:ev NJ 30 ⟨Li,d⟩ (.s (I8 3)) ⟨[(Fd,.ref 0),(FO,.ref 1),(Fx,.int 0),(F6,.int 0),(Ka,.ref 2)],h,3⟩=.ok (.f .next) ⟨[(Fd,.ref 0),(FO,.ref 1),(Fx,.int 0),(F6,.int 0),(Ka,.ref 2),(N5,.ref 3)],(3,.list [])::h,4⟩:=by kernel_rfl
theorem bg2{h:I (O×Ob)}:ev NJ 30 ⟨Li,d⟩ (.s (I8 5)) ⟨Fe i j,h,4⟩=.ok (.f (.ret (.tup L [.ref 2,.ref 3]))) ⟨Fe i j,h,4⟩:=by kernel_rfl
theorem bg3:Ly "map" "__init__" "object.__init__":=.of (owner:="object") (n:="__init__") (by rw[J1,J2];kernel_rfl) (by decide+kernel) (by decide+kernel) (by decide+kernel) (by first|exact .inl (by decide+kernel)|exact .inr (by decide+kernel)) (by rw[J3];kernel_rfl)
theorem Uf:Ly "map" "__next__" "map.__next__":=.of (owner:="map") (n:="__next__") (by rw[J1,J2];kernel_rfl) (by decide+kernel) (by decide+kernel) (by decide+kernel) (by first|exact .inl (by decide+kernel)|exact .inr (by decide+kernel)) (by rw[J3];kernel_rfl)
theorem rg:Ly "map" "__iter__" "map.__iter__":=.of (owner:="map") (n:="__iter__") (by rw[J1,J2];kernel_rfl) (by decide+kernel) (by decide+kernel) (by decide+kernel) (by first|exact .inl (by decide+kernel)|exact .inr (by decide+kernel)) (by rw[J3];kernel_rfl)
theorem rh:Lr Ls "map.__next__"=G EA.«map.__next__»:=Y8 (by kernel_rfl)
theorem bg4:Lr Ls "map.__new__"=G EA.«map.__new__»:=Y8 (by kernel_rfl)
theorem bg5:Lr Ls "map.__iter__"=G EA.«dict_keyiterator.__iter__»:=uU (id':="dict_keyiterator.__iter__") ((VG _).trans (by kernel_rfl)) (by kernel_rfl) (by decide+kernel) ((VG _).trans (by kernel_rfl))
theorem ri:bG1.lookup (sU ['p','a','m'].reverse)=G Manifest.sig_map:=by kernel_rfl
theorem rj(a:A4):Jm "map.__next__" ⟨[a],[]⟩:=by unfold Jm;rw[gq (id:="map.__next__") (n:=['_','_','t','x','e','n','_','_']) (o:=['p','a','m']) (by kernel_rfl) ri];kernel_rfl
theorem bg6(a:A4):Jm "map.__iter__" ⟨[a],[]⟩:=by unfold Jm;rw[gq (id:="map.__iter__") (n:=['_','_','r','e','t','i','_','_']) (o:=['p','a','m']) (by kernel_rfl) ri];kernel_rfl
theorem rl:mroOf (.type "map")=pure [.type "map",.type "object"]:=by rw[mroOf_type];kernel_rfl
theorem bg7:Pb (.type "map") "__new__"=pure (G (.builtin "map.__new__")):=by rw[J1,J2];kernel_rfl
theorem bg8:TypeCalled "map" "map.__new__" "object.__init__":=⟨by decide+kernel,by decide+kernel,⟨_,_,rl⟩,madeBy_type rl bg7 (by decide+kernel),by decide+kernel,by rw[J3];kernel_rfl,bg3⟩
theorem bg9(a b:A4):bF4 "map" ⟨[a,b],[]⟩=pure ():=by kernel_rfl
theorem bh0(a b:A4):g5 "map.__new__" ⟨[.type "map",a,b],[]⟩=pure ():=by kernel_rfl
theorem bh1:Rp (.type "map") (.type "map")=pure M:=by rw[J3];kernel_rfl
theorem bh2:Pb (.type "map") "__len__"=pure L:=by rw[J1,J2];kernel_rfl
theorem bh3:Pb (.type "map") "__length_hint__"=pure L:=by rw[J1,J2];kernel_rfl
noncomputable abbrev NK(h:BK)(z TI it:A8)(f:A4):Prop:=h.get? z=G {cls:=.type "map",dict:=L,data:=.fields #[.ref TI,f],slots:=#[]}/\h.get? TI=G {cls:=.type "tuple",data:=.seq #[.ref it]}
noncomputable abbrev NL(h:BK)(l:A8):BK:=h.push {cls:=.type "list_iterator",data:=.fields #[.ref l,.int 0 0]}
noncomputable abbrev PJ(h:BK)(l:A8):BK:=(NL h l).push {cls:=.type "tuple",data:=.seq #[.ref h.objs.size]}
noncomputable abbrev Xq(h:BK)(l:A8)(f:A4):BK:=(PJ h l).push {cls:=.type "map",data:=.fields #[.ref (NL h l).objs.size,f]}
theorem bh4(f:A4)(l:A8)(Y:BW A4):V5 (EA.«map.__new__» ⟨[.type "map",f,.ref l],[]⟩) (λ_ AS s=>s.heap.IsList l Y/\AS (.ok (.ret (.ref (PJ s.heap l).objs.size))) {s with heap:=Xq s.heap l f}):=.of_wp λprog w A AS s h=>by
 obtain⟨hp,g,d,tk,os⟩:=s;refine xA h ?_;(try clear h);intro Eg h;have LH:=bh1;have qY:Heap.IsList (Shared.heap ⟨hp,g,d,tk,os⟩) l Y:=Eg;wp_walk using fZ qY;exact⟨_,rfl,h⟩
section
theorem bh5{f:A4}{l:A8}{Y:BW A4}(hl:s.heap.IsList l Y)(h:∀Q z TI it,s.heap.get? z=L->s.heap.get? TI=L->s.heap.get? it=L->z≠TI->z≠it->TI≠it->NK Q z TI it f->Q.IsListIter it l 0->(∀c o,s.heap.get? c=G o->Q.get? c=G o)->A2 (.ref z) {s with heap:=Q}):AH (AQ prog w) A (call (.type "map") [f,.ref l]) A2 E s:=by
 refine callType_new bg8 (by decide) (bg9 _ _) (bh0 _ _) (λobj=>F.args_object_init_3 obj _ _) bg4 (bh4 f l Y) ⟨hl,?_⟩;have z1:(NL s.heap l).objs.size=s.heap.objs.size+1:=IC ..;have z2:(PJ s.heap l).objs.size=s.heap.objs.size+2:=by rw[IC,z1]
 have g3:(Xq s.heap l f).get? (PJ s.heap l).objs.size=G _:=CY _ rfl;have g2:(Xq s.heap l f).get? (NL s.heap l).objs.size=G _:=C1 _ (CY _ rfl);have g1:(Xq s.heap l f).get? s.heap.objs.size=G _:=C1 _ (C1 _ (CY _ rfl));show _/\_;have l1:s.heap.objs.size<=(NL s.heap l).objs.size:=by rw[z1];exact H2 ..
 have l2:s.heap.objs.size<=(PJ s.heap l).objs.size:=by rw[z2];exact H2 ..
 have n1:(PJ s.heap l).objs.size≠(NL s.heap l).objs.size:=by rw[z2,z1];exact t_ _
 have n2:(PJ s.heap l).objs.size≠s.heap.objs.size:=by rw[z2];exact PT (Nat.lt_add_of_pos_right (by decide))
 have n3:(NL s.heap l).objs.size≠s.heap.objs.size:=by rw[z1];exact t_ _
 exact⟨⟨_,g3,rfl⟩,h _ _ (NL s.heap l).objs.size s.heap.objs.size (gv l2) (gv l1) (gv (DE _)) n1 n2 n3 ⟨g3,g2⟩ ⟨_,g1,rfl,rfl⟩ λc o x=>C1 _ (C1 _ (C1 _ x))⟩
theorem bh6{it l:A8}{f x:A4}{k:O}{Y:BW A4}{A2:AD A4->AR->Prop}(hm:NK s.heap z TI it f)(Cc:z≠it)(bM7:TI≠it)(hi:s.heap.IsListIter it l k)(hl:s.heap.IsList l Y)(hx:Y[k]?=G x)(h:∀Q,E3 it s.heap Q->Q.IsListIter it l (k+1)->AH (AQ prog w) A.in1 (call f [x]) (λv s'=>A2 (G v) s') (λ_ _=>Bi) {s with heap:=Q}):AH (AQ prog w) A (ER (.ref z)) A2 E s:=by
 have hT:s.TypeIs (.ref z) "map":=⟨_,hm.1,rfl⟩;unfold ER;refine A5 (Rk (Lq (name:=Eu "__next__") hT Uf (Gj Uf hT rh ?_ (rj _))));show AH _ _ (Kl (.ref z) 0>>=_) _ _ _;refine A5 (Gm hm.1 rfl (x:=.ref TI) rfl ?_);refine A5 (Nc hm.2 rfl ?_);simp only[<-tq,Rb,gb];refine A5 (A5 (A5 (C0 (wpAny_nextOf_list_item hi hl hx λQ QF hs=>AW (AW ?_)))));show AH _ _ (Kl (.ref z) 1>>=_) _ _ _;refine A5 (Gm ((hs.2 z Cc).trans hm.1) rfl (x:=f) rfl ?_);exact A5 (C0 (Ff (h Q hs QF) (λv s' hq=>A5 (Pc (AW ⟨v,rfl,AW hq⟩))) λ_ _ q=>q.elim))
theorem bh7{it l:A8}{f:A4}{k:O}{Y:BW A4}{A2:AD A4->AR->Prop}(hh:A.handled=L)(hm:NK s.heap z TI it f)(hi:s.heap.IsListIter it l k)(hl:s.heap.IsList l Y)(hx:Y[k]?=L)(h:∀Q,Dq it s.heap Q->A2 L {s with heap:=Q}):AH (AQ prog w) A (ER (.ref z)) A2 E s:=by
 have hT:s.TypeIs (.ref z) "map":=⟨_,hm.1,rfl⟩;unfold ER;refine A5 (Rk (Lq (name:=Eu "__next__") hT Uf (Gj Uf hT rh ?_ (rj _))));show AH _ _ (Kl (.ref z) 0>>=_) _ _ _;refine A5 (Gm hm.1 rfl (x:=.ref TI) rfl ?_);refine A5 (Nc hm.2 rfl ?_);simp only[<-tq,Rb,gb];refine A5 (A5 (A5 (C0 (wpAny_nextOf_list_end (by simp[hh]) hi hl hx λQ e hs he=>?_))));refine AC he ?_;(try clear he);intro o ho hc;refine A5 (Lw (T:="StopIteration") (b:=M) ⟨o,ho,hc⟩ gB ?_);exact AW (h _ hs)
theorem bh8{it:A8}{f:A4}(hm:NK s.heap z TI it f)(h:A2 (.ref z) s):AH (AQ prog w) A (PQ (.ref z)) A2 E s:=by
 have hT:s.TypeIs (.ref z) "map":=⟨_,hm.1,rfl⟩;refine uX hT rg (Gj rg hT bg5 ?_ (bg6 _));show AH _ _ (ret (.ref z)) _ _ s;exact AW ⟨_,rfl,"map",_,hT,Uf.lookup,h⟩
theorem bh9{it:A8}{f:A4}{A2:AK->AR->Prop}(hm:NK s.heap z TI it f)(h:A2 M s):AH (AQ prog w) A (gt (.ref z)) A2 E s:=by
 have hT:s.TypeIs (.ref z) "map":=⟨_,hm.1,rfl⟩;unfold gt;refine A5 (YG hT bh2 ?_);show AH _ _ (Na (Jn z) (Eu "__length_hint__")>>=_) _ _ _;exact A5 (YG hT bh3 (AW h))
theorem bi0{it:A8}{f:A4}(hm:NK s.heap z TI it f)(h:∀Q D c,s.heap.get? D=L->Q.get? D=G {cls:=.type "list",data:=.seq #[] c}->(∀b o,s.heap.get? b=G o->Q.get? b=G o)->D7 (AQ prog w) A.in1 (.builtin "list.extend.loop" ⟨[.ref D,.ref z,.none],[]⟩) (λr s'=>match r with|.ok (.ret v)=>v=.none/\A2 (.ref D) s'|.ok _=>Bi|.error e=>E e s') {s with heap:=Q}):AH (AQ prog w) A (call (.type "list") [.ref z]) A2 E s:=by
 refine callType_codes (Q₁:=λobj AJ=>obj=.ref s.heap.objs.size/\AJ={s with heap:=s.heap.push {cls:=.type "list",data:=.seq #[]}}) F.called_list (F.typeCall_list_1 _) F.entry_list_init (code_list_new _ ⟨rfl,rfl⟩) λobj AJ AP=>?_;refine xA AP ?_;(try clear AP);intro Aw B6;subst Aw;subst B6;have hS:(s.heap.push {cls:=.type "list",data:=.seq #[]}).get? s.heap.objs.size=G {cls:=.type "list",data:=.seq #[]}:=CY _ rfl;have hn:s.heap.get? s.heap.objs.size=L:=gv (DE _);refine⟨⟨_,hS,rfl⟩,F.args_list_init_2 _ _,?_⟩;show AH _ A.in1.in1 (do let GG<-bG7 (.ref s.heap.objs.size);bS5 (.ref s.heap.objs.size) (λ_=>#[]);letGo GG.toList.reverse;Yc (.ref s.heap.objs.size) (.ref z) .none) _ _ _;refine A5 ?_;unfold bG7;refine A5 (Nc hS rfl (AW ?_));show AH _ A.in1.in1 (Rr s.heap.objs.size (λ_=>#[])>>=λ_=>letGo (#[]:BW A4).toList.reverse>>=λ_=>Yc (.ref s.heap.objs.size) (.ref z) .none) _ _ _;refine A5 (Nd hS rfl ?_);have RI:=FQ (GL (λ_=>(#[]:BW A4))) hS rfl;have eg:∀b o,s.heap.get? b=G o->((s.heap.push {cls:=.type "list",data:=.seq #[]}).update s.heap.objs.size (GL (λ_=>(#[]:BW A4)))).get? b=G o:=λb o e=>(GN _ _ (CX (EQ (Dg e)))).trans (C1 _ e);refine A5 (Pc ?_);have eh:NK ((s.heap.push {cls:=.type "list",data:=.seq #[]}).update s.heap.objs.size (GL (λ_=>(#[]:BW A4)))) z TI it f:=⟨eg _ _ hm.1,eg _ _ hm.2⟩;unfold Yc;refine A5 (Rq (T:="map") ⟨_,eh.1,rfl⟩ ?_);have bi1:s.heap.objs.size≠z:=CX (EQ (Dg hm.1));have h1:gu (.ref s.heap.objs.size) (.ref z)=A6:=by simp[gu,bi1]
 have h2:(Ko "map"==Ko "list")=A6:=by decide
 have h3:(Ko "map"==Ko "tuple")=A6:=by decide
 simp only[h1,h2,h3,bG6,Ki,Kj];refine A5 (bh8 eh ?_);refine A5 (C0 (bh9 eh ?_));show AH _ _ (YH "list.extend.makes-room">>=λ_=>bS6 (.ref s.heap.objs.size)>>=λ_=>Kh (.builtin "list.extend.loop" ⟨[.ref s.heap.objs.size,.ref z,.none],[]⟩)) _ _ _;refine A5 (Gi ?_);refine A5 ?_;show AH _ _ (Rr s.heap.objs.size (·.push .none)>>=λ_=>Rr s.heap.objs.size (·.pop)) _ _ _;refine A5 (Nd RI rfl ?_);have Ud:=FQ (GL (·.push Hf)) RI rfl;refine Nd (hz:=by seq_fits) Ud rfl ?_;have eY:=FQ (GL (·.pop)) Ud rfl;refine AW ⟨plainId_quiet uY _,uS (h _ s.heap.objs.size _ hn eY λb o e=>?_) λr s' hr=>?_⟩
 . have hb:s.heap.objs.size≠b:=CX (EQ (Dg e));rw[GN _ _ hb,GN _ _ hb];exact eg b o e
 . cases r with
 |error e=>exact hr|ok fl=>cases fl<;>exact hr
end
noncomputable def eq:U:=⟨⟨[95,109,97,107,101]⟩⟩
theorem bi2:readsIn (Bb P) 135 (.type "type")=M:=by kernel_rfl
theorem bi3:tD (Bb P) (.ref 135) (.type "type") eq=G (.get (.builtin "classmethod.__get__") (.ref 91) .none (.ref 135)):=by kernel_rfl
theorem bi4:recIn (Bb P) 91 "classmethod"=G [.ref 89,.bool A6]:=by kernel_rfl
theorem bi5{f x:AA}{args:I AA}(h:Zo f args=G x):∃p p2 p3 p4 Ue,f=.Name Zl p/\args=[.Call (.Name Zm p2) [.Attribute (.Name Sf p3) eq p4,x] [] Ue]:=by
 apply Ct h AF;intro c h;apply M3 h AF;intro g a k pos h;apply FS h AF;intro m a h;apply Ct h AF;intro y h;apply Rx h AF;intro o a p4 h;apply EV h AF;intro h;refine Ce h AF λq h=>?_;apply Q_ (B1 q);intro p;apply Q_ (B1 (Ak q));intro p2;apply Q_ (B1 (Ak (Ak q)));intro p3;rw[E1.mp (Ak (Ak (Ak q)))];apply Br h.symm;exact⟨p,p2,p3,p4,pos,rfl,rfl⟩
section
variable{CR:Kx->Cd->Mine.St->AD A0}
theorem bi6{Bk:Gl B A3}{y z:AA}{w:A4}(hg:Dh K.sc id=M)(hw:Ah A3.glob id=G (.top w))(hc:∀h,CW (AQ B.prog B.w) h w)(hp:CP y=M)(rm:CP z=M)(g:Gd B F K A H C s)(h:∀BG EM,Gd B F K A H BG EM->Nx F.D [] s.heap EM.heap C BG->AH (AQ B.prog B.w) A (eval y F.env) (λu s'=>AH (AQ B.prog B.w) A (eval z F.env) (λu' K_=>AH (AQ B.prog B.w) A (CE w [u,u']) A2 E K_) E s') E EM):AH (AQ B.prog B.w) A (eval (.Call (.Name id p) [y,z] [] pos) F.env) A2 E s:=by exact Wd (Bk:=Bk) hg hw (show(CP y&&(CP z&&M))=M by rw[hp,rm];rfl) g λAZ AJ AN Ab=>Ln (Ff (h AZ AJ AN Ab) (λu s' q=>Ln (Ff q (λu' K_ q'=>Uk ⟨hc _,q'⟩) λ_ _ e=>e) (K6 rm)) λ_ _ e=>e) (K6 hp)
theorem bi7(on:AK)(CR:Kx->Cd->Mine.St->AD A0)(AV:(Bb P).In B.base)(hM:Dh K.sc Sf=M)(g:Gd B F K A H C s)(k:∀AZ AJ m,Gd B F K A H AZ AJ->Nx F.D [] s.heap AJ.heap C AZ->s.heap.get? m=L->CM B F AZ AJ.heap m->AJ.heap.get? m=G (gw (.ref 89) (.ref 135))->A2 (.ref m) AJ):AH (AQ B.prog B.w) A (eval (.Attribute (.Name Sf p3) eq p4) F.env) A2 E s:=by
 have hn:=m7 (A3:=Fu on CR) (H:=H) (p:=p3) (w:=.ref 135) hM (by kernel_rfl);skip;refine A5 (bG (GH (on:=on) (CR:=CR) AV) hn g _ _ λu AZ AJ AN Ab Aq=>A5 (Ek (A5 (C0 ?_))));cases Aq;have rn:(Bb P).In AJ.heap:=λb o e=>AN.base b o (AV b o e);have kp:∀b o,AJ.heap.get? b=G o->(AJ.heap.push (gw (.ref 89) (.ref 135))).get? b=G o:=λb o e=>C1 _ e;have hg:=CY AJ.heap (o:=gw (.ref 89) (.ref 135)) rfl;refine cls_bind rn bi2 bi3 (HN (cm_get (s:={AJ with toks:=AJ.toks+1}) rn bi4 (handed_on rfl ?_)));exact A5 (bw9 (AW (k AZ _ _ (AN.ext (tk:=AJ.toks+1) kp) (Ab.trans (Nx.ext kp)) (HA Ab.live (GD _)) (AN.freeOf (GD _) ⟨_,hg⟩) hg)))
theorem Gv.push{w:A4}(a:Gv B F C h D Am)(r:VR h C v w):∃us m,h.get? D=G {cls:=.type "list",data:=.seq us m}/\us.size=Am.length/\(∀Q,E3 D h Q->Q.get? D=G (GL (λx=>x.push w) {cls:=.type "list",data:=.seq us m})->Gv B F C Q D (Am++[v])):=by
 refine Hl a ?_;(try clear a);intro fr us Aw vr;refine xE Aw ?_;(try clear Aw);intro m e;refine⟨us,m,e,by rw[vr.length];simp,λQ hs hd=>⟨fr.at ⟨_,hd⟩,us.push w,⟨_,hd⟩,?_⟩⟩;have im:Du h Q:=Gr hs.extBut (λo q=>by rw[e]at q;injection q with q;subst q;rfl);rw[V7];exact(vr.Bw im).app ⟨_,_,rfl,r.Bw im,rfl⟩
theorem bi8(AV:(Bb P).In B.base)(A9:C5 B (Fu on CR) n)(hd:K.d=d+1){it mo:A8}(nz:Af.get? z=L)(nT:Af.get? TI=L)(ni:Af.get? it=L)(nD:Af.get? D=L)(nm:Af.get? mo=L)(z1:z≠it)(z2:TI≠it)(z3:D≠it)(z4:mo≠it)(z5:D≠z)(z6:D≠TI)(z7:D≠mo):∀(m k:O){Am l:I V}{H A7:Mine.St}{C:I A8}{s:AR},Vr (Fu on CR) ⟨K.sc,d⟩ (ev (Fu on CR) n) i m k Am H=.ok (.vs l) A7->Am.length<=k->k+m<=1000->Gd B F K A H C s->Nx F.D [] Af s.heap BG C->NK s.heap z TI it (.ref mo)->s.heap.get? mo=G (gw (.ref 89) (.ref 135))->E5 s.heap C (.lst i) k it->CM B F C s.heap z->CM B F C s.heap TI->CM B F C s.heap it->CM B F C s.heap mo->Gv B F C s.heap D Am->∀{AS:Dr->AR->Prop},(∀AT s',Gd B F K A A7 AT s'->Nx F.D [] Af s'.heap BG AT->Gv B F AT s'.heap D l->AS (.ok (.ret .none)) s')->D7 (AQ B.prog B.w) A.in1 (.builtin "list.extend.loop" ⟨[.ref D,.ref z,.none],[]⟩) AS s:=by
 intro m;induction m with
 |zero=>intro k Am l H A7 C s h;exact(Ac h).elim|succ m ih=>
 intro k Am l H A7 C s h hk hkm g Cw hm es Bz fz fT fi fm ac AS kk;refine A0.Bx h ?_;clear h;intro r hr h;refine BI hr λob hl hr=>?_;revert hl;apply IP hr AF;intro Y hr hl
 . injection hr with hr;refine AC Bz ?_;(try clear Bz);intro a ha NH;refine AC (g.obj hl ha) ?_;intro us hp vr;have hc:∀o,s.heap.get? it=G o->C2 o=A6:=λo e=>by
    refine CZ NH ?_;(try clear NH);intro o' e' c _;rw[e']at e;injection e with e;subst e;unfold C2;rw[c];rfl
   refine J0 PySem.F.entry_extend_loop ?_;rw[bw3 bG8 _];show AH _ _ (ER (.ref z)>>=_) _ _ _;rw[HV]at hr;cases r with
 |none=>
    refine xA (FG h) ?_;intro q B6;subst B6;injection q with q;subst q;refine A5 (bh7 (by simp[g.handled]) hm NH hp.isList ?_ λQ hs=>?_);. have e:=vr.none hr;simpa using e
    . refine AW (kk C _ (g.move (tk:=s.toks) fi hs hc) (Cw.F0 hs ni) ?_);exact ac.but hs (Gr hs hc) z3|some x=>
    refine A0.Cg h ?_;clear h;intro v AB hv h;refine A0.Bx hv ?_;clear hv;intro fn hf hv;refine AC (vr.get hr) ?_;intro y ey ry;refine A5 (bh6 hm z1 z2 NH hp.isList (x:=y) (by simpa using ey) λQ hs rp=>?_);have kb:Dq it s.heap Q:=hs.extBut;have im:=Gr kb hc;have AN:=g.move (tk:=s.toks) fi kb hc;have Je:=Cw.F0 kb ni;have bi9:=ac.but kb im z3;have eu:=kb _ _ z4 es;have bj0:=ry.Bw im;have dp:=g.depth;have un:=g.units;have AU:Gd B F ⟨K.sc,d⟩ A.in1.in1.in1 H C {s with heap:=Q}:=AN.swap (g.kinds.deep d) g.frames (by simp[g.handled]) (by show A.depth+3*d<900;(with_reducible exact Mine.yJ (by assumption) (by assumption))) (by show A.units+1+1+1+10*d<9000;(with_reducible exact Mine.vo (by assumption) (by assumption)));refine DA ((Ww (on:=on) (CR:=CR) AV).fn 89 fn hf) ?_;intro o fd ok;refine HN (RZ ?_);show AH _ _ (Uy (.ref mo) ⟨[y],[]⟩) _ _ _;unfold Uy;refine A5 (NT eu ?_);show AH _ _ (Kh (.call (.ref 89) ⟨[.ref 135,y],[]⟩)) _ _ _;refine AW ⟨rfl,aU A9 ok hv AU ⟨_,_,rfl,rfl,_,_,rfl,bj0,rfl⟩ λu BS Ax Ao B8 BQ=>?_⟩;have Ao:Gd B F K A AB BS Ax:=Ao.swap (K':=K) (A':=A) g.kinds g.frames g.handled dp un;have rq:=bi9.nx B8 (by simp);refine Bv (rq.push BQ) ?_;intro Dw m' hD Ed up;show AH _ _ (Rr D (λx=>x.push u)>>=λ_=>Kh (.builtin "list.extend.loop" ⟨[.ref D,.ref z,.none],[]⟩)) _ _ _;refine A5 (Nd (hz:=B4 (show Dw.size<=1000 by(with_reducible exact Mine.vt (by assumption) (by assumption) (by assumption))) (by decide)) (_hz':=by rw[Array.size_push];exact B4 (show Dw.size+1<=2000 by omega) (by decide)) hD rfl ?_);have rt:E3 D Ax.heap (Ax.heap.update D (GL λx=>x.push u)):=Fg ..;have hD4:=FQ (GL λx=>x.push u) hD rfl;have k4:Dq D Ax.heap (Ax.heap.update D (GL λx=>x.push u)):=rt.extBut;have bj1:=(fz.at (Q:=Q) ⟨_,kb _ _ z1 hm.1⟩).nx B8;have bj2:=(fT.at (Q:=Q) ⟨_,kb _ _ z2 hm.2⟩).nx B8;have f0:=(fm.at (Q:=Q) ⟨_,eu⟩).nx B8;have bj3:=(fi.at (Q:=Q) (let⟨o,e,_⟩:=rp;⟨o,e⟩)).nx B8;have rz:=B8.keep z _ (kb _ _ z1 hm.1) fz.C (by simp) (λ_=>rfl);have UT:=B8.keep TI _ (kb _ _ z2 hm.2) fT.C (by simp) (λ_=>rfl);have s6:=B8.keep mo _ eu fm.C (by simp) (λ_=>rfl);have s7:E5 Ax.heap BS (.lst i) (k+1) it:=E5.nx (it:=.lst i) ⟨a,ha,rp⟩ B8 fi.C (by simp);refine AC s7 ?_;(try clear s7);intro a3 ha3 s8;have TA:∀o,Ax.heap.get? D=G o->C2 o=A6:=λo e=>by rw[hD]at e;injection e with e;subst e;rfl
    refine AW ⟨plainId_quiet bG8 _,ih (k+1) h (by simp;(with_reducible assumption)) (by(with_reducible exact Mine.Yo (by assumption))) (Ao.move (tk:=Ax.toks) rq.1 k4 TA) ((Je.trans B8).F0 k4 nD) ⟨k4 _ _ (CX z5) rz,k4 _ _ (CX z6) UT⟩ (k4 _ _ (CX z7) s6) ⟨a3,ha3,s8.extBut k4 (CX z3)⟩ (bj1.at ⟨_,k4 _ _ (CX z5) rz⟩) (bj2.at ⟨_,k4 _ _ (CX z6) UT⟩) (bj3.at (let⟨o,e,_⟩:=s8;⟨o,k4 _ _ (CX z3) e⟩)) (f0.at ⟨_,k4 _ _ (CX z7) s6⟩) (up _ rt hD4) kk⟩
theorem Gd.adopt(g:Gd B F K A H C s)(fD:CM B F C s.heap D)(ho:Ca B.prog B.w s.heap (C++[D]) D o):Gd B F K A (H.new o).2 (C++[D]) s:=by
 refine⟨g.kinds,by simp[Mine.St.new,g.len],?_,λa m=>?_,λa m=>?_,λa m=>?_,λc m=>?_,λi p e=>?_,g.env.ext (J:=[D]) λb o e=>e,g.base,g.os,g.gens,g.frames,g.DP,λA1 m=>?_,g.mods,g.handled,g.depth,g.units⟩
 . refine I9.mpr ⟨g.nodup,by simp,λa ha b hb e=>?_⟩;rw[CI.mp hb]at e;exact fD.C (e▸ha)
 . rcases Dp.mp m with m|m;. exact g.fresh a m
   . rw[CI.mp m];exact fD.base
 . rcases Dp.mp m with m|m;. exact g.live a m
   . rw[CI.mp m];exact fD.live
 . refine G5 (g.D5 a m) ?_;intro h1 h2 h3;refine⟨h1,λz=>?_,h3⟩;rcases Dp.mp z with z|z;. exact h2 z
   . exact fD.w (CI.mp z▸m)
 . refine xA (g.D2 c m) ?_;intro h1 h2;refine⟨λz=>?_,h2⟩;rcases Dp.mp z with z|z;. exact h1 z
   . exact fD.cells c m (CI.mp z)
 . simp only[Mine.St.new,AL]at e;cases q:BC H.n i with
 |true=>
    rw[q]at e;injection e with e;subst e;have :=CD q;exact⟨D,by rw[<-this,<-g.len];simp,ho⟩|false=>
    rw[q]at e;refine AC (g.objs i p e) ?_;intro b p' r;exact⟨b,FX p',r.mono (Du.refl _) λ_ e=>e⟩
 . refine xA (g.Cz A1 m) ?_;intro h1 h2;refine⟨λz=>?_,h2⟩;rcases Dp.mp z with z|z;. exact h1 z
   . exact fD.outs (CI.mp z▸m)
theorem Nx.adopt(x:Nx AM A_ Af h BG C)(nD:Af.get? D=L):Nx AM A_ Af h BG (C++[D]):=by
 refine AC x.pre ?_;intro J e hb;refine⟨⟨J++[D],by rw[e,Uj],λb m=>?_⟩,x.live,x.Bw,x.same⟩;rcases Dp.mp m with m|m;. exact hb b m
 . rw[CI.mp m];exact nD
theorem s9(AV:(Bb P).In B.base):bu B (Fu on CR):=by
 intro n A9 Sc K f x args pos v F A H A7 C s hp hf hs h g A2 E k;refine ux (bi5 hs) ?_;intro p p2 p3 p4 Ue BJ BP;subst BJ;subst BP;refine A0.Be h ?_;clear h;intro hc h;simp only[D6]at hc;refine xA hc ?_;(try clear hc);intro Bp h4;refine xA Bp ?_;(try clear Bp);intro Cn h3;obtain⟨h1,h2⟩:=Cn;refine A0.Cg h ?_;clear h;intro w AB hx h;revert hx;apply A0.MQ h;clear h;intro i Y hi h hx;refine A0.Be h ?_;clear h;intro pY h;have key:∃d,K.d=d+1:=by cases hd:K.d with
 |zero=>rw[hd]at h;exact(Ac h).elim|succ d=>exact⟨d,rfl⟩
 refine xE key ?_;(try clear key);intro d hd;rw[hd]at h;refine A0.L5 h ?_;clear h;intro l Bc hm h;refine xA (FG h) ?_;intro q Bg;subst Bg;injection q with q;subst q;refine rZ (A3:=Fu on CR) (Bk:=GH AV) h1 (w:=.type "list") (by kernel_rfl) (λ_=>CW.type) rfl g λBG EM F_ Cr=>?_;refine bi6 (A3:=Fu on CR) (Bk:=GH AV) h2 (w:=.type "map") (by kernel_rfl) (λ_=>CW.type) rfl h4 F_ λAZ AJ AN Ab=>?_;refine bi7 on CR AV h3 AN λAu Ai mo AU Al nm fm es=>?_;refine A9.e hx AU _ _ λu BS Ax Ao B8 BQ=>?_;refine Bv (Ao.listAt BQ hi) ?_;intro a us Bu hp vr;subst Bu;have f1:=B8.keep mo _ es fm.C (by simp) (λ_=>rfl);have f0:=fm.nx B8;refine bh5 hp.isList λQ z TI it nz nT ni n1 n2 n3 PK NH kp=>?_;have CA:=Ao.ext (tk:=Ax.toks) kp;have D':Nx F.D [] Ax.heap Q BS BS:=Nx.ext kp;refine bi0 (s:={Ax with heap:=Q}) PK λh5 D c nD hD Kb=>?_;have Co:=Ao.ext (tk:=Ax.toks) λb o e=>Kb b o (kp b o e);have EK:Nx F.D [] Ax.heap h5 BS BS:=Nx.ext λb o e=>Kb b o (kp b o e);refine AC (id BQ) ?_;intro bY6 haL f3;injection f3 with f3;subst f3;have f4:Ax.heap.get? D=L:=by cases e:Ax.heap.get? D with
 |none=>rfl|some o=>rw[kp D o e]at nD;(exfalso;cases nD)
 have MY:∀{b o},Q.get? b=G o->D≠b:=λe z=>by rw[<-z]at e;exact absurd (e.symm.trans nD) (by simp)
 refine AC (id NH) ?_;intro oi ei _;have Gu:=(Cr.trans (Ab.trans (Al.trans B8)));have f5:=kp _ _ f1;have nmo:s.heap.get? mo=L:=HA Cr.live (HA Ab.live nm);refine bi8 AV A9 hd (Af:=s.heap) (BG:=C) (mo:=mo) (HA Gu.live nz) (HA Gu.live nT) (HA Gu.live ni) (HA Gu.live f4) nmo n2 n3 (MY ei) (λz=>by rw[z]at f1;exact absurd (f1.symm.trans ni) (by simp)) (MY PK.1) (MY PK.2) (MY f5) 60 0 (Am:=[]) hm (DE _) (by decide) Co (Gu.trans EK) ⟨Kb _ _ PK.1,Kb _ _ PK.2⟩ (Kb _ _ f5) ⟨_,haL,(let⟨o,e,r⟩:=NH;⟨o,Kb _ _ e,r⟩)⟩ (Ao.freeOf nz ⟨_,Kb _ _ PK.1⟩) (Ao.freeOf nT ⟨_,Kb _ _ PK.2⟩) (Ao.freeOf ni ⟨_,Kb _ _ ei⟩) (f0.at ⟨_,Kb _ _ f5⟩) ⟨Ao.freeOf f4 ⟨_,hD⟩,#[],⟨_,hD⟩,rfl⟩ λWF TC GZ bj4 sA=>⟨rfl,?_⟩;refine Hl sA ?_;(try clear sA);intro fD us6 C9 v6;refine xE C9 ?_;(try clear C9);intro bY7 e6;exact k _ _ TC (GZ.adopt fD (o:=.list l) ⟨us6,⟨bY7,e6⟩,v6.mono (J:=[D]) (Du.refl _)⟩) (bj4.adopt (HA Gu.live f4)) ⟨D,by rw[<-GZ.len];simp,rfl⟩
end
theorem bj5(P:Dx):cC (Bb P) 382 (DD (Ba 26)):=⟨by kernel_rfl,by kernel_rfl,by kernel_rfl,by kernel_rfl,by kernel_rfl,by kernel_rfl⟩
theorem bj6:JE (DD (Ba 26)) [.ref 0,.ref 1]=G [(Fd,.ref 0),(FO,.ref 1)]:=by kernel_rfl
section
variable{CR:Kx->Cd->Mine.St->AD A0}
theorem bj7(AV:(Bb P).In B.base):Xg B:=⟨_,_,To AV (by kernel_rfl),To AV (by kernel_rfl),by kernel_rfl,by kernel_rfl⟩
theorem bj8:Mh B NJ:=⟨λh=>(by exact(BE h).elim),λh=>(by exact(BE h).elim),λh=>(by exact(BE h).elim),λh=>(by exact(BE h).elim),λh=>(by exact(BE h).elim)⟩
theorem bj9:Tj B NJ:=λh=>absurd h (by intro z;exact(E4 z).elim)
theorem bk0(AV:(Bb P).In B.base):Ok B NJ (Bb P):=⟨cE AV,nB,cF,Ww AV,GH AV,nE,nC,bj9,r_ AV,s9 AV,bj8⟩
theorem bk1(AV:(Bb P).In B.base)(hX:AG.length<=100000)(hY:An.length<=100000)(hF:F.outs=F.env::C4)(hf:F.env.frame=G F.env.locals)(g:Gd B F ⟨Li,d⟩ A ⟨[(Fd,.ref 0),(FO,.ref 1)],[(0,.list (AG.map .str)),(1,.list (An.map .str))],2⟩ C s):CJ B F ⟨Li,d⟩ A ⟨[],DL AG An (D4 (AG.length+An.length) AG An).1 (D4 (AG.length+An.length) AG An).2,4⟩ C s (Iz (Fi (Ba 26)) F.env) (FR (.ret (.tup L [.ref 2,.ref 3]))):=by
 intro A2 E k;rw[bf4];have AE:=Wr (bk0 AV) 30;refine DH (AE.s.s bf8 g _ _ λu AZ AJ AN Ab Aq=>?_);cases Aq;refine DH (AE.s.s bf9 AN _ _ λu Au Ai AU Al BB=>?_);cases BB;refine DH (AE.s.s bg0 AU _ _ λu BS Ax Ao B8 BQ=>?_);cases BQ;refine DH (AE.s.s bg1 Ao _ _ λu IZ EE CA D' JM=>?_);cases JM;have CA:Gd B F ⟨Li,d⟩ A ⟨Fe 0 0,DL AG An [] [],4⟩ IZ EE:=CA.view (λp hp=>by
 simp only[Fe,Ck,Jp,Jq]at hp;rcases hp with rfl|rfl|rfl|rfl|rfl|rfl<;>rfl) (λp hp=>by
 simp only[DL,Ck,Jp,Jq]at hp;rcases hp with rfl|rfl|rfl|rfl<;>rfl);refine uq (bf2 bf6) ?_;intro k0 p1 p2 e;rw[e];refine DH (sn (bf3 (Af:=EE.heap) (BG:=IZ) (bj7 AV) bf7 bf5 hX hY hF hf (AG.length+An.length) (by(with_reducible exact Mine.vC _ _)) (by omega) (Nf _) (Nf _) (DE _) (DE _) CA (Nx.refl ..) λi' j' Ef Co HG=>?_));refine DH (AE.s.s bg2 Co _ _ λu WF TC GZ GF sB=>?_);refine AC sB ?_;(try clear sB);intro w Aw Fc;subst Aw;rw[YI,YI]at GZ;refine k _ WF TC (GZ.view (λp hp=>by(exfalso;cases hp)) (λp hp=>?_)) (Ab.trans (Al.trans (B8.trans (D'.trans (HG.trans GF))))) ⟨w,rfl,Fc⟩;simp only[DL,Ck,Jp,Jq]at hp;rcases hp with rfl|rfl|rfl|rfl<;>rfl
theorem RL:DS B9 (.list (l.map .str))=.list (l.map .str):=by
 show Ob.list (Cs B9 _)=_;rw[LN]
theorem bk2(AV:(Bb P).In B.base):Tj B (Fu on CR):=by
 intro _ F K A H C s i j AG An u u' g Cc hX hY hd hi hj r r';obtain⟨d,hd⟩:∃d,K.d=d+1:=⟨K.d-1,by(with_reducible exact Mine.yI (by assumption))⟩;have hX:=Ee hX;have hY:=Ee hY;refine DA (Mi AV (Mk AV) (bj5 P)) ?_;intro o fd ok;have lt:∀{i o},AL H.h i=G o->i<H.n:=λh=>by
  refine AC (g.objs _ _ h) ?_;intro a ha _;rw[<-g.len];exact(HJ.mp ha).1
 have Xs:Sub H ⟨[],[(0,.list (AG.map .str)),(1,.list (An.map .str))],2⟩ [i,j]:=by
  refine⟨rfl,by simp[Cc],λk m=>?_,λk o e=>?_⟩
  . simp only[Ck,Jp,Jq]at m;rcases m with rfl|rfl;. exact lt hi
    . exact lt hj
  . have m:=Su e;simp only[Ck,Jp,Jq,bD9]at m;rcases m with B6|BJ;refine xA B6 ?_;(try clear B6);intro BP Bp;subst BP;subst Bp;rotate_left;refine xA BJ ?_;(try clear BJ);intro Bg Bu;subst Bg;subst Bu;rotate_left;. exact⟨i,rfl,by rw[RL];exact hi⟩
    . exact⟨j,rfl,by rw[RL];exact hj⟩
 refine nH (d:=K.d) (MP:=[.ref 0,.ref 1]) (Wx:=.tup L [.ref 2,.ref 3]) (AB:=⟨[],DL AG An (D4 (AG.length+An.length) AG An).1 (D4 (AG.length+An.length) AG An).2,4⟩) (B7:=[i,j]) (λ{F A C s us}g' Fs=>aC1 (H:=⟨[],[(0,.list (AG.map .str)),(1,.list (An.map .str))],2⟩) (AB:=⟨[],DL AG An (D4 (AG.length+An.length) AG An).1 (D4 (AG.length+An.length) AG An).2,4⟩) ok bj6 hd (.inr rfl) (λhF hf PB=>bk1 AV hX hY hF hf PB) g' Fs) rfl (DE _) g Xs ?_ (args:=[.ref i,.ref j]) rfl rfl ⟨_,_,rfl,r,_,_,rfl,r',rfl⟩;refine⟨rfl,(show 2<=4 by decide),rfl,λk o e=>?_⟩;simp only[Mine.St.new,AL]at e;cases q:BC (H.n+1) k with
 |true=>
  rw[q]at e;injection e with e;subst e;exact .inl ⟨3,_,rfl,(CD q).symm,RL.symm⟩|false=>
  rw[q]at e;cases q2:BC H.n k with
 |true=>
    rw[q2]at e;injection e with e;subst e;exact .inl ⟨2,_,rfl,(CD q2).symm,RL.symm⟩|false=>
    rw[q2]at e;have e:AL H.h k=G o:=e;by_cases h1:k=i
    . clear Xs Cc r;subst h1;rw[hi]at e;injection e with e;subst e;exact .inl ⟨0,_,rfl,rfl,RL.symm⟩
    . by_cases h2:k=j
      . clear Xs Cc r';subst h2;rw[hj]at e;injection e with e;subst e;exact .inl ⟨1,_,rfl,rfl,RL.symm⟩
      . exact .inr ⟨e,by simp[h1,h2]⟩
end
theorem bk3(B:Bs)(P:Dx)(AV:(Bb P).In B.base):Df B:=⟨λ_=>bk2 AV,λ_=>r_ AV,λ_=>s9 AV⟩
theorem bk4:M2={M2 with prog:=S6}:=congrArg (λp=>({M2 with prog:=p}:OpenLaw)) J7
theorem row_said:OpenLaw.wellSaid M2=M:=by
 rw[bk4];kernel_rfl
end
end Mine
theorem PySem.Challenge.cw_rt0116_01_holds : PySem.Challenge.rw_rt0116_01.Holds := by
 refine holds_law Mine.row_said λsaid=>?_;exact Mine.aX6 (Mine.aY4 Mine.bk3) (by assumption)
