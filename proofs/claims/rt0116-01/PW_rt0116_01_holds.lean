import PyProof.Rows.All
import Wide.All
import OpenK.AllK
import Wide.FinOn
import PyProof.SeqRoads2
import KE.KSortTup
import PyProof.StrBlockL
import PyProof.StrCalls6
import PyProof.StrCalls2
import PyProof.Rows.RuleIs2
import PyProof.StrBlock2
import PyProof.IsiH_set
import PyProof.IsiH_dict
import PyProof.SetNew
import PyProof.SetRoads
import PyProof.DictCalls
import PyProof.Rows.SetObj
import PyProof.LetGo
import PyProof.Rules2
import PyProof.Rows.Nodes
import PyProof.ListIndex
import PyProof.TupleIter
import PyProof.Draws
import PyProof.EnumFor
import PyProof.EnumMake
import PyProof.RulesTry
import PyProof.Rows.TupDisplay
import KE.KxFormat
import PyProof.CallStr
import PyProof.TypeOfCall
import PyProof.RangeFor
import PyProof.IsiPairs
import PyProof.IsiHeapPairs
import PyProof.Methods
import PyProof.StrOps
import PyProof.WalkInts
import PyProof.Rows.RaiseClass
import ObjForm.ListNI
import PyProof.Rows.ListAppend
import PyProof.EqAt
import PyProof.MinMaxWalk
import KE.KDictSum
import PyProof.Rows.SortStr
import PyProof.Rows.SortWalk
import PyProof.ListIndexOut
import PyProof.RulesFinally
import PyProof.ListOps
import PyProof.FString5
import PyProof.Rows.SetFrom
import PyProof.ZipIter
import PyProof.ListNew
import PyProof.EnumIter
import Lean
import PySem.Challenge.RW_rt0116_01
set_option Elab.async false
set_option maxRecDepth 100000
set_option maxHeartbeats 0
set_option linter.all false
set_option tactic.hygienic false
set_option genSizeOf false
set_option genInjectivity false
open PySem PySem.W PySem.Calls
namespace Mine
noncomputable section
open _root_.And renaming intro->Ug
open _root_ renaming Array->BV,Bool->AK,Decidable->s8,False->Bh,ForInStep->sh,Int->AX,List->I,Nat->O,Option->AL,String->DJ,True->PH,Unit->Et,and_congr->He,and_congr_right->u9,beq_eq_false_iff_ne->Li,beq_iff_eq->PJ,beq_self_eq_true->fa,bne_self_eq_false->Xx,decide_eq_false->RY,decide_eq_false_iff_not->gA,decide_eq_true->RX,decide_eq_true_eq->PL,dif_neg->Ch,exists_congr->HM,if_false->Ji,if_neg->CN,if_pos->D5,if_true->Jj,not_or->gN,or_false->Jp,reduceIte->uP
open _root_.Array renaming any->sK,any_toList->bk4,eq_empty_of_size_eq_zero->bq2,forIn_toList->th,getElem?_eq_getElem->Rh,getElem?_eq_some_iff->gB,getElem?_toList->Rl,length_toList->V',mem_toList_iff->fk,mk->YG,toList_inj->sS,toList_push->Uz
open _root_.Bool renaming and_eq_true->D2,and_eq_true_iff->bj3,eq_false_iff->sR,false->A6,false_eq_true->Jh,false_ne_true->NO,false_or->bp9,noConfusion->UY,not_eq_true->bl2,not_eq_true'->RL,not_true->bz0,or_eq_false_iff->br7,or_eq_true->tJ,or_false->bD6,rec->Xm,true->M
open _root_.Classical renaming byContradiction->bu6
open _root_.Decidable renaming em->bO2
open _root_.Eq renaming trans->tj
open _root_.ForInStep renaming yield->G'
open _root_.Iff renaming rfl->V2
open _root_.Int renaming add_comm->bs7,add_mul_emod_self_left->bs8,emod_lt_of_pos->bt0,emod_nonneg->bs9,fdiv->sO,fmod->sP,le_of_lt->fC,lt_of_le_of_lt->bv8,lt_of_lt_of_le->bj8,max_le->bk0,natAbs_of_nonneg->bk1,natCast_nonneg->f9,ne_of_gt->bo2,not_lt->sE,ofNat->fF,ofNat_le->sH,ofNat_lt->fB,toNat_le->bk2,toNat_lt->sB,toNat_natCast->fy,toNat_of_nonneg->tL
open _root_.Int.ofNat renaming inj->bP4
open _root_.LawfulBEq renaming mk->bK5
open _root_.List.Pairwise renaming imp_of_mem->bK7
open _root_.List.Perm renaming cons_inv->bO0,eq_of_pairwise->bw9,swap->bP2
open _root_.List renaming all_cons->sa,all_eq_true->Bp,any_cons->sJ,any_eq_false->Xw,any_eq_true->IC,append_assoc->Ua,append_nil->HJ,cons->bj4,cons_prefix_cons->bv4,drop->bn4,drop_drop->bn5,drop_eq_getElem_cons->Y6,drop_eq_nil_of_le->bw6,drop_length->Jq,drop_zero->Y9,eq_nil_of_length_eq_zero->gc,filterMap_cons->RJ,filterMap_cons_some->bu5,filter_cons->bz2,find?_cons->bp8,findIdx?_eq_none_iff->bv9,flatMap_append->bs3,flatMap_cons->YP,foldl_cons->tK,forIn_cons->RT,forIn_nil->gW,getD->Kh,getElem?_append_left->Xq,getElem?_append_right->V1,getElem?_cons_zero->bq3,getElem?_drop->td,getElem?_eq_getElem->Hd,getElem?_eq_none->V0,getElem?_eq_none_iff->fS,getElem?_eq_some_iff->HH,getElem?_inj->RK,getElem?_map->V3,getElem?_nil->tz,getElem?_range'->uD,getElem?_take_of_lt->bz6,getElem_mem->gC,isEmpty_iff->YO,isEmpty_nil->bt4,le_antisymm->bx0,le_trans->bw8,length->Rf,length_append->F8,length_cons->R_,length_drop->Ut,length_eraseIdx_of_lt->bD0,length_filterMap_le->bu4,length_map->Jk,length_range->bs1,length_range'->uE,length_singleton->ta,length_take->PV,lookup->fb,lookup_append->bz3,lookup_cons->PM,lookup_cons_self->bz1,map->bA7,map_append->NR,map_congr_left->gb,map_cons->I9,map_fst_zip->bz5,map_id->by1,map_inj_left->H',map_map->Jn,map_nil->su,mem_append->Do,mem_append_left->bA8,mem_append_right->PZ,mem_cons->Ci,mem_cons_of_mem->Cp,mem_cons_self->Co,mem_flatMap->uA,mem_iff_getElem->bu8,mem_map->Dz,mem_map_of_mem->u0,mem_of_getElem?->Es,mem_range->P_,mem_range'_1->bB3,mem_singleton->CH,nil_append->ti,nodup_append->I7,nodup_cons->ER,nodup_iff_pairwise_ne->u8,nodup_nil->HI,not_lt->bw7,not_mem_nil->Jo,pairwise_cons->Um,pairwise_map->fc,pairwise_singleton->gX,perm_ext_iff_of_nodup->bB2,perm_middle->bA5,range->DQ,range'->gd,rec->sI,replicate->Xo,replicate_succ->bs5,reverse_cons->YE,take_length->bB9,take_of_length_le->g7,zip_cons_cons->bu7,zip_nil_right->u4
open _root_.Nat renaming add_assoc->NG,add_comm->Lg,add_le_add->UZ,add_le_add_left->HG,add_le_add_right->Xh,add_right_comm->Xl,add_sub_assoc->sA,add_sub_cancel->bj5,add_sub_cancel_left->bA6,add_sub_of_le->bs4,beq->B8,beq_refl->Ir,ble->EN,ble_eq_true_of_le->uB,blt->Fy,blt_eq->Rm,div_lt_of_lt_mul->gG,dvd_of_mod_eq_zero->bs6,eq_of_beq_eq_true->CC,eq_sub_of_add_eq'->bj6,le_add_left->f0,le_add_right->Gz,le_antisymm->Xk,le_of_ble_eq_true->Di,le_of_eq->Eg,le_of_lt->Gb,le_of_not_le->uC,le_of_not_lt->eu,le_of_sub_eq_zero->bw3,le_of_succ_le->uI,le_of_succ_le_succ->sF,le_refl->DE,le_succ->PF,le_succ_of_le->gZ,le_trans->B2,log2_lt->bo4,lt_irrefl->Iq,lt_min->bj9,lt_of_le_of_lt->Gy,lt_of_lt_of_le->Ip,lt_of_not_le->bk3,lt_of_succ_le->gH,lt_or_ge->bw5,lt_succ_of_le->fA,lt_succ_of_lt->f1,lt_succ_self->PG,min_eq_left->bB1,min_eq_right->bB0,min_le_left->Xj,min_le_right->sG,mod_lt->bC9,mul_le_mul_left->s9,ne_of_gt->PN,ne_of_lt->EO,noConfusion->bu9,not_lt->Uc,pos_of_ne_zero->es,rec->Xn,sub_add_cancel->Xi,sub_le->gF,sub_le_of_le_add->bj7,sub_le_sub_left->eq,sub_sub_right->bz4,sub_sub_self->u5,succ_le_succ->Lh,succ_ne_self->tR,zero_add->U_,zero_le->NZ
open _root_.Nat.succ renaming inj->YD
open _root_.Ne renaming symm->CV
open _root_.Option renaming bind_eq_some_iff->by6,bind_some->t5,elim->bn3,isSome_iff_exists->u6,map->gE,map_eq_some_iff->u7,none->L,some->G
open _root_.Option.some renaming inj->Bk,injEq->bN6
open _root_.Prod renaming ext->NI,ext_iff->bs0,fst->br9
open _root_.Prod.mk renaming injEq->bA9
open PyProof.Rows.Copied renaming pop_at->bN3
open PyProof.Rows.F renaming entry_set_update_loop->bC3
open PyProof.Rows renaming IntsAre->PY,SortSt->YM,SortSt->bN7,StrsAre->Ly,Subscript_->YA,add_bool->bL4,append_at->bw0,args_list_sort->tq,args_sorted1->bx5,arrOf->by0,collect_list->bN5,entry_list_sort->tp,entry_sorted->bx4,is_none_ne->bM0,is_none_none->bL9,isnot_none_ne->bM2,isnot_none_none->bM1,issubclass_outer->bM9,keyKind_strs->bx8,kind_sorted->bx2,listUpdate_at->by8,list_addW->bo9,list_sort_treeK->bx6,ltCps_eq->bN4,mul_bool->bL6,not_of->bM6,plain_sorted->bx3,seqObj->YN,seqObj->tm,slot_list_sort->to,sortRuns'->tw,sortRuns'->bN8,sortedHeap->bN9,sortedHeap_at->tu,sortedHeap_old->tv,sorted_out_str->bx9,strKind_oneLt->bx7,subscriptTail->tE,tail_any->Kg,truthy_none->bK8
open PyProof.Rows.SortSt renaming mk'->by7
open PySem renaming Addr->A9,Around->CK,Builtin->E8,CmpOp->PE,Comprehension->FO,Const->eh,Const->s7,Data->NH,DictEntry->Fx,Env->G_,ExceptHandler->RH,Expr->AB,Flow->HK,FuncData->Ka,GenState->fG,Heap->BJ,IsEnum->Lw,IsEnumOut->gP,Keyword->rt,Meets->Ux,Model->fH,NameKind->E1,Obj->Bl,Operator->Jc,OsState->Jd,Params->Dw,Pos->BG,Program->HY,Result->Dq,Scope->BS,Sem->Dx,SetTable->G0,Shared->AR,Slot->Lv,Stmt->Ar,Stmt->E7,Str->Y,StrKeys->sy,Tok->EM,UniqKeys->t3,Value->A4,World->F4,again->Kd,any_of_findIdx_some->bp4,argsOk->Jl,arm_eval_Call->bm8,assign->Eu,assignAll->fM,assignEach->GK,assignInOrder->NL,backTo->F5,backToKw->Ud,behindInMarks->sQ,binaryOp->Ev,bindArgs->fX,bindC->RP,bindL->RO,bindName->gO,bindSpecialIfBound?->br0,builtinKind->Rb,builtinLookup_eq_fast->Ix,cLine->ID,call->CD,callAny->Up,callGetattribute->bt1,callSpecial?->tA,callSpecialIfBoundUnlessNone?->bq9,callWith->PO,call_function_tree->bv7,call_meets->tV,cameBackBy->uH,cellOf->Uh,cellsFrom->Je,checkBoundCall->bt2,checkBuiltinCall->fw,checkTypeCall->bC4,clipAt->Hb,clipAt->bl0,code->sM,codeAny->D6,codeAny_builtin->Iv,codeAny_call_builtin->Lq,codeAny_loop'->fP,codeAny_mono->uL,codeAny_of_tree->RQ,collect->Y0,compPost->sn,compStart->fZ,compTurn->Uf,compareOp->DZ,comprehension->bn9,constantsAlone->YC,dictDisplay->YI,dictPut->tU,dictSet->RW,dictSetDefault->t_,entriesT->bk5,entryFor->Ln,entryFor_alias->uN,entryFor_of_tree->Y',evalPairs->tS,eval_ListComp->bn8,execs->Iu,fastTable_eq_tree->V7,field->Ke,firstArgMember->Ur,firstAsync->Ui,firstIter->Uj,fits_of_scanBound->gi,foldedSetIterable->sV,forTurn->bm0,getAttr->Un,getAttrBy->gJ,getAttrByItsOwn->gK,getItem->PR,getMethod->Jf,getMethod_builtin->gY,holding->HZ,importedModules->bB4,isInstance->Uq,isSubtype->Ri,isSubtype_stop->g6,isSubtype_type->Iy,isTrue->NK,isTrue->bn0,keys_map_store->bp6,keywordEach->Ue,layNew->YQ,letOwnedTupleGo->Xr,methodCall->PP,methodCallForm->bm9,methodCallPos->Jg,model->AQ,newExc->g4,newList->sj,newObj->t9,newTuple->Y5,noFill_list_add->bo5,not_mem_of_findIdx_none->bp7,noteFrame->I8,notedBy->RM,nsFind->NS,partValue->Us,pickOrder->YT,pick_run->br5,plainId->Y3,pyIter->PK,pyNext->EP,raiseErrorWords->bB8,raiseNew->gh,rawInt->EQ,relabel->si,relayAll->Ro,richCompare->tb,rule->Y8,scanBound->Pa,seqIndex?->g8,seqItems?->NW,setAdd->uK,setField->tQ,setFlight->gf,setItem->RZ,setNext->uO,signature?_of->gj,sizeLine->F6,slicePick->Hc,slicePick_plain->br3,slicePicked->g9,sliceRange_one->br4,slot_dict_setitem->bq0,slot_list_getitem->PU,slot_list_setitem->bu0,specialOf->NV,spliced->Lj,splitId->fx,standAt->Kb,starEach->Dy,storeAll->YH,storeName->fN,stored->F7,strKind->Kj,strValues->Uy,swappedStores->fV,swapsWith->Xv,swapsWithSole->bv0,sysModules->NJ,table->Lp,theTreesLotGoes->fQ,theWindowsPlace->bn1,treeTable->V5,truthOfDropped->by9,truthy->sW,typeIs_str->PT,typeLookup->PW,typeLookup_type->Iw,typeOf->H_,unsupported->RN,updateSeq->Rk,valueAt->Ll,wants->YL,whileTurn->bl9,wpAny->AG,wpAny_Assign_Name->bC0,wpAny_Assign_stores->fW,wpAny_AugAssign_Name->bm5,wpAny_BinOp->sX,wpAny_Compare1->bl5,wpAny_Constant_bool->sU,wpAny_Constant_int->bl4,wpAny_Constant_str->fK,wpAny_Expr_any->bm3,wpAny_For->Xu,wpAny_If->sZ,wpAny_Return_some->s_,wpAny_Slice->tH,wpAny_Try_except->bv3,wpAny_UnaryOp->bt8,wpAny_While->sd,wpAny_alloc->Y1,wpAny_askSetting->RS,wpAny_assign_Name->bm4,wpAny_assign_Tuple->bl8,wpAny_attempt->Rc,wpAny_bind->A5,wpAny_call->HL,wpAny_callSpecial?_slot->Lm,wpAny_call_entry->Gf,wpAny_comprehension_free->ff,wpAny_dictEntries->YK,wpAny_dictEpoch->te,wpAny_dictFind_of->sq,wpAny_execs_cons->DF,wpAny_execs_nil->Fz,wpAny_field->Gh,wpAny_forIn_list->gU,wpAny_getItem_list->tF,wpAny_getItem_list_slice->tG,wpAny_handled->tD,wpAny_holding->C',wpAny_isInstance->Ls,wpAny_isTrue_Compare1->fO,wpAny_isTrue_value->sY,wpAny_ite->f_,wpAny_ite_split->PQ,wpAny_items_cons->Lk,wpAny_items_nil->Ub,wpAny_letGo->PX,wpAny_letTemporaryGo->bt9,wpAny_listSubscript_int->bu2,wpAny_load->NN,wpAny_loadPart->bq4,wpAny_loadPart'->YJ,wpAny_mkText->tM,wpAny_mono->Fd,wpAny_newFunctionEnv->bn7,wpAny_newList->tl,wpAny_newObj_type->IA,wpAny_newTuple->gR,wpAny_notOrdered_dict->bq1,wpAny_noted->fR,wpAny_notedAt->bn2,wpAny_of_eq->NP,wpAny_onRaise->Xt,wpAny_pure->AW,wpAny_pyIter_dict->bm2,wpAny_pyIter_list->fU,wpAny_pyIter_slot->uQ,wpAny_pyNext_list_end->bm1,wpAny_pyNext_list_item->se,wpAny_release->br2,wpAny_rule->Ge,wpAny_runValue->uG,wpAny_seqItemAt->bu3,wpAny_seqItems->NX,wpAny_sequenceKey->sv,wpAny_setEntries_of->bD3,wpAny_setField->Lr,wpAny_setField_rec->YF,wpAny_setState_of->YS,wpAny_specialOf->Y7,wpAny_standAt->Eh,wpAny_storeName_cell->bl7,wpAny_storeName_local->bl6,wpAny_storeSet_of->bC2,wpAny_throw->g5,wpAny_truthy_bool->NM,wpAny_tryCatch->PS,wpAny_typeOf->Rj,wpAny_updateDict->bp5,wpAny_updateDictKeys->sr,wpAny_updateSeq->NY
open PySem.Around renaming under_plainId->bt3
open PySem.AutoIntOps renaming add_0->bL1,floordiv_1->bL3,iadd_0->bo1,isub_0->bK9,mod_1->bL0,sub_0->bL2
open PySem.Bind renaming checkArgs->tO,lastOf->Uw
open PySem.Builtin.Builtins renaming bindParams->bw4
open PySem.Builtin.Dict renaming missed->bM5,notOrdered->bL7
open PySem.Builtin.Frozenset renaming oneOther->bM4,updateFrom->bC8
open PySem.Builtin.List renaming listExtendWith->YU,listItems->bD7,listLengthHint->gl,listSameRef->gm,listSubscript?->bu1,listTooLong->bP1,listTouch->bP6,listUpdate->bP5
open PySem.Builtin.SmallTypes renaming ownedTupleHandOut->bM8,ownedTupleIsFree->bM7
open PySem.Builtin.Str renaming strSliceIndices->Rd,tooLong->bM3
open PySem.Builtin.Tuple renaming tupleCompareSizes->bw2
open PySem.Builtin renaming divisionGoesByPylong->bo3
open PySem.Calls renaming Name_function_global->bt6,call_function_entry->bx1,evalArgs_plain->sg,loadGlobal_builtin->bt7
open PySem.Challenge renaming pw_rt0116_01->EE,rw_rt0116_01->Lz
open PySem.Code renaming builtin->t6,quiet_builtin->t8
open PySem.Comprehension renaming mk->bO1
open PySem.Const.str renaming elim->bj2
open PySem.Data.dict renaming elim->bA3
open PySem.Data.fields renaming elim->bA2
open PySem.Data.func renaming elim->bA0
open PySem.Data renaming seq->g_
open PySem.Data.seq renaming elim->bA1
open PySem.DictEntry renaming refKey->bL8
open PySem.EntryCells renaming newEntry->bP0
open PySem.Expr.Attribute renaming elim->rz
open PySem.Expr.BinOp renaming elim->bi1
open PySem.Expr.Call renaming elim->bh8
open PySem.Expr.Compare renaming elim->bi0
open PySem.Expr.Constant renaming elim->bh6
open PySem.Expr.ListComp renaming elim->bi2
open PySem.Expr.Name renaming elim->bh5
open PySem.Expr.Slice renaming elim->s6
open PySem.Expr.Subscript renaming elim->bh9
open PySem.Expr.Tuple renaming elim->bh7
open PySem.F renaming args_enumerate_next_1->bv2,args_list_add_2->bo8,args_str_split_2->tY,args_tuple_iterator_next_1->bq8,called_set->bC5,entry_dict_get->bt5,entry_enumerate_next->bv1,entry_list_add->bo7,entry_max_loop->tc,entry_str_split->tX,entry_tuple_iterator_next->bq7,plainAttrs_list->by4,plain_extend_loop->uR,plain_extend_loop->bD8,plain_max_loop->gV,slot_dict_get->tP,slot_dict_getattribute->gL,slot_dict_getitem->br8,slot_dict_setdefault->bw1,slot_enumerate_next->gQ,slot_list_add->bo6,slot_list_append->by2,slot_set_getattribute->gI,slot_set_iter->bD4,slot_str_getitem->br6,slot_str_split->gT,slot_tuple_iterator_next->Y4,type_list_append->by3
open PySem.Heap.DictAt renaming nodup->Ul
open PySem.Heap renaming ExtBut->Dp,SameBut->E2,get?_none_of_le->gn,get?_push_of_some->C0,get?_push_size->CW,get?_update_other->GO,get?_update_self->FP,lt_size->Df,push->bD5,size_push->IB
open PySem.Heap.FunFrames renaming cons->bK6,of_keeps->bm6
open PySem.Heap.IsList renaming push->bC7
open PySem.Heap.SameBut renaming refl->fg,update->Fe
open PySem.IntBool renaming add_bool_int->bL5
open PySem.IsPart renaming none->gD
open PySem.IsiPair renaming dict_str->bN0,str_bytes->bN2,str_str->bN1
open PySem.Made renaming str->so
open PySem.Manifest renaming owners->bD1,signature?->gM,varargsMethods->tN
open PySem.MeetsSeq.EqGives renaming int->tI
open PySem.NameKind renaming cell->bn6,free->GL
open PySem.Obj renaming cls_mapFields->tC,data_mapDict->fh,data_mapDictKeys->Uk,data_mapFields->g0,isFreed_of_dict->Xy,isFreed_of_fields->tB,mapFields->Rn,mapSeq->GN,putSet->YR
open PySem.P renaming eq_str->bp2,gt_int->bp1,lt_int->bp0,lt_str->bp3
open PySem.SeqAt renaming EqAt->Rg
open PySem.SeqRoads2.EqGives renaming str->bs2
open PySem.SetTable renaming below->gk,fits->bD2,grown->V6,laid->bC1,orStandIn->uJ
open PySem.SetTable.below renaming go->bP3
open PySem.Shared renaming TypeIs->bC6
open PySem.Stmt.Assign renaming elim->bi7
open PySem.Stmt.AugAssign renaming elim->bi8
open PySem.Stmt.Break renaming elim->bj0
open PySem.Stmt.ClassDef renaming elim->bK4
open PySem.Stmt.Expr renaming elim->bi6
open PySem.Stmt.For renaming elim->bi3
open PySem.Stmt.FunctionDef renaming elim->bK1
open PySem.Stmt.If renaming elim->bi5
open PySem.Stmt.Return renaming elim->bj1
open PySem.Stmt.Try renaming elim->bi9
open PySem.Stmt.While renaming elim->bi4
open PySem.Str renaming append->bo0,empty->RI,mk->tZ,ofString->Er,ofString->Lx
open PySem.Str.mk renaming injEq->bl3
open PySem.Txt renaming replace->bl1,split->Xp,startswith->bv5
open PySem.Value renaming bool->NQ,builtin->br1,int->Uu,isStr->t4,isStrOf->YB,noConfusion->Uv,none->Ha,ref->Jm,str->Lu,type->Ki
open PySem.Value.bool renaming elim->bz8
open PySem.Value.builtin renaming elim->bk9
open PySem.Value.int renaming elim->bA4
open PySem.Value.none renaming elim->bz7
open PySem.Value.ref renaming elim->bk8,inj->by5
open PySem.Value.str renaming elim->bz9
open PySem.Value.type renaming elim->bk7
open PySem.W.Fast renaming te10110043849684766642->bO3,te11892475500146522536->bO6,te12563942051412417395->bO4,te14082659384304107361->bO8,te14364793385576792824->fE,te14374325043358763698->bO7,te15667345088766844465->bO5,te4187177175401517315->bO9,te4202317264376624991->bK3,tw14364793385576792824->bK2,tw4202317264376624991->bk6
open PySem.W renaming Frag->GZ,Looks->Gc,boot_drawn->V4,boot_toks->uF,callWith_of->fY,check_slot->Y2,emptyDict->fq,findCls->t7,findIn->Gg,instObj->fs,lookIn->fj,looks_findIn->NT,looks_specialIn->bq6,looks_subIn->Uo,methodObj->gq,peek->Ra,readsAllW_cons_inv->bB7,readsAllW_nil_inv->bB6,subIn->Xz,topFrame->ge,typeIn->sx
open PySem.W.KFm renaming call_k->bv6
open PySem.W.Looks renaming ld->Kc,of_peek->NU,of_pure->bm7
open PySem.W.WShape renaming hasAll->bB5
open PySem.callAny renaming viaDunder->bq5
open PySem.pickOrder renaming go->uM
open _root_.String renaming ofList->sN
noncomputable def DS{J:Type}(e:AB)(d:J)(k:Y->BG->J):J:=if h:e.ctorIdx=23 then bh5 (motive_1:=λ_=>J) e h k else d
theorem gr{J:Type}{e:AB}{d:J}{k:Y->BG->J}{r:J}(h:DS e d k=r){P:AB->Prop}(c:∀a0 a1,k a0 a1=r->P (.Name a0 a1))(n:d=r->P e):P e:=if q:e.ctorIdx=23 then bh5 (motive_1:=λe=>DS e d k=r->P e) e q (λa0 a1 h=>c a0 a1 h) h else n ((Ch q).symm.trans h)
theorem ES{J:Type}{e:AB}{d:J}{k:Y->BG->J}{r:J}(h:DS e d k=r)(hd:d=r->Bh){P:AB->Prop}(c:∀a0 a1,k a0 a1=r->P (.Name a0 a1)):P e:=gr h c λe=>(hd e).elim
noncomputable def HN{J:Type}(e:AB)(d:J)(k:eh->O->BG->J):J:=if h:e.ctorIdx=19 then bh6 (motive_1:=λ_=>J) e h k else d
theorem Iz{J:Type}{e:AB}{d:J}{k:eh->O->BG->J}{r:J}(h:HN e d k=r)(hd:d=r->Bh){P:AB->Prop}(c:∀a0 a1 a2,k a0 a1 a2=r->P (.Constant a0 a1 a2)):P e:=if q:e.ctorIdx=19 then bh6 (motive_1:=λe=>HN e d k=r->P e) e q (λa0 a1 a2 h=>c a0 a1 a2 h) h else(hd ((Ch q).symm.trans h)).elim
noncomputable def Jr{J:Type}(e:AB)(d:J)(k:I AB->O->BG->J):J:=if h:e.ctorIdx=25 then bh7 (motive_1:=λ_=>J) e h k else d
theorem gt{J:Type}{e:AB}{d:J}{k:I AB->O->BG->J}{r:J}(h:Jr e d k=r){P:AB->Prop}(c:∀a0 a1 a2,k a0 a1 a2=r->P (.Tuple a0 a1 a2))(n:d=r->P e):P e:=if q:e.ctorIdx=25 then bh7 (motive_1:=λe=>Jr e d k=r->P e) e q (λa0 a1 a2 h=>c a0 a1 a2 h) h else n ((Ch q).symm.trans h)
theorem Rp{J:Type}{e:AB}{d:J}{k:I AB->O->BG->J}{r:J}(h:Jr e d k=r)(hd:d=r->Bh){P:AB->Prop}(c:∀a0 a1 a2,k a0 a1 a2=r->P (.Tuple a0 a1 a2)):P e:=gt h c λe=>(hd e).elim
noncomputable def E9{J:Type}(e:AB)(d:J)(k:AB->I AB->I rt->BG->J):J:=if h:e.ctorIdx=16 then bh8 (motive_1:=λ_=>J) e h k else d
theorem M0{J:Type}{e:AB}{d:J}{k:AB->I AB->I rt->BG->J}{r:J}(h:E9 e d k=r)(hd:d=r->Bh){P:AB->Prop}(c:∀a0 a1 a2 a3,k a0 a1 a2 a3=r->P (.Call a0 a1 a2 a3)):P e:=if q:e.ctorIdx=16 then bh8 (motive_1:=λe=>E9 e d k=r->P e) e q (λa0 a1 a2 a3 h=>c a0 a1 a2 a3 h) h else(hd ((Ch q).symm.trans h)).elim
noncomputable def H2{J:Type}(e:AB)(d:J)(k:AB->Y->BG->J):J:=if h:e.ctorIdx=20 then rz (motive_1:=λ_=>J) e h k else d
theorem Rq{J:Type}{e:AB}{d:J}{k:AB->Y->BG->J}{r:J}(h:H2 e d k=r)(hd:d=r->Bh){P:AB->Prop}(c:∀a0 a1 a2,k a0 a1 a2=r->P (.Attribute a0 a1 a2)):P e:=if q:e.ctorIdx=20 then rz (motive_1:=λe=>H2 e d k=r->P e) e q (λa0 a1 a2 h=>c a0 a1 a2 h) h else(hd ((Ch q).symm.trans h)).elim
noncomputable def J'{J:Type}(e:AB)(d:J)(k:AB->AB->BG->J):J:=if h:e.ctorIdx=21 then bh9 (motive_1:=λ_=>J) e h k else d
theorem uT{J:Type}{e:AB}{d:J}{k:AB->AB->BG->J}{r:J}(h:J' e d k=r){P:AB->Prop}(c:∀a0 a1 a2,k a0 a1 a2=r->P (.Subscript a0 a1 a2))(n:d=r->P e):P e:=if q:e.ctorIdx=21 then bh9 (motive_1:=λe=>J' e d k=r->P e) e q (λa0 a1 a2 h=>c a0 a1 a2 h) h else n ((Ch q).symm.trans h)
theorem N_{J:Type}{e:AB}{d:J}{k:AB->AB->BG->J}{r:J}(h:J' e d k=r)(hd:d=r->Bh){P:AB->Prop}(c:∀a0 a1 a2,k a0 a1 a2=r->P (.Subscript a0 a1 a2)):P e:=uT h c λe=>(hd e).elim
noncomputable def Kk{J:Type}(e:AB)(d:J)(k:AB->I PE->I AB->BG->J):J:=if h:e.ctorIdx=15 then bi0 (motive_1:=λ_=>J) e h k else d
theorem Rr{J:Type}{e:AB}{d:J}{k:AB->I PE->I AB->BG->J}{r:J}(h:Kk e d k=r)(hd:d=r->Bh){P:AB->Prop}(c:∀a0 a1 a2 a3,k a0 a1 a2 a3=r->P (.Compare a0 a1 a2 a3)):P e:=if q:e.ctorIdx=15 then bi0 (motive_1:=λe=>Kk e d k=r->P e) e q (λa0 a1 a2 a3 h=>c a0 a1 a2 a3 h) h else(hd ((Ch q).symm.trans h)).elim
noncomputable def Na{J:Type}(e:AB)(d:J)(k:AB->Jc->AB->BG->J):J:=if h:e.ctorIdx=2 then bi1 (motive_1:=λ_=>J) e h k else d
theorem gu{J:Type}{e:AB}{d:J}{k:AB->Jc->AB->BG->J}{r:J}(h:Na e d k=r)(hd:d=r->Bh){P:AB->Prop}(c:∀a0 a1 a2 a3,k a0 a1 a2 a3=r->P (.BinOp a0 a1 a2 a3)):P e:=if q:e.ctorIdx=2 then bi1 (motive_1:=λe=>Na e d k=r->P e) e q (λa0 a1 a2 a3 h=>c a0 a1 a2 a3 h) h else(hd ((Ch q).symm.trans h)).elim
noncomputable def IE{J:Type}(e:AB)(d:J)(k:AB->I FO->BS->BG->J):J:=if h:e.ctorIdx=8 then bi2 (motive_1:=λ_=>J) e h k else d
theorem YV{J:Type}{e:AB}{d:J}{k:AB->I FO->BS->BG->J}{r:J}(h:IE e d k=r)(hd:d=r->Bh){P:AB->Prop}(c:∀a0 a1 a2 a3,k a0 a1 a2 a3=r->P (.ListComp a0 a1 a2 a3)):P e:=if q:e.ctorIdx=8 then bi2 (motive_1:=λe=>IE e d k=r->P e) e q (λa0 a1 a2 a3 h=>c a0 a1 a2 a3 h) h else(hd ((Ch q).symm.trans h)).elim
noncomputable def Nb{J:Type}(e:AB)(d:J)(k:AL AB->AL AB->AL AB->BG->J):J:=if h:e.ctorIdx=26 then s6 (motive_1:=λ_=>J) e h k else d
theorem gv{J:Type}{e:AB}{d:J}{k:AL AB->AL AB->AL AB->BG->J}{r:J}(h:Nb e d k=r)(hd:d=r->Bh){P:AB->Prop}(c:∀a0 a1 a2 a3,k a0 a1 a2 a3=r->P (.Slice a0 a1 a2 a3)):P e:=if q:e.ctorIdx=26 then s6 (motive_1:=λe=>Nb e d k=r->P e) e q (λa0 a1 a2 a3 h=>c a0 a1 a2 a3 h) h else(hd ((Ch q).symm.trans h)).elim
noncomputable def G1{J:Type}(e:E7)(d:J)(k:AB->AB->I Ar->I Ar->BG->J):J:=if h:e.ctorIdx=9 then bi3 (motive_2:=λ_=>J) e h k else d
theorem gw{J:Type}{e:E7}{d:J}{k:AB->AB->I Ar->I Ar->BG->J}{r:J}(h:G1 e d k=r)(hd:d=r->Bh){P:E7->Prop}(c:∀a0 a1 a2 a3 a4,k a0 a1 a2 a3 a4=r->P (.For a0 a1 a2 a3 a4)):P e:=if q:e.ctorIdx=9 then bi3 (motive_2:=λe=>G1 e d k=r->P e) e q (λa0 a1 a2 a3 a4 h=>c a0 a1 a2 a3 a4 h) h else(hd ((Ch q).symm.trans h)).elim
noncomputable def Rs{J:Type}(e:E7)(d:J)(k:AB->I Ar->I Ar->BG->J):J:=if h:e.ctorIdx=11 then bi4 (motive_2:=λ_=>J) e h k else d
theorem gx{J:Type}{e:E7}{d:J}{k:AB->I Ar->I Ar->BG->J}{r:J}(h:Rs e d k=r)(hd:d=r->Bh){P:E7->Prop}(c:∀a0 a1 a2 a3,k a0 a1 a2 a3=r->P (.While a0 a1 a2 a3)):P e:=if q:e.ctorIdx=11 then bi4 (motive_2:=λe=>Rs e d k=r->P e) e q (λa0 a1 a2 a3 h=>c a0 a1 a2 a3 h) h else(hd ((Ch q).symm.trans h)).elim
noncomputable def Js{J:Type}(e:E7)(d:J)(k:AB->I Ar->I Ar->BG->J):J:=if h:e.ctorIdx=12 then bi5 (motive_2:=λ_=>J) e h k else d
theorem YW{J:Type}{e:E7}{d:J}{k:AB->I Ar->I Ar->BG->J}{r:J}(h:Js e d k=r)(hd:d=r->Bh){P:E7->Prop}(c:∀a0 a1 a2 a3,k a0 a1 a2 a3=r->P (.If a0 a1 a2 a3)):P e:=if q:e.ctorIdx=12 then bi5 (motive_2:=λe=>Js e d k=r->P e) e q (λa0 a1 a2 a3 h=>c a0 a1 a2 a3 h) h else(hd ((Ch q).symm.trans h)).elim
noncomputable def Pb{J:Type}(e:E7)(d:J)(k:AB->BG->J):J:=if h:e.ctorIdx=24 then bi6 (motive_2:=λ_=>J) e h k else d
theorem YX{J:Type}{e:E7}{d:J}{k:AB->BG->J}{r:J}(h:Pb e d k=r)(hd:d=r->Bh){P:E7->Prop}(c:∀a0 a1,k a0 a1=r->P (.Expr a0 a1)):P e:=if q:e.ctorIdx=24 then bi6 (motive_2:=λe=>Pb e d k=r->P e) e q (λa0 a1 h=>c a0 a1 h) h else(hd ((Ch q).symm.trans h)).elim
noncomputable def Pc{J:Type}(e:E7)(d:J)(k:I AB->AB->BG->J):J:=if h:e.ctorIdx=5 then bi7 (motive_2:=λ_=>J) e h k else d
theorem gy{J:Type}{e:E7}{d:J}{k:I AB->AB->BG->J}{r:J}(h:Pc e d k=r)(hd:d=r->Bh){P:E7->Prop}(c:∀a0 a1 a2,k a0 a1 a2=r->P (.Assign a0 a1 a2)):P e:=if q:e.ctorIdx=5 then bi7 (motive_2:=λe=>Pc e d k=r->P e) e q (λa0 a1 a2 h=>c a0 a1 a2 h) h else(hd ((Ch q).symm.trans h)).elim
noncomputable def V8{J:Type}(e:E7)(d:J)(k:AB->Jc->AB->BG->J):J:=if h:e.ctorIdx=7 then bi8 (motive_2:=λ_=>J) e h k else d
theorem gz{J:Type}{e:E7}{d:J}{k:AB->Jc->AB->BG->J}{r:J}(h:V8 e d k=r)(hd:d=r->Bh){P:E7->Prop}(c:∀a0 a1 a2 a3,k a0 a1 a2 a3=r->P (.AugAssign a0 a1 a2 a3)):P e:=if q:e.ctorIdx=7 then bi8 (motive_2:=λe=>V8 e d k=r->P e) e q (λa0 a1 a2 a3 h=>c a0 a1 a2 a3 h) h else(hd ((Ch q).symm.trans h)).elim
noncomputable def Nc{J:Type}(e:E7)(d:J)(k:I Ar->I RH->I Ar->I Ar->BG->J):J:=if h:e.ctorIdx=17 then bi9 (motive_2:=λ_=>J) e h k else d
theorem h'{J:Type}{e:E7}{d:J}{k:I Ar->I RH->I Ar->I Ar->BG->J}{r:J}(h:Nc e d k=r)(hd:d=r->Bh){P:E7->Prop}(c:∀a0 a1 a2 a3 a4,k a0 a1 a2 a3 a4=r->P (.Try a0 a1 a2 a3 a4)):P e:=if q:e.ctorIdx=17 then bi9 (motive_2:=λe=>Nc e d k=r->P e) e q (λa0 a1 a2 a3 a4 h=>c a0 a1 a2 a3 a4 h) h else(hd ((Ch q).symm.trans h)).elim
noncomputable def YY{J:Type}(e:E7)(d:J)(k:BG->J):J:=if h:e.ctorIdx=26 then bj0 (motive_2:=λ_=>J) e h k else d
theorem uU{J:Type}{e:E7}{d:J}{k:BG->J}{r:J}(h:YY e d k=r)(hd:d=r->Bh){P:E7->Prop}(c:∀a0,k a0=r->P (.Break a0)):P e:=if q:e.ctorIdx=26 then bj0 (motive_2:=λe=>YY e d k=r->P e) e q (λa0 h=>c a0 h) h else(hd ((Ch q).symm.trans h)).elim
noncomputable def Rt{J:Type}(e:E7)(d:J)(k:AL AB->BG->J):J:=if h:e.ctorIdx=3 then bj1 (motive_2:=λ_=>J) e h k else d
theorem uV{J:Type}{e:E7}{d:J}{k:AL AB->BG->J}{r:J}(h:Rt e d k=r)(hd:d=r->Bh){P:E7->Prop}(c:∀a0 a1,k a0 a1=r->P (.Return a0 a1)):P e:=if q:e.ctorIdx=3 then bj1 (motive_2:=λe=>Rt e d k=r->P e) e q (λa0 a1 h=>c a0 a1 h) h else(hd ((Ch q).symm.trans h)).elim
noncomputable def V9{J:Type}(e:E7)(d:J)(k:Y->Arguments->I Ar->I AB->AL AB->I TypeParam->BS->AL BS->Y->BG->J):J:=if h:e.ctorIdx=0 then bK1 (motive_2:=λ_=>J) e h k else d
noncomputable def Pd{J:Type}(e:s7)(d:J)(k:Y->J):J:=if h:e.ctorIdx=5 then bj2 (motive:=λ_=>J) e h k else d
theorem YZ{J:Type}{e:s7}{d:J}{k:Y->J}{r:J}(h:Pd e d k=r)(hd:d=r->Bh){P:s7->Prop}(c:∀a0,k a0=r->P (.str a0)):P e:=if q:e.ctorIdx=5 then bj2 (motive:=λe=>Pd e d k=r->P e) e q (λa0 h=>c a0 h) h else(hd ((Ch q).symm.trans h)).elim
theorem hV{J:Type}{e:AB}{d:J}{k:AB->Y->BG->J}{r:J}(h:H2 e d k=r){P:AB->Prop}(c:∀a0 a1 a2,k a0 a1 a2=r->P (.Attribute a0 a1 a2))(e0:e.ctorIdx≠20->d=r->P e):P e:=if q:e.ctorIdx=20 then rz (motive_1:=λe=>H2 e d k=r->P e) e q (λa0 a1 a2 h=>c a0 a1 a2 h) h else e0 q ((Ch q).symm.trans h)
theorem uW{J:Type}{e:AB}{d:J}{k:AL AB->AL AB->AL AB->BG->J}{r:J}(h:Nb e d k=r){P:AB->Prop}(c:∀a0 a1 a2 a3,k a0 a1 a2 a3=r->P (.Slice a0 a1 a2 a3))(e0:e.ctorIdx≠26->d=r->P e):P e:=if q:e.ctorIdx=26 then s6 (motive_1:=λe=>Nb e d k=r->P e) e q (λa0 a1 a2 a3 h=>c a0 a1 a2 a3 h) h else e0 q ((Ch q).symm.trans h)
theorem AE{J:Type}{x:J}(h:L=G x):Bh:=by contradiction
theorem B3(h:A6=M):Bh:=UY h
noncomputable def l0{C J:Type}(l:I C)(d k:J):J:=match l with|[]=>k|_::_=>d
noncomputable def l1{C J:Type}(l:I C)(d:J)(k:C->J):J:=match l with|[]=>d|x::t=>match t with|[]=>k x|_::_=>d
theorem ET{C J:Type}{l:I C}{d k r:J}(h:l0 l d k=r)(hd:d=r->Bh){P:I C->Prop}(c:k=r->P []):P l:=by cases l with
 |nil=>exact c h|cons x t=>exact(hd h).elim
theorem Cs{C J:Type}{l:I C}{d:J}{k:C->J}{r:J}(h:l1 l d k=r)(hd:d=r->Bh){P:I C->Prop}(c:∀x,k x=r->P [x]):P l:=by cases l with
 |nil=>exact(hd h).elim|cons x t=>cases t with
 |nil=>exact c x h|cons y t=>exact(hd h).elim
noncomputable def Y_{J:Type}(e:RH)(k:AL AB->AL Y->I Ar->BG->J):J:=match e with|.ExceptHandler t n b p=>k t n b p
theorem uX{J:Type}{e:RH}{k:AL AB->AL Y->I Ar->BG->J}{r:J}(h:Y_ e k=r){P:RH->Prop}(c:∀t n b p,k t n b p=r->P (.ExceptHandler t n b p)):P e:=by cases e;exact c _ _ _ _ h
noncomputable def lC{C J:Type}(l:I C)(d:J)(k:C->I C->J):J:=match l with|[]=>d|x::t=>k x t
theorem FQ{C J:Type}{l:I C}{d:J}{k:C->I C->J}{r:J}(h:lC l d k=r)(hd:d=r->Bh){P:I C->Prop}(c:∀x t,k x t=r->P (x::t)):P l:=by cases l with
 |nil=>exact(hd h).elim|cons x t=>exact c x t h
noncomputable def Ya{C J:Type}(l:I C)(d:J)(k:C->J)(k':C->C->J):J:=lC l d λx t=>match t with|[]=>k x|y::t=>l0 t d (k' x y)
theorem hZ{C J:Type}{l:I C}{d:J}{k:C->J}{k':C->C->J}{r:J}(h:Ya l d k k'=r)(hd:d=r->Bh){P:I C->Prop}(c:∀x,k x=r->P [x])(c':∀x y,k' x y=r->P [x,y]):P l:=by
 apply FQ h hd;intro x t h;cases t with
 |nil=>exact c x h|cons y t=>apply ET h hd;intro h;exact c' x y h
theorem Jt{a b:AK}{P:Prop}(h:(a||b)=M)(l:a=M->P)(r:b=M->P):P:=by cases a with
 |true=>exact l rfl|false=>exact r h
theorem GP{C:Type}{a b:AL C}{v:C}{P:Prop}(h:a.or b=G v)(l:a=G v->P)(r:b=G v->P):P:=by cases a with
 |some x=>exact l h|none=>exact r h
noncomputable def l2{C J:Type}(l:I C)(d:J)(k:C->C->J):J:=lC l d λx t=>l1 t d λy=>k x y
theorem Hf{C J:Type}{l:I C}{d:J}{k:C->C->J}{r:J}(h:l2 l d k=r)(hd:d=r->Bh){P:I C->Prop}(c:∀x y,k x y=r->P [x,y]):P l:=by
 apply FQ h hd;intro x t h;apply Cs h hd;intro y h;exact c x y h
noncomputable def nS{J:Type}(n:O)(d:J)(k:O->J):J:=match n with|0=>d|m+1=>k m
theorem Yb{J:Type}{n:O}{d:J}{k:O->J}{r:J}(h:nS n d k=r)(hd:d=r->Bh){P:Prop}(c:∀m,n=m+1->k m=r->P):P:=by cases n with
 |zero=>exact(hd h).elim|succ m=>exact c m rfl h
noncomputable def bC{J:Type}(b:AK)(x y:J):J:=match b with|true=>x|false=>y
theorem Ru{J:Type}{b:AK}{x y r:J}(h:bC b x y=r){P:Prop}(l:b=M->x=r->P)(m:y=r->P):P:=by cases b with
 |true=>exact l rfl h|false=>exact m h
noncomputable def Az{J F9:Type}(x:AL J)(k:J->AL F9):AL F9:=match x with|some a=>k a|none=>L
theorem BH{J F9:Type}{x:AL J}{k:J->AL F9}{y:F9}(h:Az x k=G y){P:Prop}(c:∀a,x=G a->k a=G y->P):P:=by cases x with
 |none=>exact(AE h).elim|some a=>exact c a rfl h
theorem Ff{J:Type}{c:Prop}[d:s8 c]{a b r:J}(h:(if c then a else b)=r){P:Prop}(l:c->a=r->P)(m:b=r->P):P:=by cases d with
 |isTrue q=>exact l q h|isFalse q=>exact m h
noncomputable def oS{C J:Type}(o:AL C)(d:J)(k:C->J):J:=match o with|some x=>k x|none=>d
theorem Nd{C J:Type}{o:AL C}{d:J}{k:C->J}{r:J}(h:oS o d k=r)(hd:d=r->Bh){P:AL C->Prop}(c:∀x,k x=r->P (G x)):P o:=by cases o with
 |none=>exact(hd h).elim|some x=>exact c x h
theorem Nf{C J:Type}{o:AL C}{d:J}{k:C->J}{r:J}(h:oS o d k=r){P:Prop}(c:∀x,o=G x->k x=r->P)(e:o=L->d=r->P):P:=by cases o with
 |none=>exact e rfl h|some x=>exact c x rfl h
noncomputable def oN{C J:Type}(o:AL C)(d k:J):J:=match o with|some _=>d|none=>k
theorem GQ{C J:Type}{o:AL C}{d k r:J}(h:oN o d k=r)(hd:d=r->Bh){P:AL C->Prop}(c:k=r->P L):P o:=by cases o with
 |none=>exact c h|some x=>exact(hd h).elim
noncomputable def bT{J:Type}(b:AK)(d k:J):J:=match b with|true=>k|false=>d
theorem Cj{J:Type}{b:AK}{d k r:J}(h:bT b d k=r)(hd:d=r->Bh){P:Prop}(c:b=M->k=r->P):P:=by cases b with
 |true=>exact c rfl h|false=>exact(hd h).elim
theorem B'{a b:AK}(h:(a&&b)=M):a=M:=(bj3.mp h).1
theorem Ak{a b:AK}(h:(a&&b)=M):b=M:=(bj3.mp h).2
theorem Bq{C:Type}{a x:C}(h:G a=G x){P:C->Prop}(k:P a):P x:=Bk h▸k
theorem uY{C J:Type}{a x:C}{b y:J}(h:G (a,b)=G (x,y)){P:C->J->Prop}(k:P a b):P x y:=Bq h (P:=λz=>P z.1 z.2) k
theorem M1{C J F9:Type}{a x:C}{b y:J}{c z:F9}(h:G (a,b,c)=G (x,y,z)){P:C->J->F9->Prop}(k:P a b c):P x y z:=Bq h (P:=λz=>P z.1 z.2.1 z.2.2) k
theorem uZ{C J F9 h_:Type}{a x:C}{b y:J}{c z:F9}{d w:h_}(h:G (a,b,c,d)=G (x,y,z,w)){P:C->J->F9->h_->Prop}(k:P a b c d):P x y z w:=Bq h (P:=λz=>P z.1 z.2.1 z.2.2.1 z.2.2.2) k
theorem IF{C:Type}{a b:C}[s8 (a=b)](h:decide (a=b)=M){P:C->Prop}(k:P b):P a:=of_decide_eq_true h▸k
theorem xA{P0:Prop}{AM:Prop}(h:P0/\(AM)){P:Prop}(k:P0->AM->P):P:=by obtain⟨h0,z⟩:=h;exact k h0 z
theorem xE{Aq:Sort _}{AM:Aq->Prop}(h:∃x0,AM x0){P:Prop}(k:∀x0,AM x0->P):P:=by obtain⟨x0,z⟩:=h;exact k x0 z
theorem G2{P0:Prop}{P1:Prop}{AM:Prop}(h:P0/\(P1/\(AM))){P:Prop}(k:P0->P1->AM->P):P:=by obtain⟨h0,h1,z⟩:=h;exact k h0 h1 z
theorem H3{B0:Sort _}{P0:Prop}{AM:B0->Prop}(h:P0/\(∃x1,AM x1)){P:Prop}(k:P0->∀x1,AM x1->P):P:=by obtain⟨h0,x1,z⟩:=h;exact k h0 x1 z
theorem AC{Aq:Sort _}{P1:Aq->Prop}{AM:Aq->Prop}(h:∃x0,P1 x0/\(AM x0)){P:Prop}(k:∀x0,P1 x0->AM x0->P):P:=by obtain⟨x0,h1,z⟩:=h;exact k x0 h1 z
theorem D9{Aq:Sort _}{B0:Sort _}{AM:Aq->B0->Prop}(h:∃x0,∃x1,AM x0 x1){P:Prop}(k:∀x0,∀x1,AM x0 x1->P):P:=by obtain⟨x0,x1,z⟩:=h;exact k x0 x1 z
theorem M2{P0:Prop}{P1:Prop}{P2:Prop}{AM:Prop}(h:P0/\(P1/\(P2/\(AM)))){P:Prop}(k:P0->P1->P2->AM->P):P:=by obtain⟨h0,h1,h2,z⟩:=h;exact k h0 h1 h2 z
theorem IG{BF:Sort _}{P0:Prop}{P1:Prop}{AM:BF->Prop}(h:P0/\(P1/\(∃x2,AM x2))){P:Prop}(k:P0->P1->∀x2,AM x2->P):P:=by obtain⟨h0,h1,x2,z⟩:=h;exact k h0 h1 x2 z
theorem Hg{B0:Sort _}{P0:Prop}{P2:B0->Prop}{AM:B0->Prop}(h:P0/\(∃x1,P2 x1/\(AM x1))){P:Prop}(k:P0->∀x1,P2 x1->AM x1->P):P:=by obtain⟨h0,x1,h2,z⟩:=h;exact k h0 x1 h2 z
theorem CX{Aq:Sort _}{P1:Aq->Prop}{P2:Aq->Prop}{AM:Aq->Prop}(h:∃x0,P1 x0/\(P2 x0/\(AM x0))){P:Prop}(k:∀x0,P1 x0->P2 x0->AM x0->P):P:=by obtain⟨x0,h1,h2,z⟩:=h;exact k x0 h1 h2 z
theorem u_{Aq:Sort _}{BF:Sort _}{P1:Aq->Prop}{AM:Aq->BF->Prop}(h:∃x0,P1 x0/\(∃x2,AM x0 x2)){P:Prop}(k:∀x0,P1 x0->∀x2,AM x0 x2->P):P:=by obtain⟨x0,h1,x2,z⟩:=h;exact k x0 h1 x2 z
theorem EU{Aq:Sort _}{B0:Sort _}{P2:Aq->B0->Prop}{AM:Aq->B0->Prop}(h:∃x0,∃x1,P2 x0 x1/\(AM x0 x1)){P:Prop}(k:∀x0,∀x1,P2 x0 x1->AM x0 x1->P):P:=by obtain⟨x0,x1,h2,z⟩:=h;exact k x0 x1 h2 z
theorem ua{Aq:Sort _}{B0:Sort _}{BF:Sort _}{AM:Aq->B0->BF->Prop}(h:∃x0,∃x1,∃x2,AM x0 x1 x2){P:Prop}(k:∀x0,∀x1,∀x2,AM x0 x1 x2->P):P:=by obtain⟨x0,x1,x2,z⟩:=h;exact k x0 x1 x2 z
theorem VA{P0:Prop}{P1:Prop}{P2:Prop}{P3:Prop}{AM:Prop}(h:P0/\(P1/\(P2/\(P3/\(AM))))){P:Prop}(k:P0->P1->P2->P3->AM->P):P:=by obtain⟨h0,h1,h2,h3,z⟩:=h;exact k h0 h1 h2 h3 z
theorem Pe{BF:Sort _}{P0:Prop}{P1:Prop}{P3:BF->Prop}{AM:BF->Prop}(h:P0/\(P1/\(∃x2,P3 x2/\(AM x2)))){P:Prop}(k:P0->P1->∀x2,P3 x2->AM x2->P):P:=by obtain⟨h0,h1,x2,h3,z⟩:=h;exact k h0 h1 x2 h3 z
theorem Pf{Aq:Sort _}{Bi:Sort _}{P1:Aq->Prop}{P2:Aq->Prop}{AM:Aq->Bi->Prop}(h:∃x0,P1 x0/\(P2 x0/\(∃x3,AM x0 x3))){P:Prop}(k:∀x0,P1 x0->P2 x0->∀x3,AM x0 x3->P):P:=by obtain⟨x0,h1,h2,x3,z⟩:=h;exact k x0 h1 h2 x3 z
theorem ub{Aq:Sort _}{BF:Sort _}{P1:Aq->Prop}{P3:Aq->BF->Prop}{AM:Aq->BF->Prop}(h:∃x0,P1 x0/\(∃x2,P3 x0 x2/\(AM x0 x2))){P:Prop}(k:∀x0,P1 x0->∀x2,P3 x0 x2->AM x0 x2->P):P:=by obtain⟨x0,h1,x2,h3,z⟩:=h;exact k x0 h1 x2 h3 z
theorem Bu{Aq:Sort _}{B0:Sort _}{P2:Aq->B0->Prop}{P3:Aq->B0->Prop}{AM:Aq->B0->Prop}(h:∃x0,∃x1,P2 x0 x1/\(P3 x0 x1/\(AM x0 x1))){P:Prop}(k:∀x0,∀x1,P2 x0 x1->P3 x0 x1->AM x0 x1->P):P:=by obtain⟨x0,x1,h2,h3,z⟩:=h;exact k x0 x1 h2 h3 z
theorem Hh{Aq:Sort _}{B0:Sort _}{BF:Sort _}{P3:Aq->B0->BF->Prop}{AM:Aq->B0->BF->Prop}(h:∃x0,∃x1,∃x2,P3 x0 x1 x2/\(AM x0 x1 x2)){P:Prop}(k:∀x0,∀x1,∀x2,P3 x0 x1 x2->AM x0 x1 x2->P):P:=by obtain⟨x0,x1,x2,h3,z⟩:=h;exact k x0 x1 x2 h3 z
theorem uc{Aq:Sort _}{B0:Sort _}{BF:Sort _}{Bi:Sort _}{AM:Aq->B0->BF->Bi->Prop}(h:∃x0,∃x1,∃x2,∃x3,AM x0 x1 x2 x3){P:Prop}(k:∀x0,∀x1,∀x2,∀x3,AM x0 x1 x2 x3->P):P:=by obtain⟨x0,x1,x2,x3,z⟩:=h;exact k x0 x1 x2 x3 z
theorem Rv{P0:Prop}{P1:Prop}{P2:Prop}{P3:Prop}{P4:Prop}{AM:Prop}(h:P0/\(P1/\(P2/\(P3/\(P4/\(AM)))))){P:Prop}(k:P0->P1->P2->P3->P4->AM->P):P:=by obtain⟨h0,h1,h2,h3,h4,z⟩:=h;exact k h0 h1 h2 h3 h4 z
theorem Rw{Aq:Sort _}{P1:Aq->Prop}{P2:Aq->Prop}{P3:Aq->Prop}{P4:Aq->Prop}{AM:Aq->Prop}(h:∃x0,P1 x0/\(P2 x0/\(P3 x0/\(P4 x0/\(AM x0))))){P:Prop}(k:∀x0,P1 x0->P2 x0->P3 x0->P4 x0->AM x0->P):P:=by obtain⟨x0,h1,h2,h3,h4,z⟩:=h;exact k x0 h1 h2 h3 h4 z
theorem VB{Aq:Sort _}{BF:Sort _}{P1:Aq->Prop}{P3:Aq->BF->Prop}{P4:Aq->BF->Prop}{AM:Aq->BF->Prop}(h:∃x0,P1 x0/\(∃x2,P3 x0 x2/\(P4 x0 x2/\(AM x0 x2)))){P:Prop}(k:∀x0,P1 x0->∀x2,P3 x0 x2->P4 x0 x2->AM x0 x2->P):P:=by obtain⟨x0,h1,x2,h3,h4,z⟩:=h;exact k x0 h1 x2 h3 h4 z
theorem HO{Aq:Sort _}{B0:Sort _}{P2:Aq->B0->Prop}{P3:Aq->B0->Prop}{P4:Aq->B0->Prop}{AM:Aq->B0->Prop}(h:∃x0,∃x1,P2 x0 x1/\(P3 x0 x1/\(P4 x0 x1/\(AM x0 x1)))){P:Prop}(k:∀x0,∀x1,P2 x0 x1->P3 x0 x1->P4 x0 x1->AM x0 x1->P):P:=by obtain⟨x0,x1,h2,h3,h4,z⟩:=h;exact k x0 x1 h2 h3 h4 z
theorem Gi{Aq:Sort _}{B0:Sort _}{BF:Sort _}{P3:Aq->B0->BF->Prop}{P4:Aq->B0->BF->Prop}{AM:Aq->B0->BF->Prop}(h:∃x0,∃x1,∃x2,P3 x0 x1 x2/\(P4 x0 x1 x2/\(AM x0 x1 x2))){P:Prop}(k:∀x0,∀x1,∀x2,P3 x0 x1 x2->P4 x0 x1 x2->AM x0 x1 x2->P):P:=by obtain⟨x0,x1,x2,h3,h4,z⟩:=h;exact k x0 x1 x2 h3 h4 z
theorem Ju{Aq:Sort _}{B0:Sort _}{BF:Sort _}{Bi:Sort _}{P4:Aq->B0->BF->Bi->Prop}{AM:Aq->B0->BF->Bi->Prop}(h:∃x0,∃x1,∃x2,∃x3,P4 x0 x1 x2 x3/\(AM x0 x1 x2 x3)){P:Prop}(k:∀x0,∀x1,∀x2,∀x3,P4 x0 x1 x2 x3->AM x0 x1 x2 x3->P):P:=by obtain⟨x0,x1,x2,x3,h4,z⟩:=h;exact k x0 x1 x2 x3 h4 z
theorem i3{P0:Prop}{P1:Prop}{P2:Prop}{P3:Prop}{P4:Prop}{P5:Prop}{AM:Prop}(h:P0/\(P1/\(P2/\(P3/\(P4/\(P5/\(AM))))))){P:Prop}(k:P0->P1->P2->P3->P4->P5->AM->P):P:=by obtain⟨h0,h1,h2,h3,h4,h5,z⟩:=h;exact k h0 h1 h2 h3 h4 h5 z
theorem i4{CR:Sort _}{P0:Prop}{P1:Prop}{P2:Prop}{P3:Prop}{P5:CR->Prop}{AM:CR->Prop}(h:P0/\(P1/\(P2/\(P3/\(∃x4,P5 x4/\(AM x4)))))){P:Prop}(k:P0->P1->P2->P3->∀x4,P5 x4->AM x4->P):P:=by obtain⟨h0,h1,h2,h3,x4,h5,z⟩:=h;exact k h0 h1 h2 h3 x4 h5 z
theorem ud{BF:Sort _}{Bi:Sort _}{P0:Prop}{P1:Prop}{P4:BF->Bi->Prop}{P5:BF->Bi->Prop}{AM:BF->Bi->Prop}(h:P0/\(P1/\(∃x2,∃x3,P4 x2 x3/\(P5 x2 x3/\(AM x2 x3))))){P:Prop}(k:P0->P1->∀x2,∀x3,P4 x2 x3->P5 x2 x3->AM x2 x3->P):P:=by obtain⟨h0,h1,x2,x3,h4,h5,z⟩:=h;exact k h0 h1 x2 x3 h4 h5 z
theorem J0{Aq:Sort _}{B0:Sort _}{BF:Sort _}{P3:Aq->B0->BF->Prop}{P4:Aq->B0->BF->Prop}{P5:Aq->B0->BF->Prop}{AM:Aq->B0->BF->Prop}(h:∃x0,∃x1,∃x2,P3 x0 x1 x2/\(P4 x0 x1 x2/\(P5 x0 x1 x2/\(AM x0 x1 x2)))){P:Prop}(k:∀x0,∀x1,∀x2,P3 x0 x1 x2->P4 x0 x1 x2->P5 x0 x1 x2->AM x0 x1 x2->P):P:=by obtain⟨x0,x1,x2,h3,h4,h5,z⟩:=h;exact k x0 x1 x2 h3 h4 h5 z
theorem ue{Aq:Sort _}{B0:Sort _}{BF:Sort _}{Bi:Sort _}{P4:Aq->B0->BF->Bi->Prop}{P5:Aq->B0->BF->Bi->Prop}{AM:Aq->B0->BF->Bi->Prop}(h:∃x0,∃x1,∃x2,∃x3,P4 x0 x1 x2 x3/\(P5 x0 x1 x2 x3/\(AM x0 x1 x2 x3))){P:Prop}(k:∀x0,∀x1,∀x2,∀x3,P4 x0 x1 x2 x3->P5 x0 x1 x2 x3->AM x0 x1 x2 x3->P):P:=by obtain⟨x0,x1,x2,x3,h4,h5,z⟩:=h;exact k x0 x1 x2 x3 h4 h5 z
theorem uf{Aq:Sort _}{B0:Sort _}{BF:Sort _}{Bi:Sort _}{CR:Sort _}{P5:Aq->B0->BF->Bi->CR->Prop}{AM:Aq->B0->BF->Bi->CR->Prop}(h:∃x0,∃x1,∃x2,∃x3,∃x4,P5 x0 x1 x2 x3 x4/\(AM x0 x1 x2 x3 x4)){P:Prop}(k:∀x0,∀x1,∀x2,∀x3,∀x4,P5 x0 x1 x2 x3 x4->AM x0 x1 x2 x3 x4->P):P:=by obtain⟨x0,x1,x2,x3,x4,h5,z⟩:=h;exact k x0 x1 x2 x3 x4 h5 z
theorem i5{P0:Prop}{P1:Prop}{P2:Prop}{P3:Prop}{P4:Prop}{P5:Prop}{P6:Prop}{AM:Prop}(h:P0/\(P1/\(P2/\(P3/\(P4/\(P5/\(P6/\(AM)))))))){P:Prop}(k:P0->P1->P2->P3->P4->P5->P6->AM->P):P:=by obtain⟨h0,h1,h2,h3,h4,h5,h6,z⟩:=h;exact k h0 h1 h2 h3 h4 h5 h6 z
theorem M3{Aq:Sort _}{B0:Sort _}{P2:Aq->B0->Prop}{P3:Aq->B0->Prop}{P4:Aq->B0->Prop}{P5:Aq->B0->Prop}{P6:Aq->B0->Prop}{AM:Aq->B0->Prop}(h:∃x0,∃x1,P2 x0 x1/\(P3 x0 x1/\(P4 x0 x1/\(P5 x0 x1/\(P6 x0 x1/\(AM x0 x1)))))){P:Prop}(k:∀x0,∀x1,P2 x0 x1->P3 x0 x1->P4 x0 x1->P5 x0 x1->P6 x0 x1->AM x0 x1->P):P:=by obtain⟨x0,x1,h2,h3,h4,h5,h6,z⟩:=h;exact k x0 x1 h2 h3 h4 h5 h6 z
theorem i6{Aq:Sort _}{B0:Sort _}{BF:Sort _}{P3:Aq->B0->BF->Prop}{P4:Aq->B0->BF->Prop}{P5:Aq->B0->BF->Prop}{P6:Aq->B0->BF->Prop}{AM:Aq->B0->BF->Prop}(h:∃x0,∃x1,∃x2,P3 x0 x1 x2/\(P4 x0 x1 x2/\(P5 x0 x1 x2/\(P6 x0 x1 x2/\(AM x0 x1 x2))))){P:Prop}(k:∀x0,∀x1,∀x2,P3 x0 x1 x2->P4 x0 x1 x2->P5 x0 x1 x2->P6 x0 x1 x2->AM x0 x1 x2->P):P:=by obtain⟨x0,x1,x2,h3,h4,h5,h6,z⟩:=h;exact k x0 x1 x2 h3 h4 h5 h6 z
theorem VC{Aq:Sort _}{B0:Sort _}{BF:Sort _}{Bi:Sort _}{P4:Aq->B0->BF->Bi->Prop}{P5:Aq->B0->BF->Bi->Prop}{P6:Aq->B0->BF->Bi->Prop}{AM:Aq->B0->BF->Bi->Prop}(h:∃x0,∃x1,∃x2,∃x3,P4 x0 x1 x2 x3/\(P5 x0 x1 x2 x3/\(P6 x0 x1 x2 x3/\(AM x0 x1 x2 x3)))){P:Prop}(k:∀x0,∀x1,∀x2,∀x3,P4 x0 x1 x2 x3->P5 x0 x1 x2 x3->P6 x0 x1 x2 x3->AM x0 x1 x2 x3->P):P:=by obtain⟨x0,x1,x2,x3,h4,h5,h6,z⟩:=h;exact k x0 x1 x2 x3 h4 h5 h6 z
theorem Rx{Aq:Sort _}{B0:Sort _}{CR:Sort _}{Dr:Sort _}{P2:Aq->B0->Prop}{P3:Aq->B0->Prop}{P6:Aq->B0->CR->Dr->Prop}{P7:Aq->B0->CR->Dr->Prop}{AM:Aq->B0->CR->Dr->Prop}(h:∃x0,∃x1,P2 x0 x1/\(P3 x0 x1/\(∃x4,∃x5,P6 x0 x1 x4 x5/\(P7 x0 x1 x4 x5/\(AM x0 x1 x4 x5))))){P:Prop}(k:∀x0,∀x1,P2 x0 x1->P3 x0 x1->∀x4,∀x5,P6 x0 x1 x4 x5->P7 x0 x1 x4 x5->AM x0 x1 x4 x5->P):P:=by obtain⟨x0,x1,h2,h3,x4,x5,h6,h7,z⟩:=h;exact k x0 x1 h2 h3 x4 x5 h6 h7 z
theorem VD{Aq:Sort _}{B0:Sort _}{BF:Sort _}{Bi:Sort _}{P4:Aq->B0->BF->Bi->Prop}{P5:Aq->B0->BF->Bi->Prop}{P6:Aq->B0->BF->Bi->Prop}{P7:Aq->B0->BF->Bi->Prop}{AM:Aq->B0->BF->Bi->Prop}(h:∃x0,∃x1,∃x2,∃x3,P4 x0 x1 x2 x3/\(P5 x0 x1 x2 x3/\(P6 x0 x1 x2 x3/\(P7 x0 x1 x2 x3/\(AM x0 x1 x2 x3))))){P:Prop}(k:∀x0,∀x1,∀x2,∀x3,P4 x0 x1 x2 x3->P5 x0 x1 x2 x3->P6 x0 x1 x2 x3->P7 x0 x1 x2 x3->AM x0 x1 x2 x3->P):P:=by obtain⟨x0,x1,x2,x3,h4,h5,h6,h7,z⟩:=h;exact k x0 x1 x2 x3 h4 h5 h6 h7 z
theorem Kl{Aq:Sort _}{B0:Sort _}{BF:Sort _}{Bi:Sort _}{P4:Aq->B0->BF->Bi->Prop}{P5:Aq->B0->BF->Bi->Prop}{P6:Aq->B0->BF->Bi->Prop}{P7:Aq->B0->BF->Bi->Prop}{P8:Aq->B0->BF->Bi->Prop}{AM:Aq->B0->BF->Bi->Prop}(h:∃x0,∃x1,∃x2,∃x3,P4 x0 x1 x2 x3/\(P5 x0 x1 x2 x3/\(P6 x0 x1 x2 x3/\(P7 x0 x1 x2 x3/\(P8 x0 x1 x2 x3/\(AM x0 x1 x2 x3)))))){P:Prop}(k:∀x0,∀x1,∀x2,∀x3,P4 x0 x1 x2 x3->P5 x0 x1 x2 x3->P6 x0 x1 x2 x3->P7 x0 x1 x2 x3->P8 x0 x1 x2 x3->AM x0 x1 x2 x3->P):P:=by obtain⟨x0,x1,x2,x3,h4,h5,h6,h7,h8,z⟩:=h;exact k x0 x1 x2 x3 h4 h5 h6 h7 h8 z
theorem i7{Aq:Sort _}{B0:Sort _}{BF:Sort _}{Bi:Sort _}{CR:Sort _}{Dr:Sort _}{P6:Aq->B0->BF->Bi->CR->Dr->Prop}{P7:Aq->B0->BF->Bi->CR->Dr->Prop}{P8:Aq->B0->BF->Bi->CR->Dr->Prop}{AM:Aq->B0->BF->Bi->CR->Dr->Prop}(h:∃x0,∃x1,∃x2,∃x3,∃x4,∃x5,P6 x0 x1 x2 x3 x4 x5/\(P7 x0 x1 x2 x3 x4 x5/\(P8 x0 x1 x2 x3 x4 x5/\(AM x0 x1 x2 x3 x4 x5)))){P:Prop}(k:∀x0,∀x1,∀x2,∀x3,∀x4,∀x5,P6 x0 x1 x2 x3 x4 x5->P7 x0 x1 x2 x3 x4 x5->P8 x0 x1 x2 x3 x4 x5->AM x0 x1 x2 x3 x4 x5->P):P:=by obtain⟨x0,x1,x2,x3,x4,x5,h6,h7,h8,z⟩:=h;exact k x0 x1 x2 x3 x4 x5 h6 h7 h8 z
theorem i8{Aq:Sort _}{B0:Sort _}{BF:Sort _}{Bi:Sort _}{CR:Sort _}{P5:Aq->B0->BF->Bi->CR->Prop}{P6:Aq->B0->BF->Bi->CR->Prop}{P7:Aq->B0->BF->Bi->CR->Prop}{P8:Aq->B0->BF->Bi->CR->Prop}{P9:Aq->B0->BF->Bi->CR->Prop}{AM:Aq->B0->BF->Bi->CR->Prop}(h:∃x0,∃x1,∃x2,∃x3,∃x4,P5 x0 x1 x2 x3 x4/\(P6 x0 x1 x2 x3 x4/\(P7 x0 x1 x2 x3 x4/\(P8 x0 x1 x2 x3 x4/\(P9 x0 x1 x2 x3 x4/\(AM x0 x1 x2 x3 x4)))))){P:Prop}(k:∀x0,∀x1,∀x2,∀x3,∀x4,P5 x0 x1 x2 x3 x4->P6 x0 x1 x2 x3 x4->P7 x0 x1 x2 x3 x4->P8 x0 x1 x2 x3 x4->P9 x0 x1 x2 x3 x4->AM x0 x1 x2 x3 x4->P):P:=by obtain⟨x0,x1,x2,x3,x4,h5,h6,h7,h8,h9,z⟩:=h;exact k x0 x1 x2 x3 x4 h5 h6 h7 h8 h9 z
theorem i9{Aq:Sort _}{B0:Sort _}{BF:Sort _}{Bi:Sort _}{CR:Sort _}{Dr:Sort _}{P6:Aq->B0->BF->Bi->CR->Dr->Prop}{P7:Aq->B0->BF->Bi->CR->Dr->Prop}{P8:Aq->B0->BF->Bi->CR->Dr->Prop}{P9:Aq->B0->BF->Bi->CR->Dr->Prop}{AM:Aq->B0->BF->Bi->CR->Dr->Prop}(h:∃x0,∃x1,∃x2,∃x3,∃x4,∃x5,P6 x0 x1 x2 x3 x4 x5/\(P7 x0 x1 x2 x3 x4 x5/\(P8 x0 x1 x2 x3 x4 x5/\(P9 x0 x1 x2 x3 x4 x5/\(AM x0 x1 x2 x3 x4 x5))))){P:Prop}(k:∀x0,∀x1,∀x2,∀x3,∀x4,∀x5,P6 x0 x1 x2 x3 x4 x5->P7 x0 x1 x2 x3 x4 x5->P8 x0 x1 x2 x3 x4 x5->P9 x0 x1 x2 x3 x4 x5->AM x0 x1 x2 x3 x4 x5->P):P:=by obtain⟨x0,x1,x2,x3,x4,x5,h6,h7,h8,h9,z⟩:=h;exact k x0 x1 x2 x3 x4 x5 h6 h7 h8 h9 z
theorem Yc{Aq:Sort _}{B0:Sort _}{CR:Sort _}{Dr:Sort _}{Yd:Sort _}{Ye:Sort _}{P2:Aq->B0->Prop}{P3:Aq->B0->Prop}{P6:Aq->B0->CR->Dr->Prop}{P7:Aq->B0->CR->Dr->Prop}{M4:Aq->B0->CR->Dr->Yd->Ye->Prop}{M5:Aq->B0->CR->Dr->Yd->Ye->Prop}{AM:Aq->B0->CR->Dr->Yd->Ye->Prop}(h:∃x0,∃x1,P2 x0 x1/\(P3 x0 x1/\(∃x4,∃x5,P6 x0 x1 x4 x5/\(P7 x0 x1 x4 x5/\(∃x8,∃x9,M4 x0 x1 x4 x5 x8 x9/\(M5 x0 x1 x4 x5 x8 x9/\(AM x0 x1 x4 x5 x8 x9))))))){P:Prop}(k:∀x0,∀x1,P2 x0 x1->P3 x0 x1->∀x4,∀x5,P6 x0 x1 x4 x5->P7 x0 x1 x4 x5->∀x8,∀x9,M4 x0 x1 x4 x5 x8 x9->M5 x0 x1 x4 x5 x8 x9->AM x0 x1 x4 x5 x8 x9->P):P:=by obtain⟨x0,x1,h2,h3,x4,x5,h6,h7,x8,x9,Ry,Rz,z⟩:=h;exact k x0 x1 h2 h3 x4 x5 h6 h7 x8 x9 Ry Rz z
theorem iA{Aq:Sort _}{B0:Sort _}{BF:Sort _}{Bi:Sort _}{CR:Sort _}{P5:Aq->B0->BF->Bi->CR->Prop}{P6:Aq->B0->BF->Bi->CR->Prop}{P7:Aq->B0->BF->Bi->CR->Prop}{P8:Aq->B0->BF->Bi->CR->Prop}{P9:Aq->B0->BF->Bi->CR->Prop}{M4:Aq->B0->BF->Bi->CR->Prop}{M5:Aq->B0->BF->Bi->CR->Prop}{AM:Aq->B0->BF->Bi->CR->Prop}(h:∃x0,∃x1,∃x2,∃x3,∃x4,P5 x0 x1 x2 x3 x4/\(P6 x0 x1 x2 x3 x4/\(P7 x0 x1 x2 x3 x4/\(P8 x0 x1 x2 x3 x4/\(P9 x0 x1 x2 x3 x4/\(M4 x0 x1 x2 x3 x4/\(M5 x0 x1 x2 x3 x4/\(AM x0 x1 x2 x3 x4)))))))){P:Prop}(k:∀x0,∀x1,∀x2,∀x3,∀x4,P5 x0 x1 x2 x3 x4->P6 x0 x1 x2 x3 x4->P7 x0 x1 x2 x3 x4->P8 x0 x1 x2 x3 x4->P9 x0 x1 x2 x3 x4->M4 x0 x1 x2 x3 x4->M5 x0 x1 x2 x3 x4->AM x0 x1 x2 x3 x4->P):P:=by obtain⟨x0,x1,x2,x3,x4,h5,h6,h7,h8,h9,Ry,Rz,z⟩:=h;exact k x0 x1 x2 x3 x4 h5 h6 h7 h8 h9 Ry Rz z
theorem VE{Aq:Sort _}{B0:Sort _}{BF:Sort _}{Bi:Sort _}{CR:Sort _}{Dr:Sort _}{M6:Sort _}{P7:Aq->B0->BF->Bi->CR->Dr->M6->Prop}{P8:Aq->B0->BF->Bi->CR->Dr->M6->Prop}{P9:Aq->B0->BF->Bi->CR->Dr->M6->Prop}{M4:Aq->B0->BF->Bi->CR->Dr->M6->Prop}{M5:Aq->B0->BF->Bi->CR->Dr->M6->Prop}{iB:Aq->B0->BF->Bi->CR->Dr->M6->Prop}{iC:Aq->B0->BF->Bi->CR->Dr->M6->Prop}{AM:Aq->B0->BF->Bi->CR->Dr->M6->Prop}(h:∃x0,∃x1,∃x2,∃x3,∃x4,∃x5,∃x6,P7 x0 x1 x2 x3 x4 x5 x6/\(P8 x0 x1 x2 x3 x4 x5 x6/\(P9 x0 x1 x2 x3 x4 x5 x6/\(M4 x0 x1 x2 x3 x4 x5 x6/\(M5 x0 x1 x2 x3 x4 x5 x6/\(iB x0 x1 x2 x3 x4 x5 x6/\(iC x0 x1 x2 x3 x4 x5 x6/\(AM x0 x1 x2 x3 x4 x5 x6)))))))){P:Prop}(k:∀x0,∀x1,∀x2,∀x3,∀x4,∀x5,∀x6,P7 x0 x1 x2 x3 x4 x5 x6->P8 x0 x1 x2 x3 x4 x5 x6->P9 x0 x1 x2 x3 x4 x5 x6->M4 x0 x1 x2 x3 x4 x5 x6->M5 x0 x1 x2 x3 x4 x5 x6->iB x0 x1 x2 x3 x4 x5 x6->iC x0 x1 x2 x3 x4 x5 x6->AM x0 x1 x2 x3 x4 x5 x6->P):P:=by obtain⟨x0,x1,x2,x3,x4,x5,x6,h7,h8,h9,Ry,Rz,ug,uh,z⟩:=h;exact k x0 x1 x2 x3 x4 x5 x6 h7 h8 h9 Ry Rz ug uh z
noncomputable def all2{C J:Type}(f:C->J->AK):I C->I J->AK
 |[],l=>l.isEmpty|a::x,l=>match l with
 |[]=>A6|b::y=>f a b&&all2 f x y
theorem VF{C J:Type}{f:C->J->AK}{P:I C->I J->Prop}(n:P [] [])(c:∀a b x y,f a b=M->P x y->P (a::x) (b::y)){x:I C}:∀{y:I J},all2 f x y=M->P x y:=by induction x with
 |nil=>intro y h;cases y with
  |nil=>exact n|cons _ _=>exact(B3 h).elim
 |cons a x ih=>intro y h;cases y with
 |nil=>exact(B3 h).elim|cons b y=>exact c a b x y (B' h) (ih (Ak h))
theorem Ng{C:Type}{f:C->C->AK}(hf:∀a b,f a b=M->a=b)(x y:I C)(h:all2 f x y=M):x=y:=VF (P:=λx y=>x=y) rfl (λa b _ _ q ih=>congr (congrArg bj4 (hf a b q)) ih) h
theorem ui{C J:Type}{f:C->J->AK}{g:J->C}(hf:∀a b,f a b=M->a=g b){x:I C}{y:I J}(h:all2 f x y=M):x=y.map g:=VF (P:=λx y=>x=y.map g) rfl (λa b _ _ q ih=>congr (congrArg bj4 (hf a b q)) ih) h
theorem all_cons{J:Type}{p:J->Prop}{x:J}{l:I J}(h:p x)(t:∀o∈l,p o):∀o∈x::l,p o:=λo m=>(Ci.mp m).elim (λe=>e▸h) (t o)
theorem EA{J:Type}{p:J->Prop}:∀o∈([]:I J),p o:=λ_ m=>nomatch m
theorem VG{C J:Type}{o:AL C}{d:J}{k:C->J}{r:J}(h:oS o d k=r)(hd:d=r->Bh){P:Prop}(c:∀x,o=G x->k x=r->P):P:=by cases o with
 |none=>exact(hd h).elim|some x=>exact c x rfl h
theorem yT{a b c:O}(h:a=b)(k:b<=c):a<=c:=h▸k
theorem yS{a b c:O}(h:b=a)(k:b<=c):a<=c:=h▸k
theorem yQ{a b c:O}(h:c=b)(k:a<b):a<c:=h▸k
theorem yU{u k c e:O}(h:u+10*k<9000)(q:9000+c<=e):u+c<e:=Ip (Nat.add_lt_add_right (Gy (Gz u _) h) c) q
theorem yW{a n d k m:O}(e:d<=k)(h:a+n*k<m):a+n*d<m:=Gy (HG (s9 n e) a) h
theorem yV{x a c n d m:O}(e:x<=a+c)(h:a+n*(d+1)<m)(q:c<=n):x+n*d<m:=Gy (B2 (Xh e _) (B2 (Eg (NG a c _)) (HG (B2 (Xh q _) (Eg (Lg n _))) a))) h
theorem yK{a c n d k m:O}(e:k=d+1)(h:a+n*k<m)(q:c<=n):a+c+n*d<m:=yV (DE _) (e▸h) q
theorem yJ{a n d k m:O}(e:k=d+1)(h:a+n*k<m):a+n*d<m:=yW (e▸PF d) h
theorem yI{k:O}(h:0<k):k=k-1+1:=(Xi h).symm
theorem yH{k m:O}(h:m+1<=k):k=k-1+1:=yI (Ip (Nat.succ_pos m) h)
theorem yX{n i k:O}(h:n-i=k+1):n-(i+1)=k:=congrArg Nat.pred h
theorem yC{r c l:O}(h:l<=c):r+(c-l)-c=r-l:=by rw[<-sA h,Nat.sub_right_comm,bj5]
theorem yD{r c l:O}(h:l<=c)(k:l<=r):c<=r+(c-l):=B2 (Eg (Xi h).symm) (B2 (HG k _) (Eg (Lg _ _)))
theorem uj{r o AF c:O}(k:o<=15)(q:AF+(r-o)<=c):AF+(r-15)<=c:=B2 (HG (eq k r) AF) q
theorem uk{a b c s:O}(h:a+b=c):s+b=s+(c-a):=congrArg (s+·) (bj6 h)
theorem iD{a p b q Au:O}(h:a+p<=Au)(k:b+q<=Au)(j:Au<=p+q):a+b+(p+q-Au)<=Au:=B2 (Eg (sA j (a+b)).symm) (bj7 (B2 (Eg (Nat.add_add_add_comm a b p q)) (UZ h k)))
theorem ul{a b:O}(h:b=1):a+2=a+1+(b+1-1):=by subst h;rfl
theorem uo{x o A8:O}(h:x<=100000)(k:100002<=A8)(q:o<=x+1-0):o+1<=A8:=B2 (Lh (B2 q (Lh h))) k
theorem uq(AF An:O):AF-0+(An-0)<=AF+An:=DE _
theorem ur{l:O}{AV:Prop}(h:l<30)(k:l/30+1>300/\AV):Bh:=absurd (show 0+1>300 from Nat.div_eq_of_lt h▸k.1) (by decide)
theorem ut{m p A0:O}(h:m+p=A0)(k:p<A0):m=m-1+1:=(Xi (es λe=>Iq p (Ip k (Eg (h.symm.trans ((congrArg (·+p) e).trans (U_ p))))))).symm
theorem uv{AF:AX}{m l:O}(h:0<=AF)(k:AF<(m:AX))(e:m=l):AF.toNat<l:=e▸(sB h).mpr k
theorem uw{a b T AV:O}(h:a+b=0+0+T)(k:T=min 3 AV):a+b<=3:=B2 (Eg (h.trans (U_ T))) (k▸Xj 3 AV)
theorem ux{l hi lo i:AX}(e:l=max (hi-lo) 0-i)(h:lo+i<hi):0<l:=e▸Int.sub_pos_of_lt (bj8 (Int.lt_sub_left_of_add_lt h) (Int.le_max_left _ _))
theorem uy{AF m i Au:O}(h:AF<=100000)(k:m+1<=200000)(j:i<=AF)(l:Au<=i):Au+(m+1)<=90000+900000:=B2 (UZ (B2 l (B2 j h)) k) (by decide)
theorem uz{AF i Au:O}(h:AF<=100000)(j:i<=AF)(l:Au<=i):Au+0<=90000+900000:=B2 l (B2 j (B2 h (by decide)))
theorem v7{j m:O}(h:¬j<m):6+m+(j-m)=6+j:=(NG 6 m _).trans (congrArg (6+·) (Nat.add_sub_cancel' (eu h)))
theorem v8{e p:O}(h:e<=1)(k:p=e)(n:¬e=0):p=1:=k.trans (Xk h (es n))
theorem v9{l n:O}(h:l=n+1):l-1=n:=h▸rfl
theorem iE{k:AX}{l:O}(h:¬k<0)(j:k.toNat<l):0<=k/\k<(l:AX):=⟨sE.mp h,(sB (sE.mp h)).mp j⟩
theorem vA{l m a b:O}(k:l+m<=3)(h:a+b=0+0+l)(q:1<=m):b<=2:=B2 (B2 (f0 b a) (Eg (h.trans (U_ l)))) (sF (B2 (HG q l) k))
theorem vB{i k a:O}(h:k<a)(q:i=k\/i=a):i<a+1:=q.elim (λe=>e▸f1 h) (λe=>e▸PG i)
theorem vC{l Au:AX}{i:O}(e:l=Au-(i:AX)):l-1=Au-((i+1:O):AX):=(congrArg (·-1) e).trans (Int.sub_sub Au i 1)
theorem vD{l:AX}{i:O}:l+((i+1:O):AX)=l+(i:AX)+1:=(Int.add_assoc l i 1).symm
theorem vE{x z:O}(h:x<=100000)(k:(x+1)*z<=(x+1)*100):x+(x+1)*z<=16777216:=B2 (UZ h (B2 k (Nat.mul_le_mul_right 100 (Lh h)))) (by decide)
theorem vF{a b l:O}:a+1+b+l=a+b+(l+1):=(congrArg (·+l) (Xl a 1 b)).trans (Xl (a+b) 1 l)
theorem vG{d u:O}(h:42<=d)(k:u+10*d<9000):u+4<9000:=Gy (HG (B2 (by decide) (s9 10 h)) u) k
theorem vH{l A0:O}(h:l<=A0-1)(k:0<A0):l+1<=A0:=B2 (Lh h) (Eg (Xi k))
theorem vI{e i:O}(h:e<=1)(k:i<e):i=0:=Nat.lt_one_iff.mp (Ip k h)
theorem vJ{e p:O}(h:e<=1)(k:p=e)(n:0<e):p=1:=k.trans (Xk h n)
theorem vK{p i b:O}{AV:Prop}(h:p<=i/\AV)(k:i<p+b):i-p<b:=Nat.sub_lt_left_of_lt_add h.1 k
theorem vL{x y u v c:O}(e:x=u)(f:y=v)(h:x+y<=c):u+v<=c:=e▸f▸h
theorem vM{a b i:O}(e:a=b)(h:i<a):i<min a b:=bj9.mpr ⟨h,e▸h⟩
theorem iF{u v p:O}(h:v<=100000)(k:u<=1000000)(q:p<=v):u+p<=1100000:=B2 (UZ k (B2 q h)) (by decide)
theorem vN{l hi lo:AX}{i:O}(e:l=max (hi-lo) 0-(i:AX))(h:¬lo+(i:AX)<hi):l<=0:=e▸Int.sub_nonpos_of_le (bk0.mpr ⟨Int.sub_left_le_of_le_add (sE.mp h),f9 i⟩)
theorem vO{m p A0:O}(h:m+1+p=A0):m+(p+1)=A0:=(Xl m p 1).trans h
theorem vP{u c:O}(h:u+4<c):u+1+2<c:=Gy (PF (u+3)) h
theorem vQ{i a b:O}{AV:Prop}(h:AV/\i<6+(a+b)):i<6+a+b:=(NG 6 a b).symm▸h.2
theorem vR{b y:AX}(k:y<b):y<(b.toNat:AX):=bj8 k (Int.self_le_toNat b)
theorem vS{a b:O}(h:a+b<=3):b<4-a:=Nat.lt_sub_of_add_lt (fA (B2 (Eg (Lg b a)) h))
theorem vT{i:AX}(h:0<=i)(k:i<100):i.toNat<100:=(sB h).mpr k
theorem Yf{s r c:O}(h:s+(r+1)<=c):s+1+r<=c:=B2 (Eg (Xl s 1 r)) h
theorem vU{s r c u:O}(h:s+(r+1)<=c)(e:s=u):u<=c:=e▸B2 (Gz _ _) h
theorem vV{A0 Au m:O}(h:A0<=20)(k:m<=Au)(e:Au=A0):m<60:=Gy (B2 k (B2 (Eg e) h)) (by decide)
theorem vW{p s:O}(h:p=min p s):p<=s:=B2 (Eg h) (sG p s)
theorem vX{u c:O}(h:u+10<c):u+1<c:=Gy (HG (by decide) u) h
theorem vY{u d:O}(e:u=d+1){a:O}(h:a+10*u<9000):a+1+1+1+10*d<9000:=Gy (show a+3+10*d<=a+10*u from e▸B2 (Eg (NG a 3 _)) (HG (B2 (Eg (Lg 3 _)) (HG (by decide) _)) a)) h
theorem vZ{i:AX}(h:0<=i)(k:i<100):i.natAbs<100:=fB.mp ((bk1 h).symm▸k)
theorem iG{a b c d:O}(k:c+b<=a+d)(h:a<=b):c<=d:=Nat.le_of_add_le_add_right (B2 k (B2 (Xh h d) (Eg (Lg b d))))
theorem v_{a p b q Au u v:O}(e:a=u)(f:b=v)(h:a+p<=Au)(k:b+q<=Au)(j:Au<=p+q):u+v<=Au:=e▸f▸B2 (Gz _ _) (iD h k j)
theorem vc{a k m u c:O}(e:u=a)(h:a<=k)(q:k+(m+1)<=c):u<=c:=B2 (Eg e) (B2 h (B2 (Gz k _) q))
theorem vd{p e z:O}(q:z<=p)(h:p<=e+1)(k:e<=100000):z<=16777216+1:=B2 q (B2 h (B2 (Lh k) (by decide)))
theorem ve{AF i Au:O}(l:Au<=i)(j:i<=AF)(h:AF<=100000):Au+0<=90000+900000:=B2 l (B2 j (B2 h (by decide)))
theorem vf{x y:O}(e:y=x)(h:x<60):y<64:=Gy (Eg e) (Nat.lt_trans h (by decide))
theorem vg{b:AX}(h:0<b/\b<=1000000000):b.natAbs<=1000000000:=sH.mp ((bk1 (fC h.1)).symm▸h.2)
theorem vh{n:AX}(h:n<=1000):n.toNat<=1000:=bk2.mpr h
theorem yG{m n:O}(h:m<=n+1)(k:¬m<=n):m=n+1:=Xk h (bk3 k)
theorem yF{m n:O}(h:m<=n)(k:¬m<n):m=n:=Xk h (eu k)
section
open PyProof.Rows
noncomputable def VH{C:Type u}(p:C->AK)(l:I C):AK:=sI A6 (λa _ ih=>Xm ih M (p a)) l
theorem vk{C:Type u}(p:C->AK)(l:I C):VH p l=l.any p:=by induction l with
 |nil=>rfl|cons a l ih=>
 rw[sJ,<-ih];show(Xm (motive:=λ_=>AK) (VH p l) M (p a))=_;cases p a<;>rfl
noncomputable def iH{C:Type u}(as:BV C)(p:C->AK)(i j:O):AK:=Xm (sK as p i j) (Xm (sK as p i j) (VH p as.toList) (B8 j as.size)) (B8 i 0)
theorem vl:@sK.{u}=@iH.{u}:=by
 funext C as p i j;unfold iH;cases hi:B8 i 0 with
 |false=>rfl|true=>cases hj:B8 j as.size with
 |false=>rfl|true=>
 have e1:=CC hi;have e2:=CC hj;subst e1;subst e2;show _=VH p as.toList;rw[vk,bk4]
noncomputable def iI(tn:E8)(id:DJ):AL E8:=Xm (motive:=λ_=>AL E8) (bK2 id) (G tn) (B8 (sM id) 29827186395103491166823348853)
theorem vm:bk5.find 29827186395103491166823348853=G PySem.Builtin.«type.__new__»:=by kernel_rfl
theorem vn:PySem.treeTable=iI bk6:=by
 funext id;unfold iI;cases h:B8 (sM id) 29827186395103491166823348853 with
 |false=>exact congrFun fE id|true=>
 have e:=CC h;show bk5.find (sM id)=G _;rw[e,vm,<-bK3]
noncomputable def Yg{J:Type}(e:Ar)(d:J)(k:Y->I AB->I rt->I Ar->I AB->I TypeParam->BS->AL BS->Y->I Y->BG->J):J:=if h:e.ctorIdx=2 then bK4 (motive_2:=λ_=>J) e h k else d
noncomputable def VI{J:Type}(e:Ar)(d:J)(k:Y->O->BG->BG->J):J:=Pb e d λc q=>HN c d λc n p=>Pd c d λs=>k s n p q
noncomputable def docOf(s:Ar):Y:=Yg s RI λ_ _ _ b _ _ _ _ _ _ _=>lC b RI λe _=>VI e RI λs _ _ _=>s
noncomputable def vo(d:Y)(s:Ar):Ar:=Yg s s λa b c l e f g h i j z=>lC l s λx r=>VI x s λ_ k p q=>.ClassDef a b c (.Expr (.Constant (.str d) k p) q::r) e f g h i j z
noncomputable def VJ:Ar:=(EE.main.body)[5]?.getD (.Pass ⟨0,0,0,0⟩)
noncomputable def iJ:{d:Y//docOf VJ=d}:=⟨_,(Fast.ofString_ofList _:docOf VJ=_)⟩
noncomputable def Yh(d:Y):HY:={EE with main:={EE.main with body:=EE.main.body.set 5 (vo d VJ)}}
theorem vp:EE=Yh (docOf VJ):=by kernel_rfl
noncomputable def S':HY:=Yh iJ.1
theorem J1:EE=S':=vp.trans (congrArg Yh iJ.2)
end
section
open PyProof.Rows
open PySem.Str(ofString)
open PySem.PyData(keyHash)
noncomputable abbrev bP7:HY:=EE
noncomputable def B_(k:O):Ar:=(S'.main.body)[k]?.getD (.Pass ⟨0,0,0,0⟩)
noncomputable def DA(k j:O):Ar:=Yg (B_ k) (B_ k) λ_ _ _ b _ _ _ _ _ _ _=>b[j]?.getD (.Pass ⟨0,0,0,0⟩)
noncomputable def iK(s:Ar):Y:=V9 s RI λn _ _ _ _ _ _ _ _ _=>n
noncomputable def S0(s:Ar):Arguments:=V9 s ⟨[],[],L,[],[],L,[]⟩ λ_ a _ _ _ _ _ _ _ _=>a
noncomputable def Fg(s:Ar):I Ar:=V9 s [] λ_ _ b _ _ _ _ _ _ _=>b
noncomputable def BU(s:Ar):BS:=V9 s default λ_ _ _ _ _ _ sc _ _ _=>sc
noncomputable def G3(st:Ar)(qual:Y)(globals:A9)(closure:I (Y×A9))(dflt kw doc pm:A4)(iL:AL A9)(code ct:A4)(bi:A9):Ka:={name:=iK st,qualname:=qual,params:=S0 st,body:=.stmts (Fg st),scope:=BU st,globals,closure,defaults:=dflt,kwdefaults:=kw,doc,pyModule:=pm,annotations:=iL,code,closureTuple:=ct,builtins:=bi}
noncomputable def S1(name:Y)(bases mro:I A4)(ns:A9)(qual:Y)(hasDict:AK)(slotNames:I Y)(sub:I A4)(abs:AK)(vq:AL AK)(vt:AK):ClassData:={name,bases,mro,ns,qualname:=qual,hasDict,slotNames,subclasses:=sub,abstract:=abs,collection:=vq,hasDel:=vt}
noncomputable def Yi(s:Ar):Y:=lC (Fg s) RI λe _=>VI e RI λs _ _ _=>s
noncomputable def iM(k:O):Y:=VI (DA k 0) RI λs _ _ _=>s
noncomputable def BK(c:A4)(d:NH):Bl:=⟨c,L,d,#[]⟩
noncomputable def sL(f:O):O->I O->I O:=Xn (λ_ l=>l) (λ_ ih n l=>bC (B8 n 0) l (ih (n/256) (n%256::l))) f
noncomputable def sD(n:O):Y:=⟨⟨sL 64 n []⟩⟩
noncomputable def s0:Y:=sD 0x5f5f6e616d655f5f
noncomputable def s1:Y:=sD 0x6275696c74696e73
noncomputable def s2:Y:=sD 0x5f5f646f635f5f
noncomputable def s3:Y:=sD 0x5f5f7061636b6167655f5f
noncomputable def s4:Y:=sD 0x5f5f6c6f616465725f5f
noncomputable def s5:Y:=sD 0x5f5f737065635f5f
noncomputable def iN:Y:=sD 0x456c6c6970736973
noncomputable def iO:Y:=sD 0x4e6f74496d706c656d656e746564
noncomputable def S2:Y:=sD 0x5f5f6d61696e5f5f
noncomputable def J2:Y:=sD 0x6c61775f7274303131365f3031
noncomputable def Yj:Y:=sD 0x5f5f616e6e6f746174696f6e735f5f
noncomputable def iP:Y:=sD 0x5f5f6275696c74696e735f5f
noncomputable def iQ:Y:=sD 0x5f5f66696c655f5f
noncomputable def Ew:Y:=sD 0x2f636c61696d2f6375742e7079
noncomputable def iR:Y:=sD 0x5f5f6361636865645f5f
noncomputable def Yk:Y:=sD 0x5f77616c6c
noncomputable def Nh:Y:=sD 0x5f7475706c65676574746572
noncomputable def Ni:Y:=sD 0x4d61746368
noncomputable def Yl:Y:=sD 0x5f63616c63756c6174655f726174696f
noncomputable def Nj:Y:=sD 0x53657175656e63654d617463686572
noncomputable def Ym:Y:=sD 0x5f666f726d61745f72616e67655f756e6966696564
noncomputable def Yn:Y:=sD 0x5f706c61696e5f6e616d65
noncomputable def Nk:Y:=sD 0x4142434d657461
noncomputable def Nl:Y:=sD 0x5f4142434c696b65
noncomputable def Yo:Y:=sD 0x5f6162635f706c61696e5f6d657461
noncomputable def Yp:Y:=sD 0x667370617468
noncomputable def S3:Y:=sD 0x5f636865636b5f6172675f7479706573
noncomputable def Yq:Y:=sD 0x5f6765745f736570
noncomputable def S4:Y:=sD 0x6a6f696e
noncomputable def Yr:Y:=sD 0x73706c6974726f6f74
noncomputable def Ys:Y:=sD 0x626173656e616d65
noncomputable def Yt:Y:=sD 0x6469726e616d65
noncomputable def Yu:Y:=sD 0x6e6f726d70617468
noncomputable def Yv:Y:=sD 0x736f727465645f6c6973745f646966666572656e6365
noncomputable def S5:Y:=sD 0x5f6c61775f7472656573
noncomputable def S6:Y:=sD 0x5f6c61775f7374726169676874
noncomputable def Yw:Y:=sD 0x5f6c61775f696e6e6572
noncomputable def S7:Y:=sD 0x5f6c61775f746f6c64
noncomputable def Yx:Y:=sD 0x5f6c61775f67726f776e
noncomputable def S8:Y:=sD 0x5f6c61775f7061697273
noncomputable def Yy:Y:=sD 0x5f6c61775f72616e6765
noncomputable def Yz:Y:=sD 0x5f6c61775f6368616e676573
noncomputable def S9:Y:=sD 0x5f6c61775f77616c6b6564
noncomputable def Z':Y:=sD 0x6c6177
noncomputable def iS:Y:=sD 0x3c6d6f64756c653e
noncomputable def VK:Y:=sD 0x6b
noncomputable def J3:Y:=sD 0x5f5f6d6f64756c655f5f
noncomputable def DT:Y:=sD 0x6370793331332e646966666c6962
noncomputable def Pg:Y:=sD 0x5f5f7175616c6e616d655f5f
noncomputable def Jv:Y:=sD 0x5f5f66697273746c696e656e6f5f5f
noncomputable def Ph:Y:=sD 0x5f5f696e69745f5f
noncomputable def Z0:Y:=sD 0x5f5f6765745f5f
noncomputable def Z1:Y:=sD 0x5f5f7365745f5f
noncomputable def Z2:Y:=sD 0x5f5f64656c6574655f5f
noncomputable def Jw:Y:=sD 0x5f5f7374617469635f617474726962757465735f5f
noncomputable def Ei:Y:=sD 0x73656c66
noncomputable def M7:Y:=sD 0x696e646578
noncomputable def VL:Y:=sD 0x646f63
noncomputable def Z3:Y:=sD 0x6f626a
noncomputable def VM:Y:=sD 0x5f5f646963745f5f
noncomputable def VN:Y:=sD 0x5f5f7765616b7265665f5f
noncomputable def iU:Y:=sD 0x4d6174636828612c20622c2073697a6529
noncomputable def iV:Y:=sD 0x5f5f736c6f74735f5f
noncomputable def iW:Y:=sD 0x5f6669656c6473
noncomputable def iX:Y:=sD 0x5f6669656c645f64656661756c7473
noncomputable def Z4:Y:=sD 0x5f5f6e65775f5f
noncomputable def VO:Y:=sD 0x5f6d616b65
noncomputable def Z5:Y:=sD 0x5f7265706c616365
noncomputable def iY:Y:=sD 0x5f5f7265706c6163655f5f
noncomputable def Z6:Y:=sD 0x5f5f726570725f5f
noncomputable def Z7:Y:=sD 0x5f617364696374
noncomputable def Z8:Y:=sD 0x5f5f6765746e6577617267735f5f
noncomputable def iZ:Y:=sD 0x5f5f6d617463685f617267735f5f
noncomputable def Hi:Y:=sD 0x61
noncomputable def Hj:Y:=sD 0x62
noncomputable def Pj:Y:=sD 0x73697a65
noncomputable def SA:Y:=sD 0x636c73
noncomputable def i_:Y:=sD 0x726573756c74
noncomputable def ia:Y:=sD 0x4d617463682e5f6d616b65
noncomputable def ib:Y:=sD 0x5f5f636c6173735f5f
noncomputable def Z9:Y:=sD 0x4d617463682e5f7265706c616365
noncomputable def ic:Y:=sD 0x416c69617320666f72206669656c64206e756d6265722030
noncomputable def ig:Y:=sD 0x416c69617320666f72206669656c64206e756d6265722031
noncomputable def ii:Y:=sD 0x416c69617320666f72206669656c64206e756d6265722032
noncomputable def ik:Y:=sD 0x6d617463686573
noncomputable def il:Y:=sD 0x6c656e677468
noncomputable def ZA:Y:=sD 0x7365745f73657173
noncomputable def ZB:Y:=sD 0x7365745f73657131
noncomputable def ZC:Y:=sD 0x7365745f73657132
noncomputable def ip:Y:=sD 0x5f53657175656e63654d6174636865725f5f636861696e5f62
noncomputable def ZD:Y:=sD 0x66696e645f6c6f6e676573745f6d61746368
noncomputable def ZE:Y:=sD 0x6765745f6d61746368696e675f626c6f636b73
noncomputable def ZF:Y:=sD 0x6765745f6f70636f646573
noncomputable def ZG:Y:=sD 0x6765745f67726f757065645f6f70636f646573
noncomputable def ZH:Y:=sD 0x726174696f
noncomputable def ZI:Y:=sD 0x717569636b5f726174696f
noncomputable def ZJ:Y:=sD 0x7265616c5f717569636b5f726174696f
noncomputable def iq:Y:=sD 0x0
noncomputable def ZK:Y:=sD 0x69736a756e6b
noncomputable def ir:Y:=sD 0x6175746f6a756e6b
noncomputable def ZL:Y:=sD 0x62326a
noncomputable def M8:Y:=sD 0x69
noncomputable def iu:Y:=sD 0x6e
noncomputable def iv:Y:=sD 0x616c6f
noncomputable def iw:Y:=sD 0x616869
noncomputable def ix:Y:=sD 0x626c6f
noncomputable def iy:Y:=sD 0x626869
noncomputable def SE:Y:=sD 0x6a
noncomputable def iz:Y:=sD 0x6d61746368696e675f626c6f636b73
noncomputable def j0:Y:=sD 0x78
noncomputable def j2:Y:=sD 0x7374617274
noncomputable def j3:Y:=sD 0x6b696e64
noncomputable def j4:Y:=sD 0x6f73
noncomputable def VP:Y:=sD 0x616263
noncomputable def Pk:Y:=sD 0x7265676973746572
noncomputable def j5:Y:=sD 0x737562636c617373
noncomputable def Nm:Y:=sD 0x636f6c6c656374696f6e732e616263
noncomputable def ZM:Y:=sD 0x5f5f696e7374616e6365636865636b5f5f
noncomputable def ZN:Y:=sD 0x5f5f737562636c617373636865636b5f5f
noncomputable def ZO:Y:=sD 0x43
noncomputable def Pl:Y:=sD 0x70617468
noncomputable def Pm:Y:=sD 0x6370793331332e706f73697870617468
noncomputable def VQ:Y:=sD 0x70
noncomputable def SF:Y:=sD 0x736570
noncomputable def j6:Y:=sD 0x74726565
noncomputable def E(P:Dw)(s:Y)(t:EM)(v:A4):Fx:=⟨keyHash P s,.str s t,v⟩
noncomputable def vx(ns:I Y):EM->I A4:=sI (λ_=>[]) (λs _ ih t=>.str s t::ih (t+1)) ns
noncomputable def fo(k:O)(st:Ar)(n q:Y)(ns:I Y)(t ln ac:O)(df:A4)(doc:AK)(md:A4)(an:AL A9):I Bl:=[BK (.type "tuple") (.seq #[] 0),BK .none (.fields #[]),BK (.type "tuple") (.seq ⟨vx ns (t+3)⟩ 0),BK (.type "tuple") (.seq #[] 0),BK .none (.func (G3 st q 0 [] .none .none .none .none L .none .none 0)),BK (.type "code") (.fields #[.str n t,.str q (t+1),.str Ew (t+2),.int (.ofNat ln) 0,.int (.ofNat ac) 0,.int 0 0,.int 0 0,.int 3 0,.ref k,.bool M,.int 181 0,.ref (k+1),.none,.ref (k+2),.ref (k+3),.ref (k+4),.int (.ofNat (t+3+ns.length)) 0,.int (.ofNat ln) 0,.str Ew (t+4+ns.length)]),BK (.type "function") (.func (G3 st q 3 [] df .none (bC doc (.str (Yi st) (t+5+ns.length)) .none) md an (.ref (k+5)) .none 0))]
noncomputable def Ad(n:O):A4:=.int (.ofNat n) 0
noncomputable def AH(n:A9):A4:=.ref n
noncomputable def Aj(s:Y)(t:EM):A4:=.str s t
noncomputable def D_(s:DJ):A4:=.builtin s
noncomputable def DB(l:BV A4):Bl:=BK (.type "tuple") (.seq l 0)
noncomputable def FA(n:O)(l:BV Fx):Bl:=BK (.type "dict") (.dict l n)
noncomputable def Gj(l:BV A4):Bl:=BK .none (.fields l)
noncomputable def Ds(s:DJ)(l:BV A4):Bl:=BK (.type s) (.fields l)
noncomputable def CO(v:A4):AL A4:=G v
noncomputable def Nn(s:Y)(a:O)(l r i j:O)(e:O):Bl:=Ds "code" #[Aj s a,Aj s (a+1),Aj Ew (a+2),Ad l,Ad 0,Ad 0,Ad 0,Ad 0,AH r,.bool A6,Ad i,AH (r+1),.none,.none,.none,.none,Ad j,Ad l,Aj Ew e]
noncomputable def j7(P:Dw):Bl:=⟨(.type "type"),L,.cls (S1 Ni [.type "tuple"] [AH 135,.type "tuple",.type "object"] 134 Ni A6 [] [] A6 L A6),#[CO (AH 65),L,CO (Aj Ni 253),CO (Aj Ni 261),G .none,G (.bool A6)]⟩
noncomputable def j8(l:I Bl):I Bl:=sI (λ_=>[]) (λx _ ih b=>bC b (x::ih A6) (ih M)) l M
noncomputable def j9(n:O):DJ:=sN ((sL 64 n []).map Char.ofNat)
noncomputable def Ct(P:Dw)(n:O)(t:EM):Fx:=E P (sD n) t (.builtin (j9 n))
noncomputable def BN(P:Dw)(n:O)(t:EM):Fx:=E P (sD n) t (.type (j9 n))
noncomputable def p0(P:Dw):Bl:=FA 159 #[E P s0 1 (Aj s1 160),E P s2 2 (D_ "builtins.__doc__:str#opaque"),E P s3 3 (D_ "builtins.__package__:str#opaque"),E P s4 4 (D_ "builtins.__loader__:shared#opaque"),E P s5 5 (D_ "builtins.__spec__#opaque"),Ct P 0x5f5f6275696c645f636c6173735f5f 6,Ct P 0x5f5f696d706f72745f5f 7,Ct P 0x616273 8,Ct P 0x616c6c 9,Ct P 0x616e79 10,Ct P 0x6173636969 11,Ct P 0x62696e 12,Ct P 0x627265616b706f696e74 13,Ct P 0x63616c6c61626c65 14,Ct P 0x636872 15,Ct P 0x636f6d70696c65 16,Ct P 0x64656c61747472 17,Ct P 0x646972 18,Ct P 0x6469766d6f64 19,Ct P 0x6576616c 20,Ct P 0x65786563 21,Ct P 0x666f726d6174 22,Ct P 0x67657461747472 23,Ct P 0x676c6f62616c73 24,Ct P 0x68617361747472 25,Ct P 0x68617368 26,Ct P 0x686578 27,Ct P 0x6964 28,Ct P 0x696e707574 29,Ct P 0x6973696e7374616e6365 30,Ct P 0x6973737562636c617373 31,Ct P 0x69746572 32,Ct P 0x6169746572 33,Ct P 0x6c656e 34,Ct P 0x6c6f63616c73 35,Ct P 0x6d6178 36,Ct P 0x6d696e 37,Ct P 0x6e657874 38,Ct P 0x616e657874 39,Ct P 0x6f6374 40,Ct P 0x6f7264 41,Ct P 0x706f77 42,Ct P 0x7072696e74 43,Ct P 0x72657072 44,Ct P 0x726f756e64 45,Ct P 0x73657461747472 46,Ct P 0x736f72746564 47,Ct P 0x73756d 48,Ct P 0x76617273 49,E P (sD 0x4e6f6e65) 50 .none,⟨keyHash P iN,.str iN 51,.ellipsis⟩,⟨keyHash P iO,.str iO 52,.notImplemented⟩,E P (sD 0x46616c7365) 53 (.bool A6),E P (sD 0x54727565) 54 (.bool M),BN P 0x626f6f6c 55,BN P 0x6d656d6f727976696577 56,BN P 0x627974656172726179 57,BN P 0x6279746573 58,BN P 0x636c6173736d6574686f64 59,BN P 0x636f6d706c6578 60,BN P 0x64696374 61,BN P 0x656e756d6572617465 62,BN P 0x66696c746572 63,BN P 0x666c6f6174 64,BN P 0x66726f7a656e736574 65,BN P 0x70726f7065727479 66,BN P 0x696e74 67,BN P 0x6c697374 68,BN P 0x6d6170 69,BN P 0x6f626a656374 70,BN P 0x72616e6765 71,BN P 0x7265766572736564 72,BN P 0x736574 73,BN P 0x736c696365 74,BN P 0x7374617469636d6574686f64 75,BN P 0x737472 76,BN P 0x7375706572 77,BN P 0x7475706c65 78,BN P 0x74797065 79,BN P 0x7a6970 80,E P (sD 0x5f5f64656275675f5f) 81 (.bool M),BN P 0x42617365457863657074696f6e 82,BN P 0x42617365457863657074696f6e47726f7570 83,BN P 0x457863657074696f6e 84,BN P 0x47656e657261746f7245786974 85,BN P 0x4b6579626f617264496e74657272757074 86,BN P 0x53797374656d45786974 87,BN P 0x41726974686d657469634572726f72 88,BN P 0x417373657274696f6e4572726f72 89,BN P 0x4174747269627574654572726f72 90,BN P 0x4275666665724572726f72 91,BN P 0x454f464572726f72 92,BN P 0x496d706f72744572726f72 93,BN P 0x4c6f6f6b75704572726f72 94,BN P 0x4d656d6f72794572726f72 95,BN P 0x4e616d654572726f72 96,BN P 0x4f534572726f72 97,BN P 0x5265666572656e63654572726f72 98,BN P 0x52756e74696d654572726f72 99,BN P 0x53746f704173796e63497465726174696f6e 100,BN P 0x53746f70497465726174696f6e 101,BN P 0x53796e7461784572726f72 102,BN P 0x53797374656d4572726f72 103,BN P 0x547970654572726f72 104,BN P 0x56616c75654572726f72 105,BN P 0x5761726e696e67 106,BN P 0x466c6f6174696e67506f696e744572726f72 107,BN P 0x4f766572666c6f774572726f72 108,BN P 0x5a65726f4469766973696f6e4572726f72 109,BN P 0x42797465735761726e696e67 110,BN P 0x4465707265636174696f6e5761726e696e67 111,BN P 0x456e636f64696e675761726e696e67 112,BN P 0x4675747572655761726e696e67 113,BN P 0x496d706f72745761726e696e67 114,BN P 0x50656e64696e674465707265636174696f6e5761726e696e67 115,BN P 0x5265736f757263655761726e696e67 116,BN P 0x52756e74696d655761726e696e67 117,BN P 0x53796e7461785761726e696e67 118,BN P 0x556e69636f64655761726e696e67 119,BN P 0x557365725761726e696e67 120,BN P 0x426c6f636b696e67494f4572726f72 121,BN P 0x4368696c6450726f636573734572726f72 122,BN P 0x436f6e6e656374696f6e4572726f72 123,BN P 0x46696c654578697374734572726f72 124,BN P 0x46696c654e6f74466f756e644572726f72 125,BN P 0x496e7465727275707465644572726f72 126,BN P 0x4973414469726563746f72794572726f72 127,BN P 0x4e6f74414469726563746f72794572726f72 128,BN P 0x5065726d697373696f6e4572726f72 129,BN P 0x50726f636573734c6f6f6b75704572726f72 130,BN P 0x54696d656f75744572726f72 131,BN P 0x496e64656e746174696f6e4572726f72 132,BN P 0x5f496e636f6d706c657465496e7075744572726f72 133,BN P 0x496e6465784572726f72 134,BN P 0x4b65794572726f72 135,BN P 0x4d6f64756c654e6f74466f756e644572726f72 136,BN P 0x4e6f74496d706c656d656e7465644572726f72 137,BN P 0x507974686f6e46696e616c697a6174696f6e4572726f72 138,BN P 0x526563757273696f6e4572726f72 139,BN P 0x556e626f756e644c6f63616c4572726f72 140,BN P 0x556e69636f64654572726f72 141,BN P 0x42726f6b656e506970654572726f72 142,BN P 0x436f6e6e656374696f6e41626f727465644572726f72 143,BN P 0x436f6e6e656374696f6e526566757365644572726f72 144,BN P 0x436f6e6e656374696f6e52657365744572726f72 145,BN P 0x5461624572726f72 146,BN P 0x556e69636f64654465636f64654572726f72 147,BN P 0x556e69636f6465456e636f64654572726f72 148,BN P 0x556e69636f64655472616e736c6174654572726f72 149,BN P 0x457863657074696f6e47726f7570 150,E P (sD 0x456e7669726f6e6d656e744572726f72) 151 (.type "OSError"),E P (sD 0x494f4572726f72) 152 (.type "OSError"),Ct P 0x6f70656e 153,E P (sD 0x71756974) 154 (D_ "builtins.quit#opaque"),E P (sD 0x65786974) 155 (D_ "builtins.exit#opaque"),E P (sD 0x636f70797269676874) 156 (D_ "builtins.copyright#opaque"),E P (sD 0x63726564697473) 157 (D_ "builtins.credits#opaque"),E P (sD 0x6c6963656e7365) 158 (D_ "builtins.license#opaque"),E P (sD 0x68656c70) 159 (D_ "builtins.help#opaque")]
noncomputable def p1(P:Dw):Bl:=FA 2 #[E P s1 162 (AH 4),E P S2 163 (AH 5)]
noncomputable def p2(P:Dw):Bl:=BK .none (.dict #[] 0)
noncomputable def p3(P:Dw):Bl:=FA 9 #[E P s0 165 (Aj S2 164),E P s2 166 .none,E P s3 167 .none,E P s4 168 (D_ "__main__.__loader__#opaque"),E P s5 169 .none,E P Yj 170 (AH 6),E P iP 171 (AH 4),E P iQ 173 (Aj Ew 172),E P iR 174 .none]
noncomputable def p4(P:Dw):Bl:=⟨(.type "module"),G 0,.plain,#[]⟩
noncomputable def p5(P:Dw):Bl:=⟨(.type "module"),G 3,.plain,#[]⟩
noncomputable def p6(P:Dw):Bl:=FA 0 #[]
noncomputable def p7(P:Dw):Bl:=DB #[]
noncomputable def p8(P:Dw):Bl:=Gj #[]
noncomputable def p9(P:Dw):Bl:=Nn iS 176 1 7 175 179 180
noncomputable def jA(P:Dw):Bl:=⟨(.type "frame"),L,.plain,#[CO (AH 9),CO (AH 3),CO (AH 3),L,CO (Aj S2 164),L,CO (AH 0)]⟩
noncomputable def jB(P:Dw):Bl:=DB #[]
noncomputable def vy(P:Dw):Bl:=Gj #[]
noncomputable def jC(P:Dw):Bl:=Nn iS 182 1 11 181 185 186
noncomputable def jD(P:Dw):Bl:=⟨(.type "frame"),L,.plain,#[CO (AH 13),CO (AH 3),CO (AH 3),L,CO (Aj S2 164),L,CO (AH 0)]⟩
noncomputable def jE(P:Dw):I Bl:=[[p0 P,p1 P,p2 P,FA 38 #[E P s0 165 (Aj J2 791),E P s2 166 .none,E P s3 167 .none,E P s4 168 (D_ "__main__.__loader__#opaque"),E P s5 169 .none,E P Yj 170 (AH 6),E P iP 171 (AH 4),E P iQ 173 (Aj Ew 172),E P iR 174 .none,E P Yk 193 (AH 21),E P Nh 252 (AH 60),E P Ni 380 (AH 135),E P Yl 388 (AH 145),E P Nj 582 (AH 242),E P Ym 593 (AH 253),E P Yn 604 (AH 260),E P Nk 630 (AH 277),E P Nl 673 (AH 310),E P Yo 680 (AH 319),E P Yp 692 (AH 326),E P S3 705 (AH 333),E P Yq 714 (AH 340),E P S4 726 (AH 347),E P Yr 736 (AH 354),E P Ys 746 (AH 361),E P Yt 757 (AH 368),E P Yu 773 (AH 375),E P Yv 790 (AH 382),E P S5 798 (AH 387),E P S6 804 (AH 392),E P Yw 814 (AH 399),E P S7 820 (AH 404),E P Yx 831 (AH 411),E P S8 837 (AH 416),E P Yy 845 (AH 423),E P Yz 860 (AH 430),E P S9 866 (AH 435),E P Z' 875 (AH 442)],p4 P,p5 P,p6 P,p7 P,p8 P,p9 P,jA P,jB P,Gj #[Ad 1,Ad 0,AH 20,Ad 5,Ad 0,AH 27,Ad 23,Ad 0,AH 71,Ad 66,Ad 0,AH 144,Ad 70,Ad 0,AH 151,Ad 462,Ad 0,AH 252,Ad 472,Ad 0,AH 259,Ad 478,Ad 0,AH 266,Ad 483,Ad 0,AH 285,Ad 498,Ad 0,AH 318,Ad 502,Ad 0,AH 325,Ad 519,Ad 0,AH 332,Ad 531,Ad 0,AH 339,Ad 536,Ad 0,AH 346,Ad 557,Ad 0,AH 353,Ad 574,Ad 0,AH 360,Ad 580,Ad 0,AH 367,Ad 589,Ad 0,AH 374,Ad 616,Ad 0,AH 381,Ad 656,Ad 0,AH 386,Ad 666,Ad 0,AH 391,Ad 668,Ad 0,AH 398,Ad 676,Ad 0,AH 403,Ad 691,Ad 0,AH 410,Ad 699,Ad 0,AH 415,Ad 705,Ad 0,AH 422,Ad 707,Ad 0,AH 429,Ad 716,Ad 0,AH 434,Ad 725,Ad 0,AH 441],jC P,jD P],fo 15 (B_ 0) Yk Yk [VK] 187 1 1 .none A6 (Aj S2 164) L,[DB #[],Ds "builtin_function_or_method" #[D_ "type.__prepare__",.type "type"],FA 8 #[E P J3 203 (Aj DT 194),E P Pg 205 (Aj Nh 204),E P Jv 207 (.int 5 206),E P Ph 216 (AH 35),E P Z0 225 (AH 43),E P Z1 234 (AH 50),E P Z2 242 (AH 57),E P Jw 245 (AH 58)],DB #[],Gj #[Ad 7,Ad 4,AH 34,Ad 11,Ad 4,AH 42,Ad 18,Ad 4,AH 49,Ad 21,Ad 4,AH 56],Nn Nh 198 5 25 181 201 202,⟨(.type "frame"),L,.plain,#[CO (AH 27),CO (AH 3),CO (AH 24),L,CO (Aj DT 194),L,CO (AH 0)]⟩],fo 29 (DA 2 0) Ph (sD 0x5f7475706c656765747465722e5f5f696e69745f5f) [Ei,M7,VL] 208 7 3 .none A6 (Aj DT 194) L,[DB #[.none]],fo 37 (DA 2 1) Z0 (sD 0x5f7475706c656765747465722e5f5f6765745f5f) [Ei,Z3,sD 0x6f626a74797065] 217 11 3 (AH 36) A6 (Aj DT 194) L,fo 44 (DA 2 2) Z1 (sD 0x5f7475706c656765747465722e5f5f7365745f5f) [Ei,Z3,sD 0x76616c7565] 226 18 3 .none A6 (Aj DT 194) L,fo 51 (DA 2 3) Z2 (sD 0x5f7475706c656765747465722e5f5f64656c6574655f5f) [Ei,Z3] 235 21 2 .none A6 (Aj DT 194) L,[DB #[Aj s2 243,Aj M7 244],FA 4 #[E P J3 203 (Aj DT 194),E P Jv 207 (.int 5 206),E P Ph 216 (AH 35),E P Z0 225 (AH 43),E P Z1 234 (AH 50),E P Z2 242 (AH 57),E P Jw 245 (AH 58),E P VM 247 (AH 61),E P VN 249 (AH 62),E P s2 250 .none],⟨(.type "type"),L,.cls (S1 Nh [.type "object"] [AH 60,.type "object"] 59 Nh M [] [] A6 L A6),#[L,L,CO (Aj Nh 196),CO (Aj Nh 204),CO (D_ "object.__new__"),G (.bool M)]⟩,Ds "getset_descriptor" #[Aj VM 246,AH 60,D_ "function.__dict__",D_ "function.__dict__#set"],Ds "getset_descriptor" #[Aj VN 248,AH 60,D_ "ExceptionGroup.__weakref__",.none],Ds "super" #[AH 60,AH 60,AH 60],Ds "builtin_function_or_method" #[D_ "object.__init_subclass__",AH 60],DB #[.type "tuple"],Ds "builtin_function_or_method" #[D_ "type.__prepare__",.type "type"],FA 20 #[E P J3 260 (Aj DT 194),E P Pg 262 (Aj Ni 261),E P Jv 264 (.int 23 263),E P s2 266 (Aj iU 265),E P iV 268 (AH 73),E P iW 272 (AH 74),E P iX 273 (AH 75),E P Z4 284 (AH 82),E P VO 306 (AH 91),E P Z5 317 (AH 100),E P iY 318 (AH 100),E P Z6 326 (AH 107),E P Z7 333 (AH 114),E P Z8 341 (AH 121),E P iZ 345 (AH 122),E P Hi 355 (AH 124),E P Hj 365 (AH 127),E P Pj 375 (AH 130),E P Jw 376 (AH 132),E P (sD 0x5f5f636c61737363656c6c5f5f) 377 (AH 68)],BK (.type "cell") (.cell (CO (AH 135))),DB #[],Gj #[Ad 29,Ad 4,AH 81,Ad 34,Ad 4,AH 88,Ad 41,Ad 4,AH 99,Ad 52,Ad 4,AH 106,Ad 56,Ad 4,AH 113,Ad 59,Ad 4,AH 120],Nn Ni 255 23 69 181 258 259,⟨(.type "frame"),L,.plain,#[CO (AH 71),CO (AH 3),CO (AH 67),L,CO (Aj DT 194),L,CO (AH 0)]⟩,DB #[],DB #[Aj Hi 269,Aj Hj 270,Aj Pj 271],FA 0 #[]],fo 76 (DA 3 4) Z4 (sD 0x4d617463682e5f5f6e65775f5f) [sD 0x5f636c73,Hi,Hj,Pj] 274 29 4 .none M (Aj DT 194) L,fo 83 (DA 3 5) VO ia [SA,sD 0x6974657261626c65,i_] 285 33 2 .none M (Aj DT 194) (G 92),[FA 5 #[E P J3 295 (Aj DT 194),E P s0 298 (Aj VO 297),E P Pg 301 (Aj ia 300),E P s2 303 (Aj (sD 0x4d616b652061206e6577204d61746368206f626a6563742066726f6d20612073657175656e6365206f72206974657261626c65) 293),E P Yj 305 (AH 92)],⟨(.type "classmethod"),G 90,(.fields #[AH 89,.bool A6]),#[]⟩,FA 0 #[],DB #[AH 68],DB #[Aj ib 310],Gj #[],DB #[Aj Ei 311,Aj (sD 0x6b776473) 312,Aj i_ 313],DB #[],BK .none (.func (G3 (DA 3 6) Z9 0 [] .none .none .none .none L .none .none 0)),Ds "code" #[Aj Z5 307,Aj Z9 308,Aj Ew 309,Ad 41,Ad 1,Ad 1,Ad 0,Ad 11,AH 94,.bool M,Ad 181,AH 95,.none,AH 96,AH 97,AH 98,Ad 314,Ad 41,Aj Ew 315],BK (.type "function") (.func (G3 (DA 3 6) Z9 3 [(ib,68)] .none .none (.str (Yi (DA 3 6)) 316) (Aj DT 194) L (AH 99) (AH 93) 0))],fo 101 (DA 3 8) Z6 (sD 0x4d617463682e5f5f726570725f5f) [Ei] 319 52 1 .none M (Aj DT 194) L,fo 108 (DA 3 9) Z7 (sD 0x4d617463682e5f617364696374) [Ei] 327 56 1 .none A6 (Aj DT 194) L,fo 115 (DA 3 10) Z8 (sD 0x4d617463682e5f5f6765746e6577617267735f5f) [Ei] 334 59 1 .none M (Aj DT 194) L,[DB #[Aj Hi 342,Aj Hj 343,Aj Pj 344],FA 2 #[E P M7 352 (.int 0 346),E P s2 354 (Aj ic 347)],⟨(AH 60),G 123,.plain,#[]⟩,BK (.type "frame") (.dict #[E P Ei 348 (AH 124),E P M7 349 (.int 0 346),E P VL 350 (Aj ic 347)] 3),FA 2 #[E P M7 362 (.int 1 356),E P s2 364 (Aj ig 357)],⟨(AH 60),G 126,.plain,#[]⟩,BK (.type "frame") (.dict #[E P Ei 358 (AH 127),E P M7 359 (.int 1 356),E P VL 360 (Aj ig 357)] 3),FA 2 #[E P M7 372 (.int 2 366),E P s2 374 (Aj ii 367)],⟨(AH 60),G 129,.plain,#[]⟩,BK (.type "frame") (.dict #[E P Ei 368 (AH 130),E P M7 369 (.int 2 366),E P VL 370 (Aj ii 367)] 3),DB #[],BK (.type "list") (.seq #[] 0),FA 2 #[E P J3 260 (Aj DT 194),E P Jv 264 (.int 23 263),E P s2 266 (Aj iU 265),E P iV 268 (AH 73),E P iW 272 (AH 74),E P iX 273 (AH 75),E P Z4 284 (AH 136),E P VO 306 (AH 91),E P Z5 317 (AH 100),E P iY 318 (AH 100),E P Z6 326 (AH 107),E P Z7 333 (AH 114),E P Z8 341 (AH 121),E P iZ 345 (AH 122),E P Hi 355 (AH 124),E P Hj 365 (AH 127),E P Pj 375 (AH 130),E P Jw 376 (AH 132)],j7 P,Ds "staticmethod" #[AH 82],Ds "super" #[AH 135,AH 135,AH 135],Ds "builtin_function_or_method" #[D_ "object.__init_subclass__",AH 135]],fo 139 (B_ 4) Yl Yl [ik,il] 381 66 2 .none A6 (Aj DT 194) L,[DB #[],Ds "builtin_function_or_method" #[D_ "type.__prepare__",.type "type"],FA 17 #[E P J3 396 (Aj DT 194),E P Pg 398 (Aj Nj 397),E P Jv 400 (.int 70 399),E P s2 402 (.str (iM 5) 401),E P Ph 417 (AH 160),E P ZA 427 (AH 167),E P ZB 436 (AH 174),E P ZC 445 (AH 181),E P ip 463 (AH 188),E P ZD 491 (AH 196),E P ZE 518 (AH 203),E P ZF 533 (AH 210),E P ZG 542 (AH 218),E P ZH 551 (AH 225),E P ZI 558 (AH 232),E P ZJ 565 (AH 239),E P Jw 576 (AH 240)],DB #[],Gj #[Ad 145,Ad 4,AH 159,Ad 173,Ad 4,AH 166,Ad 184,Ad 4,AH 173,Ad 209,Ad 4,AH 180,Ad 236,Ad 4,AH 187,Ad 260,Ad 4,AH 195,Ad 335,Ad 4,AH 202,Ad 383,Ad 4,AH 209,Ad 430,Ad 4,AH 217,Ad 433,Ad 4,AH 224,Ad 457,Ad 4,AH 231,Ad 460,Ad 4,AH 238],Nn Nj 391 70 149 181 394 395,⟨(.type "frame"),L,.plain,#[CO (AH 151),CO (AH 3),CO (AH 148),L,CO (Aj DT 194),L,CO (AH 0)]⟩,DB #[.none,Aj iq 404,Aj iq 405,.bool M]],fo 154 (DA 5 1) Ph (sD 0x53657175656e63654d6174636865722e5f5f696e69745f5f) [Ei,ZK,Hi,Hj,ir] 406 145 5 (AH 153) M (Aj DT 194) L,fo 161 (DA 5 2) ZA (sD 0x53657175656e63654d6174636865722e7365745f73657173) [Ei,Hi,Hj] 418 173 3 .none M (Aj DT 194) L,fo 168 (DA 5 3) ZB (sD 0x53657175656e63654d6174636865722e7365745f73657131) [Ei,Hi] 428 184 2 .none M (Aj DT 194) L,fo 175 (DA 5 4) ZC (sD 0x53657175656e63654d6174636865722e7365745f73657132) [Ei,Hj] 437 209 2 .none M (Aj DT 194) L,fo 182 (DA 5 5) (sD 0x5f5f636861696e5f62) (sD 0x53657175656e63654d6174636865722e5f5f636861696e5f62) [Ei,Hj,ZL,M8,sD 0x656c74,sD 0x696e6469636573,sD 0x6a756e6b,ZK,sD 0x706f70756c6172,iu,sD 0x6e74657374,sD 0x69647873] 446 236 1 .none A6 (Aj DT 194) L,[DB #[.int 0 464,.none,.int 0 465,.none]],fo 190 (DA 5 6) ZD (sD 0x53657175656e63654d6174636865722e66696e645f6c6f6e676573745f6d61746368) [Ei,iv,iw,ix,iy,Hi,Hj,ZL,sD 0x6973626a756e6b,sD 0x6265737469,sD 0x626573746a,sD 0x6265737473697a65,sD 0x6a326c656e,sD 0x6e6f7468696e67,M8,sD 0x6a326c656e676574,sD 0x6e65776a326c656e,SE,VK] 466 260 5 (AH 189) M (Aj DT 194) L,fo 197 (DA 5 7) ZE (sD 0x53657175656e63654d6174636865722e6765745f6d61746368696e675f626c6f636b73) [Ei,sD 0x6c61,sD 0x6c62,sD 0x7175657565,iz,iv,iw,ix,iy,M8,SE,VK,j0,sD 0x6931,sD 0x6a31,sD 0x6b31,sD 0x6e6f6e5f61646a6163656e74,sD 0x6932,sD 0x6a32,sD 0x6b32] 492 335 1 .none M (Aj DT 194) L,fo 204 (DA 5 8) ZF (sD 0x53657175656e63654d6174636865722e6765745f6f70636f646573) [Ei,M8,SE,sD 0x616e73776572,sD 0x6169,sD 0x626a,Pj,sD 0x746167] 519 383 1 .none M (Aj DT 194) L,[DB #[.int 3 534]],fo 212 (DA 5 9) ZG (sD 0x53657175656e63654d6174636865722e6765745f67726f757065645f6f70636f646573) [Ei,iu] 535 430 2 (AH 211) A6 (Aj DT 194) L,fo 219 (DA 5 10) ZH (sD 0x53657175656e63654d6174636865722e726174696f) [Ei,ik] 543 433 1 .none M (Aj DT 194) L,fo 226 (DA 5 11) ZI (sD 0x53657175656e63654d6174636865722e717569636b5f726174696f) [Ei] 552 457 1 .none A6 (Aj DT 194) L,fo 233 (DA 5 12) ZJ (sD 0x53657175656e63654d6174636865722e7265616c5f717569636b5f726174696f) [Ei] 559 460 1 .none A6 (Aj DT 194) L,[DB #[Aj Hi 566,Aj ir 567,Aj Hj 568,Aj ZL 569,Aj (sD 0x626a756e6b) 570,Aj (sD 0x62706f70756c6172) 571,Aj (sD 0x66756c6c62636f756e74) 572,Aj ZK 573,Aj iz 574,Aj (sD 0x6f70636f646573) 575],FA 3 #[E P J3 396 (Aj DT 194),E P Jv 400 (.int 70 399),E P s2 402 (.str (iM 5) 401),E P Ph 417 (AH 160),E P ZA 427 (AH 167),E P ZB 436 (AH 174),E P ZC 445 (AH 181),E P ip 463 (AH 188),E P ZD 491 (AH 196),E P ZE 518 (AH 203),E P ZF 533 (AH 210),E P ZG 542 (AH 218),E P ZH 551 (AH 225),E P ZI 558 (AH 232),E P ZJ 565 (AH 239),E P Jw 576 (AH 240),E P VM 578 (AH 243),E P VN 580 (AH 244)],⟨(.type "type"),L,.cls (S1 Nj [.type "object"] [AH 242,.type "object"] 241 Nj M [] [] A6 L A6),#[L,L,CO (Aj Nj 389),CO (Aj Nj 397),CO (D_ "object.__new__"),G (.bool M)]⟩,Ds "getset_descriptor" #[Aj VM 577,AH 242,D_ "function.__dict__",D_ "function.__dict__#set"],Ds "getset_descriptor" #[Aj VN 579,AH 242,D_ "ExceptionGroup.__weakref__",.none],Ds "super" #[AH 242,AH 242,AH 242],Ds "builtin_function_or_method" #[D_ "object.__init_subclass__",AH 242]],fo 247 (B_ 6) Ym Ym [j2,sD 0x73746f70,sD 0x626567696e6e696e67,il] 583 462 2 .none M (Aj DT 194) L,fo 254 (B_ 8) Yn Yn [j0,sD 0x77686174,j3] 596 472 2 .none A6 (Aj j4 594) L,[DB #[.type "type"],Ds "builtin_function_or_method" #[D_ "type.__prepare__",.type "type"],FA 5 #[E P J3 614 (Aj VP 605),E P Pg 616 (Aj Nk 615),E P Jv 618 (.int 478 617),E P Pk 626 (AH 274),E P Jw 627 (AH 275)],DB #[],Gj #[Ad 480,Ad 4,AH 273],Nn Nk 609 478 264 181 612 613,⟨(.type "frame"),L,.plain,#[CO (AH 266),CO (AH 3),CO (AH 263),L,CO (Aj VP 605),L,CO (AH 0)]⟩],fo 268 (DA 10 0) Pk (sD 0x4142434d6574612e7265676973746572) [SA,j5] 619 480 2 .none A6 (Aj VP 605) L,[DB #[],FA 2 #[E P J3 614 (Aj VP 605),E P Jv 618 (.int 478 617),E P Pk 626 (AH 274),E P Jw 627 (AH 275),E P s2 628 .none],⟨(.type "type"),L,.cls (S1 Nk [.type "type"] [AH 277,.type "type",.type "object"] 276 Nk M [] [AH 310] A6 L A6),#[CO (AH 261),L,CO (Aj Nk 607),CO (Aj Nk 615),CO (D_ "type.__new__"),G (.bool M)]⟩,Ds "super" #[AH 277,AH 277,AH 277],Ds "builtin_function_or_method" #[D_ "object.__init_subclass__",AH 277],DB #[AH 277],Ds "builtin_function_or_method" #[D_ "type.__prepare__",.type "type"],FA 7 #[E P J3 640 (Aj Nm 631),E P Pg 642 (Aj Nl 641),E P Jv 644 (.int 483 643),E P ZM 653 (AH 293),E P ZN 661 (AH 300),E P Pk 669 (AH 307),E P Jw 670 (AH 308)],DB #[],Gj #[Ad 485,Ad 4,AH 292,Ad 491,Ad 4,AH 299,Ad 496,Ad 4,AH 306],Nn Nl 635 483 283 181 638 639,⟨(.type "frame"),L,.plain,#[CO (AH 285),CO (AH 3),CO (AH 282),L,CO (Aj Nm 631),L,CO (AH 0)]⟩],fo 287 (DA 12 0) ZM (sD 0x5f4142434c696b652e5f5f696e7374616e6365636865636b5f5f) [SA,sD 0x696e7374616e6365,ZO] 645 485 2 .none A6 (Aj Nm 631) L,fo 294 (DA 12 1) ZN (sD 0x5f4142434c696b652e5f5f737562636c617373636865636b5f5f) [SA,ZO] 654 491 2 .none A6 (Aj Nm 631) L,fo 301 (DA 12 2) Pk (sD 0x5f4142434c696b652e7265676973746572) [SA,j5] 662 496 2 .none A6 (Aj Nm 631) L,[DB #[],FA 2 #[E P J3 640 (Aj Nm 631),E P Jv 644 (.int 483 643),E P ZM 653 (AH 293),E P ZN 661 (AH 300),E P Pk 669 (AH 307),E P Jw 670 (AH 308),E P s2 671 .none],⟨(.type "type"),L,.cls (S1 Nl [AH 277] [AH 310,AH 277,.type "type",.type "object"] 309 Nl M [] [] A6 L A6),#[CO (AH 280),L,CO (Aj Nl 633),CO (Aj Nl 641),CO (D_ "type.__new__"),G (.bool M)]⟩,Ds "super" #[AH 310,AH 310,AH 310],Ds "builtin_function_or_method" #[D_ "object.__init_subclass__",AH 310]],fo 313 (B_ 13) Yo Yo [ZO] 674 498 1 .none A6 (Aj Nm 631) L,fo 320 (B_ 15) Yp Yp [Pl,j3,sD 0x686f6f6b,sD 0x676976656e] 683 502 1 .none A6 (Aj j4 681) L,[DB #[],Gj #[],DB #[Aj (sD 0x66756e636e616d65) 698,Aj (sD 0x61726773) 699,Aj (sD 0x686173737472) 700,Aj (sD 0x6861736279746573) 701,Aj (sD 0x73) 702],DB #[],BK .none (.func (G3 (B_ 17) S3 0 [] .none .none .none .none L .none .none 0)),Ds "code" #[Aj S3 695,Aj S3 696,Aj Ew 697,Ad 519,Ad 1,Ad 0,Ad 0,Ad 7,AH 327,.bool M,Ad 181,AH 328,.none,AH 329,AH 330,AH 331,Ad 703,Ad 519,Aj Ew 704],BK (.type "function") (.func (G3 (B_ 17) S3 3 [] .none .none .none (Aj (sD 0x6370793331332e67656e6572696370617468) 693) L (AH 332) .none 0))],fo 334 (B_ 19) Yq Yq [Pl] 708 531 1 .none A6 (Aj Pm 706) L,[DB #[],Gj #[],DB #[Aj Hi 718,Aj VQ 719,Aj SF 720,Aj Pl 721,Aj Hj 722],DB #[],BK .none (.func (G3 (B_ 20) S4 0 [] .none .none .none .none L .none .none 0)),Ds "code" #[Aj S4 715,Aj S4 716,Aj Ew 717,Ad 536,Ad 1,Ad 0,Ad 0,Ad 7,AH 341,.bool M,Ad 181,AH 342,.none,AH 343,AH 344,AH 345,Ad 723,Ad 536,Aj Ew 724],BK (.type "function") (.func (G3 (B_ 20) S4 3 [] .none .none (.str (Yi (B_ 20)) 725) (Aj Pm 706) L (AH 346) .none 0))],fo 348 (B_ 21) Yr Yr [VQ,SF,sD 0x656d707479] 727 557 1 .none M (Aj Pm 706) L,fo 355 (B_ 22) Ys Ys [VQ,SF,M8] 737 574 1 .none M (Aj Pm 706) L,fo 362 (B_ 23) Yt Yt [VQ,SF,M8,sD 0x68656164] 747 580 1 .none M (Aj Pm 706) L,fo 369 (B_ 24) Yu Yu [Pl,SF,sD 0x646f74,sD 0x646f74646f74,sD 0x5f,sD 0x696e697469616c5f736c6173686573,sD 0x636f6d7073,sD 0x6e65775f636f6d7073,sD 0x636f6d70] 758 589 1 .none M (Aj Pm 706) L,fo 376 (B_ 26) Yv Yv [sD 0x6578706563746564,sD 0x61637475616c,M8,SE,sD 0x6d697373696e67,sD 0x756e6578706563746564,sD 0x65,Hi] 776 616 2 .none M (Aj (sD 0x6370793331332e756e6974746573742e7574696c) 774) L,[DB #[],Gj #[],BK .none (.func (G3 (B_ 28) S5 0 [] .none .none .none .none L .none .none 0)),Ds "code" #[Aj S5 793,Aj S5 794,Aj Ew 795,Ad 656,Ad 1,Ad 0,Ad 0,Ad 3,AH 383,.bool M,Ad 181,AH 384,.none,.none,.none,AH 385,Ad 796,Ad 656,Aj Ew 797],BK (.type "function") (.func (G3 (B_ 28) S5 3 [] .none .none .none (Aj J2 791) L (AH 386) .none 0)),DB #[],Gj #[],BK .none (.func (G3 (B_ 29) S6 0 [] .none .none .none .none L .none .none 0)),Ds "code" #[Aj S6 799,Aj S6 800,Aj Ew 801,Ad 666,Ad 1,Ad 0,Ad 0,Ad 3,AH 388,.bool M,Ad 181,AH 389,.none,.none,.none,AH 390,Ad 802,Ad 666,Aj Ew 803],BK (.type "function") (.func (G3 (B_ 29) S6 3 [] .none .none .none (Aj J2 791) L (AH 391) .none 0))],fo 393 (B_ 30) Yw Yw [j6,sD 0x706c616365,sD 0x696e6e6572,Pl] 805 668 2 .none A6 (Aj J2 791) L,[DB #[],Gj #[],BK .none (.func (G3 (B_ 31) S7 0 [] .none .none .none .none L .none .none 0)),Ds "code" #[Aj S7 815,Aj S7 816,Aj Ew 817,Ad 676,Ad 3,Ad 0,Ad 0,Ad 3,AH 400,.bool M,Ad 181,AH 401,.none,.none,.none,AH 402,Ad 818,Ad 676,Aj Ew 819],BK (.type "function") (.func (G3 (B_ 31) S7 3 [] .none .none .none (Aj J2 791) L (AH 403) .none 0))],fo 405 (B_ 32) Yx Yx [j6,sD 0x746f70,Pl,sD 0x6e6f6465,sD 0x70617274] 821 691 1 .none A6 (Aj J2 791) L,[DB #[],Gj #[],BK .none (.func (G3 (B_ 33) S8 0 [] .none .none .none .none L .none .none 0)),Ds "code" #[Aj S8 832,Aj S8 833,Aj Ew 834,Ad 699,Ad 2,Ad 0,Ad 0,Ad 3,AH 412,.bool M,Ad 181,AH 413,.none,.none,.none,AH 414,Ad 835,Ad 699,Aj Ew 836],BK (.type "function") (.func (G3 (B_ 33) S8 3 [] .none .none .none (Aj J2 791) L (AH 415) .none 0))],fo 417 (B_ 34) Yy Yy [j2,sD 0x636f756e74] 838 705 2 .none A6 (Aj J2 791) L,fo 424 (B_ 35) Yz Yz [Hi,Hj,sD 0x7061697273,sD 0x726f7773,VK,M8,SE,sD 0x6c6f7374,sD 0x776f6e] 846 707 2 .none A6 (Aj J2 791) L,[DB #[],Gj #[],BK .none (.func (G3 (B_ 36) S9 0 [] .none .none .none .none L .none .none 0)),Ds "code" #[Aj S9 861,Aj S9 862,Aj Ew 863,Ad 716,Ad 3,Ad 0,Ad 0,Ad 3,AH 431,.bool M,Ad 181,AH 432,.none,.none,.none,AH 433,Ad 864,Ad 716,Aj Ew 865],BK (.type "function") (.func (G3 (B_ 36) S9 3 [] .none .none .none (Aj J2 791) L (AH 434) .none 0))],fo 436 (B_ 37) Z' Z' [sD 0x736372697074,sD 0x647261776e,sD 0x746f6c645f736f] 867 725 1 .none A6 (Aj J2 791) L].flatten
noncomputable def vz(f:O):I Bl->BT:=Xn (λ_=>.nil) (λ_ ih l=>lC l .nil λx r=>.node x (ih (j8 r)) (ih (j8 (r.drop 1)))) f
noncomputable def jF(P:Dw):BT:=vz 12 (jE P)
noncomputable def w2(P:Dw):BT:=(.node (p0 P) (.node (p1 P) (.node (p3 P) (.node (p7 P) .nil .nil) (.node (jB P) .nil .nil)) (.node (p5 P) (.node (p9 P) .nil .nil) (.node (jC P) .nil .nil))) (.node (p2 P) (.node (p4 P) (.node (p8 P) .nil .nil) (.node (vy P) .nil .nil)) (.node (p6 P) (.node (jA P) .nil .nil) (.node (jD P) .nil .nil))))
noncomputable def Ba(P:Dw):GZ:=(jE P).zipIdx.map λp=>(p.2,p.1)
end
section
noncomputable abbrev Tx:=I O
noncomputable def CY(a b:Tx):AK:=@List.beq O ⟨B8⟩ a b
noncomputable def Bm:AK->I Tx
 |false=>[[],[120],[120,121],[121,120],[120,121,122],[122,120,121],[121,121],[120,122,120,121],[120,118,121,122,117,119],[118,121,122],[120,120]]|true=>[[],[120],[120,121],[121,120],[120,121,122],[122,120,121],[121,121],[120,122,120,121],[120,119,121,122,116,119],[119,121,122,118]]
noncomputable def IH:I Tx:=[[],[120],[120,121],[121,120],[120,121,122],[122,120,121],[121,121],[120,122,120,121]]
inductive V where|none|bool(b:AK)|int(i:AX)|str(s:Tx)|tup(c:AL A9)(U:I V)|top(v:A4)|ref(i:O)|H4(lo hi:AX)|Az(k:O)(i:O)|sym(k:AK)(t:Tx)(ok:t∈Bm k)|II(m r:O)|No(n:O)|any deriving Inhabited
noncomputable def vBool{J:Type}(v:V)(d:J)(k:AK->J):J:=if h:v.ctorIdx=1 then V.bool.elim (motive_1:=λ_=>J) v h k else d
theorem jG{J:Type}{v:V}{d:J}{k:AK->J}{r:J}(h:vBool v d k=r){P:V->Prop}(c:∀x,k x=r->P (.bool x))(e:d=r->P v):P v:=if q:v.ctorIdx=1 then V.bool.elim (motive_1:=λv=>vBool v d k=r->P v) v q (λx h=>c x h) h else e ((Ch q).symm.trans h)
theorem SG{J:Type}{v:V}{d:J}{k:AK->J}{r:J}(h:vBool v d k=r)(hd:d=r->Bh){P:V->Prop}(c:∀x,k x=r->P (.bool x)):P v:=jG h c λe=>(hd e).elim
noncomputable def vInt{J:Type}(v:V)(d:J)(k:AX->J):J:=if h:v.ctorIdx=2 then V.int.elim (motive_1:=λ_=>J) v h k else d
theorem Pn{J:Type}{v:V}{d:J}{k:AX->J}{r:J}(h:vInt v d k=r){P:V->Prop}(c:∀x,k x=r->P (.int x))(e:d=r->P v):P v:=if q:v.ctorIdx=2 then V.int.elim (motive_1:=λv=>vInt v d k=r->P v) v q (λx h=>c x h) h else e ((Ch q).symm.trans h)
theorem Cu{J:Type}{v:V}{d:J}{k:AX->J}{r:J}(h:vInt v d k=r)(hd:d=r->Bh){P:V->Prop}(c:∀x,k x=r->P (.int x)):P v:=Pn h c λe=>(hd e).elim
noncomputable def vStr{J:Type}(v:V)(d:J)(k:Tx->J):J:=if h:v.ctorIdx=3 then V.str.elim (motive_1:=λ_=>J) v h k else d
theorem Np{J:Type}{v:V}{d:J}{k:Tx->J}{r:J}(h:vStr v d k=r){P:V->Prop}(c:∀x,k x=r->P (.str x))(e:d=r->P v):P v:=if q:v.ctorIdx=3 then V.str.elim (motive_1:=λv=>vStr v d k=r->P v) v q (λx h=>c x h) h else e ((Ch q).symm.trans h)
theorem Db{J:Type}{v:V}{d:J}{k:Tx->J}{r:J}(h:vStr v d k=r)(hd:d=r->Bh){P:V->Prop}(c:∀x,k x=r->P (.str x)):P v:=Np h c λe=>(hd e).elim
noncomputable def FS{J:Type}(v:V)(d:J)(k:AL A9->I V->J):J:=if h:v.ctorIdx=4 then V.tup.elim (motive_1:=λ_=>J) v h k else d
theorem jH{J:Type}{v:V}{d:J}{k:AL A9->I V->J}{r:J}(h:FS v d k=r){P:V->Prop}(c:∀x y,k x y=r->P (.tup x y))(e:d=r->P v):P v:=if q:v.ctorIdx=4 then V.tup.elim (motive_1:=λv=>FS v d k=r->P v) v q (λx y h=>c x y h) h else e ((Ch q).symm.trans h)
theorem IJ{J:Type}{v:V}{d:J}{k:AL A9->I V->J}{r:J}(h:FS v d k=r)(hd:d=r->Bh){P:V->Prop}(c:∀x y,k x y=r->P (.tup x y)):P v:=jH h c λe=>(hd e).elim
noncomputable def IK{J:Type}(v:V)(d:J)(k:A4->J):J:=if h:v.ctorIdx=5 then V.top.elim (motive_1:=λ_=>J) v h k else d
theorem ZP{J:Type}{v:V}{d:J}{k:A4->J}{r:J}(h:IK v d k=r){P:V->Prop}(c:∀x,k x=r->P (.top x))(e:d=r->P v):P v:=if q:v.ctorIdx=5 then V.top.elim (motive_1:=λv=>IK v d k=r->P v) v q (λx h=>c x h) h else e ((Ch q).symm.trans h)
theorem Nq{J:Type}{v:V}{d:J}{k:A4->J}{r:J}(h:IK v d k=r)(hd:d=r->Bh){P:V->Prop}(c:∀x,k x=r->P (.top x)):P v:=ZP h c λe=>(hd e).elim
noncomputable def DL{J:Type}(v:V)(d:J)(k:O->J):J:=if h:v.ctorIdx=6 then V.ref.elim (motive_1:=λ_=>J) v h k else d
theorem VS{J:Type}{v:V}{d:J}{k:O->J}{r:J}(h:DL v d k=r){P:V->Prop}(c:∀x,k x=r->P (.ref x))(e:d=r->P v):P v:=if q:v.ctorIdx=6 then V.ref.elim (motive_1:=λv=>DL v d k=r->P v) v q (λx h=>c x h) h else e ((Ch q).symm.trans h)
theorem EF{J:Type}{v:V}{d:J}{k:O->J}{r:J}(h:DL v d k=r)(hd:d=r->Bh){P:V->Prop}(c:∀x,k x=r->P (.ref x)):P v:=VS h c λe=>(hd e).elim
noncomputable def SH{J:Type}(v:V)(d:J)(k:O->O->J):J:=if h:v.ctorIdx=10 then V.II.elim (motive_1:=λ_=>J) v h k else d
theorem w3{J:Type}{v:V}{d:J}{k:O->O->J}{r:J}(h:SH v d k=r){P:V->Prop}(c:∀x y,k x y=r->P (.II x y))(e:d=r->P v):P v:=if q:v.ctorIdx=10 then V.II.elim (motive_1:=λv=>SH v d k=r->P v) v q (λx y h=>c x y h) h else e ((Ch q).symm.trans h)
theorem jI{J:Type}{v:V}{d:J}{k:O->O->J}{r:J}(h:SH v d k=r)(hd:d=r->Bh){P:V->Prop}(c:∀x y,k x y=r->P (.II x y)):P v:=w3 h c λe=>(hd e).elim
noncomputable def VT{J:Type}(v:V)(d:J)(k:O->J):J:=if h:v.ctorIdx=11 then V.No.elim (motive_1:=λ_=>J) v h k else d
theorem w4{J:Type}{v:V}{d:J}{k:O->J}{r:J}(h:VT v d k=r){P:V->Prop}(c:∀x,k x=r->P (.No x))(e:d=r->P v):P v:=if q:v.ctorIdx=11 then V.No.elim (motive_1:=λv=>VT v d k=r->P v) v q (λx h=>c x h) h else e ((Ch q).symm.trans h)
theorem w5{J:Type}{v:V}{d:J}{k:O->J}{r:J}(h:VT v d k=r)(hd:d=r->Bh){P:V->Prop}(c:∀x,k x=r->P (.No x)):P v:=w4 h c λe=>(hd e).elim
noncomputable def Km{J:Type}(v:A4)(d:J)(k:DJ->J):J:=if h:v.ctorIdx=8 then bk7 (motive:=λ_=>J) v h k else d
theorem jJ{J:Type}{v:A4}{d:J}{k:DJ->J}{r:J}(h:Km v d k=r){P:A4->Prop}(c:∀x,k x=r->P (.type x))(e:d=r->P v):P v:=if q:v.ctorIdx=8 then bk7 (motive:=λv=>Km v d k=r->P v) v q (λx h=>c x h) h else e ((Ch q).symm.trans h)
theorem SI{J:Type}{v:A4}{d:J}{k:DJ->J}{r:J}(h:Km v d k=r)(hd:d=r->Bh){P:A4->Prop}(c:∀x,k x=r->P (.type x)):P v:=jJ h c λe=>(hd e).elim
noncomputable def IL{J:Type}(v:V)(d k:J):J:=if v.ctorIdx=0 then k else d
theorem ZQ{J:Type}{v:V}{d k r:J}(h:IL v d k=r){P:V->Prop}(c:k=r->P .none)(e:d=r->P v):P v:=if q:v.ctorIdx=0 then V.none.elim (motive_1:=λv=>IL v d k=r->P v) v q c h else e ((CN q).symm.trans h)
theorem Po{J:Type}{v:V}{d k r:J}(h:IL v d k=r)(hd:d=r->Bh){P:V->Prop}(c:k=r->P .none):P v:=ZQ h c λe=>(hd e).elim
noncomputable def w6{J:Type}(v:V)(d:J)(k:AX->AX->J):J:=if h:v.ctorIdx=7 then V.H4.elim (motive_1:=λ_=>J) v h k else d
noncomputable def VU{J:Type}(v:V)(d:J)(k:O->O->J):J:=if h:v.ctorIdx=8 then V.Az.elim (motive_1:=λ_=>J) v h k else d
theorem w7{J:Type}{v:V}{d:J}{k:O->O->J}{r:J}(h:VU v d k=r){P:V->Prop}(c:∀x y,k x y=r->P (.Az x y))(e:d=r->P v):P v:=if q:v.ctorIdx=8 then V.Az.elim (motive_1:=λv=>VU v d k=r->P v) v q (λx y h=>c x y h) h else e ((Ch q).symm.trans h)
theorem w8{J:Type}{v:V}{d:J}{k:O->O->J}{r:J}(h:VU v d k=r)(hd:d=r->Bh){P:V->Prop}(c:∀x y,k x y=r->P (.Az x y)):P v:=w7 h c λe=>(hd e).elim
noncomputable def Kn{J:Type}(v:A4)(d:J)(k:A9->J):J:=if h:v.ctorIdx=10 then bk8 (motive:=λ_=>J) v h k else d
theorem w9{J:Type}{v:A4}{d:J}{k:A9->J}{r:J}(h:Kn v d k=r){P:A4->Prop}(c:∀x,k x=r->P (.ref x))(e:d=r->P v):P v:=if q:v.ctorIdx=10 then bk8 (motive:=λv=>Kn v d k=r->P v) v q (λx h=>c x h) h else e ((Ch q).symm.trans h)
theorem Pp{J:Type}{v:A4}{d:J}{k:A9->J}{r:J}(h:Kn v d k=r)(hd:d=r->Bh){P:A4->Prop}(c:∀x,k x=r->P (.ref x)):P v:=w9 h c λe=>(hd e).elim
noncomputable def ZR{J:Type}(v:A4)(d:J)(k:DJ->J):J:=if h:v.ctorIdx=9 then bk9 (motive:=λ_=>J) v h k else d
theorem wA{J:Type}{v:A4}{d:J}{k:DJ->J}{r:J}(h:ZR v d k=r){P:A4->Prop}(c:∀x,k x=r->P (.builtin x))(e:d=r->P v):P v:=if q:v.ctorIdx=9 then bk9 (motive:=λv=>ZR v d k=r->P v) v q (λx h=>c x h) h else e ((Ch q).symm.trans h)
inductive Sg where|it(l:I Tx)|tx(t:Tx)|run(p a b:Tx)
inductive Ob where|list(U:I V)|dict(N:I (V×V))|HP|inst(c:A9)(d:O)|EV(N:I (Y×V))|B1(N:I (V×V))|rows(r:O)(U:I Sg)deriving Inhabited
noncomputable def EW{J:Type}(v:Ob)(d:J)(k:I V->J):J:=if h:v.ctorIdx=0 then Ob.list.elim (motive:=λ_=>J) v h k else d
theorem Jx{J:Type}{v:Ob}{d:J}{k:I V->J}{r:J}(h:EW v d k=r){P:Ob->Prop}(c:∀x,k x=r->P (.list x))(e:d=r->P v):P v:=if q:v.ctorIdx=0 then Ob.list.elim (motive:=λv=>EW v d k=r->P v) v q (λx h=>c x h) h else e ((Ch q).symm.trans h)
theorem IM{J:Type}{v:Ob}{d:J}{k:I V->J}{r:J}(h:EW v d k=r)(hd:d=r->Bh){P:Ob->Prop}(c:∀x,k x=r->P (.list x)):P v:=Jx h c λe=>(hd e).elim
noncomputable def G4{J:Type}(v:Ob)(d:J)(k:I (V×V)->J):J:=if h:v.ctorIdx=1 then Ob.dict.elim (motive:=λ_=>J) v h k else d
theorem SJ{J:Type}{v:Ob}{d:J}{k:I (V×V)->J}{r:J}(h:G4 v d k=r){P:Ob->Prop}(c:∀x,k x=r->P (.dict x))(e:d=r->P v):P v:=if q:v.ctorIdx=1 then Ob.dict.elim (motive:=λv=>G4 v d k=r->P v) v q (λx h=>c x h) h else e ((Ch q).symm.trans h)
theorem J4{J:Type}{v:Ob}{d:J}{k:I (V×V)->J}{r:J}(h:G4 v d k=r)(hd:d=r->Bh){P:Ob->Prop}(c:∀x,k x=r->P (.dict x)):P v:=SJ h c λe=>(hd e).elim
noncomputable def M9{J:Type}(v:Ob)(d:J)(k:I (V×V)->J):J:=if h:v.ctorIdx=5 then Ob.B1.elim (motive:=λ_=>J) v h k else d
theorem wB{J:Type}{v:Ob}{d:J}{k:I (V×V)->J}{r:J}(h:M9 v d k=r){P:Ob->Prop}(c:∀x,k x=r->P (.B1 x))(e:d=r->P v):P v:=if q:v.ctorIdx=5 then Ob.B1.elim (motive:=λv=>M9 v d k=r->P v) v q (λx h=>c x h) h else e ((Ch q).symm.trans h)
theorem SM{J:Type}{v:Ob}{d:J}{k:I (V×V)->J}{r:J}(h:M9 v d k=r)(hd:d=r->Bh){P:Ob->Prop}(c:∀x,k x=r->P (.B1 x)):P v:=wB h c λe=>(hd e).elim
noncomputable def Pq{J:Type}(v:Ob)(d k:J):J:=if v.ctorIdx=2 then k else d
theorem jK{J:Type}{v:Ob}{d k r:J}(h:Pq v d k=r){P:Ob->Prop}(c:k=r->P .HP)(e:d=r->P v):P v:=if q:v.ctorIdx=2 then Ob.HP.elim (motive:=λv=>Pq v d k=r->P v) v q c h else e ((CN q).symm.trans h)
theorem wC{J:Type}{v:Ob}{d k r:J}(h:Pq v d k=r)(hd:d=r->Bh){P:Ob->Prop}(c:k=r->P .HP):P v:=jK h c λe=>(hd e).elim
noncomputable def Pr{J:Type}(v:Ob)(d:J)(k:A9->O->J):J:=if h:v.ctorIdx=3 then Ob.inst.elim (motive:=λ_=>J) v h k else d
theorem jL{J:Type}{v:Ob}{d:J}{k:A9->O->J}{r:J}(h:Pr v d k=r){P:Ob->Prop}(c:∀x y,k x y=r->P (.inst x y))(e:d=r->P v):P v:=if q:v.ctorIdx=3 then Ob.inst.elim (motive:=λv=>Pr v d k=r->P v) v q (λx y h=>c x y h) h else e ((Ch q).symm.trans h)
theorem jM{J:Type}{v:Ob}{d:J}{k:A9->O->J}{r:J}(h:Pr v d k=r)(hd:d=r->Bh){P:Ob->Prop}(c:∀x y,k x y=r->P (.inst x y)):P v:=jL h c λe=>(hd e).elim
noncomputable def Ps{J:Type}(v:Ob)(d:J)(k:I (Y×V)->J):J:=if h:v.ctorIdx=4 then Ob.EV.elim (motive:=λ_=>J) v h k else d
theorem wD{J:Type}{v:Ob}{d:J}{k:I (Y×V)->J}{r:J}(h:Ps v d k=r){P:Ob->Prop}(c:∀x,k x=r->P (.EV x))(e:d=r->P v):P v:=if q:v.ctorIdx=4 then Ob.EV.elim (motive:=λv=>Ps v d k=r->P v) v q (λx h=>c x h) h else e ((Ch q).symm.trans h)
theorem ZS{J:Type}{v:Ob}{d:J}{k:I (Y×V)->J}{r:J}(h:Ps v d k=r)(hd:d=r->Bh){P:Ob->Prop}(c:∀x,k x=r->P (.EV x)):P v:=wD h c λe=>(hd e).elim
noncomputable def Pt{J:Type}(v:Ob)(d:J)(k:O->I Sg->J):J:=if h:v.ctorIdx=6 then Ob.rows.elim (motive:=λ_=>J) v h k else d
theorem jN{J:Type}{v:Ob}{d:J}{k:O->I Sg->J}{r:J}(h:Pt v d k=r){P:Ob->Prop}(c:∀x y,k x y=r->P (.rows x y))(e:d=r->P v):P v:=if q:v.ctorIdx=6 then Ob.rows.elim (motive:=λv=>Pt v d k=r->P v) v q (λx y h=>c x y h) h else e ((Ch q).symm.trans h)
theorem jO{J:Type}{v:Ob}{d:J}{k:O->I Sg->J}{r:J}(h:Pt v d k=r)(hd:d=r->Bh){P:Ob->Prop}(c:∀x y,k x y=r->P (.rows x y)):P v:=jN h c λe=>(hd e).elim
structure St where
 env:I (Y×V)h:I (O×Ob)n:O deriving Inhabited
inductive Fl where|next|brk|cont|ret(v:V)
inductive AV where|v(v:V)|vs(l:I V)|b(b:AK)|f(f:Fl)|ps(l:I (V×V))
structure Fn where
 sc:BS
 ps:I Y
 va:AL Y
 body:I Ar
 dflt:I V
structure Kx where
 sc:BS
 d:O
noncomputable def D7(a b:Y):AK:=CY a.cps.toList b.cps.toList
noncomputable def EX:Tx->Tx->AK
 |_,[]=>A6|[],_::_=>M|a::x,b::y=>match B8 a b with|true=>EX x y|false=>Fy a b
noncomputable def Ai{C:Type}:I (Y×C)->Y->AL C
 |[],_=>L|p::l,x=>match D7 p.1 x with|true=>G p.2|false=>Ai l x
noncomputable def EB{C:Type}:I (Y×C)->Y->C->I (Y×C)
 |[],x,v=>[(x,v)]|p::l,x,v=>match D7 p.1 x with|true=>(p.1,v)::l|false=>p::EB l x v
noncomputable def AJ{C:Type}:I (O×C)->O->AL C
 |[],_=>L|p::l,x=>match B8 p.1 x with|true=>G p.2|false=>AJ l x
noncomputable def putN{C:Type}:I (O×C)->O->C->I (O×C)
 |[],_,_=>[]|p::l,x,v=>match B8 p.1 x with|true=>(p.1,v)::l|false=>p::putN l x v
noncomputable def Gk{C:Type}:I C->O->AL C
 |[],_=>L|a::l,n=>match n with|0=>G a|n+1=>Gk l n
noncomputable def Jy(f:V->V->AL AK):I V->I V->AL AK
 |[],[]=>G M|a::x,b::y=>Az (f a b) λp=>Az (Jy f x y) λq=>G (p&&q)|[],_::_=>G A6|_::_,[]=>G A6
noncomputable def Pu(a b:V):AL AK:=vInt a (vStr a L λx=>vStr b L λy=>G (CY x y)) λx=>vInt b L λy=>G (decide (x=y))
noncomputable def G5(a b:V):AL AK:=vInt a (vStr a (FS a L λc x=>oN c L (FS b L λc' y=>oN c' L (Jy Pu x y))) λx=>vStr b L λy=>G (CY x y)) λx=>vInt b L λy=>G (decide (x=y))
noncomputable def ZT(x y:I V):AL AK:=Jy G5 x y
noncomputable def J5:I AX->I AX->AK
 |a::x,b::y=>if a=b then J5 x y else decide (a<b)|_,_=>A6
noncomputable def jP(v:V):AX:=vInt v 0 λi=>i
noncomputable def SN(v w:V):AL AK:=FS v L λ_ l=>FS w L λ_ m=>G (J5 (l.map jP) (m.map jP))
noncomputable def Cz:I (V×V)->V->AL V
 |[],_=>L|p::l,x=>match G5 p.1 x with|some M=>G p.2|_=>Cz l x
noncomputable def Ej:I (V×V)->V->V->I (V×V)
 |[],x,v=>[(x,v)]|p::l,x,v=>match G5 p.1 x with|some M=>(p.1,v)::l|_=>p::Ej l x v
noncomputable def Hk:I Tx->I Tx
 |[]=>[]|x::l=>match(Hk l).any (CY x)with|true=>Hk l|false=>x::Hk l
noncomputable def ZU:V->I V->AL V
 |x,[]=>G x|x,y::l=>Az (SN x y) λb=>ZU (bC b y x) l
noncomputable def Hl{C:Type}(l:I C)(lo hi:AL AX):I C:=let n:=l.length;let a:=match lo with|some i=>bl0 n i|none=>0;let b:=match hi with|some i=>bl0 n i|none=>n;(l.take b).drop a
noncomputable def Pw{C:Type}(l:I C)(i:AX):AL C:=if i<0 then(if i+l.length<0 then L else Gk l (i+l.length).toNat)else Gk l i.toNat
noncomputable def Jz:Tx->Tx->AK
 |[],_=>M|_::_,[]=>A6|a::x,b::y=>match B8 a b with|true=>Jz x y|false=>A6
noncomputable def Px(n:O):Tx:=match Fy n 10 with|true=>[48+n]|false=>[48+n/10,48+n%10]
noncomputable def Nr(i:AX):AK:=decide (0<=i)&&decide (i<100)
noncomputable def J6(i:AX):Tx:=Px i.toNat
noncomputable def HQ:I V->AL (I Tx)
 |[]=>G []|v::l=>vStr v L λt=>Az (HQ l) λr=>G (t::r)
noncomputable def CG{C:Type}(l:I C):AK:=EN l.length 100000
noncomputable def truthy(v:V)(h:I (O×Ob)):AL AK:=IL v (vBool v (vInt v (vStr v (DL v L λi=>Az (AJ h i) λo=>EW o L λU=>bT (CG U) L (G (!U.isEmpty))) λs=>bT (CG s) L (G (!s.isEmpty))) λi=>G (decide (i≠0))) G) (G A6)
noncomputable def ZV(i:AX):AK:=decide (0<=i)&&decide (i<=1000)
noncomputable def b2i(b:AK):AX:=if b then 1 else 0
noncomputable def jQ(a b:V):AL V:=(vInt a L λa=>(vInt b L λb=>G (.int (a+b))).or (vBool b L λb=>G (.int (a+b2i b)))).or ((vBool a L λa=>(vInt b L λb=>G (.int (b2i a+b))).or (vBool b L λb=>G (.int (b2i a+b2i b)))).or (vStr a L λa=>vStr b L λb=>bT (CG (a++b)) L (G (.str (a++b)))))
noncomputable def ZW(b:AX):AK:=decide (0<b)&&decide (b<=1000000000)
noncomputable def VV(m r:O)(b:AX):AK:=B8 (m%b.toNat) 0&&Fy r m
noncomputable def jR(a b:V):AL V:=vInt b L λb=>bT (ZW b) L ((vInt a L λa=>G (.int (sO a b))).or (SH a L λm r=>bT (VV m r b) L (G (.II (m/b.toNat) (r/b.toNat)))))
noncomputable def jS(a b:V):AL V:=vInt b L λb=>bT (ZW b) L ((vInt a L λa=>G (.int (sP a b))).or (SH a L λm r=>G (match VV m r b with|true=>.int (fF (r%b.toNat))|false=>.No b.toNat)))
noncomputable def jT(a b:V):AL V:=(vBool a L λa=>vBool b L λb=>G (.int (b2i a*b2i b))).or (vStr a L λa=>l1 a L λc=>vInt b L λn=>bT (ZV n) L (G (.str (Xo n.toNat c))))
noncomputable def ZX(a b:V):AL V:=vInt a L λa=>vInt b L λb=>G (.int (a-b))
noncomputable def wE(a b:V):AL V:=(vInt a L λa=>vInt b L λb=>G (.int (a+b))).or (vStr a L λa=>vStr b L λb=>bT (CG (a++b)) L (G (.str (a++b))))
noncomputable def ZY(op:Jc)(a b:V):AL V:=if op=.Add then wE a b else if op=.Sub then ZX a b else L
noncomputable def Dc(N:I (V×V))(k:V):AK:=(vStr k A6 λ_=>l0 N (lC N A6 λp _=>vStr p.1 A6 λ_=>M) M)||(vInt k A6 λ_=>l0 N (lC N A6 λp _=>vInt p.1 A6 λ_=>M) M)
noncomputable def Nt:I V->V->AL AK
 |[],v=>vStr v L λ_=>G A6|y::l,v=>vStr y L λb=>vStr v L λa=>Az (Nt l v) λr=>G (CY b a||r)
noncomputable def jU(a b:V)(h:I (O×Ob)):AL AK:=(vInt a L λx=>vInt b L λy=>G (decide (x=y))).or ((vStr a L λx=>vStr b L λy=>G (CY x y)).or (DL a L λi=>DL b L λj=>Az (AJ h i) λo=>Az (AJ h j) λo'=>EW o L λx=>EW o' L λy=>ZT x y))
noncomputable def wF(a b:V):AL AK:=(vInt a L λx=>vInt b L λy=>G (!decide (x=y))).or (vStr a L λx=>vStr b L λy=>G (!CY x y))
noncomputable def wG(a b:V):AL AK:=(vInt a L λx=>vInt b L λy=>G (decide (x<y))).or (vStr a L λx=>vStr b L λy=>G (EX x y))
noncomputable def VW(f:AX->AX->AK)(a b:V):AL AK:=vInt a L λx=>vInt b L λy=>G (f x y)
noncomputable def ZZ(t:AK)(a b:V):AL AK:=IL b L ((IL a L (G t)).or ((vStr a L λ_=>G !t).or ((DL a L λ_=>G !t).or (vInt a L λ_=>G !t))))
noncomputable def SO(f:AK->AK)(a b:V)(h:I (O×Ob)):AL AK:=DL b L λj=>Az (AJ h j) λo=>(G4 o L λN=>bT (Dc N a) L (G (f (Cz N a).isSome))).or ((M9 o L λN=>bT (Dc N a) L (G (f (Cz N a).isSome))).or (EW o L λU=>Az (Nt U a) λr=>G (f r)))
noncomputable def VX(op:PE)(a b:V)(h:I (O×Ob)):AL AK:=match op with
 |.Eq=>jU a b h|.NotEq=>wF a b|.Lt=>wG a b|.Gt=>VW (λx y=>decide (y<x)) a b|.LtE=>VW (λx y=>decide (x<=y)) a b|.GtE=>VW (λx y=>decide (y<=x)) a b|.Is=>ZZ M a b|.IsNot=>ZZ A6 a b|.In=>SO (λb=>b) a b h|.NotIn=>SO (λb=>!b) a b h
noncomputable def Nu:eh->AL V
 |.none=>G .none|.bool b=>G (.bool b)|.int i=>G (.int i)|.str s=>G (.str s.cps.toList)|_=>L
inductive It where|tup(U:I V)|H4(lo hi:AX)|lst(k:O)|keys(k n:O)|Ko(s:Tx)
noncomputable def J7(i:AX):AK:=decide (-1000000000<=i)&&decide (i<=1000000000)
noncomputable def Py(v:V)(h:I (O×Ob)):AL It:=FS v (w6 v (DL v L λi=>Az (AJ h i) λo=>EW o (G4 o L λN=>G (.keys i N.length)) λ_=>G (.lst i)) λlo hi=>bT (J7 lo&&J7 hi) L (G (.H4 lo hi))) λc U=>oN c L (G (.tup U))
noncomputable def J8(it:It)(i:O)(h:I (O×Ob)):AL (AL V):=match it with
 |.tup U=>G (Gk U i)|.H4 lo hi=>G (if lo+fF i<hi then G (.int (lo+fF i))else L)|.lst k=>Az (AJ h k) λo=>EW o L λU=>G (Gk U i)|.keys k n=>Az (AJ h k) λo=>G4 o L λN=>bT (B8 N.length n) L (G ((Gk N i).map (·.1)))|.Ko s=>G ((Gk s i).map λc=>.tup L [.int (fF i),.str [c]])
noncomputable def St.new(H:St)(o:Ob):V×St:=(.ref H.n,⟨H.env,(H.n,o)::H.h,H.n+1⟩)
noncomputable def St.set(H:St)(i:O)(o:Ob):St:=⟨H.env,putN H.h i o,H.n⟩
noncomputable def SP(F:Fn)(args:I V):I V:=args.take F.ps.length++F.dflt.drop (F.dflt.length-(F.ps.length-args.length))
noncomputable def J9(F:Fn)(args:I V):AL (I (Y×V)):=bT (EN args.length (bC F.va.isSome 1000 F.ps.length)&&B8 F.ps.length (SP F args).length) L (G (F.ps.zip (SP F args)++F.va.toList.map λx=>(x,V.tup L (args.drop F.ps.length))))
noncomputable def DD(e:Tx):I Tx->I Tx
 |[]=>[]|x::l=>match CY x e with|true=>DD e l|false=>x::l
noncomputable def D3:O->I Tx->I Tx->I Tx×I Tx
 |0,U,ys=>(U,ys)|_+1,[],ys=>([],ys)|_+1,U,[]=>(U,[])|n+1,e::U,a::ys=>match EX e a with
 |true=>let r:=D3 n (DD e U) (a::ys);(e::r.1,r.2)|false=>match EX a e with
 |true=>let r:=D3 n (e::U) (DD a ys);(r.1,a::r.2)|false=>D3 n (DD e U) (DD a ys)
inductive A1 where|ok(r:AV)(H:St)|bad
inductive MK where|str|lst|Ex|fn(a:A9)|tup
inductive Cd where|e(x:AB)|N(l:I AB)|t(x:AB)|ts(and:AK)(l:I AB)|s(x:Ar)|ss(l:I Ar)|asg(t:AB)(v:V)|Kp(ts:I AB)(vs:I V)|G6(ts:I AB)(v:V)|loop(t:AB)(it:It)(i:O)(body:I Ar)|Kq(Z_:AB)(body:I Ar)|call(f:V)(args:I V)|H5(kd:MK)(o:V)(m:Y)(args:I V)|G7(CZ:AB)(g:FO)(gens:I FO)(it:It)(i:O)(Am:I V)|Pz(k v:AB)(g:FO)(it:It)(i:O)(d:O)|pairs(ks:I (AL AB))(vs:I AB)(Am:I (V×V))
structure Ctx where
 glob:I (Y×V)fn:A9->AL Fn
 Bn:A9
 SQ:A9
 jV:A9
 Dj:A9
 Q0:A9
 Gm:A9
 VY:AK
 H5:I (Y×A9)CQ:Kx->Cd->St->AL A1
noncomputable def A1.V(o:A1)(k:Mine.V->St->A1):A1:=match o with|.ok (.v v) H=>k v H|_=>.bad
noncomputable def A1.A0(o:A1)(k:I Mine.V->St->A1):A1:=match o with|.ok (.vs v) H=>k v H|_=>.bad
noncomputable def A1.B(o:A1)(k:AK->St->A1):A1:=match o with|.ok (.b v) H=>k v H|_=>.bad
noncomputable def A1.F(o:A1)(k:Fl->St->A1):A1:=match o with|.ok (.f v) H=>k v H|_=>.bad
noncomputable def A1.of{C:Type}(o:AL C)(k:C->A1):A1:=match o with|some a=>k a|none=>.bad
noncomputable def A1.lst(h:I (O×Ob))(v:Mine.V)(k:O->I Mine.V->A1):A1:=DL v .bad λi=>match AJ h i with|none=>.bad|some o=>match o with|.list U=>k i U|_=>.bad
noncomputable def A1.Ex(h:I (O×Ob))(v:Mine.V)(k:O->I (Mine.V×Mine.V)->A1):A1:=DL v .bad λi=>match AJ h i with|none=>.bad|some o=>match o with|.dict N=>k i N|_=>.bad
noncomputable def Dk:O:=1000000
noncomputable def jW(v:Mine.V):AL (I Tx):=FS v L λo vs=>oN o L (HQ vs)
noncomputable def VZ(v:Mine.V):AL Sg:=vStr v (Az (jW v) λl=>G (.it l)) λt=>G (.tx t)
noncomputable def Q1:I Mine.V->AL (I Sg)
 |[]=>G []|v::l=>Az (VZ v) λt=>Az (Q1 l) λr=>G (t::r)
noncomputable def FT(o:Ob):AL (O×I Sg):=EW o (Pt o L λr U=>G (r,U)) λU=>bT (CG U) L (Az (Q1 U) λl=>G (Dk-U.length,l))
noncomputable def A1.iff(b:AK)(o:A1):A1:=match b with|true=>o|false=>.bad
noncomputable def Nv(x:AB)(n:DJ):AK:=DS x A6 λid _=>D7 id (Er n)
noncomputable def SR(x:AB):AL AB:=E9 x L λf a k _=>l1 a L λx=>l0 k L (bT (Nv f "enumerate") L (G x))
noncomputable def Q2:Y:=⟨⟨[115,111,114,116,101,100]⟩⟩
noncomputable def Za:Y:=⟨⟨[115,101,116]⟩⟩
noncomputable def Zc:Y:=⟨⟨[108,105,115,116]⟩⟩
noncomputable def Zd:Y:=⟨⟨[109,97,112]⟩⟩
noncomputable def SS:Y:=⟨⟨[77,97,116,99,104]⟩⟩
noncomputable def Ze(f:AB)(a:I AB):AL AB:=l1 a L λc=>E9 c L λg a k _=>l1 a L λx=>l0 k L (bT (Nv f "sorted"&&Nv g "set") L (G x))
noncomputable def Zf(f:AB)(a:I AB):AL AB:=l1 a L λc=>E9 c L λg a k _=>lC a L λm a=>l1 a L λx=>H2 m L λo a _=>l0 k L (bT (Nv f "list"&&(Nv g "map"&&(Nv o "Match"&&D7 a (Er "_make")))) L (G x))
noncomputable def SU(sc:BS)(x:Y):AL E1:=Ai sc.names x
noncomputable def isIn(l:I E1)(o:AL E1):AK:=o.any l.contains
noncomputable def G8(sc:BS)(x:Y):AK:=isIn [.local,.cell] (SU sc x)
noncomputable def D'(sc:BS)(x:Y):AK:=isIn [.local,.cell,.free] (SU sc x)
noncomputable def Dl(sc:BS)(x:Y):AK:=isIn [.globalImplicit] (SU sc x)
noncomputable def Q3(sc:BS):AK:=sc.names.all λp=>!D7 p.1 (Er "__debug__")&&!D7 p.1 (Er "__classdict__")
noncomputable def Zg(sc:BS)(x:Y):AK:=isIn [.cell,.free] (SU sc x)
noncomputable def SV{C:Type}:I (Y×C)->AK
 |[]=>M|p::l=>match Ai l p.1 with|none=>SV l|some _=>A6
noncomputable def Kr(sc IN:BS)(env:I (Y×Mine.V)):AK:=(match IN.kind with|.function=>M|_=>A6)&&Q3 IN&&SV IN.names&&IN.names.all λx=>match x.2 with
 |.local=>(match Ai env x.1 with|none=>M|some _=>A6)|.free=>Zg sc x.1|.globalImplicit=>M|_=>A6
noncomputable def V_(o:AB):AK:=E9 o M λ_ args _ _=>!args.isEmpty
noncomputable def CP(e:AB):AK:=!(B8 e.ctorIdx 22||B8 e.ctorIdx 7)
noncomputable def MA(g:FO):AK:=CP g.iter&&match g.is_async with|.ofNat 0=>M|_=>A6
noncomputable def wH:I FO->AK
 |[]=>M|g::_=>MA g
noncomputable def Zh(ih:Cd->St->A1)(l:I AB)(H:St):A1:=match l with
 |[]=>.ok (.b M) H|[c]=>ih (.t c) H|_=>.bad
section
variable(A3:Ctx)
noncomputable def Gn(v:AL V)(H:St):A1:=A1.of v λv=>.ok (.v v) H
noncomputable def Zi(v:AL AK)(H:St):A1:=A1.of v λv=>.ok (.b v) H
noncomputable def FU(p:V×St):A1:=.ok (.v p.1) p.2
noncomputable def Q4(x:Tx):I Tx->I Tx
 |[]=>[x]|y::l=>match EX x y with|true=>x::y::l|false=>y::Q4 x l
noncomputable def EY:I Tx->I Tx
 |[]=>[]|x::l=>Q4 x (EY l)
noncomputable def Nw(U:I V)(H:St):A1:=A1.of (HQ U) λl=>A1.iff (Fy l.length 60) (FU (H.new (.list ((EY l).map .str))))
noncomputable def Ny(v:V):AK:=FS v A6 λo l=>oN o A6 (lC l A6 λa l=>lC l A6 λb l=>l1 l A6 λc=>vInt a A6 λ_=>vInt b A6 λ_=>vInt c A6 λ_=>M)
noncomputable def JA(v:V):AK:=FS v A6 λo l=>oS o A6 λ_=>lC l A6 λa l=>lC l A6 λb l=>l1 l A6 λc=>vInt a A6 λ_=>vInt b A6 λ_=>vInt c A6 λ_=>M
noncomputable def jX(v:V)(H:St):A1:=bC (JA v) (.ok (.v (.int 3)) H) (vStr v (A1.lst H.h v λ_ U=>A1.iff (CG U) (.ok (.v (.int U.length)) H)) λs=>A1.iff (CG s) (.ok (.v (.int s.length)) H))
noncomputable def jY(v:V)(H:St):A1:=A1.lst H.h v λ_ U=>lC U .bad λx U=>A1.iff (Ny x&&U.all Ny&&CG U) (Gn (ZU x U) H)
noncomputable def jZ(i:O)(H:St):A1:=A1.of (AJ H.h i) λo=>EW o (G4 o (M9 o .bad λN=>Nw (N.map (·.1)) H) λN=>Nw (N.map (·.1)) H) λU=>Nw U H
noncomputable def Va(v:V):AK:=B8 v.ctorIdx 3||B8 v.ctorIdx 9
noncomputable def j_(v:V)(t:DJ)(H:St):A1:=A1.iff (t=="str"||t=="bytes") (DL v (A1.iff (Va v) (.ok (.v (.bool (t=="str"))) H)) λi=>A1.of (AJ H.h i) λo=>A1.iff (G4 o (M9 o A6 λ_=>M) (λ_=>M)&&t=="str") (.ok (.v (.bool A6)) H))
noncomputable def Zj(id:DJ)(args:I V)(H:St):A1:=if id="len"then l1 args .bad λv=>jX v H else if id="min"then lC args .bad λa l=>l1 l .bad λb=>vInt a .bad λa=>vInt b .bad λb=>.ok (.v (.int (if b<a then b else a))) H else if id="max"then l1 args .bad λv=>jY v H else if id="sorted"then l1 args .bad λv=>DL v .bad λi=>jZ i H else if id="isinstance"then lC args .bad λv l=>l1 l .bad λt=>IK t .bad λt=>Km t .bad λt=>j_ v t H else if id="issubclass"then lC args .bad λt l=>l1 l .bad λp=>IK t .bad λt=>Km t .bad λt=>FS p .bad λo l=>oN o .bad (lC l .bad λa l=>l1 l .bad λb=>IK a .bad λa=>Km a .bad λa=>IK b .bad λb=>Km b .bad λb=>bT (decide (t="str")&&(decide (a="str")&&decide (b="bytes"))) .bad (.ok (.v (.bool M)) H))else .bad
noncomputable def Zk(t:DJ)(args:I V)(H:St):A1:=if t="type"then l1 args .bad λv=>vStr v .bad λ_=>.ok (.v (.top (.type "str"))) H else if t="range"then Ya args .bad (λn=>vInt n .bad λn=>.ok (.v (.H4 0 n)) H) λa b=>vInt a .bad λa=>vInt b .bad λb=>.ok (.v (.H4 a b)) H else if t="set"then l0 args .bad (FU (H.new .HP))else if t="str"then l1 args .bad λv=>vInt v .bad λi=>A1.iff (Nr i) (.ok (.v (.str (J6 i))) H)else .bad
inductive SK where|sw|ew|split|rfind|rstrip|fmt|join
inductive LK where|append|pop|sort
inductive DK where|SX|get
noncomputable def Vb:I (Y×SK):=[(⟨⟨[115,116,97,114,116,115,119,105,116,104]⟩⟩,.sw),(⟨⟨[101,110,100,115,119,105,116,104]⟩⟩,.ew),(⟨⟨[115,112,108,105,116]⟩⟩,.split),(⟨⟨[114,102,105,110,100]⟩⟩,.rfind),(⟨⟨[114,115,116,114,105,112]⟩⟩,.rstrip),(⟨⟨[102,111,114,109,97,116]⟩⟩,.fmt),(⟨⟨[106,111,105,110]⟩⟩,.join)]
noncomputable def SY(m:Y):AL SK:=Ai Vb m
noncomputable def Vc:I (Y×LK):=[(⟨⟨[97,112,112,101,110,100]⟩⟩,.append),(⟨⟨[112,111,112]⟩⟩,.pop),(⟨⟨[115,111,114,116]⟩⟩,.sort)]
noncomputable def Vd(m:Y):AL LK:=Ai Vc m
noncomputable def Ve:I (Y×DK):=[(⟨⟨[115,101,116,100,101,102,97,117,108,116]⟩⟩,.SX),(⟨⟨[103,101,116]⟩⟩,.get)]
noncomputable def Vf(m:Y):AL DK:=Ai Ve m
noncomputable def ja(s:Tx)(k:SK)(args:I V)(H:St):A1:=A1.iff (CG s)<|match k with
 |.sw=>l1 args .bad λp=>vStr p .bad λp=>.ok (.v (.bool (Jz p s))) H|.ew=>l1 args .bad λp=>vStr p .bad λp=>.ok (.v (.bool (Txt.endswith ⟨⟨s⟩⟩ ⟨⟨p⟩⟩))) H|.split=>l1 args .bad λp=>vStr p .bad λp=>l1 p .bad λc=>FU (H.new (.list ((Xp ⟨⟨s⟩⟩ ⟨⟨[c]⟩⟩).map λx=>.str x.cps.toList)))|.rfind=>l1 args .bad λp=>vStr p .bad λp=>.ok (.v (.int (Txt.rfind ⟨⟨s⟩⟩ ⟨⟨p⟩⟩))) H|.rstrip=>l1 args .bad λp=>vStr p .bad λp=>.ok (.v (.str (Txt.rstripChars ⟨⟨s⟩⟩ ⟨⟨p⟩⟩).cps.toList)) H|.fmt=>Ya args .bad (λv=>vInt v .bad λi=>A1.iff (CY s [123,125]&&Nr i) (.ok (.v (.str (J6 i))) H)) λv w=>vInt v .bad λi=>vInt w .bad λj=>A1.iff (CY s [123,125,44,123,125]&&(Nr i&&Nr j)) (.ok (.v (.str (J6 i++44::J6 j))) H)|.join=>l1 args .bad λv=>A1.lst H.h v λ_ U=>A1.of (HQ U) λl=>A1.iff (PySem.JoinOk ⟨⟨s⟩⟩ (l.map λx=>⟨⟨x⟩⟩)) (.ok (.v (.str (Txt.join ⟨⟨s⟩⟩ (l.map λx=>⟨⟨x⟩⟩)).cps.toList)) H)
noncomputable def Zl{J:Type}(lt:O->O->AL AK)(t:KasT J):AL J:=KasT.rec (motive:=λ_=>AL J) G (λi j _ ih=>(lt i j).bind ih) t
noncomputable def jb(U:I V)(i j:O):AL AK:=bT (JA (U.getD i .none)&&JA (U.getD j .none)) L (SN (U.getD i .none) (U.getD j .none))
noncomputable def Zm(U:I V):AL (I V):=bT (Fy U.length 64) L (bC (Fy U.length 2) (G U) (Az (Zl (jb U) (kas_sort U.length)) λp=>bT (Fy p.size 64) L (G (p.toList.map λi=>U.getD i .none))))
noncomputable def wI(i:O)(U:I V)(m:LK)(args:I V)(H:St):A1:=match m with
 |.append=>l1 args .bad λv=>A1.iff (CG U) (.ok (.v .none) (H.set i (.list (U++[v]))))|.pop=>l0 args .bad (A1.iff (CG U) (A1.of U.getLast? λx=>.ok (.v x) (H.set i (.list U.dropLast))))|.sort=>l0 args .bad (A1.iff (U.all JA) (A1.of (Zm U) λl=>.ok (.v .none) (H.set i (.list l))))
noncomputable def Nz(i:O)(N:I (V×V))(m:DK)(args:I V)(H:St):A1:=l2 args .bad λk d=>match m with
 |.SX=>A1.iff (Dc N k&&CG N) (match Cz N k with
 |some v=>.ok (.v v) H|none=>.ok (.v d) (H.set i (.dict (Ej N k d))))|.get=>A1.iff (Dc N k) (.ok (.v ((Cz N k).getD d)) H)
noncomputable def wJ:V->AK|.str s=>IH.any (CY s)|_=>A6
noncomputable def wK(U:I V)(k:V)(H:St):A1:=vInt k (VT k .bad λn=>A1.iff (B8 n U.length&&(EN n 1000&&U.all wJ)) (.ok (.v .any) H)) λk=>A1.iff (J7 k&&CG U) (Gn (Pw U k) H)
noncomputable def jc(a:O)(k:V)(H:St):A1:=A1.of (AJ H.h a) λo=>EW o (G4 o (M9 o .bad λN=>A1.iff (Dc N k) (Gn (Cz N k) H)) λN=>A1.iff (Dc N k) (Gn (Cz N k) H)) λU=>wK U k H
noncomputable def Zn(o i:V)(H:St):A1:=vStr o (FS o (DL o .bad λa=>jc a i H) λc U=>oN c .bad (vInt i .bad λk=>A1.iff (J7 k&&CG U) (Gn (Pw U k) H))) λs=>vInt i .bad λk=>A1.iff (J7 k&&CG s) (Gn ((Pw s k).map λc=>.str [c]) H)
noncomputable def S_(v:V):AL (AL AX):=IL v (vInt v L λi=>bT (J7 i) L (G (G i))) (G L)
noncomputable def Zo(o lo hi:V)(H:St):A1:=A1.of (S_ lo) λa=>A1.of (S_ hi) λb=>vStr o (A1.lst H.h o λ_ U=>A1.iff (CG U) (FU (H.new (.list (Hl U a b))))) λs=>A1.iff (CG s) (.ok (.v (.str (Hl s a b))) H)
noncomputable def jd:V->AK|.top _=>A6|_=>M
noncomputable def Zp:I Y:=[⟨⟨[105,115,106,117,110,107]⟩⟩,⟨⟨[97]⟩⟩,⟨⟨[98]⟩⟩,⟨⟨[97,117,116,111,106,117,110,107]⟩⟩,⟨⟨[109,97,116,99,104,105,110,103,95,98,108,111,99,107,115]⟩⟩,⟨⟨[111,112,99,111,100,101,115]⟩⟩,⟨⟨[102,117,108,108,98,99,111,117,110,116]⟩⟩,⟨⟨[98,50,106]⟩⟩,⟨⟨[98,106,117,110,107]⟩⟩,⟨⟨[98,112,111,112,117,108,97,114]⟩⟩]
noncomputable def Sa(a:Y):AK:=Zp.any (D7 a)
noncomputable def je(o:V)(a:Y)(H:St):A1:=DL o .bad λi=>A1.of (AJ H.h i) λob=>Pr ob (Pq ob (G4 ob .bad λ_=>A1.iff (D7 a (Er "get")) (.ok (.v (.Az 1 i)) H)) (A1.iff (D7 a (Er "__contains__")) (.ok (.v (.Az 0 i)) H))) λc d=>A1.iff (B8 c A3.Dj&&Sa a) (A1.of (AJ H.h d) λo=>Ps o .bad λN=>A1.of (Ai N a) λv=>A1.iff (jd v) (.ok (.v v) H))
noncomputable def Sb(i j:O)(H:St):A1:=A1.of (AJ H.h i) λo=>A1.of (AJ H.h j) λo'=>let rr:=A1.of (FT o) λx=>A1.of (FT o') λy=>A1.iff (EN Dk (x.1+y.1)) (FU (H.new (.rows (x.1+y.1-Dk) (x.2++y.2))));EW o rr λx=>EW o' rr λy=>A1.iff (CG (x++y)) (FU (H.new (.list (x++y))))
noncomputable def Vg(op:Jc)(a b:V)(H:St):A1:=if op=.Add then DL a (Gn (jQ a b) H) λi=>DL b .bad λj=>Sb i j H else if op=.Sub then Gn (ZX a b) H else if op=.FloorDiv then Gn (jR a b) H else if op=.Mod then Gn (jS a b) H else if op=.Mult then Gn (jT a b) H else .bad
noncomputable def wL(m:Y):AK:=(SY m).isSome
noncomputable def jf(m:Y):AK:=(Vd m).isSome
noncomputable def wM(m:Y):AK:=(Vf m).isSome
noncomputable def wN(o:Ob)(m:Y)(h:I (O×Ob)):AL MK:=EW o (Pt o (G4 o (Pr o L λc d=>bT (B8 c A3.Dj) L (Az (AJ h d) λo=>Ps o L λN=>oN (Ai N m) L (Az (Ai A3.H5 m) λa=>G (.fn a)))) λ_=>bT (wM m) L (G .Ex)) λ_ _=>bT (jf m) L (G .lst)) λ_=>bT (jf m) L (G .lst)
noncomputable def Q5(v:V)(m:Y)(h:I (O×Ob)):AL MK:=vStr v (IK v (DL v L λi=>Az (AJ h i) λo=>wN A3 o m h) λw=>Km w L λt=>bT (decide (t="tuple")&&D7 m (Er "__new__")) L (G .tup)) λ_=>bT (wL m) L (G .str)
noncomputable def MB:I (AL AB)->I AB->AL (I (V×V))
 |[],vs=>l0 vs L (G [])|k::ks,vs=>oS k L λx=>HN x L λc _ _=>lC vs L λy vs=>HN y L λc' _ _=>Az (Nu c) λk=>Az (Nu c') λv=>Az (MB ks vs) λl=>G ((k,v)::l)
noncomputable def Sd(N:I (V×V)):AK:=N.all λp=>match p.1 with|.str _=>M|_=>A6
noncomputable def Ks:I (V×V)->I (V×V)->AL (I (V×V))
 |[],Am=>G Am|p::l,Am=>match Dc Am p.1&&CG Am with|true=>Ks l (Ej Am p.1 p.2)|false=>L
noncomputable def Sf(l:AB)(op:Jc)(r:AB):AL (Tx×Y×Tx×Tx):=HN l L λc _ _=>Pd c L λc=>E9 r L λf a k pos=>H2 f L λo m Fh=>DS o L λid _=>lC a L λy a=>l1 a L λz=>HN y L λy _ _=>Pd y L λy=>HN z L λz _ _=>Pd z L λz=>l0 k L (bT (decide (op=.Add)&&(D7 m (⟨⟨[114,101,112,108,97,99,101]⟩⟩:Y)&&B8 Fh.endLine pos.line)) L (G (c.cps.toList,id,y.cps.toList,z.cps.toList)))
noncomputable def Vh(N Am:I (V×V)):AL (I (V×V)):=match Sd N&&Sd Am with|true=>Ks N Am|false=>L
noncomputable def JB(K:Kx)(Dg:Kx->Cd->St->A1)(F:Fn)(args:I V)(H:St):A1:=A1.of (J9 F args) λb=>match K.d with
 |0=>.bad|d+1=>(Dg ⟨F.sc,d⟩ (.ss F.body) ⟨b,H.h,H.n⟩).F λf A7=>match f with
 |.ret v=>.ok (.v v) ⟨H.env,A7.h,A7.n⟩|.next=>.ok (.v .none) ⟨H.env,A7.h,A7.n⟩|_=>.bad
noncomputable def Vi(K:Kx)(Dg:Kx->Cd->St->A1)(i:O):O->O->I V->St->A1
 |0,_,_,_=>.bad|m+1,k,Am,H=>A1.of (J8 (.lst i) k H.h) λr=>match r with
 |none=>.ok (.vs Am) H|some x=>(A1.of (A3.fn A3.jV) λfn=>JB K Dg fn [.top (.ref A3.Bn),x] H).V λv H=>Vi K Dg i m (k+1) (Am++[v]) H
noncomputable def wO(ks:I (AL AB))(vs:I AB):AL (AB×AB×AB):=l2 ks L λa b=>oN a L (oS b L λk=>l2 vs L λv0 v=>G (v0,k,v))
noncomputable def wP(Dg:Kx->Cd->St->A1)(K:Kx)(v0 k v:AB)(H:St):A1:=let ih:=Dg K;(ih (.e v0) (H.new (.dict [])).2).V λw AA=>A1.Ex AA.h w λwi N=>A1.iff (!B8 wi H.n)<|A1.Ex AA.h (.ref H.n) λ_ Am=>A1.of (Vh N Am) λAm=>(ih (.e k) ((AA.set H.n (.dict Am)).new (.dict [])).2).V λkv Bc=>(ih (.e v) Bc).V λvv Bc=>A1.Ex Bc.h (.ref AA.n) λ_ sub=>A1.iff (Dc sub kv&&CG sub)<|A1.Ex Bc.h (.ref H.n) λ_ Am=>A1.of (Vh (Ej sub kv vv) Am) λAm=>.ok (.v (.ref H.n)) ((Bc.set AA.n (.dict (Ej sub kv vv))).set H.n (.dict Am))
noncomputable def Ey(K:Kx)(Dg:Kx->Cd->St->A1)(x:AB)(H:St):A1:=let ih:=Dg K;match x with
 |.Constant k _ _=>Gn (Nu k) H|.Name id _=>if D' K.sc id then Gn (Ai H.env id) H else if Dl K.sc id then Gn (Ai A3.glob id) H else .bad|.BinOp l op r _=>oS (Sf l op r) ((ih (.e l) H).V λa H=>(ih (.e r) H).V λb H=>Vg op a b H) λp=>A1.iff (D' K.sc p.2.1&&CG p.1) (A1.of (Ai H.env p.2.1) λv=>vStr v .bad λs=>A1.iff (CG s&&!CY p.2.2.1 p.2.2.2&&EN p.2.2.2.length 100&&CG (p.1++(bl1 ⟨⟨s⟩⟩ ⟨⟨p.2.2.1⟩⟩ ⟨⟨p.2.2.2⟩⟩).cps.toList)) (.ok (.v (.str (p.1++(bl1 ⟨⟨s⟩⟩ ⟨⟨p.2.2.1⟩⟩ ⟨⟨p.2.2.2⟩⟩).cps.toList))) H))|.UnaryOp op x _=>match op with
  |.USub=>(ih (.e x) H).V λv H=>vInt v .bad λi=>.ok (.v (.int (-i))) H|.Not=>(ih (.e x) H).V λv H=>A1.of (truthy v H.h) λb=>.ok (.v (.bool !b)) H|_=>.bad
 |.IfExp t a b _=>(ih (.t t) H).B λc H=>match c with|true=>ih (.e a) H|false=>ih (.e b) H
 |.Tuple U _ _=>(ih (.N U) H).A0 λvs H=>A1.iff (CG vs) (.ok (.v (.tup L vs)) H)|.List U _=>(ih (.N U) H).A0 λvs H=>A1.iff (CG vs) (FU (H.new (.list vs)))|.Dict ks vs _=>bC (ks.isEmpty&&vs.isEmpty) (FU (H.new (.dict [])))<|oS (wO ks vs) (A1.of (MB ks vs) λps=>A1.iff (EN ps.length 15) (A1.of (Ks ps []) λN=>FU (H.new (.dict N)))) λp=>wP Dg K p.1 p.2.1 p.2.2 H|.BoolOp op U _=>bT (decide (op=.Or)) .bad (l2 U .bad λa b=>(ih (.e a) H).V λv H=>A1.of (truthy v H.h) λt=>match t with|true=>.ok (.v v) H|false=>ih (.e b) H)|.Compare l [op] [r] _=>A1.iff (!sQ op r)<|(ih (.e l) H).V λa H=>(ih (.e r) H).V λb H=>A1.of (VX op a b H.h) λb=>.ok (.v (.bool b)) H|.Attribute o a _=>A1.iff (V_ o) ((ih (.e o) H).V λv H=>je A3 v a H)|.Subscript o i _=>(ih (.e o) H).V λv H=>Nb i ((ih (.e i) H).V λk H=>Zn v k H) λlo hi st _=>oN st .bad<|(oS lo (A1.ok (.v .none) H) λx=>ih (.e x) H).V λa H=>(oS hi (A1.ok (.v .none) H) λx=>ih (.e x) H).V λb H=>Zo v a b H|.Call f args [] pos=>A1.iff (args.all CP)<|H2 f (oS (Ze f args) (oS (Zf f args) ((ih (.e f) H).V λfv H=>(ih (.N args) H).A0 λvs H=>ih (.call fv vs) H) λx=>A1.iff (Dl K.sc Zc&&Dl K.sc Zd&&Dl K.sc SS&&CP x)<|(ih (.e x) H).V λv H=>A1.lst H.h v λi U=>A1.iff (CG U)<|match K.d with
 |d+1=>(Vi A3 ⟨K.sc,d⟩ Dg i 60 0 [] H).A0 λl H=>FU (H.new (.list l))|0=>.bad) λx=>A1.iff (Dl K.sc Q2&&Dl K.sc Za&&CP x)<|(ih (.e x) H).V λv H=>A1.lst H.h v λ_ U=>A1.of (HQ U) λl=>A1.iff (Fy l.length 60) (FU (H.new (.list ((EY (Hk l)).map .str))))) λo m Fh=>A1.iff (V_ o&&B8 Fh.endLine pos.line&&Fy args.length 30) ((ih (.e o) H).V λv H=>A1.of (Q5 A3 v m H.h) λkd=>(ih (.N args) H).A0 λvs H=>ih (.H5 kd v m vs) H)|.ListComp CZ (g::gens) IN _=>A1.iff (MA g) ((ih (.e g.iter) H).V λit H=>A1.iff (Kr K.sc IN H.env) (A1.of (Py it H.h) λit=>(Dg ⟨IN,K.d⟩ (.G7 CZ g gens it 0 []) H).A0 λl A7=>FU (St.new ⟨H.env,A7.h,A7.n⟩ (.list l))))|.DictComp k v [g] IN _=>A1.iff (MA g) ((ih (.e g.iter) H).V λit H=>A1.iff (Kr K.sc IN H.env) (A1.of (Py it H.h) λit=>(Dg ⟨IN,K.d⟩ (.Pz k v g it 0 H.n) (H.new (.dict [])).2).F λ_ A7=>.ok (.v (.ref H.n)) ⟨H.env,A7.h,A7.n⟩))|_=>.bad
noncomputable def stepT(K:Kx)(Dg:Kx->Cd->St->A1)(a:A9)(args:I V)(H:St):A1:=bC (B8 a A3.Dj) (nS K.d .bad λd=>(A1.of (A3.fn A3.Q0) λfn=>JB ⟨K.sc,d⟩ Dg fn (.ref (H.n+1)::args) ⟨H.env,(H.n+1,.inst a H.n)::(H.n,.EV [])::H.h,H.n+2⟩).V λr A7=>IL r .bad (.ok (.v (.ref (H.n+1))) A7))<|bC (B8 a A3.Gm&&A3.VY) (l2 args .bad λx y=>A1.lst H.h x λi U=>A1.lst H.h y λj ys=>A1.iff (!B8 i j&&CG U&&CG ys&&Fy 0 K.d)<|A1.of (HQ U) λU=>A1.of (HQ ys) λys=>.ok (.v (.tup L [.ref H.n,.ref (H.n+1)])) ((H.new (.list ((D3 (U.length+ys.length) U ys).1.map V.str))).2.new (.list ((D3 (U.length+ys.length) U ys).2.map V.str))).2)<|bC (B8 a A3.Bn) (nS K.d .bad λd=>(A1.of (A3.fn A3.SQ) λF=>JB ⟨K.sc,d⟩ Dg F (.top (.ref A3.Bn)::args) H).V λr A7=>FS r .bad λo U=>oS o .bad λc=>lC args .bad λ_ l=>l2 l .bad λ_ _=>A1.iff (B8 c A3.Bn) (.ok (.v (.tup (G c) U)) A7))<|A1.of (A3.fn a) λF=>JB K Dg F args H
noncomputable def jg(K:Kx)(Dg:Kx->Cd->St->A1)(f:V)(args:I V)(H:St):A1:=IK f (VU f .bad λk i=>if k=0 then l1 args .bad λv=>vStr v .bad λ_=>A1.of (AJ H.h i) λo=>Pq o .bad (.ok (.v (.bool A6)) H)else if k=1 then A1.Ex H.h (.ref i) λi N=>Nz i N .get args H else .bad) λw=>ZR w (Km w (Kn w .bad λa=>stepT A3 K Dg a args H) λt=>Zk t args H) λid=>Zj id args H
noncomputable def jh(K:Kx)(Dg:Kx->Cd->St->A1)(kd:MK)(o:V)(m:Y)(args:I V)(H:St):A1:=match kd with
 |.str=>vStr o .bad λs=>A1.of (SY m) λk=>ja s k args H|.lst=>DL o .bad λi=>A1.of (AJ H.h i) λob=>A1.of (Vd m) λk=>EW ob (Pt ob .bad λr U=>match k with
 |.append=>l1 args .bad λv=>nS r .bad λr=>A1.of (VZ v) λl=>.ok (.v .none) (H.set i (.rows r (U++[l])))|.pop=>.bad|.sort=>.bad) λU=>wI i U k args H|.Ex=>DL o .bad λi=>A1.of (Vf m) λk=>A1.Ex H.h (.ref i) λi N=>Nz i N k args H|.fn a=>Dg K (.call (.top (.ref a)) (o::args)) H|.tup=>l2 args .bad λa b=>IK a .bad λw=>Kn w .bad λc=>FS b .bad λo U=>oN o .bad (A1.iff (B8 c A3.Bn&&CG U) (.ok (.v (.tup (G c) U)) H))
noncomputable def Kt(K:Kx)(Dg:Kx->Cd->St->A1)(t:AB)(v:V)(H:St):A1:=let ih:=Dg K;DS t (Jr t (H2 t (J' t .bad λo i _=>(ih (.e o) H).V λw H=>(ih (.e i) H).V λk H=>DL w .bad λa=>A1.of (AJ H.h a) λob=>EW ob (G4 ob .bad λN=>A1.iff (Dc N k&&CG N) (.ok (.f .next) (H.set a (.dict (Ej N k v))))) λU=>vInt k .bad λk=>A1.iff (J7 k&&decide (0<=k)&&decide (k<U.length)) (.ok (.f .next) (H.set a (.list (U.set k.toNat v))))) λo a _=>(ih (.e o) H).V λw H=>DL w .bad λi=>A1.of (AJ H.h i) λob=>Pr ob .bad λc d=>A1.iff (B8 c A3.Dj&&Sa a) (A1.of (AJ H.h d) λo=>Ps o .bad λN=>A1.iff (CG N) (.ok (.f .next) (H.set d (.EV (EB N a v)))))) λts _ _=>FS v .bad λ_ vs=>A1.iff (B8 vs.length ts.length&&ts.all CP) (ih (.Kp ts vs) H)) λid _=>A1.iff (G8 K.sc id) (.ok (.f .next) ⟨EB H.env id v,H.h,H.n⟩)
noncomputable def JC(e:AB):AK:=B8 e.ctorIdx 8||(B8 e.ctorIdx 9||B8 e.ctorIdx 10)
noncomputable def MC(ts:I AB)(e:AB):AK:=l1 ts A6 λt=>Jr e A6 λ_ _ _=>B8 t.ctorIdx 25||B8 t.ctorIdx 24
noncomputable def wQ(ts:I AB)(e:AB):AK:=l1 ts A6 λt=>DS t A6 λ_ _=>IE e A6 λ_ _ _ _=>M
noncomputable def MD:O->AB->AK
 |_,.Call ..=>M|_,.Attribute ..=>M|_,.Name id _=>!D7 id ⟨⟨[95,95,100,101,98,117,103,95,95]⟩⟩|n+1,.BinOp l _ r _=>MD n l||MD n r|n+1,.UnaryOp _ e _=>MD n e|n+1,.Subscript v _ _=>MD n v|_,_=>A6
noncomputable def Sh:I AB->AL (I Y)
 |[]=>G []|t::l=>DS t L λid _=>Az (Sh l) λl=>G (id::l)
noncomputable def Q6:I Y->AK
 |[]=>M|x::l=>!l.any (D7 x)&&Q6 l
noncomputable def putAll:I (Y×V)->I Y->I V->I (Y×V)
 |env,x::U,v::vs=>putAll (EB env x v) U vs|env,_,_=>env
noncomputable def Vj(ts:I AB)(e:AB):AL (I Y):=l1 ts L λt=>Jr t L λts _ _=>Jr e L λvs _ _=>bT (vs.any (MD 4)) L (Sh ts)
noncomputable def A1.nx(o:A1):A1:=o.F λ_ H=>.ok (.f .next) H
noncomputable def Hm(K:Kx)(Dg:Kx->Cd->St->A1)(x:Ar)(H:St):A1:=let ih:=Dg K;match x with
 |.Expr e _=>A1.iff (!JC e)<|(ih (.e e) H).V λ_ H=>.ok (.f .next) H|.Pass _=>.ok (.f .next) H|.Break _=>.ok (.f .brk) H|.Continue _=>.ok (.f .cont) H|.Return (G e) _=>(ih (.e e) H).V λv H=>.ok (.f (.ret v)) H|.Return L _=>.ok (.f (.ret .none)) H|.Assign ts e _=>bC (MC ts e) (A1.of (Vj ts e) λBe=>(ih (.e e) H).V λv H=>FS v .bad λo vs=>oN o .bad (A1.iff (B8 Be.length vs.length&&Be.all (G8 K.sc)&&Q6 Be) (.ok (.f .next) ⟨putAll H.env Be vs,H.h,H.n⟩))) (A1.iff (!JC e||wQ ts e) ((ih (.e e) H).V λv H=>(ih (.G6 ts v) H).nx))|.AugAssign (.Name id p) op e _=>A1.iff (D' K.sc id)<|A1.of (Ai H.env id) λa=>(ih (.e e) H).V λb H=>A1.of (ZY op a b) λv=>(ih (.asg (.Name id p) v) H).nx|.If t a b _=>(ih (.t t) H).B λc H=>match c with|true=>ih (.ss a) H|false=>ih (.ss b) H
 |.While t b [] _=>ih (.Kq t b) H|.For t it b [] _=>oS (SR it) (A1.iff (CP it) ((ih (.e it) H).V λv H=>A1.of (Py v H.h) λit=>ih (.loop t it 0 b) H)) λx=>Jr t .bad λts k p=>A1.iff (Dl K.sc ⟨⟨[101,110,117,109,101,114,97,116,101]⟩⟩&&CP x) ((ih (.e x) H).V λv H=>vStr v .bad λs=>A1.iff (s.all λc=>Fy c 128) (ih (.loop (.Tuple ts k p) (.Ko s) 0 b) H))|.Try body (_::_) [] [] _=>ih (.ss body) H|_=>.bad
noncomputable def step(K:Kx)(Dg:Kx->Cd->St->A1)(c:Cd)(H:St):A1:=let ih:=Dg K;match c with
 |.e x=>Ey A3 K Dg x H|.N l=>match l with
  |[]=>.ok (.vs []) H|x::l=>A1.iff (CP x) ((ih (.e x) H).V λv H=>(ih (.N l) H).A0 λvs H=>.ok (.vs (v::vs)) H)
 |.t x=>match x with
  |.UnaryOp .Not x _=>(ih (.t x) H).B λb H=>.ok (.b !b) H|.BoolOp op U _=>ih (.ts (match op with|.And=>M|.Or=>A6) U) H|.IfExp ..=>.bad|.Compare l [op] [r] _=>A1.iff (!sQ op r)<|(ih (.e l) H).V λa H=>(ih (.e r) H).V λb H=>Zi (VX op a b H.h) H|.Compare ..=>.bad|x=>(ih (.e x) H).V λv H=>Zi (truthy v H.h) H
 |.ts and l=>match l with
  |[]=>.ok (.b and) H|x::l=>(ih (.t x) H).B λb H=>if b==and then ih (.ts and l) H else .ok (.b b) H
 |.pairs ks vs Am=>match ks,vs with
  |[],[]=>FU (H.new (.dict Am))|none::ks,v::vs=>(ih (.e v) H).V λw H=>A1.Ex H.h w λ_ N=>ih (.pairs ks vs (N.foldl (λa p=>Ej a p.1 p.2) Am)) H|some k::ks,v::vs=>(ih (.e k) H).V λkv H=>(ih (.e v) H).V λvv H=>A1.iff (Dc Am kv) (ih (.pairs ks vs (Ej Am kv vv)) H)|_,_=>.bad
 |.G7 CZ g gens it i Am=>A1.of (J8 it i H.h) λr=>match r with
  |none=>.ok (.vs Am) H|some x=>A1.iff (CG Am&&wH gens) ((ih (.asg g.target x) H).F λ_ H=>(Zh ih g.ifs H).B λb H=>match b with
 |true=>(match gens with
 |[]=>(ih (.e CZ) H).V λv H=>ih (.G7 CZ g gens it (i+1) (Am++[v])) H|g'::ji=>(ih (.e g'.iter) H).V λw H=>A1.of (Py w H.h) λVk=>(ih (.G7 CZ g' ji Vk 0 Am) H).A0 λAm H=>ih (.G7 CZ g gens it (i+1) Am) H)|false=>ih (.G7 CZ g gens it (i+1) Am) H)
 |.Pz k v g it i d=>A1.of (J8 it i H.h) λr=>match r with
  |none=>.ok (.f .next) H|some x=>(ih (.asg g.target x) H).F λ_ H=>(Zh ih g.ifs H).B λb H=>match b with
  |true=>(ih (.e k) H).V λkv H=>(ih (.e v) H).V λvv H=>A1.Ex H.h (.ref d) λ_ Am=>A1.iff (Dc Am kv&&CG Am) (ih (.Pz k v g it (i+1) d) (H.set d (.dict (Ej Am kv vv))))|false=>ih (.Pz k v g it (i+1) d) H
 |.asg t v=>Kt A3 K Dg t v H|.Kp ts vs=>match ts,vs with
  |[],[]=>.ok (.f .next) H|t::ts,v::vs=>A1.iff (CP t) ((ih (.asg t v) H).F λ_ H=>ih (.Kp ts vs) H)|_,_=>.bad
 |.G6 ts v=>match ts with
  |[]=>.ok (.f .next) H|t::ts=>A1.iff (CP t) ((ih (.asg t v) H).F λ_ H=>ih (.G6 ts v) H)
 |.loop t it i body=>A1.of (J8 it i H.h) λr=>match r with
  |none=>.ok (.f .next) H|some x=>(ih (.asg t x) H).F λ_ H=>(ih (.ss body) H).F λf H=>match f with
  |.brk=>.ok (.f .next) H|.ret v=>.ok (.f (.ret v)) H|_=>ih (.loop t it (i+1) body) H
 |.Kq Z_ body=>(ih (.t Z_) H).B λb H=>match b with
  |false=>.ok (.f .next) H|true=>(ih (.ss body) H).F λf H=>match f with
  |.brk=>.ok (.f .next) H|.ret v=>.ok (.f (.ret v)) H|_=>ih (.Kq Z_ body) H
 |.H5 kd o m args=>jh A3 K Dg kd o m args H|.call f args=>jg A3 K Dg f args H|.ss l=>match l with
  |[]=>.ok (.f .next) H|x::l=>(ih (.s x) H).F λf H=>match f with
  |.next=>ih (.ss l) H|f=>.ok (.f f) H
 |.s x=>Hm K Dg x H
noncomputable def ev:O->Kx->Cd->St->A1
 |0,_,_,_=>.bad|n+1,K,c,H=>match A3.CQ K c H with
 |some o=>o|none=>step A3 K (ev n) c H
end
theorem Ac{r:Mine.AV}{H:Mine.St}(h:A1.bad=.ok r H):Bh:=A1.noConfusion h
theorem BB{J:Type}{x:J}(h:L=G x):Bh:=by contradiction
theorem E3(h:A6=M):Bh:=UY h
end
local macro_rules |`(tactic|show$t)=>`(tactic|refine(?_:$t))
local macro_rules |`(tactic|omega)=>`(tactic|first|with_reducible(first|exact Nat.zero_le _|exact Nat.le_refl _|exact Nat.le_add_left _ _)|omega(config:={}))
noncomputable def jj:AL A9->A4
 |none=>.type "tuple"|some c=>.ref c
noncomputable def wR:O->DJ
 |0=>"set.__contains__"|_=>"dict.get"
noncomputable def Vl:A4->AK
 |.type t=>t=="tuple"||t=="builtin_function_or_method"||t=="range"|.ref c=>c==135|_=>A6
noncomputable def Vm:AL A9->AK
 |none=>M|some c=>c==135
noncomputable def C1(o:Bl):AK:=Vl o.cls&&match o.data with|.seq ..=>M|.fields ..=>M|_=>A6
noncomputable def wS(c:AL A9)(o:Bl):Prop:=Vm c=M/\(c=L->o.dict=L/\o.slots=#[])
theorem wT{c:AL A9}(h:Vm c=M):Vl (jj c)=M:=by cases c with
 |none=>rfl|some c=>exact h
mutual
noncomputable def VR(h:BJ)(C:I A9):V->A4->Prop
 |.none,u=>u=.none|.bool b,u=>u=.bool b|.int i,u=>∃t,u=.int i t|.str s,u=>∃t,u=.str ⟨⟨s⟩⟩ t|.sym _ s _,u=>∃t,u=.str ⟨⟨s⟩⟩ t|.II m r,u=>∃AF t,u=.int AF t/\AF%(m:AX)=r|.No m,u=>∃AF t,u=.int AF t/\0<=AF/\AF<(m:AX)|.any,u=>∃s t,u=.str ⟨⟨s⟩⟩ t/\s∈IH|.top v,u=>u=v|.ref i,u=>∃a,C[i]?=G a/\u=.ref a|.H4 lo hi,u=>∃a t t' H6,u=.ref a/\h.get? a=G {cls:=.type "range",data:=.fields #[.int lo t,.int hi t',.int 1 H6]}|.Az k i,u=>∃a d,u=.ref a/\C[i]?=G d/\h.get? a=G {cls:=.type "builtin_function_or_method",data:=.fields #[.builtin (wR k),.ref d]}|.tup c U,u=>∃a o us n,u=.ref a/\h.get? a=G o/\wS c o/\o.cls=jj c/\o.data=.seq us n/\Aa h C U us.toList
noncomputable def Aa(h:BJ)(C:I A9):I V->I A4->Prop
 |[],l=>l=[]|x::U,l=>∃u us,l=u::us/\VR h C x u/\Aa h C U us
end
noncomputable def Dt(h Q:BJ):Prop:=∀b o,h.get? b=G o->C1 o=M->Q.get? b=G o
theorem Dt.refl(h:BJ):Dt h h:=λ_ _ e _=>e
theorem Dt.trans{AP BC C3:BJ}(x:Dt AP BC)(y:Dt BC C3):Dt AP C3:=λb o e c=>y b o (x b o e c) c
theorem FV{C J:I A9}{i:O}{a:A9}(h:C[i]?=G a):(C++J)[i]?=G a:=by
 refine xE (HH.mp h) ?_;intro hl _;rw[Xq hl];exact h
theorem Aa.cons{h:BJ}{C:I A9}{v:V}{u:A4}{vs:I V}{us:I A4}(a:VR h C v u)(b:Aa h C vs us):Aa h C (v::vs) (u::us):=⟨u,us,rfl,a,b⟩
theorem Aa.Si{h:BJ}{C:I A9}{v:V}{vs:I V}{us:I A4}(r:Aa h C (v::vs) us){P:I A4->Prop}(k:∀u us,VR h C v u->Aa h C vs us->P (u::us)):P us:=Bu r λu us e a b=>e▸k u us a b
theorem Aa.ind{h:BJ}{C:I A9}{P:I V->I A4->Prop}(n:P [] [])(c:∀v u vs us,VR h C v u->Aa h C vs us->P vs us->P (v::vs) (u::us)){vs:I V}:∀{us:I A4},Aa h C vs us->P vs us:=by induction vs with
 |nil=>intro us e;cases e;exact n|cons v vs ih=>intro us r;exact r.Si λu us a b=>c v u vs us a b (ih b)
theorem Aa.imp{h Q:BJ}{C J:I A9}{vs:I V}{us:I A4}(r:Aa h C vs us):(∀v∈vs,∀u,VR h C v u->VR Q J v u)->Aa Q J vs us:=Aa.ind (P:=λvs us=>(∀v∈vs,∀u,VR h C v u->VR Q J v u)->Aa Q J vs us) (λ_=>rfl) (λv u vs us a _ ih k=>.cons (k v Co u a) (ih λw m=>k w (Cp _ m))) r
theorem V.ind{P:V->Prop}(a:∀v,(∀h C Q J u,VR h C v u->VR Q J v u)->P v)(r:∀lo hi,P (.H4 lo hi))(b:∀i,P (.ref i))(c:∀k i,P (.Az k i))(d:∀c U,(∀v∈U,P v)->P (.tup c U))(v:V):P v:=V.rec (motive_1:=P) (motive_2:=λU=>∀v∈U,P v) (a _ λ_ _ _ _ _ e=>e) (λ_=>a _ λ_ _ _ _ _ e=>e) (λ_=>a _ λ_ _ _ _ _ e=>e) (λ_=>a _ λ_ _ _ _ _ e=>e) (λc U ih=>d c U ih) (λ_=>a _ λ_ _ _ _ _ e=>e) b r c (λ_ _ _=>a _ λ_ _ _ _ _ e=>e) (λ_ _=>a _ λ_ _ _ _ _ e=>e) (λ_=>a _ λ_ _ _ _ _ e=>e) (a _ λ_ _ _ _ _ e=>e) (λ_ m=>nomatch m) (λ_ _ x y _ m=>(Ci.mp m).elim (λe=>e▸x) (y _)) v
theorem VR.mono{h Q:BJ}{C J:I A9}(hi:Dt h Q){v:V}{u:A4}:VR h C v u->VR Q (C++J) v u:=V.ind (P:=λv=>∀u,VR h C v u->VR Q (C++J) v u) (λ_ k u e=>k _ _ _ _ u e) (λ_ _ _ e=>Ju e λa t t' H6 q z=>⟨a,t,t',H6,q,hi _ _ z rfl⟩) (λ_ _ e=>AC e λa e q=>⟨a,FV e,q⟩) (λ_ _ _ e=>Bu e λa d q e z=>⟨a,d,q,FV e,hi _ _ z rfl⟩) (λ_ _ ih _ e=>Kl e λa o us n q e t c d x=>⟨a,o,us,n,q,hi _ _ e (by unfold C1;rw[c,d,wT t.1];rfl),t,c,d,x.imp ih⟩) v u
theorem Aa.mono{h Q:BJ}{C J:I A9}(hi:Dt h Q){v:I V}{u:I A4}(r:Aa h C v u):Aa Q (C++J) v u:=r.imp λ_ _ _=>VR.mono hi
theorem Fi{J:Type}{b:AK}{x y r:J}(h:bC b x y=r){P:Prop}(l:b=M->x=r->P)(m:b=A6->y=r->P):P:=by cases b with
 |true=>exact l rfl h|false=>exact m rfl h
theorem Sj{C:Type}{p:Y×C}{l:I (Y×C)}{x:Y}:Ai (p::l) x=bC (D7 p.1 x) (G p.2) (Ai l x):=rfl
theorem IP{C:Type}{p:O×C}{l:I (O×C)}{x:O}:AJ (p::l) x=bC (B8 p.1 x) (G p.2) (AJ l x):=rfl
theorem wU{C:Type}{p:Y×C}{l:I (Y×C)}{x:Y}{v:C}:EB (p::l) x v=bC (D7 p.1 x) ((p.1,v)::l) (p::EB l x v):=rfl
theorem Q7{C:Type}{p:O×C}{l:I (O×C)}{x:O}{v:C}:putN (p::l) x v=bC (B8 p.1 x) ((p.1,v)::l) (p::putN l x v):=rfl
theorem JD{C:Type}{i:O}{o:C}{l:I (O×C)}:AJ ((i,o)::l) i=G o:=by rw[IP,Ir];rfl
theorem Vn{i j:O}(h:i≠j):B8 i j=A6:=sR.mpr λq=>h (CC q)
theorem JE{C:Type}{i j:O}(h:i≠j){o:C}{l:I (O×C)}:AJ ((i,o)::l) j=AJ l j:=by rw[IP,Vn h];rfl
theorem Zq{C:Type}{i j:O}{o w:C}{l:I (O×C)}(h:AJ ((i,o)::l) j=G w){P:O->C->Prop}(a:P i o)(b:i≠j->AJ l j=G w->P j w):P j w:=by
 refine Fi (show bC (B8 i j) (G o) (AJ l j)=G w from h) (λq e=>?_) λq e=>b (Nat.ne_of_beq_eq_false q) e;have :=CC q;clear q b h;subst this;exact Bq e a
theorem Sk{J:Type}{x:O}{v:J}{l:I (O×J)}:AJ l x=G v->(x,v)∈l:=by induction l with
 |nil=>exactλh=>(AE h).elim|cons p l ih=>exactλh=>Zq (P:=λx v=>(x,v)∈p::l) h Co λ_ e=>Cp _ (ih e)
theorem ME{J:Type}{i:O}{o w:J}{h:I (O×J)}:AJ h i=G w->AJ (putN h i o) i=G o:=by induction h with
 |nil=>exactλh=>(AE h).elim|cons p h ih=>
 intro e;rw[IP]at e;rw[Q7];refine Fi e (λq _=>?_) λq e=>?_;. rw[q];show bC (B8 p.1 i) _ _=_;rw[q];rfl
 . rw[q];show bC (B8 p.1 i) _ _=_;rw[q];exact ih e
theorem wV{J:Type}{i:O}{x y:J}{h:I (O×J)}:putN (putN h i x) i y=putN h i y:=by induction h with
 |nil=>rfl|cons p h ih=>
 rw[Q7,Q7];cases q:B8 p.1 i with
 |true=>show bC (B8 p.1 i) _ _=_;rw[q];rfl|false=>show bC (B8 p.1 i) _ _=_;rw[q];exact congrArg (p::·) ih
theorem MF{J:Type}{i j:O}{o:J}(hj:j≠i){l:I (O×J)}:AJ (putN l i o) j=AJ l j:=by induction l with
 |nil=>rfl|cons p l ih=>
 rw[Q7,IP];cases q:B8 p.1 i with
 |true=>
  show bC (B8 p.1 j) _ _=_;rw[Vn λz=>hj (z.symm.trans (CC q))];rfl|false=>exact congrArg (bC (B8 p.1 j) (G p.2)) ih
theorem wW{J:Type}{i:O}{o:J}{h:I (O×J)}:AJ h i=G o->putN h i o=h:=by induction h with
 |nil=>exactλh=>(AE h).elim|cons p h ih=>
 intro e;rw[IP]at e;rw[Q7];refine Fi e (λq e=>?_) λq e=>?_;. rw[q];exact congrArg (·::h) (NI rfl (Bk e).symm)
 . rw[q];exact congrArg (p::·) (ih e)
noncomputable def rV{J:Type}(r:AV)(d:J)(k:V->J):J:=match r with|.v v=>k v|.vs _=>d|.b _=>d|.f _=>d|.ps _=>d
theorem wX{J:Type}{x:AV}{d:J}{k:V->J}{r:J}(h:rV x d k=r)(hd:d=r->Bh){P:AV->Prop}(c:∀v,k v=r->P (.v v)):P x:=by cases x with
 |v v=>exact c v h|_=>exact(hd h).elim
noncomputable def rF{J:Type}(r:AV)(d:J)(k:Fl->J):J:=match r with|.f f=>k f|.vs _=>d|.b _=>d|.v _=>d|.ps _=>d
theorem wY{J:Type}{x:AV}{d:J}{k:Fl->J}{r:J}(h:rF x d k=r)(hd:d=r->Bh){P:AV->Prop}(c:∀v,k v=r->P (.f v)):P x:=by cases x with
 |f v=>exact c v h|_=>exact(hd h).elim
noncomputable def jk{J:Type}(f:Fl)(d k:J):J:=match f with|.next=>k|.brk=>d|.cont=>d|.ret _=>d
theorem wZ{J:Type}{f:Fl}{d k r:J}(h:jk f d k=r)(hd:d=r->Bh){P:Fl->Prop}(c:k=r->P .next):P f:=by cases f with
 |next=>exact c h|_=>exact(hd h).elim
noncomputable def Zr{J:Type}(o:A1)(d:J)(k:AV->Mine.St->J):J:=match o with|.ok r H=>k r H|.bad=>d
theorem jl{J:Type}{o:A1}{d:J}{k:AV->Mine.St->J}{r:J}(h:Zr o d k=r)(hd:d=r->Bh){P:A1->Prop}(c:∀x H,k x H=r->P (.ok x H)):P o:=by cases o with
 |bad=>exact(hd h).elim|ok x H=>exact c x H h
noncomputable def K0{J:Type}(o:A1)(d:J)(k:V->Mine.St->J):J:=Zr o d λr H=>rV r d λv=>k v H
theorem Vo{J:Type}{o:A1}{d:J}{k:V->Mine.St->J}{r:J}(h:K0 o d k=r)(hd:d=r->Bh){P:A1->Prop}(c:∀v H,k v H=r->P (.ok (.v v) H)):P o:=by apply jl h hd;intro x H h;exact wX (P:=λx=>P (.ok x H)) h hd λv h=>c v H h
theorem Vp{J:Type}{o:A1}{d:J}{k:V->Mine.St->J}{r:J}(h:K0 o d k=r)(hd:d=r->Bh){P:Prop}(c:∀v H,o=.ok (.v v) H->k v H=r->P):P:=Vo (P:=λo'=>o=o'->P) h hd (λv H h e=>c v H e h) rfl
theorem Zs{h:BJ}{C:I A9}{us:I A4}(rs:Aa h C [] us){P:I A4->Prop}(k:P []):P us:=by cases rs;exact k
theorem MG{h:BJ}{C:I A9}{v:V}{us:I A4}(rs:Aa h C [v] us){P:I A4->Prop}(k:∀u,VR h C v u->P [u]):P us:=by refine Bu rs ?_;(try clear rs);intro u l Av r e;subst Av;cases e;exact k u r
theorem Sl{h:BJ}{C:I A9}{v w:V}{us:I A4}(rs:Aa h C [v,w] us){P:I A4->Prop}(k:∀u u',VR h C v u->VR h C w u'->P [u,u']):P us:=by refine Rx rs ?_;(try clear rs);intro u l B5 r u' l' BI r' e;subst B5;subst BI;cases e;exact k u u' r r'
theorem Q8{h:BJ}{C:I A9}{x:Tx}{us:I A4}(rs:Aa h C [.str x] us){P:I A4->Prop}(k:∀t,P [.str ⟨⟨x⟩⟩ t]):P us:=MG rs λu r=>by refine xE r ?_;(try clear r);intro t BO;subst BO;exact k t
theorem Zt{h:BJ}{C:I A9}{x:AX}{us:I A4}(rs:Aa h C [.int x] us){P:I A4->Prop}(k:∀t,P [.int x t]):P us:=MG rs λu r=>by refine xE r ?_;(try clear r);intro t Bo;subst Bo;exact k t
theorem jm{h:BJ}{C:I A9}{x y:AX}{us:I A4}(rs:Aa h C [.int x,.int y] us){P:I A4->Prop}(k:∀t t',P [.int x t,.int y t']):P us:=Sl rs λu u' r r'=>by refine xE r ?_;(try clear r);intro t Bf;subst Bf;refine xE r' ?_;(try clear r');intro t' Br;subst Br;exact k t t'
theorem Aa.length{h:BJ}{C:I A9}{v:I V}{u:I A4}(r:Aa h C v u):v.length=u.length:=Aa.ind (P:=λv u=>v.length=u.length) rfl (λ_ _ _ _ _ _ ih=>congrArg (·+1) ih) r
theorem Aa.get{h:BJ}{C:I A9}{v:I V}{u:I A4}{i:O}{x:V}(r:Aa h C v u)(e:v[i]?=G x):∃y,u[i]?=G y/\VR h C x y:=by
 revert i;refine Aa.ind (P:=λv u=>∀{i},v[i]?=G x->∃y,u[i]?=G y/\VR h C x y) (λe=>(AE e).elim) (λv u vs us a _ ih i q=>?_) r;cases i with
 |zero=>exact Bq q (P:=λx=>∃y,G u=G y/\VR h C x y) ⟨u,rfl,a⟩|succ i=>exact ih q
theorem Aa.app{h:BJ}{C:I A9}{v v':I V}{u u':I A4}(x:Aa h C v u)(y:Aa h C v' u'):Aa h C (v++v') (u++u'):=Aa.ind (P:=λv u=>Aa h C (v++v') (u++u')) y (λ_ _ _ _ a _ ih=>.cons a ih) x
noncomputable def Vq(BM N:I (V×V)):Prop:=BM.Perm N/\PH
noncomputable def Zu:Tx->Tx->O
 |a::x,b::y=>match B8 a b with|true=>Zu x y+1|false=>0
 |_,_=>0
noncomputable def jn(a:Tx)(i:O):Tx->O->O×O×O->O×O×O
 |[],_,r=>r|c::y,j,r=>jn a i y (j+1) (match Fy r.1 (Zu a (c::y))with|true=>(Zu a (c::y),i,j)|false=>r)
noncomputable def jp(b:Tx):Tx->O->O×O×O->O×O×O
 |[],_,r=>r|c::x,i,r=>jp b x (i+1) (jn (c::x) i b 0 r)
noncomputable def Zv:O->Tx->Tx->O->O->I (O×O×O)
 |0,_,_,_,_=>[]|n+1,a,b,p,q=>match jp b a 0 (0,0,0)with
 |(0,_,_)=>[]|(k+1,i,j)=>Zv n (a.take i) (b.take j) p q++(k+1,p+i,q+j)::Zv n (a.drop (i+k+1)) (b.drop (j+k+1)) (p+i+k+1) (q+j+k+1)
noncomputable def Vr(s n:O):Tx:=match n with
 |0=>Px s++[44,48]|1=>Px (s+1)|n=>Px (s+1)++44::Px n
noncomputable def jq(i j i' j':O):I (I Tx):=let f:=Vr i (i'-i);let g:=Vr j (j'-j);match i'-i,j'-j with
 |0,0=>[]|0,_=>[[[105,110,115,101,114,116],f,g]]|_,0=>[[[100,101,108,101,116,101],f,g]]|_,_=>[[[114,101,112,108,97,99,101],f,g]]
noncomputable def jr(la lb:O):I (O×O×O)->O->O->I (I Tx)
 |[],i,j=>jq i j la lb|(k,p,q)::l,i,j=>jq i j p q++jr la lb l (p+k) (q+k)
noncomputable def CI(a b:Tx):I (I Tx):=jr a.length b.length (Zv 20 a b 0 0) 0 0
noncomputable def O'(p:Tx):I Tx->V
 |t::r=>.tup L (.str t::.str p::r.map .str)|[]=>.tup L [.str p]
noncomputable def IQ:Sg->I V
 |.it l=>[.tup L (l.map .str)]|.tx t=>[.str t]|.run p a b=>(CI a b).map (O' p)
noncomputable def DM(l:I Sg):I V:=l.flatMap IQ
section
variable(prog:HY)(w:F4)
noncomputable def DR{K:Type}(key:K->V)(h:BJ)(C:I A9):I (V×V)->I (K×A4)->Prop
 |[],l=>l=[]|e::N,l=>∃k u r,l=(k,u)::r/\e.1=key k/\VR h C e.2 u/\DR key h C N r
noncomputable def GR(x:Y):V:=.str x.cps.toList
noncomputable def Sm(i:AX):V:=.int i
noncomputable def Dm(h:BJ)(C:I A9)(a:A9)(N:I (V×V)):Prop:=(∃Ay,h.DictAt (strKind prog w) a Ay Ay.length/\DR GR h C N Ay)\/(∃Ay,h.DictAt (intKind prog w) a Ay Ay.length/\DR Sm h C N Ay)
noncomputable def C_(h:BJ)(C:I A9)(a:A9):Ob->Prop
 |.list U=>∃us,h.PlainList a us/\Aa h C U us.toList|.dict N=>Dm prog w h C a N|.B1 N=>∃BM,Vq BM N/\Dm prog w h C a BM|.EV N=>∃m,h.Ns1 a m/\∀x,match Ai N x with|some v=>∃u,m x=G u/\VR h C v u|none=>m x=L
 |.rows r U=>∃us,h.PlainList a us/\Aa h C (DM U) us.toList/\(DM U).length+r<=Dk|.HP=>∃led,h.get? a=G {cls:=.type "set",dict:=L,data:=.set #[] 0 (.fresh 0 0 led)}|.inst c d=>∃da,C[d]?=G da/\h.get? a=G {cls:=.ref c,dict:=G da,data:=.plain}
end
theorem DR.cons{K:Type}{key:K->V}{h:BJ}{C:I A9}{k:K}{v:V}{u:A4}{N:I (V×V)}{r:I (K×A4)}(a:VR h C v u)(d:DR key h C N r):DR key h C ((key k,v)::N) ((k,u)::r):=⟨k,u,r,rfl,rfl,a,d⟩
theorem DR.ind{K:Type}{key:K->V}{h:BJ}{C:I A9}{P:I (V×V)->I (K×A4)->Prop}(n:P [] [])(c:∀k v u N r,VR h C v u->DR key h C N r->P N r->P ((key k,v)::N) ((k,u)::r)){N:I (V×V)}:∀{l:I (K×A4)},DR key h C N l->P N l:=by induction N with
 |nil=>intro l e;cases e;exact n|cons e N ih=>
 intro l e';refine J0 e' ?_;clear e';intro k u r q e1 a d;subst q;rw[show e=(key k,e.2)from NI e1 rfl];exact c k e.2 u N r a d (ih d)
theorem DR.mono{K:Type}{key:K->V}{h Q:BJ}{C J:I A9}(hi:Dt h Q){N:I (V×V)}{l:I (K×A4)}(d:DR key h C N l):DR key Q (C++J) N l:=DR.ind (P:=DR key Q (C++J)) rfl (λ_ _ _ _ _ a _ ih=>DR.cons (a.mono hi) ih) d
theorem Dm.mono{prog:HY}{w:F4}{h Q:BJ}{C J:I A9}{a:A9}{N:I (V×V)}(hi:Dt h Q)(ha:∀x,h.get? a=G x->Q.get? a=G x)(x:Dm prog w h C a N):Dm prog w Q (C++J) a N:=by
 rcases x with C8|Ck;refine AC C8 ?_;(try clear C8);intro Ay D8 v;obtain⟨o,BM,e,r⟩:=D8;rotate_left;refine AC Ck ?_;(try clear Ck);intro Ay DV v;obtain⟨o,BM,e,r⟩:=DV;rotate_left;. exact .inl ⟨Ay,⟨o,BM,ha _ e,r⟩,v.mono hi⟩
 . exact .inr ⟨Ay,⟨o,BM,ha _ e,r⟩,v.mono hi⟩
theorem C_.mono{prog:HY}{w:F4}{h Q:BJ}{C J:I A9}{a:A9}{o:Ob}(hi:Dt h Q)(ha:∀x,h.get? a=G x->Q.get? a=G x)(x:C_ prog w h C a o):C_ prog w Q (C++J) a o:=by cases o with
 |list U=>refine AC x ?_;(try clear x);intro us p v;exact⟨us,p.at ha,v.mono hi⟩|dict N=>exact Dm.mono hi ha x|B1 N=>refine AC x ?_;(try clear x);intro BM p y;exact⟨BM,p,y.mono hi ha⟩|EV N=>
  refine AC x ?_;(try clear x);intro m ns r;refine⟨m,ns.at ha,λy=>?_⟩;have :=r y;revert this;split;. rintro⟨u,e,v⟩;exact⟨u,e,v.mono hi⟩
  . exact id|rows r U=>refine CX x ?_;(try clear x);intro us p v l;exact⟨us,p.at ha,v.mono hi,l⟩|HP=>refine xE x ?_;(try clear x);intro l e;exact⟨l,ha _ e⟩|inst c d=>refine AC x ?_;(try clear x);intro da e g;exact⟨da,FV e,ha _ g⟩
noncomputable def H7(o:Bl):AK:=match o.data with|.dict ..=>M|_=>A6
structure Nx(AM A_:I A9)(h Q:BJ)(C AS:I A9):Prop where
 pre:∃J,AS=C++J/\∀b∈J,h.get? b=L
 live:∀b o,h.get? b=G o->∃o',Q.get? b=G o'
 Bv:Dt h Q
 same:∀b o,h.get? b=G o->b∉C->b∉A_->∃sl,Q.get? b=G {o with slots:=sl}/\((b∈AM->H7 o=A6)->sl=o.slots)
theorem Nx.refl(AM A_:I A9)(h:BJ)(C:I A9):Nx AM A_ h h C C:=⟨⟨[],by simp,λ_ hb=>by simp at hb⟩,λ_ o e=>⟨o,e⟩,Dt.refl h,λ_ o e _ _=>⟨o.slots,e,λ_=>rfl⟩⟩
theorem Nx.data{A_:I A9}{h Q:BJ}{C AS:I A9}(x:Nx AM A_ h Q C AS)(b:A9)(o:Bl)(e:h.get? b=G o)(n:b∉C)(m:b∉A_):∃sl,Q.get? b=G {o with slots:=sl}:=let⟨sl,q,_⟩:=x.same b o e n m;⟨sl,q⟩
theorem Nx.keep{A_:I A9}{h Q:BJ}{C AS:I A9}(x:Nx AM A_ h Q C AS)(b:A9)(o:Bl)(e:h.get? b=G o)(n:b∉C)(m:b∉A_)(z:b∈AM->H7 o=A6):Q.get? b=G o:=by
 refine AC (x.same b o e n m) ?_;intro sl q r;rw[r z]at q;exact q
theorem H8{h Q:BJ}{b:A9}(l:∀b o,h.get? b=G o->∃o',Q.get? b=G o')(n:Q.get? b=L):h.get? b=L:=by cases e:h.get? b with
 |none=>rfl|some o=>refine xE (l b o e) ?_;intro o' e';rw[n]at e';cases e'
theorem Nx.out{A_:I A9}{h Q:BJ}{C AS:I A9}(x:Nx AM A_ h Q C AS){b:A9}{o:Bl}(g:h.get? b=G o)(n:b∉C):b∉AS:=by
 refine AC x.pre ?_;intro J e hb;intro m;rw[e]at m;rcases Do.mp m with m|m;. exact n m
 . rw[hb b m]at g;cases g
theorem Nx.trans{A_:I A9}{AP BC C3:BJ}{AZ As BQ:I A9}(x:Nx AM A_ AP BC AZ As)(y:Nx AM A_ BC C3 As BQ):Nx AM A_ AP C3 AZ BQ:=by
 refine AC x.pre ?_;intro J e hb;refine AC y.pre ?_;intro F9 e' hc;refine⟨⟨J++F9,by rw[e',e,Ua],λb m=>?_⟩,λb o g=>?_,x.Bv.trans y.Bv,λb o g n m=>?_⟩
 . rcases Do.mp m with m|m;. exact hb b m
   . exact H8 x.live (hc b m)
 . refine xE (x.live b o g) ?_;intro o' g';exact y.live b o' g'
 . refine AC (x.same b o g n m) ?_;intro s1 q1 r1;refine AC (y.same b _ q1 (x.out g n) m) ?_;intro s2 q2 r2;exact⟨s2,q2,λz=>by have e2:=r2 z;rw[r1 z]at e2;exact e2⟩
theorem VR.nx{A_:I A9}{h Q:BJ}{C AS:I A9}(x:Nx AM A_ h Q C AS){v:V}{u:A4}(r:VR h C v u):VR Q AS v u:=by refine AC x.pre ?_;intro J e _;rw[e];exact r.mono x.Bv
theorem Aa.nx{A_:I A9}{h Q:BJ}{C AS:I A9}(x:Nx AM A_ h Q C AS){v:I V}{u:I A4}(r:Aa h C v u):Aa Q AS v u:=by refine AC x.pre ?_;intro J e _;rw[e];exact r.mono x.Bv
structure Fm where
 env:G_
 A_:I A9
 outs:I G_
noncomputable def Fm.D(F:Fm):I A9:=F.outs.filterMap (·.frame)
structure Bs where
 prog:HY
 w:F4
 base:BJ
 os:Jd
 gens:BV fG
noncomputable def K1(F:Fm)(x:Y):Prop:=F.env.kindOf x=G .local\/F.env.kindOf x=G .cell\/F.env.kindOf x=G .free
noncomputable def Sn(F:Fm)(h:BJ)(m:Y->AL A4)(x:Y)(u:A4):Prop:=(F.env.kindOf x=G .local->m x=G u)/\(F.env.kindOf x=G .cell\/F.env.kindOf x=G .free->∃c,F.env.cells.lookup x=G c/\h.IsCell c (G u))
noncomputable def Cc(F:Fm)(h:BJ)(C:I A9)(env:I (Y×V)):Prop:=∃m,h.Ns F.env.locals m/\(∀c∈F.env.cells,∃u,h.IsCell c.2 u)/\∀x v,Ai env x=G v->K1 F x->∃u,Sn F h m x u/\VR h C v u
noncomputable def js(F:Fm)(x:Y):E1->Prop
 |.local=>F.env.kindOf x=G .local|.cell=>F.env.kindOf x=G .cell/\∃c,F.env.cells.lookup x=G c/\c∈F.A_|.free=>(F.env.kindOf x=G .cell\/F.env.kindOf x=G .free)/\∃c,F.env.cells.lookup x=G c|.globalImplicit=>F.env.kindOf x=G .globalImplicit|.globalExplicit=>PH
structure G9(K:Kx)(F:Fm):Prop where
 fn:F.env.scope.kind=.function
 sc:Q3 K.sc=M
 kd:∀x k,Ai K.sc.names x=G k->js F x k
 g3:F.env.globals=3b0:F.env.builtins=0cells:F.env.cells.Pairwise λx y=>x.2≠y.2IR:F.env.locals∈F.A_
 MH:∀c∈F.env.cells,c.2≠F.env.locals
theorem Vs{l:I E1}{o:AL E1}(h:isIn l o=M){P:E1->Prop}(c:∀k∈l,P k):∃k,o=G k/\P k:=by cases o with
 |none=>exact(B3 h).elim|some k=>exact⟨k,rfl,c k (List.elem_iff.mp h)⟩
theorem G9.at{K:Kx}{F:Fm}(g:G9 K F){l:I E1}{x:Y}(h:isIn l (SU K.sc x)=M){P:Prop}(c:∀k∈l,js F x k->P):P:=AC (Vs h c) λk e c=>c (g.kd x k e)
theorem G9.loc{K:Kx}{F:Fm}(g:G9 K F)(x:Y)(h:D' K.sc x=M):K1 F x:=g.at h (all_cons .inl (all_cons (λz=>.inr (.inl z.1)) (all_cons (λz=>.inr z.1) EA)))
theorem G9.own{K:Kx}{F:Fm}(g:G9 K F)(x:Y)(h:G8 K.sc x=M):F.env.kindOf x=G .local\/(F.env.kindOf x=G .cell/\∃c,F.env.cells.lookup x=G c/\c∈F.A_):=g.at h (all_cons .inl (all_cons .inr EA))
theorem G9.glob{K:Kx}{F:Fm}(g:G9 K F)(x:Y)(h:Dl K.sc x=M):F.env.kindOf x=G .globalImplicit:=g.at h (all_cons id EA)
theorem G9.cf{K:Kx}{F:Fm}(g:G9 K F)(x:Y)(h:Zg K.sc x=M):(F.env.kindOf x=G .cell\/F.env.kindOf x=G .free)/\∃c,F.env.cells.lookup x=G c:=g.at h (all_cons (λz=>⟨.inl z.1,AC z.2 λc e _=>⟨c,e⟩⟩) (all_cons id EA))
theorem So{F:Fm}{x:Y}(h:F.env.kindOf x=G .cell\/F.env.kindOf x=G .free)(z:F.env.kindOf x=G .local){P:Prop}:P:=h.elim (λe=>nomatch z.symm.trans e) λe=>nomatch z.symm.trans e
structure Gd(B:Bs)(F:Fm)(K:Kx)(A:CK)(H:St)(C:I A9)(s:AR):Prop where
 kinds:G9 K F
 len:C.length=H.n
 nodup:C.Nodup
 fresh:∀a∈C,B.base.get? a=L
 live:∀a∈C,∃o,s.heap.get? a=G o
 D4:∀a∈F.A_,B.base.get? a=L/\a∉C/\∃o,s.heap.get? a=G o
 D0:∀c∈F.env.cells,c.2∉C/\∃o,s.heap.get? c.2=G o
 objs:∀i o,AJ H.h i=G o->∃a,C[i]?=G a/\C_ B.prog B.w s.heap C a o
 env:Cc F s.heap C H.env
 base:B.base.StaysIn s.heap
 os:s.os=B.os
 gens:s.gens=B.gens
 frames:A.frames=G F.outs
 DN:s.heap.FunFrames B.base F.outs
 Cw:∀A0∈F.outs.filterMap (·.frame),A0∉C/\(A0∈F.A_->A0=F.env.locals)/\∃o,s.heap.get? A0=G o/\H7 o=M
 mods:∃o,B.base.get? NJ=G o
 handled:A.handled=L
 depth:A.depth+3*K.d<900units:A.units+10*K.d<9000
theorem Gd.obj{B:Bs}{F:Fm}{K:Kx}{A:CK}{H:St}{C:I A9}{s:AR}(g:Gd B F K A H C s){i:O}{o:Ob}(h:AJ H.h i=G o){a:A9}(ha:C[i]?=G a):C_ B.prog B.w s.heap C a o:=AC (g.objs i o h) λ_ e r=>Bk (e.symm.trans ha)▸r
variable{C AS BE AZ A_ As AM:I A9}{h Q Af:BJ}{v v' k:Mine.V}{A A':CK}{s s' AI:AR}{A7 H AA Bc DG:Mine.St}{i n d j r m tk ep kd k0 depth:O}{B:Bs}{K K':Kx}{F F':Fm}{u u' ku vu fu c fl fv du:A4}{A3:Mine.Ctx}{E A2:A4->AR->Prop}{a AD D z TI a0 E':A9}{J T F9:Type}{pos p p2 p1 p3 p4:BG}{us first:I A4}{N ps BM:I (Mine.V×Mine.V)}{prog:HY}{w:F4}{x id name:Y}{f:Fl}{t t':EM}{U args vs Am ys MI:I Mine.V}{env:G_}{A0 l AF An CL L0 L1:I Tx}{P:Dw}{b led ex on:AK}{o ob o':Ob}{Kf:GZ}{sc:BS}{B9:O->O}{B6 rs Du:I O}{Au:fH}{A8 JF JG K2 ext2 brk tf Ku:Ar}{y q:Tx}{fd:Ka}{g:FO}{ts:I AB}{e CZ:AB}{it:It}{BD hp:I (O×Ob)}{gens:I FO}{C4:I G_}{names:I Y}{Ca:BV A4}{op:Jc}{pl:Dx AK}{ord:I (AX×A4)}{CS K3:I (Y×Mine.V)}
theorem EZ{a b:Tx}:CY a b=M↔a=b:=@PJ (I O) (@List.instBEq O ⟨B8⟩) (@List.instLawfulBEq O ⟨B8⟩ (@bK5 O ⟨B8⟩ (@ReflBEq.mk O ⟨B8⟩ (Ir _)) CC)) a b
theorem jt{a b:Tx}:CY a b=A6↔a≠b:=by rw[<-bl2,EZ]
theorem E0{a b:Y}:D7 a b=M↔a=b:=by
 unfold D7;rw[EZ];constructor;. intro e;cases a;cases b;simp only[bl3];exact sS.mp e
 . intro e;rw[e]
theorem Zw{a b:Y}(h:D7 a b=M){P:Y->Prop}(k:P b):P a:=E0.mp h▸k
theorem w_{a b:Y}(h:D7 a b=M){P:Y->Prop}(k:P a):P b:=E0.mp h▸k
theorem Kv{a b:Y}:D7 a b=A6↔a≠b:=by rw[<-bl2,E0]
theorem Q9{C:Type}{v:C}{y:Y}{l:I (Y×C)}:Ai (EB l x v) y=if x=y then G v else Ai l y:=by induction l with
 |nil=>
  show bC (D7 x y) (G v) L=_;by_cases h:x=y;. rw[D5 h,E0.mpr h];rfl
  . rw[CN h,Kv.mpr h];rfl|cons p l ih=>
  rw[wU,Sj];by_cases h:p.1=x
  . rw[E0.mpr h];show bC (D7 p.1 y) (G v) (Ai l y)=_;rw[h];by_cases Q:x=y;. rw[D5 Q,E0.mpr Q];rfl
    . rw[CN Q,Kv.mpr Q];rfl
  . rw[Kv.mpr h];show bC (D7 p.1 y) (G p.2) (Ai (EB l x v) y)=_;by_cases Q:p.1=y;. rw[E0.mpr Q,CN λq=>h (Q.trans q.symm)];rfl
    . rw[Kv.mpr Q];exact ih
theorem Zx{C:Type}{v:C}{l:I (O×C)}:∀{w:C},AJ (putN l i v) j=G w->(j=i/\w=v)\/(j≠i/\AJ l j=G w):=by induction l with
 |nil=>exactλh=>(AE h).elim|cons p l ih=>
 intro w h;rw[Q7]at h;rw[IP];by_cases e:p.1=i
 . rw[show B8 p.1 i=M from e▸Ir _]at h;by_cases q:p.1=j
   . subst q;rw[show bC M ((p.1,v)::l) (p::putN l i v)=(p.1,v)::l from rfl,JD]at h;exact .inl ⟨e,(Bk h).symm⟩
   . rw[show bC M ((p.1,v)::l) (p::putN l i v)=(p.1,v)::l from rfl,JE q]at h;rw[Vn q];exact .inr ⟨λz=>q (e.trans z.symm),h⟩
 . rw[Vn e]at h;have h:bC (B8 p.1 j) (G p.2) (AJ (putN l i v) j)=G w:=h;refine Fi h (λq e'=>.inr ⟨λz=>e ((CC q).trans z),by rw[q];exact e'⟩) λq e'=>?_;rw[q];exact ih e'
theorem Nx.ext(k:∀b o,h.get? b=G o->Q.get? b=G o):Nx AM A_ h Q C C:=⟨⟨[],by simp,λ_ hb=>by simp at hb⟩,λb o e=>⟨o,k b o e⟩,λb o e _=>k b o e,λb o e _ _=>⟨o.slots,k b o e,λ_=>rfl⟩⟩
theorem Nx.add(J:I A9)(k:∀b o,h.get? b=G o->Q.get? b=G o)(n:∀b∈J,h.get? b=L):Nx AM A_ h Q C (C++J):=⟨⟨J,rfl,n⟩,λb o e=>⟨o,k b o e⟩,λb o e _=>k b o e,λb o e _ _=>⟨o.slots,k b o e,λ_=>rfl⟩⟩
theorem Nx.but(ha:a∈C\/a∈A_)(k:Dp a h Q)(hc:∀o,h.get? a=G o->C1 o=A6)(hl:∃o,Q.get? a=G o):Nx AM A_ h Q C C:=by
 refine⟨⟨[],by simp,λ_ hb=>by simp at hb⟩,λb o e=>?_,λb o e c=>?_,λb o e n m=>⟨o.slots,?_,λ_=>rfl⟩⟩
 . by_cases q:b=a;. clear ha hc k;subst q;exact hl
   . exact⟨o,k b o q e⟩
 . by_cases q:b=a;. clear ha hl k;subst q;rw[hc o e]at c;exact(E3 c).elim
   . exact k b o q e
 . exact k b o (λq=>by clear hc hl k;subst q;exact ha.elim n m) e
section
theorem Gd.of(g:Gd B F K A H C s){J:I A9}(x:Nx F.D F.A_ s.heap Q C (C++J))(GA:J.Nodup)(hn:∀b∈J,s.heap.get? b=L)(hl:∀b∈J,∃o,Q.get? b=G o)(len:(C++J).length=A7.n)(objs:∀i o,AJ A7.h i=G o->∃a,(C++J)[i]?=G a/\C_ B.prog B.w Q (C++J) a o)(env:Cc F Q (C++J) A7.env)(base:B.base.StaysIn Q):Gd B F K A A7 (C++J) {s with heap:=Q,toks:=tk}:=by
 have bn:∀b∈J,B.base.get? b=L:=λb m=>by cases e:B.base.get? b with
 |none=>rfl|some o=>have :=g.base b o e;rw[hn b m]at this;exact(BB this).elim
 refine⟨g.kinds,len,?_,?_,?_,?_,λc m=>⟨x.out (g.D0 c m).2.choose_spec (g.D0 c m).1,x.live _ _ (g.D0 c m).2.choose_spec⟩,objs,env,base,g.os,g.gens,g.frames,?_,?_,g.mods,g.handled,g.depth,g.units⟩
 . refine I7.mpr ⟨g.nodup,GA,λa ha b hb e=>?_⟩;subst e;refine xE (g.live a ha) ?_;intro o q;rw[hn a hb]at q;exact(BB q).elim
 . intro a m;rcases Do.mp m with m|m;. exact g.fresh a m
   . exact bn a m
 . intro a m;rcases Do.mp m with m|m;. refine xE (g.live a m) ?_;intro o q;exact x.live a o q
   . exact hl a m
 . intro a m;refine IG (g.D4 a m) ?_;intro q r o l;exact⟨q,x.out l r,x.live a o l⟩
 . have hL:=g.DN;have fd:=g.Cw;refine CX env ?_;(try clear env);intro mm ns _ _;revert hL fd;generalize F.outs=l;intro hL fd;show Q.FunFrames B.base l;induction l with
 |nil=>trivial|cons e r ih=>
     refine G2 hL ?_;(try clear hL);intro hk Av hr;refine HO Av ?_;(try clear Av);intro A0 o hf hb ho hd;have fL:=fd A0 (by simp[hf]);refine⟨hk,?_,ih hr λL' m'=>fd L' (by rw[RJ,hf];exact Cp _ m')⟩;by_cases q:A0∈F.A_
     . have e:=fL.2.1 q;refine Gi ns ?_;(try clear ns);intro oL N ep hL Zy _;rw[<-e]at hL;exact⟨A0,oL,hf,hb,hL,λvs z=>by rw[Zy]at z;(exfalso;cases z)⟩
     . refine xE (x.data A0 o ho fL.1 q) ?_;intro sl z;exact⟨A0,_,hf,hb,z,hd⟩
 . intro A0 m;refine Pe (g.Cw A0 m) ?_;intro q r o ho hd;refine⟨x.out ho q,r,?_⟩;by_cases z:A0∈F.A_
   . refine AC env ?_;(try clear env);intro mm B5 _;refine Gi B5 ?_;(try clear B5);intro oL N ep hL Zy _;rw[<-r z]at hL;exact⟨oL,hL,by unfold H7;rw[Zy]⟩
   . refine xE (x.data A0 o ho q z) ?_;(try clear z);intro sl z;exact⟨_,z,hd⟩
theorem Cc.imp{env:I (Y×V)}(x:Cc F h C env)(ns:∀m,h.Ns F.env.locals m->Q.Ns F.env.locals m)(ce:∀n c u,(n,c)∈F.env.cells->h.IsCell c u->Q.IsCell c u)(vr:∀v u,VR h C v u->VR Q AS v u):Cc F Q AS env:=CX x λm n wa r=>⟨m,ns m n,λc hc=>xE (wa c hc) λu q=>⟨u,ce c.1 c.2 u hc q⟩,λx v e q=>AC (r x v e q) λu s r=>⟨u,⟨s.1,λz=>AC (s.2 z) λc e f=>⟨c,e,ce x c _ (mem_of_lookup e) f⟩⟩,vr v u r⟩⟩
theorem Cc.ext{env:I (Y×V)}{J:I A9}(k:∀b o,h.get? b=G o->Q.get? b=G o)(x:Cc F h C env):Cc F Q (C++J) env:=x.imp (λ_ ns=>ns.at' λo e=>k _ o e) (λ_ _ _ _ q=>q.keeps k) λ_ _ r=>r.mono λb o e _=>k b o e
theorem Gd.tok(g:Gd B F K A H C s)(tk:O):Gd B F K A H C {s with toks:=tk}:=⟨g.kinds,g.len,g.nodup,g.fresh,g.live,g.D4,g.D0,g.objs,g.env,g.base,g.os,g.gens,g.frames,g.DN,g.Cw,g.mods,g.handled,g.depth,g.units⟩
theorem Gd.ext(g:Gd B F K A H C s)(k:∀b o,s.heap.get? b=G o->Q.get? b=G o):Gd B F K A H C {s with heap:=Q,toks:=tk}:=by
 have :=g.of (A7:=H) (Q:=Q) (tk:=tk) (J:=[]) (Nx.add [] k (λ_ hb=>by simp at hb)) HI (λ_ hb=>by simp at hb) (λ_ hb=>by simp at hb) (by simpa using g.len) (λi o e=>by refine AC (g.objs i o e) ?_;intro a p q;exact⟨a,by simpa using p,q.mono (λb o e _=>k b o e) (k a)⟩) (g.env.ext k) (λb o e=>k b o (g.base b o e));simpa using this
theorem Gd.new(g:Gd B F K A H C s)(k:∀b o,s.heap.get? b=G o->Q.get? b=G o)(hn:s.heap.get? a=L)(hl:∃o,Q.get? a=G o)(ho:C_ B.prog B.w Q (C++[a]) a o):Gd B F K A (H.new o).2 (C++[a]) {s with heap:=Q,toks:=tk}:=by
 have O0:∀b∈[a],s.heap.get? b=L:=λb hb=>by rw[CH.mp hb];exact hn
 refine g.of (Nx.add [a] k O0) (by simp) O0 (λb hb=>by rw[CH.mp hb];exact hl) (by simp[Mine.St.new,g.len]) (λi o' e=>?_) (g.env.ext k) (λb o e=>k b o (g.base b o e));simp only[Mine.St.new,AJ]at e;cases q:B8 H.n i with
 |true=>
  rw[q]at e;injection e with e;subst e;have :=CC q;exact⟨a,by rw[<-this,<-g.len];simp,ho⟩|false=>
  rw[q]at e;refine AC (g.objs i o' e) ?_;intro b p r;exact⟨b,FV p,r.mono (λb o e _=>k b o e) (k b)⟩
theorem Sp{p:I A9->Prop}(h:p (C++[])):p C:=by simpa using h
theorem Cc.but{env:I (Y×V)}(ha:a≠F.env.locals)(hc:∀c∈F.env.cells,c.2≠a)(k:Dp a h Q)(hi:Dt h Q)(x:Cc F h C env):Cc F Q C env:=x.imp (λ_ ns=>ns.extBut k (CV ha)) (λn c u m q=>AC q λo e d=>⟨o,k _ _ (hc _ m) e,d⟩) λv u r=>Sp (p:=λJ=>VR Q J v u) (r.mono hi)
theorem Gd.Zz(g:Gd B F K A H C s)(x:Nx F.D F.A_ s.heap Q C C)(len:A7.n=H.n)(objs:∀i o,AJ A7.h i=G o->∃a,C[i]?=G a/\C_ B.prog B.w Q C a o)(env:Cc F Q C A7.env)(base:B.base.StaysIn Q):Gd B F K A A7 C {s with heap:=Q,toks:=tk}:=by
 have e:C++[]=C:=HJ C;have :=g.of (A7:=A7) (Q:=Q) (tk:=tk) (J:=[]) (by rw[e];exact x) HI (λ_ hb=>by simp at hb) (λ_ hb=>by simp at hb) (by rw[e,len];exact g.len) (by rw[e];exact objs) (by rw[e];exact env) base;rwa[e]at this
theorem C_.C1(r:C_ prog w h C a o)(hi:∀c d,o=.inst c d->c≠135):∀x,h.get? a=G x->C1 x=A6:=by
 intro x e;cases o with
 |list U=>refine AC r ?_;(try clear r);intro us BI _;refine xE BI ?_;(try clear BI);intro n q;rw[q]at e;injection e with e;subst e;rfl|dict N=>(rcases r with Br|C8;refine AC Br ?_;(try clear Br);intro _ FC _;obtain⟨o,_,q,⟨c,_⟩,_⟩:=FC;rotate_left;refine AC C8 ?_;(try clear C8);intro _ GB _;obtain⟨o,_,q,⟨c,_⟩,_⟩:=GB;rotate_left)<;>(rw[q]at e;injection e with e;subst e;unfold Mine.C1;rw[c];rfl)|B1 N=>
  refine AC r ?_;(try clear r);intro _ _ r;(rcases r with Ck|D8;refine AC Ck ?_;(try clear Ck);intro _ H9 _;obtain⟨o,_,q,⟨c,_⟩,_⟩:=H9;rotate_left;refine AC D8 ?_;(try clear D8);intro _ Hn _;obtain⟨o,_,q,⟨c,_⟩,_⟩:=Hn;rotate_left)<;>(rw[q]at e;injection e with e;subst e;unfold Mine.C1;rw[c];rfl)|EV N=>refine AC r ?_;(try clear r);intro m BO _;refine Gi BO ?_;(try clear BO);intro o _ _ q d _;rw[q]at e;injection e with e;subst e;unfold Mine.C1;rw[d];simp|rows k U=>refine AC r ?_;(try clear r);intro us Bo _;refine xE Bo ?_;(try clear Bo);intro n q;rw[q]at e;injection e with e;subst e;rfl|HP=>refine xE r ?_;(try clear r);intro l q;rw[q]at e;injection e with e;subst e;rfl|inst c d=>
  refine AC r ?_;(try clear r);intro da _ q;rw[q]at e;injection e with e;subst e;have :=hi c d rfl;show(c==135&&A6)=A6;simp
theorem Gd.set(g:Gd B F K A H C s)(hi:C[i]?=G a)(Vt:AJ H.h i=G o)(Cb:∀c d,o≠.inst c d)(k:Dp a s.heap Q)(hl:∃o,Q.get? a=G o)(ho:∀x:Dt s.heap Q,C_ B.prog B.w Q C a o'):Gd B F K A (H.set i o') C {s with heap:=Q,toks:=tk}/\Nx F.D [] s.heap Q C C:=by
 have ha:a∈C:=Es hi;refine AC (g.objs i o Vt) ?_;intro a' QA r;rw[hi]at QA;injection QA with QA;subst QA;have x:Nx F.D F.A_ s.heap Q C C:=Nx.but (.inl ha) k (r.C1 λc d e=>absurd e (Cb c d)) hl;have x0:Nx F.D [] s.heap Q C C:=Nx.but (.inl ha) k (r.C1 λc d e=>absurd e (Cb c d)) hl;refine⟨g.Zz x rfl (λj p e=>?_) (g.env.but ?_ ?_ k x.Bv) (λb p e=>?_),x0⟩
 . rcases Zx e with DV|E_;refine xA DV ?_;(try clear DV);intro Kw Ky;subst Kw;subst Ky;rotate_left;refine xA E_ ?_;(try clear E_);intro hj e;rotate_left;. exact⟨a,hi,ho x.Bv⟩
   . refine AC (g.objs j p e) ?_;intro b q r;refine⟨b,q,?_⟩;have hb:b≠a:=λz=>by
      clear ha hl ho k;subst z;refine xE (HH.mp hi) ?_;intro l1 q1;refine xE (HH.mp q) ?_;intro l2 q2;exact hj ((RK l2 g.nodup).mp (q.trans hi.symm))
     have :=r.mono (J:=[]) x.Bv λy=>k b y hb;simpa using this
 . exactλz=>(g.D4 _ g.kinds.IR).2.1 (z▸ha)
 . exactλc m z=>(g.D0 c m).1 (z▸ha)
 . refine k b p (λz=>?_) (g.base b p e);clear hi hl ho k r;subst z;rw[g.fresh b ha]at e;exact(BB e).elim
theorem Gd.a5(g:Gd B F K A H C s)(ha:a∉C)(k:Dp a s.heap Q)(x:Dt s.heap Q):∀i o,AJ H.h i=G o->∃a,C[i]?=G a/\C_ B.prog B.w Q C a o:=λi o e=>by
 refine AC (g.objs i o e) ?_;intro b q r;have :=r.mono (J:=[]) x λy=>k b y (λz=>ha (z▸Es q));exact⟨b,q,by simpa using this⟩
theorem Gd.wb(g:Gd B F K A H C s):∀o,s.heap.get? F.env.locals=G o->∃N ep,o.data=.dict N ep:=λo e=>by
 refine CX g.env ?_;intro m Bf _ _;refine Gi Bf ?_;(try clear Bf);intro o' N ep q d _;rw[q]at e;injection e with e;subst e;exact⟨N,ep,d⟩
theorem Gd.ju(g:Gd B F K A H C s){m:Y->AL A4}(hx:F.env.kindOf x=G .local)(hv:VR s.heap C v u)(er:∀y w,Ai H.env y=G w->K1 F y->∃u,Sn F s.heap m y u/\VR s.heap C w u)(hn:Q.Ns F.env.locals (λy=>if y=x then G u else m y))(k:E2 F.env.locals s.heap Q):Gd B F K A ⟨EB H.env x v,H.h,H.n⟩ C {s with heap:=Q,toks:=tk}/\Nx F.D F.A_ s.heap Q C C:=by
 refine G2 (g.D4 _ g.kinds.IR) ?_;intro a6 ha _;have xx:Nx F.D F.A_ s.heap Q C C:=Nx.but (.inr g.kinds.IR) k.extBut (λo e=>by
   refine D9 (g.wb o e) ?_;intro N ep d;unfold C1;rw[d];simp) (by refine Hh hn ?_;(try clear hn);intro o _ _ e _;exact⟨o,e⟩);have hi:∀{v:V}{u:A4},VR s.heap C v u->VR Q C v u:=λq=>q.nx xx;refine⟨g.Zz xx rfl (g.a5 ha k.extBut xx.Bv) ⟨_,hn,λc m=>let⟨_,_,ce,_⟩:=g.env;let⟨u,e⟩:=ce c m;⟨u,e.sameBut k (g.kinds.MH c m)⟩,λy w l fr=>?_⟩ (λb p e=>k.extBut b p (λz=>by rw[z,a6]at e;exact(BB e).elim) (g.base b p e)),xx⟩;rw[Q9]at l;by_cases q:x=y
 . rw[D5 q]at l;exact⟨u,⟨λ_=>D5 q.symm,λz=>So z (q▸hx)⟩,Bk l▸hi hv⟩
 . rw[CN q]at l;refine AC (er y w l fr) ?_;intro u' sl z;exact⟨u',⟨λz=>(CN λe=>q e.symm).trans (sl.1 z),λz=>AC (sl.2 z) λc e f=>⟨c,e,f.sameBut k (g.kinds.MH _ (mem_of_lookup e))⟩⟩,hi z⟩
theorem Gd.jv(g:Gd B F K A H C s){c:A9}{Sq:AL A4}(hx:F.env.kindOf x=G .cell)(hc:F.env.cells.lookup x=G c)(hw:c∈F.A_)(hv:VR s.heap C v u)(Vt:s.heap.IsCell c Sq)(hn:Q.IsCell c (G u))(k:E2 c s.heap Q):Gd B F K A ⟨EB H.env x v,H.h,H.n⟩ C {s with heap:=Q,toks:=tk}/\Nx F.D F.A_ s.heap Q C C:=by
 refine G2 (g.D4 _ hw) ?_;intro a6 ha _;have xx:Nx F.D F.A_ s.heap Q C C:=Nx.but (.inr hw) k.extBut (λo e=>by
   refine AC Vt ?_;(try clear Vt);intro o' e' d;rw[e']at e;injection e with e;subst e;unfold C1;rw[d];simp) (by refine AC hn ?_;(try clear hn);intro o e _;exact⟨o,e⟩);have hi:∀{v:V}{u:A4},VR s.heap C v u->VR Q C v u:=λq=>q.nx xx;refine CX g.env ?_;intro jw ns ce r;have hL:F.env.locals≠c:=λz=>g.kinds.MH _ (mem_of_lookup hc) z.symm;refine⟨g.Zz xx rfl (g.a5 ha k.extBut xx.Bv) ⟨jw,ns.sameBut k hL,λc' m'=>if z:c'.2=c then⟨_,z▸hn⟩else let⟨u,e⟩:=ce c' m';⟨u,e.sameBut k z⟩,λy w l fr=>?_⟩ (λb p e=>k.extBut b p (λz=>?_) (g.base b p e)),xx⟩
 . rw[Q9]at l;by_cases q:x=y
   . rw[D5 q]at l;exact⟨u,⟨λz=>So (.inl (q▸hx)) z,λ_=>⟨c,q▸hc,hn⟩⟩,Bk l▸hi hv⟩
   . rw[CN q]at l;refine AC (r y w l fr) ?_;intro u' sl z;exact⟨u',⟨sl.1,λz=>AC (sl.2 z) λc' e f=>⟨c',e,f.sameBut k λz=>q (name_of_addr g.kinds.cells (mem_of_lookup hc) (z▸mem_of_lookup e))⟩⟩,hi z⟩
 . rw[z,a6]at e;exact(BB e).elim
end
noncomputable def Vu(A_:I A9)(B:Bs)(F:Fm)(K:Kx)(A:CK)(A7:Mine.St)(C:I A9)(s:AR)(t:Dx J)(IS:BJ->I A9->J->Prop):Prop:=∀(A2:J->AR->Prop)(E:A4->AR->Prop),(∀u AS s',Gd B F K A A7 AS s'->Nx F.D A_ s.heap s'.heap C AS->IS s'.heap AS u->A2 u s')->AG (AQ B.prog B.w) A t A2 E s
noncomputable abbrev CJ(B:Bs)(F:Fm)(K:Kx)(A:CK)(A7:Mine.St)(C:I A9)(s:AR)(t:Dx J)(IS:BJ->I A9->J->Prop):Prop:=Vu F.A_ B F K A A7 C s t IS
noncomputable abbrev Ae(B:Bs)(F:Fm)(K:Kx)(A:CK)(A7:Mine.St)(C:I A9)(s:AR)(t:Dx J)(IS:BJ->I A9->J->Prop):Prop:=Vu [] B F K A A7 C s t IS
theorem Nx.FW(x:Nx AM [] h Q C AS):Nx AM A_ h Q C AS:=⟨x.pre,x.live,x.Bv,λb o e n _=>x.same b o e n (by simp)⟩
theorem Vu.Sr{t:Dx J}{IS:BJ->I A9->J->Prop}(d:Ae B F K A A7 C s t IS):CJ B F K A A7 C s t IS:=λA2 E k=>d A2 E λu AS s' g x r=>k u AS s' g x.FW r
noncomputable abbrev RV(v:V):BJ->I A9->A4->Prop:=λh C u=>VR h C v u
noncomputable abbrev O1(v:I V):BJ->I A9->I A4->Prop:=λh C u=>Aa h C v u
noncomputable abbrev RB(b:AK):BJ->I A9->AK->Prop:=λ_ _ u=>u=b
noncomputable abbrev RU:BJ->I A9->Et->Prop:=λ_ _ _=>PH
noncomputable def FR(f:Fl):BJ->I A9->HK->Prop:=λh C u=>match f with
 |.next=>u=.next|.brk=>u=.brk|.cont=>u=.cont|.ret v=>∃x,u=.ret x/\VR h C v x
section
theorem CJ.pure{b:J}{IS:BJ->I A9->J->Prop}(g:Gd B F K A H C s)(r:IS s.heap C b):Vu A_ B F K A H C s (Pure.pure b) IS:=λ_ _ k=>AW (k b C s g (Nx.refl ..) r)
theorem FD{v:J}{l:I (Y×J)}:Ai l x=G v->(x,v)∈l:=by induction l with
 |nil=>exactλh=>(AE h).elim|cons p l ih=>
 intro h;refine Fi (Sj.symm.trans h) (λq h=>?_) λ_ h=>Cp _ (ih h);rw[<-E0.mp q,<-Bk h];exact Co
theorem Ss{l:I (Y×J)}{env:I (Y×F9)}{f:J->F9}(h:l.map (λp=>Ai env p.1)=l.map λp=>G (f p.2)){v:J}(e:Ai l x=G v):Ai env x=G (f v):=H'.mp h _ (FD e)
theorem a7(h:Q3 sc=M)(hl:D' sc x=M):(x==("__debug__":Y))=A6/\(x==("__classdict__":Y))=A6:=by
 refine AC (Vs (P:=λ_=>PH) hl λ_ _=>trivial) ?_;intro k q _;have :=(Bp.mp h) _ (FD q);simp only[D2,RL,Kv]at this;exact⟨Li.mpr this.1,Li.mpr this.2⟩
theorem a8(g:Gd B F K A H C s)(hl:D' K.sc x=M)(hv:Ai H.env x=G v)(k:∀u,VR s.heap C v u->A2 u s):AG (AQ B.prog B.w) A' (loadName F.env x) A2 E s:=by
 refine CX g.env ?_;intro m ns _ r;refine AC (r x v hv (g.kinds.loc x hl)) ?_;intro u sl z;have ku:=k u z;rcases g.kinds.loc x hl with q|q|q;. exact wpAny_loadName_local g.kinds.fn q ns (sl.1 q) ku
 . exact AC (sl.2 (.inl q)) λc e f=>wpAny_loadName_cell g.kinds.fn q e f ku
 . exact AC (sl.2 (.inr q)) λc e f=>wpAny_loadName_free g.kinds.fn q e f ku (a7 g.kinds.sc hl).2
theorem jx(g:Gd B F K A H C s)(hl:D' K.sc id=M)(hv:Ai H.env id=G v):Ae B F K A H C s (loadName F.env id) (RV v):=λA2 E k=>a8 g hl hv λu z=>k u C s g (Nx.refl ..) z
theorem a9(g:Gd B F K A H C s)(hl:D' K.sc id=M)(hv:Ai H.env id=G v):Ae B F K A H C s (eval (.Name id pos) F.env) (RV v):=λA2 E k=>wpAny_Name (jx g hl hv A2 E k) (a7 g.kinds.sc hl).1
theorem Vv{c:eh}{Kz:O}(g:Gd B F K A H C s)(hv:Nu c=G v):Ae B F K A H C s (eval (.Constant c Kz pos) F.env) (RV v):=by cases c with
 |none=>refine Bq (P:=λv=>Ae B F K A H C s _ (RV v)) hv ?_;exactλ_ _ k=>wpAny_Constant_none (k _ C s g (Nx.refl ..) rfl)|bool b=>refine Bq (P:=λv=>Ae B F K A H C s _ (RV v)) hv ?_;exactλ_ _ k=>sU (k _ C s g (Nx.refl ..) rfl)|int i=>refine Bq (P:=λv=>Ae B F K A H C s _ (RV v)) hv ?_;exactλ_ _ k=>bl4 (k _ C _ (g.tok _) (Nx.refl ..) ⟨_,rfl⟩)|str x=>refine Bq (P:=λv=>Ae B F K A H C s _ (RV v)) hv ?_;exactλ_ _ k=>fK (k _ C _ (g.tok _) (Nx.refl ..) ⟨_,rfl⟩)|_=>exact(AE hv).elim
end
structure CM(B:Bs)(F:Fm)(C:I A9)(h:BJ)(AD:A9):Prop where
 C:AD∉C
 w:AD∉F.A_
 cells:∀c∈F.env.cells,c.2≠AD
 base:B.base.get? AD=L
 outs:AD∉F.outs.filterMap (·.frame)live:∃o,h.get? AD=G o
section
noncomputable def E4(h:BJ)(C:I A9)(it:It)(i:O)(AD:A9):Prop:=match it with
 |.tup U=>∃T us,T≠AD/\h.IsTupleIter AD T i/\h.IsTuple T us/\Aa h C U us.toList|.H4 lo hi=>∃left,IsRangeIter h AD (lo+(i:AX)) left 1/\left=max (hi-lo) 0-(i:AX)|.lst k=>∃a,C[k]?=G a/\h.IsListIter AD a i|.keys k n=>∃a,C[k]?=G a/\h.IsKeyIter AD a i n n|.Ko _=>Bh
end
theorem FE{r r':AV}(h:A1.ok r H=.ok r' A7):r=r'/\H=A7:=by injection h with a b;exact⟨a,b⟩
theorem B4{v v':Mine.V}(h:A1.ok (.v v) H=.ok (.v v') A7){P:Mine.V->Mine.St->Prop}(k:P v H):P v' A7:=by injection h with a b;injection a with a;subst a;subst b;exact k
theorem BW{v v':Fl}(h:A1.ok (.f v) H=.ok (.f v') A7){P:Fl->Mine.St->Prop}(k:P v H):P v' A7:=by injection h with a b;injection a with a;subst a;subst b;exact k
theorem O2{r r':AV}(h:A1.ok r H=.ok r' A7){P:Mine.St->Prop}(k:P H):P A7:=(FE h).2▸k
theorem BX{v v':I Mine.V}(h:A1.ok (.vs v) H=.ok (.vs v') A7){P:I Mine.V->Mine.St->Prop}(k:P v H):P v' A7:=by injection h with a b;injection a with a;subst a;subst b;exact k
theorem BY{v v':AK}(h:A1.ok (.b v) H=.ok (.b v') A7){P:AK->Mine.St->Prop}(k:P v H):P v' A7:=by injection h with a b;injection a with a;subst a;subst b;exact k
theorem A1.Ce{o:A1}{k:Mine.V->Mine.St->A1}{r:AV}(h:o.V k=.ok r A7){P:Prop}(c:∀v AA,o=.ok (.v v) AA->k v AA=.ok r A7->P):P:=by cases o with
 |bad=>exact(Ac h).elim|ok x AA=>cases x with
 |v v=>exact c v AA rfl h|_=>exact(Ac h).elim
theorem A1.L2{o:A1}{k:I Mine.V->Mine.St->A1}{r:AV}(h:o.A0 k=.ok r A7){P:Prop}(c:∀v AA,o=.ok (.vs v) AA->k v AA=.ok r A7->P):P:=by cases o with
 |bad=>exact(Ac h).elim|ok x AA=>cases x with
 |vs v=>exact c v AA rfl h|_=>exact(Ac h).elim
theorem A1.O3{o:A1}{k:AK->Mine.St->A1}{r:AV}(h:o.B k=.ok r A7){P:Prop}(c:∀v AA,o=.ok (.b v) AA->k v AA=.ok r A7->P):P:=by cases o with
 |bad=>exact(Ac h).elim|ok x AA=>cases x with
 |b v=>exact c v AA rfl h|_=>exact(Ac h).elim
theorem A1.Ho{o:A1}{k:Fl->Mine.St->A1}{r:AV}(h:o.F k=.ok r A7){P:Prop}(c:∀v AA,o=.ok (.f v) AA->k v AA=.ok r A7->P):P:=by cases o with
 |bad=>exact(Ac h).elim|ok x AA=>cases x with
 |f v=>exact c v AA rfl h|_=>exact(Ac h).elim
theorem A1.jy{o:A1}(h:o.nx=.ok (.f f) A7):f=.next/\∃f',o=.ok (.f f') A7:=A1.Ho h λf' _ e h=>BW h (P:=λf A7=>f=.next/\∃f',o=.ok (.f f') A7) ⟨rfl,f',e⟩
theorem A1.wc{o:A1}{k:Mine.V->Mine.St->A1}(h:(o.V λv H=>(k v H).nx)=.ok (.f f) A7):f=.next/\∃f',o.V k=.ok (.f f') A7:=A1.Ce h λv H e h=>by rw[e];exact A1.jy h
theorem A1.Bw{o:AL J}{k:J->A1}{r:AV}(h:A1.of o k=.ok r A7){P:Prop}(c:∀v,o=G v->k v=.ok r A7->P):P:=by cases o with
 |none=>exact(Ac h).elim|some v=>exact c v rfl h
theorem A1.Bb{o:A1}{r:AV}(h:A1.iff b o=.ok r A7){P:Prop}(c:b=M->o=.ok r A7->P):P:=by cases b with
 |false=>exact(Ac h).elim|true=>exact c rfl h
theorem A1.MJ{v:Mine.V}{k:O->I Mine.V->A1}{r:AV}(h:A1.lst hp v k=.ok r A7){P:Mine.V->Prop}(c:∀i U,AJ hp i=G (.list U)->k i U=.ok r A7->P (.ref i)):P v:=by
 apply EF h Ac;intro i h;cases e:AJ hp i with
 |none=>rw[e]at h;exact(Ac h).elim|some o=>rw[e]at h;cases o with
 |list U=>exact c i U e h|_=>exact(Ac h).elim
theorem A1.O4{k:O->I (Mine.V×Mine.V)->A1}{r:AV}(h:A1.Ex hp (.ref i) k=.ok r A7){P:Prop}(c:∀U,AJ hp i=G (.dict U)->k i U=.ok r A7->P):P:=by
 have h:(match AJ hp i with|none=>.bad|some o=>match o with|.dict N=>k i N|_=>.bad)=A1.ok r A7:=h;cases e:AJ hp i with
 |none=>rw[e]at h;exact(Ac h).elim|some o=>rw[e]at h;cases o with
 |dict U=>exact c U e h|_=>exact(Ac h).elim
theorem A1.wd{v:Mine.V}{k:O->I (Mine.V×Mine.V)->A1}{r:AV}(h:A1.Ex hp v k=.ok r A7){P:Mine.V->Prop}(c:∀i U,AJ hp i=G (.dict U)->k i U=.ok r A7->P (.ref i)):P v:=EF h Ac λi h=>A1.O4 (hp:=hp) (i:=i) (k:=k) h (c i)
theorem ML{x:AL V}(h:Gn x H=.ok (.v v) A7):x=G v/\A7=H:=by
 refine A1.Bw h λw e h=>?_;apply B4 h;exact⟨e,rfl⟩
structure C5(B:Bs)(A3:Mine.Ctx)(n:O):Prop where
 e:∀{K:Kx}{x:AB}{H A7:Mine.St}{v:V},ev A3 n K (.e x) H=.ok (.v v) A7->∀{F:Fm}{A:CK}{C:I A9}{s:AR},Gd B F K A H C s->Ae B F K A A7 C s (eval x F.env) (RV v)N:∀{K:Kx}{l:I AB}{H A7:Mine.St}{v:I V},ev A3 n K (.N l) H=.ok (.vs v) A7->∀{F:Fm}{A:CK}{C:I A9}{s:AR}(pos:BG),Gd B F K A H C s->Ae B F K A A7 C s (Lj (F5 pos (Dy l F.env))) (O1 v)t:∀{K:Kx}{x:AB}{H A7:Mine.St}{v:AK},ev A3 n K (.t x) H=.ok (.b v) A7->∀{F:Fm}{A:CK}{C:I A9}{s:AR},Gd B F K A H C s->Ae B F K A A7 C s (NK x F.env (eval x F.env)) (RB v)ts:∀{K:Kx}{a:AK}{l:I AB}{H A7:Mine.St}{v:AK},ev A3 n K (.ts a l) H=.ok (.b v) A7->∀{F:Fm}{A:CK}{C:I A9}{s:AR},Gd B F K A H C s->Ae B F K A A7 C s (allTrue (if a then .And else .Or) l F.env) (RB v)s:∀{K:Kx}{x:Ar}{H A7:Mine.St}{f:Fl},ev A3 n K (.s x) H=.ok (.f f) A7->∀{F:Fm}{A:CK}{C:I A9}{s:AR},Gd B F K A H C s->CJ B F K A A7 C s (exec x F.env) (FR f)ss:∀{K:Kx}{l:I Ar}{H A7:Mine.St}{f:Fl},ev A3 n K (.ss l) H=.ok (.f f) A7->∀{F:Fm}{A:CK}{C:I A9}{s:AR},Gd B F K A H C s->CJ B F K A A7 C s (Iu l F.env) (FR f)asg:∀{K:Kx}{t:AB}{v:V}{H A7:Mine.St}{f:Fl},ev A3 n K (.asg t v) H=.ok (.f f) A7->∀{F:Fm}{A:CK}{C:I A9}{s:AR}{u:A4},Gd B F K A H C s->VR s.heap C v u->CJ B F K A A7 C s (Eu t F.env u) RU
 Kp:∀{K:Kx}{ts:I AB}{vs:I V}{H A7:Mine.St}{f:Fl},ev A3 n K (.Kp ts vs) H=.ok (.f f) A7->∀{F:Fm}{A:CK}{C:I A9}{s:AR}{us:I A4},Gd B F K A H C s->Aa s.heap C vs us->CJ B F K A A7 C s (NL ((GK ts F.env).map (·.2)) us) RU
 G6:∀{K:Kx}{ts:I AB}{v:V}{H A7:Mine.St}{f:Fl},ev A3 n K (.G6 ts v) H=.ok (.f f) A7->∀{F:Fm}{A:CK}{C:I A9}{s:AR}{u:A4},Gd B F K A H C s->VR s.heap C v u->CJ B F K A A7 C s (fM u ((GK ts F.env).map (·.2))) RU
 we:∀{K:Kx}{v:V}{H A7:Mine.St}{r:AV},ev A3 n K (.G6 [] v) H=.ok r A7->A7=H
 wf:∀{K:Kx}{id:Y}{pos:BG}{v:V}{H A7:Mine.St}{f:Fl},ev A3 n K (.asg (.Name id pos) v) H=.ok (.f f) A7->∀{F:Fm}{A:CK}{C:I A9}{s:AR}{u:A4},Gd B F K A H C s->VR s.heap C v u->CJ B F K A A7 C s (fN F.env id u) RU
 call:∀{K:Kx}{f:V}{args:I V}{H A7:Mine.St}{v:V},ev A3 n K (.call f args) H=.ok (.v v) A7->∀{F:Fm}{A:CK}{C:I A9}{s:AR}{fu:A4}{us:I A4},Gd B F K A H C s->VR s.heap C f fu->Aa s.heap C args us->Ae B F K A A7 C s (CD fu us) (RV v)Kq:∀{K:Kx}{t:AB}{b:I Ar}{H A7:Mine.St}{f:Fl},ev A3 n K (.Kq t b) H=.ok (.f f) A7->∀{F:Fm}{A:CK}{C:I A9}{s:AR}{AV:Dq->AR->Prop},Gd B F K A H C s->(∀u AS s',Gd B F K A A7 AS s'->Nx F.D F.A_ s.heap s'.heap C AS->FR f s'.heap AS u->AV (.ok u) s')->D6 (AQ B.prog B.w) A (.whileLoop t b [] F.env) AV s
 loop:∀{K:Kx}{t:AB}{it:It}{i:O}{b:I Ar}{H A7:Mine.St}{f:Fl},ev A3 n K (.loop t it i b) H=.ok (.f f) A7->∀{F:Fm}{A:CK}{C BE:I A9}{s:AR}{Af:BJ}{AD:A9}{AV:Dq->AR->Prop},Gd B F K A H C s->Nx F.D F.A_ Af s.heap BE C->Af.get? AD=L->CM B F C s.heap AD->E4 s.heap C it i AD->(∀u AS s',Gd B F K A A7 AS s'->Nx F.D F.A_ Af s'.heap BE AS->FR f s'.heap AS u->AV (.ok u) s')->D6 (AQ B.prog B.w) A (.forLoop t (.ref AD) b [] F.env) AV s
theorem C5.eW(A8:C5 B A3 n){x:AB}(h:ev A3 n K (.e x) H=.ok (.v v) A7)(g:Gd B F K A H C s):CJ B F K A A7 C s (eval x F.env) (RV v):=(A8.e h g).Sr
theorem C5.tW(A8:C5 B A3 n){x:AB}{v:AK}(h:ev A3 n K (.t x) H=.ok (.b v) A7)(g:Gd B F K A H C s):CJ B F K A A7 C s (NK x F.env (eval x F.env)) (RB v):=(A8.t h g).Sr
section
theorem wg(A8:C5 B A3 n){t a b:AB}(h:Ey A3 K (ev A3 n) (.IfExp t a b pos) H=.ok (.v v) A7)(g:Gd B F K A H C s):Ae B F K A A7 C s (eval (.IfExp t a b pos) F.env) (RV v):=by
 refine A1.O3 h ?_;intro c AA AP BC;intro A2 E k;refine wpAny_IfExp (A8.t AP g _ _ λu AZ AI AN Ab Ap=>?_);clear AP;subst Ap;cases u;. exact A8.e BC AN _ _ λu As Ah AT Al BA=>k u As Ah AT (Ab.trans Al) BA
 . exact A8.e BC AN _ _ λu As Ah AT Al BA=>k u As Ah AT (Ab.trans Al) BA
theorem aA{x:AB}(h:CP x=M):(∀l env,Dy (x::l) env=(A6,eval x env)::Dy l env)/\(∀ts env,GK (x::ts) env=(A6,Eu x env)::GK ts env)/\∀env v,sV x env v=pure v:=by cases x<;>first|exact⟨λ_ _=>rfl,λ_ _=>rfl,λ_ _=>rfl⟩|exact(E3 h).elim
theorem K4{x:AB}(h:CP x=M){l:I AB}:Dy (x::l) env=(A6,eval x env)::Dy l env:=(aA h).1 l env
theorem aB{t:AB}(h:CP t=M):GK (t::ts) env=(A6,Eu t env)::GK ts env:=(aA h).2.1 ts env
theorem QB(h:CP e=M)(x:A4):sV e env x=pure x:=(aA h).2.2 env x
theorem wh(A8:C5 B A3 n){l:I AB}{v:I V}(h:step A3 K (ev A3 n) (.N l) H=.ok (.vs v) A7)(pos:BG)(g:Gd B F K A H C s):Ae B F K A A7 C s (Lj (F5 pos (Dy l F.env))) (O1 v):=by
 intro A2 E k;cases l with
 |nil=>
  (first|(revert k;(first|apply BW h|apply B4 h|apply BX h|apply BY h|apply BZ h);intro k)|apply BW h|apply B4 h|apply BX h|apply BY h|apply BZ h);exact Ub (k [] C s g (Nx.refl ..) rfl)|cons x l=>
  refine A1.Bb h ?_;clear h;intro hp h;refine A1.Ce h ?_;clear h;intro a AA AP h;refine A1.L2 h ?_;clear h;intro b Bc BC h;(first|(revert k;(first|apply BW h|apply B4 h|apply BX h|apply BY h|apply BZ h);intro k)|apply BW h|apply B4 h|apply BX h|apply BY h|apply BZ h);refine Lk (A8.e AP g _ _ λu AZ AI AN Ab Ap=>A8.N BC pos AN _ _ λus As Ah AT Al BA=>k _ As Ah AT (Ab.trans Al) ⟨u,us,rfl,Ap.nx Al,BA⟩) (K4 hp)
theorem wj(A8:C5 B A3 n){l:I Ar}(h:step A3 K (ev A3 n) (.ss l) H=.ok (.f f) A7)(g:Gd B F K A H C s):CJ B F K A A7 C s (Iu l F.env) (FR f):=by
 intro A2 E k;cases l with
 |nil=>
  (first|(revert k;(first|apply BW h|apply B4 h|apply BX h|apply BY h|apply BZ h);intro k)|apply BW h|apply B4 h|apply BX h|apply BY h|apply BZ h);exact Fz (k .next C s g (Nx.refl ..) rfl)|cons x l=>
  refine A1.Ho h ?_;clear h;intro a AA AP h;refine DF (A8.s AP g _ _ λu AZ AI AN Ab Ap=>?_);cases a with
 |next=>
   cases Ap;exact A8.ss h AN _ _ λus As Ah AT Al BA=>k _ As Ah AT (Ab.trans Al) BA|brk=>
   cases Ap;(first|(revert k;(first|apply BW h|apply B4 h|apply BX h|apply BY h|apply BZ h);intro k)|apply BW h|apply B4 h|apply BX h|apply BY h|apply BZ h);exact k _ AZ AI AN Ab rfl|cont=>
   cases Ap;(first|(revert k;(first|apply BW h|apply B4 h|apply BX h|apply BY h|apply BZ h);intro k)|apply BW h|apply B4 h|apply BX h|apply BY h|apply BZ h);exact k _ AZ AI AN Ab rfl|ret v=>
   refine AC Ap ?_;(try clear Ap);intro y Bf Ap;subst Bf;(first|(revert k;(first|apply BW h|apply B4 h|apply BX h|apply BY h|apply BZ h);intro k)|apply BW h|apply B4 h|apply BX h|apply BY h|apply BZ h);exact k _ AZ AI AN Ab ⟨y,rfl,Ap⟩
structure Lf(B:Bs):Prop where
 truthy:∀{F:Fm}{K:Kx}{A:CK}{H:Mine.St}{C:I A9}{s:AR}{v:V}{u:A4}{b:AK},Gd B F K A H C s->VR s.heap C v u->Mine.truthy v H.h=G b->Ae B F K A H C s (sW u) (RB b)cmp:∀{F:Fm}{K:Kx}{A:CK}{H:Mine.St}{C:I A9}{s:AR}{op:PE}{v v':V}{u u':A4}{b:AK},Gd B F K A H C s->VR s.heap C v u->VR s.heap C v' u'->VX op v v' H.h=G b->Ae B F K A H C s (DZ op u u') (λ_ _ r=>r=.bool b)wk:∀{F:Fm}{K:Kx}{A:CK}{H:Mine.St}{C:I A9}{s:AR}{op:Jc}{v v' r:V}{u u':A4},Gd B F K A H C s->VR s.heap C v u->VR s.heap C v' u'->ZY op v v'=G r->Ae B F K A H C s (inplaceOp op u u') (RV r)bin:∀{F:Fm}{K:Kx}{A:CK}{H A7:Mine.St}{C:I A9}{s:AR}{op:Jc}{v v' r:V}{u u':A4},Gd B F K A H C s->VR s.heap C v u->VR s.heap C v' u'->Vg op v v' H=.ok (.v r) A7->Ae B F K A A7 C s (Ev op u u') (RV r)
theorem wl(A8:C5 B A3 n)(Lo:Lf B){l r:AB}(hr:Sf l op r=L)(h:Ey A3 K (ev A3 n) (.BinOp l op r pos) H=.ok (.v v) A7)(g:Gd B F K A H C s):Ae B F K A A7 C s (eval (.BinOp l op r pos) F.env) (RV v):=by
 refine Nf h (λx e _=>by rw[hr]at e;exact(AE e).elim) λ_ h=>?_;refine A1.Ce h ?_;clear h;intro a AA AP h;refine A1.Ce h ?_;clear h;intro b Bc BC h;intro A2 E k;exact sX (A8.e AP g _ _ λu AZ AI AN Ab Ap=>A8.e BC AN _ _ λu' As Ah AT Al BA=>Lo.bin AT (Ap.nx Al) BA h _ _ λy BQ Aw Ao B7 BP=>k y BQ Aw Ao (Ab.trans (Al.trans B7)) BP)
theorem wm(A8:C5 B A3 n)(Lo:Lf B){l r:AB}{op:PE}(h:Ey A3 K (ev A3 n) (.Compare l [op] [r] pos) H=.ok (.v v) A7)(g:Gd B F K A H C s):Ae B F K A A7 C s (eval (.Compare l [op] [r] pos) F.env) (RV v):=by
 refine A1.Bb h ?_;clear h;intro hm h;refine A1.Ce h ?_;clear h;intro a AA AP h;refine A1.Ce h ?_;clear h;intro b Bc BC h;refine A1.Bw h ?_;clear h;intro c C3 h;(first|(revert k;(first|apply BW h|apply B4 h|apply BX h|apply BY h|apply BZ h);intro k)|apply BW h|apply B4 h|apply BX h|apply BY h|apply BZ h);intro A2 E k;refine bl5 (A8.e AP g _ _ λu AZ AI AN Ab Ap=>A8.e BC AN _ _ λu' As Ah AT Al BA=>Lo.cmp AT (Ap.nx Al) BA C3 _ _ λy BQ Aw Ao B7 BP=>k y BQ Aw Ao (Ab.trans (Al.trans B7)) BP) (by simpa using hm)
theorem wn(A8:C5 B A3 n)(Lo:Lf B){a b:AB}(h:Ey A3 K (ev A3 n) (.BoolOp .Or [a,b] pos) H=.ok (.v v) A7)(g:Gd B F K A H C s):Ae B F K A A7 C s (eval (.BoolOp .Or [a,b] pos) F.env) (RV v):=by
 refine A1.Ce h ?_;clear h;intro x AA AP h;refine A1.Bw h ?_;clear h;intro c C3 h;intro A2 E k;refine wpAny_Or2 (A8.e AP g _ _ λu AZ AI AN Ab Ap=>Lo.truthy AN Ap C3 _ _ λy BQ Aw Ao B7 BP=>?_);clear C3;subst BP;cases y with
 |true=>
  (first|(revert k;(first|apply BW h|apply B4 h|apply BX h|apply BY h|apply BZ h);intro k)|apply BW h|apply B4 h|apply BX h|apply BY h|apply BZ h);exact k u BQ Aw Ao (Ab.trans B7) (Ap.nx B7)|false=>exact A8.e h Ao _ _ λu' As Ah AT Al BA=>k u' As Ah AT (Ab.trans (B7.trans Al)) BA
theorem wo(A8:C5 B A3 n){l:I AB}(h:Ey A3 K (ev A3 n) (.Tuple l kd pos) H=.ok (.v v) A7)(g:Gd B F K A H C s):Ae B F K A A7 C s (eval (.Tuple l kd pos) F.env) (RV v):=by
 refine A1.L2 h ?_;clear h;intro a AA AP h;refine A1.Bb h ?_;clear h;intro hf h;(first|(revert k;(first|apply BW h|apply B4 h|apply BX h|apply BY h|apply BZ h);intro k)|apply BW h|apply B4 h|apply BX h|apply BY h|apply BZ h);intro A2 E k;refine wpAny_Tuple (A8.N AP pos g _ _ λus AZ AI AN Ab Ap=>⟨?_,?_⟩)
 . rw[<-Ap.length];exact B2 (Di hf) (by decide)
 . have kp:∀b o,AI.heap.get? b=G o->(AI.heap.push {cls:=.type "tuple",data:=.seq us.toArray}).get? b=G o:=λb o e=>C0 _ e;refine k _ AZ _ (AN.ext (tk:=AI.toks) kp) (Ab.trans (Nx.ext kp)) ⟨_,_,us.toArray,0,rfl,CW _ rfl,⟨rfl,λ_=>⟨rfl,rfl⟩⟩,rfl,rfl,?_⟩;have :=Ap.mono (J:=[]) (Q:=AI.heap.push {cls:=.type "tuple",data:=.seq us.toArray}) (λb o e _=>kp b o e);simpa using this
theorem wq(A8:C5 B A3 n){l:I AB}(h:Ey A3 K (ev A3 n) (.List l pos) H=.ok (.v v) A7)(g:Gd B F K A H C s):Ae B F K A A7 C s (eval (.List l pos) F.env) (RV v):=by
 refine A1.L2 h ?_;clear h;intro a AA AP h;refine A1.Bb h ?_;clear h;intro hf h;(first|(revert k;(first|apply BW h|apply B4 h|apply BX h|apply BY h|apply BZ h);intro k)|apply BW h|apply B4 h|apply BX h|apply BY h|apply BZ h);intro A2 E k;refine wpAny_List (A8.N AP pos g _ _ λus AZ AI AN Ab Ap=>⟨?_,?_⟩)
 . rw[<-Ap.length];exact B2 (Di hf) (by decide)
 . have kp:∀b o,AI.heap.get? b=G o->(AI.heap.push {cls:=.type "list",data:=.seq us.toArray}).get? b=G o:=λb o e=>C0 _ e;have hn:AI.heap.get? AI.heap.objs.size=L:=by cases e:AI.heap.get? AI.heap.objs.size with
 |none=>rfl|some o=>exact absurd (Df e) (Iq _)
   have hg:=CW AI.heap (o:={cls:=.type "list",data:=.seq us.toArray}) rfl;refine k _ (AZ++[AI.heap.objs.size]) _ (AN.new (tk:=AI.toks) kp hn ⟨_,hg⟩ (o:=.list a) ⟨us.toArray,⟨_,hg⟩,?_⟩) (Ab.trans (Nx.add [_] kp λb hb=>by rw[CH.mp hb];exact hn)) ⟨_,?_,rfl⟩;. exact Ap.mono (λb o e _=>kp b o e)
   . rw[<-AN.len];simp
end
section
theorem wt(A8:C5 B A3 n){a:AK}{l:I AB}{v:AK}(h:step A3 K (ev A3 n) (.ts a l) H=.ok (.b v) A7)(g:Gd B F K A H C s):Ae B F K A A7 C s (allTrue (if a then .And else .Or) l F.env) (RB v):=by
 intro A2 E k;cases l with
 |nil=>
  (first|(revert k;(first|apply BW h|apply B4 h|apply BX h|apply BY h|apply BZ h);intro k)|apply BW h|apply B4 h|apply BX h|apply BY h|apply BZ h);cases a;. exact wpAny_allTrue_Or_nil (k _ C s g (Nx.refl ..) rfl)
  . exact wpAny_allTrue_And_nil (k _ C s g (Nx.refl ..) rfl)|cons x l=>
  refine A1.O3 h ?_;clear h;intro b AA AP h;cases a
  . refine wpAny_allTrue_Or_cons (A8.t AP g _ _ λu AZ AI AN Ab Ap=>?_);clear AP;subst Ap;cases u;. exact A8.ts (a:=A6) h AN _ _ λu' As Ah AT Al BA=>k u' As Ah AT (Ab.trans Al) BA
    . (first|(revert k;(first|apply BW h|apply B4 h|apply BX h|apply BY h|apply BZ h);intro k)|apply BW h|apply B4 h|apply BX h|apply BY h|apply BZ h);exact k _ AZ AI AN Ab rfl
  . refine wpAny_allTrue_And_cons (A8.t AP g _ _ λu AZ AI AN Ab Ap=>?_);clear AP;subst Ap;cases u
    . (first|(revert k;(first|apply BW h|apply B4 h|apply BX h|apply BY h|apply BZ h);intro k)|apply BW h|apply B4 h|apply BX h|apply BY h|apply BZ h);exact k _ AZ AI AN Ab rfl
    . exact A8.ts (a:=M) h AN _ _ λu' As Ah AT Al BA=>k u' As Ah AT (Ab.trans Al) BA
theorem jz(A8:C5 B A3 n)(Lo:Lf B){x:AB}{v:AK}(h:((ev A3 n K (.e x) H).V λv H=>Zi (truthy v H.h) H)=.ok (.b v) A7)(g:Gd B F K A H C s)(he:NK x F.env (eval x F.env)=(do let v<-eval x F.env;Kb x.pos;HZ [v] (sW v))):Ae B F K A A7 C s (NK x F.env (eval x F.env)) (RB v):=by
 intro A2 E k;refine A1.Ce h ?_;clear h;intro a AA AP h;refine A1.Bw h ?_;clear h;intro b BC h;(first|(revert k;(first|apply BW h|apply B4 h|apply BX h|apply BY h|apply BZ h);intro k)|apply BW h|apply B4 h|apply BX h|apply BY h|apply BZ h);exact sY (A8.e AP g _ _ λu AZ AI AN Ab Ap=>Lo.truthy AN Ap BC _ _ λy As Ah AT Al BA=>k y As Ah AT (Ab.trans Al) BA) he
theorem wu(A8:C5 B A3 n)(Lo:Lf B){x:AB}{v:AK}(h:step A3 K (ev A3 n) (.t x) H=.ok (.b v) A7)(g:Gd B F K A H C s):Ae B F K A A7 C s (NK x F.env (eval x F.env)) (RB v):=by cases x with
 |UnaryOp op x pos=>cases op with
  |Not=>
   intro A2 E k;refine A1.O3 h ?_;clear h;intro b AA AP h;(first|(revert k;(first|apply BW h|apply B4 h|apply BX h|apply BY h|apply BZ h);intro k)|apply BW h|apply B4 h|apply BX h|apply BY h|apply BZ h);refine wpAny_isTrue_Not (A8.t AP g _ _ λu AZ AI AN Ab Ap=>?_);clear h AP;subst Ap;exact k _ AZ AI AN Ab rfl|_=>exact jz A8 Lo h g rfl
 |BoolOp op U pos=>
  intro A2 E k;refine wpAny_isTrue_BoolOp ?_;have :=A8.ts h g A2 E k;cases op<;>exact this|IfExp=>exact(Ac h).elim|Compare l CT rs pos=>cases CT with
  |nil=>exact(Ac h).elim|cons op CT=>cases CT with
  |cons _ _=>exact(Ac h).elim|nil=>cases rs with
  |nil=>exact(Ac h).elim|cons r rs=>cases rs with
  |cons _ _=>exact(Ac h).elim|nil=>
   refine A1.Bb h ?_;clear h;intro hm h;refine A1.Ce h ?_;clear h;intro a AA AP h;refine A1.Ce h ?_;clear h;intro b Bc BC h;refine A1.Bw h ?_;clear h;intro c C3 h;(first|(revert k;(first|apply BW h|apply B4 h|apply BX h|apply BY h|apply BZ h);intro k)|apply BW h|apply B4 h|apply BX h|apply BY h|apply BZ h);intro A2 E k;refine fO (A8.e AP g _ _ λu AZ AI AN Ab Ap=>A8.e BC AN _ _ λu' As Ah AT Al BA=>Lo.cmp AT (Ap.nx Al) BA C3 _ _ λy BQ Aw Ao B7 BP=>?_) (by simpa using hm);subst BP;exact NM (k _ BQ Aw Ao (Ab.trans (Al.trans B7)) rfl)
 |_=>exact jz A8 Lo h g rfl
theorem ww(A8:C5 B A3 n){t:AB}{a b:I Ar}(h:Hm K (ev A3 n) (.If t a b pos) H=.ok (.f f) A7)(g:Gd B F K A H C s):CJ B F K A A7 C s (exec (.If t a b pos) F.env) (FR f):=by
 refine A1.O3 h ?_;intro c AA AP BC;intro A2 E k;refine sZ (A8.tW AP g _ _ λu AZ AI AN Ab Ap=>?_);clear AP;subst Ap;cases u;. exact A8.ss BC AN _ _ λu As Ah AT Al BA=>k u As Ah AT (Ab.trans Al) BA
 . exact A8.ss BC AN _ _ λu As Ah AT Al BA=>k u As Ah AT (Ab.trans Al) BA
theorem wx(A8:C5 B A3 n)(h:Hm K (ev A3 n) (.Return (G e) pos) H=.ok (.f f) A7)(g:Gd B F K A H C s):CJ B F K A A7 C s (exec (.Return (G e) pos) F.env) (FR f):=by
 refine A1.Ce h ?_;clear h;intro a AA AP h;(first|(revert k;(first|apply BW h|apply B4 h|apply BX h|apply BY h|apply BZ h);intro k)|apply BW h|apply B4 h|apply BX h|apply BY h|apply BZ h);intro A2 E k;exact s_ (A8.eW AP g _ _ λu AZ AI AN Ab Ap=>k _ AZ AI AN Ab ⟨u,rfl,Ap⟩)
theorem wy(h:Hm K (ev A3 n) (.Return L pos) H=.ok (.f f) A7)(g:Gd B F K A H C s):CJ B F K A A7 C s (exec (.Return L pos) F.env) (FR f):=by
 (first|(revert k;(first|apply BW h|apply B4 h|apply BX h|apply BY h|apply BZ h);intro k)|apply BW h|apply B4 h|apply BX h|apply BY h|apply BZ h);intro A2 E k;exact wpAny_Return_none (k _ C s g (Nx.refl ..) ⟨.none,rfl,rfl⟩)
theorem wz(h:Hm K (ev A3 n) (.Pass pos) H=.ok (.f f) A7)(g:Gd B F K A H C s):CJ B F K A A7 C s (exec (.Pass pos) F.env) (FR f):=by
 (first|(revert k;(first|apply BW h|apply B4 h|apply BX h|apply BY h|apply BZ h);intro k)|apply BW h|apply B4 h|apply BX h|apply BY h|apply BZ h);exactλA2 E k=>wpAny_Pass (k _ C s g (Nx.refl ..) rfl)
theorem x7(h:Hm K (ev A3 n) (.Break pos) H=.ok (.f f) A7)(g:Gd B F K A H C s):CJ B F K A A7 C s (exec (.Break pos) F.env) (FR f):=by
 (first|(revert k;(first|apply BW h|apply B4 h|apply BX h|apply BY h|apply BZ h);intro k)|apply BW h|apply B4 h|apply BX h|apply BY h|apply BZ h);exactλA2 E k=>wpAny_Break (k _ C s g (Nx.refl ..) rfl)
theorem xB(h:Hm K (ev A3 n) (.Continue pos) H=.ok (.f f) A7)(g:Gd B F K A H C s):CJ B F K A A7 C s (exec (.Continue pos) F.env) (FR f):=by
 (first|(revert k;(first|apply BW h|apply B4 h|apply BX h|apply BY h|apply BZ h);intro k)|apply BW h|apply B4 h|apply BX h|apply BY h|apply BZ h);exactλA2 E k=>wpAny_Continue (k _ C s g (Nx.refl ..) rfl)
theorem k3(g:Gd B F K A H C s):(F.env.scope.kind==.class||(F.env.scope.kind==.module&&F.env.locals !=F.env.globals))=A6:=by rw[g.kinds.fn];rfl
theorem aC(h:Kt A3 K (ev A3 n) (.Name id pos) v H=.ok (.f f) A7)(g:Gd B F K A H C s)(r:VR s.heap C v u):CJ B F K A A7 C s (fN F.env id u) RU:=by
 intro A2 E k;refine A1.Bb (b:=G8 K.sc id) h ?_;clear h;intro ho h;(first|(revert k;apply O2 h;intro k)|apply O2 h);refine CX g.env ?_;intro m ns ce er;rcases g.kinds.own id ho with q|Av;rotate_left;refine Hg Av ?_;(try clear Av);intro q c hc hw;rotate_left
 . refine bl6 q ns (λQ hn hs=>?_) (k3 g);refine xA (g.ju (Q:=Q) (tk:=s.toks+1) q r er hn hs) ?_;intro g' x';exact k () C _ g' x' trivial
 . have hv:∃Sq,s.heap.IsCell c Sq:=ce _ (mem_of_lookup hc);refine xE hv ?_;(try clear hv);intro Sq hv;refine bl7 g.kinds.fn q hc hv (λQ hn hs=>?_);refine xA (g.jv (Q:=Q) (tk:=s.toks) q hc hw r hv hn hs) ?_;intro g' x';exact k () C _ g' x' trivial
end
theorem Vw:(GK ts env).length=ts.length:=by induction ts with
 |nil=>rfl|cons t ts ih=>cases t<;>exact congrArg Nat.succ ih
section
theorem xC(A8:C5 B A3 n)(h:step A3 K (ev A3 n) (.Kp ts vs) H=.ok (.f f) A7)(g:Gd B F K A H C s)(r:Aa s.heap C vs us):CJ B F K A A7 C s (NL ((GK ts F.env).map (·.2)) us) RU:=by
 intro A2 E k;cases ts with
 |nil=>cases vs with
  |cons _ _=>exact(Ac h).elim|nil=>
  (first|(revert k;apply O2 h;intro k)|apply O2 h);cases r;exact AW (k () C s g (Nx.refl ..) trivial)
 |cons t ts=>cases vs with
 |nil=>exact(Ac h).elim|cons v vs=>
  refine A1.Bb h ?_;clear h;intro hp h;refine A1.Ho h ?_;clear h;intro _ AA AP h;refine Bu r ?_;(try clear r);intro u us B5 r rs;subst B5;rw[aB hp];show AG _ A (do HZ us (Eu t F.env u);NL ((GK ts F.env).map (·.2)) us) A2 E s;exact A5 (C' (A8.asg AP g r _ _ λ_ AZ AI AN Ab _=>A8.Kp h AN (rs.nx Ab) _ _ λ_ As Ah AT Al _=>k () As Ah AT (Ab.trans Al) trivial))
theorem xF(A8:C5 B A3 n)(h:step A3 K (ev A3 n) (.G6 ts v) H=.ok (.f f) A7)(g:Gd B F K A H C s)(r:VR s.heap C v u):CJ B F K A A7 C s (fM u ((GK ts F.env).map (·.2))) RU:=by
 intro A2 E k;cases ts with
 |nil=>
  (first|(revert k;apply O2 h;intro k)|apply O2 h);exact AW (k () C s g (Nx.refl ..) trivial)|cons t ts=>
  refine A1.Bb h ?_;clear h;intro hp h;refine A1.Ho h ?_;clear h;intro _ AA AP h;rw[aB hp];cases ts with
 |nil=>
   show AG _ A (Eu t F.env u) A2 E s;refine A8.asg AP g r _ _ λ_ AZ AI AN Ab _=>?_;obtain rfl:=A8.we h;exact k () AZ AI AN Ab trivial|cons t' ts=>
   have e':((A6,Eu t F.env)::GK (t'::ts) F.env).map (·.2)=Eu t F.env::(GK (t'::ts) F.env).map (·.2):=rfl;rw[e'];have Cb:∃y ys,(GK (t'::ts) F.env).map (·.2)=y::ys:=by
    have :=Vw (ts:=t'::ts) (env:=F.env);cases q:GK (t'::ts) F.env with
 |nil=>rw[q]at this;(exfalso;cases this)|cons y ys=>exact⟨_,_,rfl⟩
   have step:fM u (Eu t F.env::(GK (t'::ts) F.env).map (·.2))=(do HZ [u] (Eu t F.env u);fM u ((GK (t'::ts) F.env).map (·.2))):=by
    refine D9 Cb ?_;(try clear Cb);intro y ys q;rw[q];rfl
   rw[step];exact A5 (C' (A8.asg AP g r _ _ λ_ AZ AI AN Ab _=>A8.G6 h AN (r.nx Ab) _ _ λ_ As Ah AT Al _=>k () As Ah AT (Ab.trans Al) trivial))
theorem QC(r:VR h C (.tup L U) u):∃a us,u=.ref a/\h.IsTuple a us/\Aa h C U us.toList:=by
 refine Kl r ?_;(try clear r);intro a o us n BO e _ c d v;subst BO;exact⟨a,us,rfl,⟨o,e,c,n,d⟩,v⟩
theorem Vx:∀{ts:I AB},ts.all CP=M->(GK ts env).findIdx? (·.1)=L
 |[],_=>rfl|t::ts,h=>by
  simp only[sa,D2]at h;rw[aB h.1,List.findIdx?_cons];simp[Vx h.2]
theorem xG(A8:C5 B A3 n)(h:Kt A3 K (ev A3 n) (.Tuple ts kd pos) (.tup L U) H=.ok (.f f) A7)(g:Gd B F K A H C s)(r:VR s.heap C (.tup L U) u):CJ B F K A A7 C s (Eu (.Tuple ts kd pos) F.env u) RU:=by
 refine A1.Bb h ?_;clear h;intro hl h;simp only[D2]at hl;refine xA hl ?_;(try clear hl);intro hl hp;have hl:=CC hl;refine Bu (QC r) ?_;intro a us Bo ht rs;clear r;subst Bo;intro A2 E k;have Cf:ts.length=us.size:=by rw[<-hl,rs.length];simp
 refine bl8 g.handled ht (by rw[Vw,Cf]) (Vx hp) λQ hx=>?_;have kp:∀b o,s.heap.get? b=G o->Q.get? b=G o:=λb o e=>hx b o (EO (Df e)) e;have Ab:Nx F.D F.A_ s.heap Q C C:=Nx.ext kp;exact A8.Kp h (g.ext (tk:=s.toks) kp) (rs.nx Ab) _ _ λ_ As Ah AT Al _=>k () As Ah AT (Ab.trans Al) trivial
theorem Vy{t:AB}{b:I Ar}{AV:Dq->AR->Prop}(h:AG (AQ prog w) A (NK t env (eval t env)) (λc AI=>if c then AG (AQ prog w) A (Iu b env) (λf Ah=>match f with
 |.next|.cont=>D6 (AQ prog w) A (.whileLoop t b [] env) AV Ah|.brk=>AV (.ok .next) Ah|.ret v=>AV (.ok (.ret v)) Ah) (RM (AQ prog w) A env λe s'=>AV (.error e) s') AI else AV (.ok .next) AI) (RM (AQ prog w) A env λe s'=>AV (.error e) s') s):D6 (AQ prog w) A (.whileLoop t b [] env) AV s:=by
 refine fP rfl (λ_ s'=>s'=s) (λn s' e=>?_) 0 rfl;subst e;show AG _ A ((bl9 t b [] env).onRaise (λx=>do I8 x env;fQ x)) _ _ _;refine fR ?_;simp only[bl9];refine A5 (Fd h (λc AI AP=>?_) λ_ _ Q=>Q);cases c with
 |false=>exact A5 (Fz (AW AP))|true=>
 refine A5 (Fd AP (λf Ah BC=>?_) λ_ _ Q=>Q);cases f with
 |next=>exact AW (.inr ⟨rfl,BC⟩)|cont=>exact AW (.inr ⟨rfl,BC⟩)|brk=>exact AW BC|ret v=>exact AW BC
theorem xH(A8:C5 B A3 n){t:AB}{b:I Ar}(h:step A3 K (ev A3 n) (.Kq t b) H=.ok (.f f) A7){AV:Dq->AR->Prop}(g:Gd B F K A H C s)(k:∀u AS s',Gd B F K A A7 AS s'->Nx F.D F.A_ s.heap s'.heap C AS->FR f s'.heap AS u->AV (.ok u) s'):D6 (AQ B.prog B.w) A (.whileLoop t b [] F.env) AV s:=by
 refine A1.O3 h ?_;clear h;intro c AA AP h;refine Vy (A8.tW AP g _ _ λu AZ AI AN Ab Ap=>?_);clear AP;subst Ap;cases u with
 |false=>
  (first|(revert k;(first|apply BW h|apply B4 h|apply BX h|apply BY h|apply BZ h);intro k)|apply BW h|apply B4 h|apply BX h|apply BY h|apply BZ h);exact k _ AZ AI AN Ab rfl|true=>
  refine A1.Ho h ?_;clear h;intro d Bc BC h;refine A8.ss BC AN _ _ λu As Ah AT Al BA=>?_;cases d with
 |next=>cases BA;exact A8.Kq h AT λu BQ Aw Ao B7 BP=>k u BQ Aw Ao (Ab.trans (Al.trans B7)) BP|cont=>cases BA;exact A8.Kq h AT λu BQ Aw Ao B7 BP=>k u BQ Aw Ao (Ab.trans (Al.trans B7)) BP|brk=>
   cases BA;(first|(revert k;(first|apply BW h|apply B4 h|apply BX h|apply BY h|apply BZ h);intro k)|apply BW h|apply B4 h|apply BX h|apply BY h|apply BZ h);exact k _ As Ah AT (Ab.trans Al) rfl|ret v=>
   refine AC BA ?_;(try clear BA);intro y C8 BA;subst C8;(first|(revert k;(first|apply BW h|apply B4 h|apply BX h|apply BY h|apply BZ h);intro k)|apply BW h|apply B4 h|apply BX h|apply BY h|apply BZ h);exact k _ As Ah AT (Ab.trans Al) ⟨y,rfl,BA⟩
theorem xI(A8:C5 B A3 n){t:AB}{b:I Ar}(h:Hm K (ev A3 n) (.While t b [] pos) H=.ok (.f f) A7)(g:Gd B F K A H C s):CJ B F K A A7 C s (exec (.While t b [] pos) F.env) (FR f):=λA2 E k=>sd (A8.Kq h g λu AS s' g' x' r'=>k u AS s' g' x' r')
end
theorem Nx.k5{W':I A9}(x:Nx AM A_ h Q C AS)(hw:∀b,b∈A_->b∈W'):Nx AM W' h Q C AS:=⟨x.pre,x.live,x.Bv,λb o e n m=>x.same b o e n λq=>m (hw b q)⟩
section
theorem Gd.freeOf(g:Gd B F K A H C s)(hI:s.heap.get? AD=L)(hl:∃o,Q.get? AD=G o):CM B F C Q AD where
 C:=λm=>by refine xE (g.live AD m) ?_;intro o e;rw[hI]at e;exact(BB e).elim
 w:=λm=>by refine IG (g.D4 AD m) ?_;intro _ _ o e;rw[hI]at e;exact(BB e).elim
 cells:=λc m z=>by refine H3 (g.D0 c m) ?_;intro _ o e;rw[z,hI]at e;exact(BB e).elim
 base:=by cases e:B.base.get? AD with
 |none=>rfl|some o=>have :=g.base AD o e;rw[hI]at this;exact(BB this).elim
 outs:=λm=>by refine Hg (g.DN.mem m) ?_;intro _ o e _;rw[hI]at e;exact(BB e).elim
 live:=hl
theorem CM.nx(f:CM B F C h AD)(x:Nx AM A_ h Q C AS):CM B F AS Q AD:=by
 refine xE f.live ?_;intro o e;exact⟨x.out e f.C,f.w,f.cells,f.base,f.outs,x.live AD o e⟩
theorem Gd.move(g:Gd B F K A H C s)(f:CM B F C s.heap AD)(k:Dp AD s.heap Q)(hc:∀o,s.heap.get? AD=G o->C1 o=A6):Gd B F K A H C {s with heap:=Q,toks:=tk}:=by
 have xi:Dt s.heap Q:=λb o e c=>k b o (λz=>by clear f k;subst z;rw[hc o e]at c;exact(E3 c).elim) e;have hL:AD≠F.env.locals:=λz=>f.w (z▸g.kinds.IR);refine⟨g.kinds,g.len,g.nodup,g.fresh,λa m=>?_,λa m=>?_,λc m=>?_,g.a5 f.C k xi,g.env.but hL f.cells k xi,λb o e=>?_,g.os,g.gens,g.frames,?_,λA0 m=>?_,g.mods,g.handled,g.depth,g.units⟩;. refine xE (g.live a m) ?_;intro o e;exact⟨o,k _ _ (λz=>f.C (z▸m)) e⟩
 . refine IG (g.D4 a m) ?_;intro p q o e;exact⟨p,q,o,k _ _ (λz=>f.w (z▸m)) e⟩
 . refine H3 (g.D0 c m) ?_;intro q o e;exact⟨q,o,k _ _ (f.cells c m) e⟩
 . exact k b o (λz=>by rw[z,f.base]at e;exact(BB e).elim) (g.base b o e)
 . have hf:=f.outs;have hL:=g.DN;revert hf hL;generalize F.outs=l;intro hf hL;show Q.FunFrames B.base l;induction l with
 |nil=>trivial|cons e r ih=>
   refine G2 hL ?_;(try clear hL);intro hk Av hr;refine HO Av ?_;(try clear Av);intro A0 o D1 hb ho hd;rw[RJ,D1]at hf;exact⟨hk,⟨A0,o,D1,hb,k A0 o (λz=>hf (z▸Co)) ho,hd⟩,ih (λm=>hf (Cp _ m)) hr⟩
 . refine Pe (g.Cw A0 m) ?_;intro p q o e d;exact⟨p,q,o,k _ _ (λz=>f.outs (z▸m)) e,d⟩
theorem Nx.Ez(x:Nx AM A_ Af h BE C)(k:Dp AD h Q)(hI:Af.get? AD=L):Nx AM A_ Af Q BE C:=by
 have ne:∀{b:A9}{o:Bl},Af.get? b=G o->b≠AD:=λe z=>by rw[z,hI]at e;exact(BB e).elim
 refine⟨x.pre,λb o e=>?_,λb o e c=>k b o (ne e) (x.Bv b o e c),λb o e n m=>let⟨sl,q,r⟩:=x.same b o e n m;⟨sl,k b _ (ne e) q,r⟩⟩;. refine xE (x.live b o e) ?_;intro o' e';exact⟨o',k b o' (ne e) e'⟩
theorem MM{t:AB}{it:A4}{b:I Ar}{AV:Dq->AR->Prop}(h:AG (AQ prog w) A (EP it) (λr AI=>match r with
 |none=>AV (.ok .next) AI|some v=>AG (AQ prog w) A (Xr t it v) (λ_ Vz=>AG (AQ prog w) A (Eu t env v) (λ_ Ah=>AG (AQ prog w) A (Iu b env) (λf Aw=>match f with
 |.next|.cont=>D6 (AQ prog w) A (.forLoop t it b [] env) AV Aw|.brk=>AV (.ok .next) Aw|.ret v=>AV (.ok (.ret v)) Aw) (RM (AQ prog w) A env λe s'=>AV (.error e) s') Ah) (RM (AQ prog w) A env λe s'=>AV (.error e) s') Vz) (RM (AQ prog w) A env λe s'=>AV (.error e) s') AI) (RM (AQ prog w) A env λe s'=>AV (.error e) s') s):D6 (AQ prog w) A (.forLoop t it b [] env) AV s:=by
 refine fP rfl (λ_ s'=>s'=s) (λn s' e=>?_) 0 rfl;subst e;show AG _ A ((bm0 t it b [] env).onRaise (λx=>do I8 x env;fQ x)) _ _ _;refine fR ?_;simp only[bm0];refine A5 (Eh (A5 (Xt (Fd h (λr AI AP=>?_) λ_ _ Q=>Eh Q))));cases r with
 |none=>exact AW (.inr ⟨rfl,codeAny_block (Fz AP)⟩)|some v=>
 refine A5 (Fd AP (λ_ Vz xJ=>A5 (Fd xJ (λ_ Ah BC=>A5 (Fd BC (λf Aw C3=>?_) λ_ _ Q=>Q)) λ_ _ Q=>Q)) λ_ _ Q=>Q);cases f with
 |next=>exact AW (.inr ⟨rfl,C3⟩)|cont=>exact AW (.inr ⟨rfl,C3⟩)|brk=>exact AW C3|ret v=>exact AW C3
theorem HR:∀{l:I J}{i:O},Gk l i=l[i]?
 |[],i=>by cases i<;>rfl|a::l,0=>rfl|a::l,i+1=>HR (l:=l) (i:=i)
theorem E4.nx(r:E4 h C it i AD)(x:Nx AM A_ h Q C AS)(Dh:AD∉C)(hw:AD∉A_):E4 Q AS it i AD:=by
 refine AC (id x.pre) ?_;intro J e _;cases it with
 |tup U=>
  refine HO r ?_;(try clear r);intro T us ne B5 BI v;refine CX B5 ?_;(try clear B5);intro o ho hc hd;refine Pf BI ?_;(try clear BI);intro o' IT GC n GS;refine⟨T,us,ne,⟨o,x.keep AD o ho Dh hw (λ_=>by unfold H7;rw[hd]),hc,hd⟩,⟨o',x.Bv T o' IT (by unfold C1;rw[GC,GS];rfl),GC,n,GS⟩,v.nx x⟩|H4 lo hi=>
  refine AC r ?_;(try clear r);intro l a b;exact⟨l,x.keep AD _ a Dh hw (λ_=>rfl),b⟩|lst k=>
  refine VB r ?_;(try clear r);intro a q o ho hc hd;exact⟨a,by rw[e];exact FV q,o,x.keep AD o ho Dh hw (λ_=>by unfold H7;rw[hd]),hc,hd⟩|keys k n=>
  refine VB r ?_;(try clear r);intro a q o ho hc hd;exact⟨a,by rw[e];exact FV q,o,x.keep AD o ho Dh hw (λ_=>by unfold H7;rw[hd]),hc,hd⟩|Ko s=>exact r
end
section
theorem Go(k:Dp AD h Q)(hc:∀o,h.get? AD=G o->C1 o=A6):Dt h Q:=λb o e c=>k b o (λz=>by clear k;subst z;rw[hc o e]at c;exact(E3 c).elim) e
theorem VR.Bv(r:VR h C v u)(x:Dt h Q):VR Q C v u:=by
 have :=r.mono (J:=[]) x;simpa using this
theorem Aa.Bv{v:I V}{u:I A4}(r:Aa h C v u)(x:Dt h Q):Aa Q C v u:=by
 have :=r.mono (J:=[]) x;simpa using this
theorem CM.at(f:CM B F C h AD)(l:∃o,Q.get? AD=G o):CM B F C Q AD:=⟨f.C,f.w,f.cells,f.base,f.outs,l⟩
theorem Aa.none{v:I V}{u:I A4}(r:Aa h C v u)(e:v[i]?=L):u[i]?=L:=by
 rw[fS]at e ⊢;rw[<-r.length];exact e
theorem DR.length{key:T->V}{l:I (T×A4)}(d:DR key h C N l):l.length=N.length:=DR.ind (P:=λN l=>l.length=N.length) rfl (λ_ _ _ _ _ _ _ ih=>congrArg (·+1) ih) d
theorem DR.get{key:T->V}{l:I (T×A4)}{p:V×V}(d:DR key h C N l)(q:N[i]?=G p):∃k u,l[i]?=G (k,u)/\p.1=key k/\VR h C p.2 u:=by
 revert i;refine DR.ind (P:=λN l=>∀{i},N[i]?=G p->∃k u,l[i]?=G (k,u)/\p.1=key k/\VR h C p.2 u) (λe=>(AE e).elim) (λk v u N r a _ ih i q=>?_) d;cases i with
 |zero=>exact Bq q (P:=λp=>∃k' u',G (k,u)=G (k',u')/\p.1=key k'/\VR h C p.2 u') ⟨k,u,rfl,rfl,a⟩|succ i=>exact ih q
theorem k6[DecidableEq T]{Bx:KeyKind B.prog B.w T}{key:T->V}(g:Gd B F K A H C s)(f:CM B F C s.heap AD){Ay:I (T×A4)}(ha:a≠AD)(hr:∀k u h,Bx.is k u=M->VR h C (key k) u)(hi:s.heap.IsKeyIter AD a i m m)(hm:s.heap.DictAt Bx a Ay Ay.length)(hd:DR key s.heap C N Ay)(hl:N.length=m){A2:AL A4->AR->Prop}(ks:∀x,N[i]?=G x->∀u Q tk,Gd B F K A H C {s with heap:=Q,toks:=tk}->Dp AD s.heap Q->CM B F C Q AD->Q.IsKeyIter AD a (i+1) m m->VR Q C x.1 u->A2 (G u) {s with heap:=Q,toks:=tk})(kn:N[i]?=L->∀Q tk,Gd B F K A H C {s with heap:=Q,toks:=tk}->Dp AD s.heap Q->A2 L {s with heap:=Q,toks:=tk}):AG (AQ B.prog B.w) A (EP (.ref AD)) A2 E s:=by
 have xK:Ay.length=m:=by rw[hd.length,hl]
 have hc:∀o,s.heap.get? AD=G o->C1 o=A6:=λo e=>by
  refine CX hi ?_;(try clear hi);intro o' e' c _;rw[e']at e;injection e with e;subst e;unfold C1;rw[c];rfl
 clear hl;subst xK;cases q:N[i]? with
 |some x=>
  refine Bu (hd.get q) ?_;intro k u hk e1 _;refine wpAny_pyNext_dict_item hi hm hk λkv Q xL By hs=>?_;exact ks x q kv Q s.toks (g.move f hs.extBut hc) hs.extBut (f.at (by refine AC By ?_;(try clear By);intro o e _;exact⟨o,e⟩)) By (by rw[e1];exact hr k kv Q xL)|none=>
  have :Ay[i]?=L:=by
   rw[fS]at q ⊢;rw[hd.length];exact q
  exact wpAny_pyNext_dict_end g.handled hi hm this λQ hs=>kn q Q s.toks (g.move f hs hc) hs
set_option tactic.hygienic true in
theorem K5(g:Gd B F K A H C s)(f:CM B F C s.heap AD)(r:E4 s.heap C it i AD){o:AL V}(h:J8 it i H.h=G o){A2:AL A4->AR->Prop}(ks:∀x,o=G x->∀u Q tk,Gd B F K A H C {s with heap:=Q,toks:=tk}->Dp AD s.heap Q->CM B F C Q AD->E4 Q C it (i+1) AD->VR Q C x u->A2 (G u) {s with heap:=Q,toks:=tk})(kn:o=L->∀Q tk,Gd B F K A H C {s with heap:=Q,toks:=tk}->Dp AD s.heap Q->A2 L {s with heap:=Q,toks:=tk}):AG (AQ B.prog B.w) A (EP (.ref AD)) A2 E s:=by cases it with
 |tup U=>
  injection h with h;rw[HR]at h;refine HO r ?_;(try clear r);intro T us ne hi ht v;have hc:∀o,s.heap.get? AD=G o->C1 o=A6:=λo e=>by
    refine CX hi ?_;(try clear hi);intro o' e' c _;rw[e']at e;injection e with e;subst e;unfold C1;rw[c];rfl
  cases o with
  |some x=>
    refine AC (v.get h) ?_;intro u e w;refine wpAny_pyNext_tuple_item hi ht (by simpa using e) λQ By hs=>?_;have im:=Go hs.extBut hc;exact ks x rfl u Q s.toks (g.move f hs.extBut hc) hs.extBut (f.at (by refine AC By ?_;(try clear By);intro o e _;exact⟨o,e⟩)) ⟨T,us,ne,By,ht.extBut hs.extBut ne,v.Bv im⟩ (w.Bv im)|none=>exact wpAny_pyNext_tuple_end g.handled hi ht (by have :=v.none h;simpa using this) λQ hs=>kn rfl Q s.toks (g.move f hs hc) hs
 |H4 lo hi=>
  refine AC r ?_;(try clear r);intro left hr hl;injection h with h;have hc:∀o,s.heap.get? AD=G o->C1 o=A6:=λo e=>by rw[hr]at e;injection e with e;subst e;rfl
  split at h
  . rename_i lt;clear kn;subst h;have lt':lo+(i:AX)<hi:=lt;refine wpAny_pyNext_range_item hr (by(with_reducible exact Mine.ux (by assumption) (by assumption))) λQ By hs=>?_;have e1:lo+((i+1:O):AX)=lo+(i:AX)+1:=by(with_reducible exact Mine.vD)
    exact ks _ rfl _ Q (s.toks+1) (g.move f hs.extBut hc) hs.extBut (f.at ⟨_,By⟩) ⟨left-1,e1▸By,by(with_reducible exact Mine.vC (by assumption))⟩ ⟨_,rfl⟩
  . rename_i lt;clear ks;subst h;have lt':¬lo+(i:AX)<hi:=lt;exact wpAny_pyNext_range_end g.handled hr (by(with_reducible exact Mine.vN (by assumption) (by assumption))) λQ hs=>kn rfl Q s.toks (g.move f hs hc) hs|lst k=>
  refine AC r ?_;(try clear r);intro a ha hi;refine BH h λob hx h=>?_;revert hx;apply IM h AE
  . intro U h hx;injection h with h;rw[HR]at h;refine AC (g.obj hx ha) ?_;intro us hp v;have ne:a≠AD:=λz=>f.C (z▸Es ha);have hc:∀o,s.heap.get? AD=G o->C1 o=A6:=λo e=>by
      refine CX hi ?_;(try clear hi);intro o' e' c _;rw[e']at e;injection e with e;subst e;unfold C1;rw[c];rfl
    cases o with
  |some x=>
      refine AC (v.get h) ?_;intro u e w;refine se hi hp.isList (by simpa using e) λQ By hs=>?_;exact ks x rfl u Q s.toks (g.move f hs.extBut hc) hs.extBut (f.at (by refine AC By ?_;(try clear By);intro o e _;exact⟨o,e⟩)) ⟨a,ha,By⟩ (w.Bv (Go hs.extBut hc))|none=>exact bm1 g.handled hi hp.isList (by have :=v.none h;simpa using this) λQ hs=>kn rfl Q s.toks (g.move f hs hc) hs
 |keys k m=>
  refine AC r ?_;(try clear r);intro a ha hi;refine BH h λob hx h=>?_;revert hx;apply J4 h AE
  . intro N h hx;refine Cj h AE λhl h=>?_
    . have hl:=CC hl;injection h with h;rw[HR]at h;have ne:a≠AD:=λz=>f.C (z▸Es ha);have hp:=g.obj hx ha;rcases hp with BI|BO;refine AC BI ?_;(try clear BI);intro Ay hm hd;rotate_left;refine AC BO ?_;(try clear BO);intro Ay hm hd;rotate_left
      . refine k6 (key:=GR) g f ne (λk u h hk=>?_) hi hm hd hl (λx hx u Q tk g' e' f' i' v'=>ks x.1 (by rw[<-h,hx];rfl) u Q tk g' e' f' ⟨a,ha,i'⟩ v') λhx Q tk g' e'=>kn (by rw[<-h,hx];rfl) Q tk g' e';refine xE (Value.isStrOf_shape hk) ?_;intro t Av;clear hk;subst Av;exact⟨t,by cases k;rfl⟩
      . refine k6 (key:=Sm) g f ne (λk u h hk=>?_) hi hm hd hl (λx hx u Q tk g' e' f' i' v'=>ks x.1 (by rw[<-h,hx];rfl) u Q tk g' e' f' ⟨a,ha,i'⟩ v') λhx Q tk g' e'=>kn (by rw[<-h,hx];rfl) Q tk g' e';refine xE (Value.isInt_shape hk) ?_;intro t B5;clear hk;subst B5;exact⟨t,rfl⟩|Ko s=>exact r.elim
end
section
theorem GD(h:BJ):h.get? h.objs.size=L:=by cases e:h.get? h.objs.size with
 |none=>rfl|some o=>exact absurd (Df e) (Iq _)
theorem O5(g:Gd B F K A H C s)(r:VR s.heap C v u)(h:Py v H.h=G it)(k:∀AD Q tk,Gd B F K A H C {s with heap:=Q,toks:=tk}->Nx F.D [] s.heap Q C C->s.heap.get? AD=L->CM B F C Q AD->E4 Q C it 0 AD->A2 (.ref AD) {s with heap:=Q,toks:=tk}):AG (AQ B.prog B.w) A (PK u) A2 E s:=by
 have put:∀(o:Bl),o.isFreed=A6->(∀Q,Q=s.heap.push o->E4 Q C it 0 s.heap.objs.size)->A2 (.ref s.heap.objs.size) {s with heap:=s.heap.push o}:=λo hf hr=>by
  have kp:∀b x,s.heap.get? b=G x->(s.heap.push o).get? b=G x:=λb x e=>C0 _ e;exact k _ _ s.toks (g.ext kp) (Nx.ext kp) (GD _) (g.freeOf (GD _) ⟨o,CW _ hf⟩) (hr _ rfl)
 cases v with
 |tup c U=>cases c with
  |some _=>exact(BB h).elim|none=>
    injection h with h;clear k;subst h;refine Bu (QC r) ?_;intro T us Av ht rs;clear r;subst Av;refine wpAny_pyIter_tuple ht (put _ rfl λQ e=>?_);subst e;refine⟨T,us,?_,⟨_,CW _ rfl,rfl,rfl⟩,ht.push _,rs.Bv λb x e _=>C0 _ e⟩;refine AC ht ?_;(try clear ht);intro o e _;exact EO (Df e)
 |H4 lo hi=>
  refine Cj h AE λhb h=>?_
  . injection h with h;clear k;subst h;simp only[J7,D2,PL]at hb;refine Ju r ?_;(try clear r);intro a t t' H6 B5 ha;subst B5;refine wpAny_pyIter_range ha (small_one (by omega) (by omega) (by omega) (by omega)) ?_;rw[rangeSize_one];refine put _ rfl λQ e=>?_;subst e;refine⟨if lo<hi then hi-lo else 0,?_,?_⟩
    . have :lo+((0:O):AX)=lo:=by omega
      rw[this];exact CW _ rfl
    . split<;>omega|ref i=>
  refine AC r ?_;(try clear r);intro a ha BI;subst BI;refine BH h λob hx h=>?_;revert hx;apply Jx h
  . intro U h hx;injection h with h;clear k;subst h;refine AC (g.obj hx ha) ?_;intro us hp _;refine fU hp.isList (put _ rfl λQ e=>?_);subst e;exact⟨a,ha,_,CW _ rfl,rfl,rfl⟩
  . intro h;apply J4 h AE;intro N h hx;injection h with h;clear k;subst h;have hp:=g.obj hx ha;have hd:(a==NJ)=A6:=by
      refine xE g.mods ?_;intro o e;have :=g.fresh a (Es ha);exact Li.mpr λz=>by rw[z,e]at this;(exfalso;cases this)
    rcases hp with Br|C8;refine AC Br ?_;(try clear Br);intro Ay hm GS;rotate_left;refine AC C8 ?_;(try clear C8);intro Ay hm GS;rotate_left
    . refine bm2 hd hm (put _ rfl λQ e=>?_);subst e;exact⟨a,ha,_,CW _ rfl,rfl,by rw[GS.length];rfl⟩
    . refine bm2 hd hm (put _ rfl λQ e=>?_);subst e;exact⟨a,ha,_,CW _ rfl,rfl,by rw[GS.length];rfl⟩|_=>exact(BB h).elim
theorem E4.cls(r:E4 h C it i AD):∃o nm vs,h.get? AD=G o/\o.cls=.type nm/\o.data=.fields vs/\(nm="tuple_iterator"\/nm="range_iterator"\/nm="list_iterator"\/nm="dict_keyiterator"):=by cases it with
 |tup U=>refine Bu r ?_;(try clear r);intro T us _ BO _;refine CX BO ?_;(try clear BO);intro o e c d;exact⟨o,_,_,e,c,d,.inl rfl⟩|H4 lo hi=>refine AC r ?_;(try clear r);intro l e _;exact⟨_,_,_,e,rfl,rfl,.inr (.inl rfl)⟩|lst k=>refine VB r ?_;(try clear r);intro a _ o e c d;exact⟨o,_,_,e,c,d,.inr (.inr (.inl rfl))⟩|keys k n=>refine VB r ?_;(try clear r);intro a _ o e c d;exact⟨o,_,_,e,c,d,.inr (.inr (.inr rfl))⟩|Ko s=>exact r.elim
theorem QD(r:E4 s.heap C it i AD){t:AB}{v:A4}{A2:Et->AR->Prop}(h:A2 () s):AG Au A (Xr t (.ref AD) v) A2 E s:=by
 refine J0 r.cls ?_;intro o nm vs e c d hn;have main:∀x,AG Au A (do
 let o<-load AD match o.cls,o.data with
 |.type n,.fields vs=>if(["enumerate","zip","dict_itemiterator","dict_reverseitemiterator","odict_iterator","itertools.zip_longest","itertools.pairwise"].contains n&&vs.any (·==EQ x))=M then RN "x"else pure ()|_,_=>pure ()) A2 E s:=λx=>by
  refine A5 (NN e ?_);rw[c,d];rcases hn with rfl|rfl|rfl|rfl<;>exact AW h
 cases t<;>first|exact AW h|skip
 all_goals
  cases v<;>first|exact AW h|skip
  unfold Xr;refine A5 (NN e ?_);rw[c,d];rcases hn with rfl|rfl|rfl|rfl<;>exact AW h
theorem xM(A8:C5 B A3 n){t:AB}{b:I Ar}(h:step A3 K (ev A3 n) (.loop t it i b) H=.ok (.f f) A7){AV:Dq->AR->Prop}(g:Gd B F K A H C s)(Cq:Nx F.D F.A_ Af s.heap BE C)(hI:Af.get? AD=L)(fr:CM B F C s.heap AD)(r:E4 s.heap C it i AD)(k:∀u AS s',Gd B F K A A7 AS s'->Nx F.D F.A_ Af s'.heap BE AS->FR f s'.heap AS u->AV (.ok u) s'):D6 (AQ B.prog B.w) A (.forLoop t (.ref AD) b [] F.env) AV s:=by
 refine A1.Bw h ?_;clear h;intro o AP h;refine MM (K5 g fr r AP (λx hx u Q tk AN DO Ek Ap Hp=>?_) λhx Q tk AN DO=>?_)
 . clear AP;subst hx;refine A1.Ho h ?_;clear h;intro _ Bc BC h;refine A1.Ho h ?_;clear h;intro d GU C3 h;have L3:=Cq.Ez DO hI;refine QD Ap (A8.asg BC AN Hp _ _ λ_ As Ah AT Al _=>A8.ss C3 AT _ _ λMN BQ Aw Ao B7 BP=>?_);have xx:=Al.trans B7;have EC:=Ek.nx xx;have Gp:=Ap.nx xx Ek.C Ek.w;have El:=L3.trans xx;cases d with
 |next=>cases BP;exact A8.loop h Ao El hI EC Gp k|cont=>cases BP;exact A8.loop h Ao El hI EC Gp k|brk=>
    cases BP;(first|(revert k;(first|apply BW h|apply B4 h|apply BX h|apply BY h|apply BZ h);intro k)|apply BW h|apply B4 h|apply BX h|apply BY h|apply BZ h);exact k _ BQ Aw Ao El rfl|ret v=>
    refine AC BP ?_;(try clear BP);intro y Bf BP;subst Bf;(first|(revert k;(first|apply BW h|apply B4 h|apply BX h|apply BY h|apply BZ h);intro k)|apply BW h|apply B4 h|apply BX h|apply BY h|apply BZ h);exact k _ BQ Aw Ao El ⟨y,rfl,BP⟩
 . clear AP;subst hx;(first|(revert k;(first|apply BW h|apply B4 h|apply BX h|apply BY h|apply BZ h);intro k)|apply BW h|apply B4 h|apply BX h|apply BY h|apply BZ h);exact k _ C _ AN (Cq.Ez DO hI) rfl
theorem xN(A8:C5 B A3 n){t it:AB}{b:I Ar}(he:SR it=L)(h:Hm K (ev A3 n) (.For t it b [] pos) H=.ok (.f f) A7)(g:Gd B F K A H C s):CJ B F K A A7 C s (exec (.For t it b [] pos) F.env) (FR f):=by
 refine Nf h (λx e _=>by rw[he]at e;exact(AE e).elim) λ_ h=>?_;refine A1.Bb h ?_;clear h;intro hp h;refine A1.Ce h ?_;clear h;intro v AA AP h;refine A1.Bw h ?_;clear h;intro i BC h;intro A2 E k;refine Xu (A8.eW AP g _ _ λu AZ AI AN Ab Ap=>O5 AN Ap BC λAD Q tk AT Al hI K6 Su=>A8.loop h AT Al.FW hI K6 Su λu BQ Aw Ao B7 BP=>k u BQ Aw Ao (Ab.trans B7) BP) ?_;exact QB hp
end
section
theorem Sv{t:AL AB}{l:O}(h:JC e=A6):Xv e t l env=pure A6:=by cases e<;>first|rfl|(exfalso;cases h)
theorem xO(A8:C5 B A3 n)(h:Hm K (ev A3 n) (.Expr e pos) H=.ok (.f f) A7)(g:Gd B F K A H C s):CJ B F K A A7 C s (exec (.Expr e pos) F.env) (FR f):=by
 refine A1.Bb h ?_;clear h;intro hc h;refine A1.Ce h ?_;clear h;intro v AA AP h;(first|(revert k;(first|apply BW h|apply B4 h|apply BX h|apply BY h|apply BZ h);intro k)|apply BW h|apply B4 h|apply BX h|apply BY h|apply BZ h);intro A2 E k;refine bm3 (A8.eW AP g _ _ λu AZ AI AN Ab _=>k _ AZ AI AN Ab rfl) ?_ (Sv (by simpa using hc));have :=g.kinds.fn;unfold interactive;simp[this]
theorem xP(h:Kt A3 K (ev A3 n) (.Name id pos) v H=.ok (.f f) A7)(g:Gd B F K A H C s)(r:VR s.heap C v u):CJ B F K A A7 C s (Eu (.Name id pos) F.env u) RU:=λA2 E k=>bm4 (aC h g r A2 E k)
theorem xQ(A8:C5 B A3 n)(Lo:Lf B)(h:Hm K (ev A3 n) (.AugAssign (.Name id p) op e pos) H=.ok (.f f) A7)(g:Gd B F K A H C s):CJ B F K A A7 C s (exec (.AugAssign (.Name id p) op e pos) F.env) (FR f):=by
 refine A1.Bb h ?_;clear h;intro hl h;refine A1.Bw h ?_;clear h;intro a AP h;refine A1.Ce h ?_;clear h;intro b Bc BC h;refine A1.Bw h ?_;clear h;intro v C3 h;refine H3 (A1.jy h) ?_;clear h;intro hf f' h;subst hf;intro A2 E k;exact bm5 ((jx g hl AP).Sr _ _ λu AZ AI AN Ab Ap=>A8.eW BC AN _ _ λu' As Ah AT Al BA=>(Lo.wk AT (Ap.nx Al) BA C3).Sr _ _ λy BQ Aw Ao B7 BP=>A8.wf h Ao BP _ _ λ_ IU ED C9 Cy _=>k _ IU ED C9 (Ab.trans (Al.trans (B7.trans Cy))) rfl)
theorem aD(h:MC ts e=A6):fV ts e env=pure L:=by cases ts with
 |nil=>rfl|cons t ts=>cases ts with
 |cons _ _=>cases t<;>rfl|nil=>cases t<;>first|rfl|(cases e<;>first|rfl|exact(UY h))
theorem xR(A8:C5 B A3 n)(hc:JC e=A6)(ht:MC ts e=A6)(h:((ev A3 n K (.e e) H).V λv H=>ev A3 n K (.G6 ts v) H)=.ok (.f f) A7)(g:Gd B F K A H C s):CJ B F K A A7 C s (exec (.Assign ts e pos) F.env) (FR .next):=by
 refine A1.Ce h ?_;clear h;intro v AA AP h;intro A2 E k;refine fW (A8.eW AP g _ _ λu AZ AI AN Ab Ap=>A8.G6 h AN Ap _ _ λ_ As Ah AT Al _=>k _ As Ah AT (Ab.trans Al) rfl) ?_ (aD ht);cases ts with
 |nil=>rfl|cons t ts=>cases ts with
 |nil=>exact Sv hc|cons _ _=>rfl
end
theorem W0:∀{l:I (Y×J)}{x:Y},Ai l x=l.lookup x
 |[],_=>rfl|p::l,x=>by
  obtain⟨k,v⟩:=p;simp only[Ai,PM];cases q:D7 k x with
 |true=>have :=E0.mp q;subst this;simp|false=>
  have :(x==k)=A6:=Li.mpr λz=>Kv.mp q z.symm;rw[this];exact W0
section
theorem Ns.slots{m:Y->AL A4}(x:h.Ns a m)(k:∀o,h.get? a=G o->∃sl,Q.get? a=G {o with slots:=sl}):Q.Ns a m:=by
 refine Gi x ?_;(try clear x);intro o N ep e d r;refine xE (k o e) ?_;intro sl e';exact⟨_,N,ep,e',d,r⟩
theorem Cc.Gq{env:I (Y×V)}(g:Gd B F K A H C s)(y:Cc F s.heap C env)(x:Nx F.D [] s.heap s'.heap C AS):Cc F s'.heap AS env:=by
 refine G2 (g.D4 _ g.kinds.IR) ?_;intro _ hL _;exact y.imp (λ_ ns=>Ns.slots ns λo e=>x.data _ o e hL (λm=>nomatch m)) (λn c u hm q=>AC q λo e d=>xE (x.data _ o e (g.D0 _ hm).1 (λm=>nomatch m)) λsl e'=>⟨_,e',d⟩) λ_ _ r=>r.nx x
theorem FunFrames.Gq{l:I G_}(hl:s.heap.FunFrames B.base l)(hn:∀A0∈l.filterMap (·.frame),A0∉C)(x:Nx F.D [] s.heap s'.heap C AS):s'.heap.FunFrames B.base l:=by induction l with
 |nil=>trivial|cons e r ih=>
 refine G2 hl ?_;(try clear hl);intro hk Av hr;refine HO Av ?_;(try clear Av);intro A0 o hf hb ho hd;refine xE (x.data A0 o ho (hn A0 (by simp[hf])) (by simp)) ?_;intro sl z;exact⟨hk,⟨A0,_,hf,hb,z,hd⟩,ih hr λL' m=>hn L' (by rw[RJ,hf];exact Cp _ m)⟩
theorem Fm.xS{b:A9}(hf:env.frame=G env.locals)(hb:b≠env.locals)(z:b∈Fm.D ⟨env,A_,env::F.outs⟩):b∈F.D:=by
 unfold Fm.D at z ⊢;rw[RJ,hf]at z;exact(Ci.mp z).resolve_left hb
theorem Gd.back(g:Gd B F K A H C s)(x:Nx F.D [] s.heap s'.heap C AS)(len:AS.length=A7.n)(nodup:AS.Nodup)(fresh:∀a∈AS,B.base.get? a=L)(live:∀a∈AS,∃o,s'.heap.get? a=G o)(objs:∀i o,AJ A7.h i=G o->∃a,AS[i]?=G a/\C_ B.prog B.w s'.heap AS a o)(base:B.base.StaysIn s'.heap)(os:s'.os=B.os)(gens:s'.gens=B.gens)(env:Cc F s'.heap AS A7.env):Gd B F K A A7 AS s' where
 kinds:=g.kinds;len:=len;nodup:=nodup;fresh:=fresh;live:=live;D4:=λa m=>by refine IG (g.D4 a m) ?_;intro p q o e;exact⟨p,x.out e q,x.live a o e⟩
 D0:=λc m=>by refine H3 (g.D0 c m) ?_;intro q o e;exact⟨x.out e q,x.live _ o e⟩
 objs:=objs;env:=env;base:=base;os:=os;gens:=gens;frames:=g.frames;DN:=FunFrames.Gq g.DN (λA0 m=>(g.Cw A0 m).1) x;Cw:=λA0 m=>by
  refine Pe (g.Cw A0 m) ?_;intro q r o ho hd;refine xE (x.data A0 o ho q (by simp)) ?_;intro sl z;exact⟨x.out ho q,r,_,z,hd⟩
 mods:=g.mods;handled:=g.handled;depth:=g.depth;units:=g.units
end
theorem aE:∀(names:I (Y×E1))(n:O)(Am:I (Y×A9))(x:Y)(c:A9),(x,c)∈Am->(x,c)∈Je n names Am
 |[],_,_,_,_,h=>h|(name,kind)::r,n,Am,x,c,h=>by
  unfold Je;split;. exact aE r (n+1) _ x c (Cp _ h)
  . exact aE r n _ x c h
theorem Sw:∀(names:I (Y×E1))(n:O)(Am:I (Y×A9))(x:Y),(x,.cell)∈names->∃c,(x,c)∈Je n names Am
 |(name,kind)::r,n,Am,x,h=>by
  unfold Je;rcases Ci.mp h with q|q
  . injection q with q q';subst q;subst q';skip;exact⟨n,aE r (n+1) _ _ _ Co⟩
  . split;. exact Sw r (n+1) _ x q
    . exact Sw r n _ x q
theorem aF:∀(names:I (Y×E1))(n:O)(Am:I (Y×A9)),(names.map (·.1)).Nodup->(Am.map (·.1)).Nodup->(∀x∈names.map (·.1),x∉Am.map (·.1))->((Je n names Am).map (·.1)).Nodup
 |[],_,_,_,h,_=>h|(name,kind)::r,n,Am,hn,ha,hd=>by
  unfold Je;refine xA (ER.mp hn) ?_;intro h1 h2;split
  . refine aF r (n+1) _ h2 (ER.mpr ⟨hd name Co,ha⟩) λx hx hm=>?_;rcases Ci.mp hm with q|q;. exact h1 (q▸hx)
    . exact hd x (Cp _ hx) q
  . exact aF r n _ h2 ha λx hx=>hd x (Cp _ hx)
theorem aG:∀{l:I (Y×J)}{x:Y}{c:J},(l.map (·.1)).Nodup->(x,c)∈l->l.lookup x=G c
 |(k,v)::r,x,c,hn,h=>by
  refine xA (ER.mp hn) ?_;intro h1 h2;rw[PM];rcases Ci.mp h with q|q;. injection q with q q';subst q;subst q';simp
  . have :(x==k)=A6:=Li.mpr λz=>h1 (Dz.mpr ⟨_,q,z⟩);rw[this];exact aG h2 q
theorem W1{names:I (Y×E1)}{c:A9}(hn:(names.map (·.1)).Nodup)(h:(x,c)∈Je n names []):(Je n names []).lookup x=G c:=aG (aF names n [] hn HI λ_ _ hm=>by simp at hm) h
noncomputable def BR(h:BJ)(C:I A9):I (Y×V)->I (Y×A4)->Prop
 |[],l=>l=[]|p::b,l=>∃u r,l=(p.1,u)::r/\VR h C p.2 u/\BR h C b r
theorem BR.cons{b:I (Y×V)}{r:I (Y×A4)}(a:VR h C v u)(y:BR h C b r):BR h C ((x,v)::b) ((x,u)::r):=⟨u,r,rfl,a,y⟩
theorem BR.ind{P:I (Y×V)->I (Y×A4)->Prop}(n:P [] [])(c:∀x v u b r,VR h C v u->BR h C b r->P b r->P ((x,v)::b) ((x,u)::r)){b:I (Y×V)}:∀{l:I (Y×A4)},BR h C b l->P b l:=by induction b with
 |nil=>intro l e;cases e;exact n|cons p b ih=>intro l e;refine Bu e ?_;clear e;intro u r q a y;subst q;exact c p.1 p.2 u b r a y (ih y)
theorem BR.nx(x:Nx AM A_ h Q C AS){b:I (Y×V)}{l:I (Y×A4)}(r:BR h C b l):BR Q AS b l:=BR.ind (P:=BR Q AS) rfl (λ_ _ _ _ _ a _ ih=>.cons (a.nx x) ih) r
theorem BR.keys{b:I (Y×V)}{l:I (Y×A4)}(r:BR h C b l):l.map (·.1)=b.map (·.1):=BR.ind (P:=λb l=>l.map (·.1)=b.map (·.1)) rfl (λx _ _ _ _ _ _ ih=>congrArg (x::·) ih) r
theorem k8{kd:Y->AL E1}:∀{l:I (Y×A4)}{m:Y->AL A4},x∉l.map (·.1)->RO kd l m x=m x
 |[],_,_=>rfl|(n,v)::r,m,h=>by
  unfold RO;have h1:x≠n:=λe=>h (by rw[e];simp);have h2:x∉r.map (·.1):=λe=>h (by simp only[I9];exact Cp _ e);rw[k8 h2];split;. simp[h1]
  . rfl
theorem k9{kd:Y->AL E1}:∀{l:I (Y×A4)}{m:Y->AL A4},x∉l.map (·.1)->RP kd l m x=m x
 |[],_,_=>rfl|(n,v)::r,m,h=>by
  unfold RP;have h1:x≠n:=λe=>h (by rw[e];simp);have h2:x∉r.map (·.1):=λe=>h (by simp only[I9];exact Cp _ e);rw[k9 h2];split;. rfl
  . simp[h1]
theorem BR.local{kd:Y->AL E1}(hx:kd x=G .local){b:I (Y×V)}{l:I (Y×A4)}(r:BR h C b l):∀{m:Y->AL A4}{v:V},(b.map (·.1)).Nodup->Ai b x=G v->∃u,RO kd l m x=G u/\VR h C v u:=BR.ind (P:=λb l=>∀{m:Y->AL A4}{v:V},(b.map (·.1)).Nodup->Ai b x=G v->∃u,RO kd l m x=G u/\VR h C v u) (λ_ e=>(AE e).elim) (λx' w u b r a y ih m v hn hl=>by
 have hn:=ER.mp hn;rw[Sj]at hl;refine Fi hl (λq e=>?_) λ_ e=>ih hn.2 e;clear hl;have :=E0.mp q;subst this;refine Bq e (P:=λv=>∃u',RO kd ((x',u)::r) m x'=G u'/\VR h C v u') ⟨u,?_,a⟩;unfold RO;rw[D5 hx,k8 (by rw[y.keys];exact hn.1)];exact D5 rfl) r
theorem BR.cell{kd:Y->AL E1}(hx:kd x≠G .local){b:I (Y×V)}{l:I (Y×A4)}(r:BR h C b l):∀{m:Y->AL A4}{v:V},(b.map (·.1)).Nodup->Ai b x=G v->∃u,RP kd l m x=G u/\VR h C v u:=BR.ind (P:=λb l=>∀{m:Y->AL A4}{v:V},(b.map (·.1)).Nodup->Ai b x=G v->∃u,RP kd l m x=G u/\VR h C v u) (λ_ e=>(AE e).elim) (λx' w u b r a y ih m v hn hl=>by
 have hn:=ER.mp hn;rw[Sj]at hl;refine Fi hl (λq e=>?_) λ_ e=>ih hn.2 e;clear hl;have :=E0.mp q;subst this;refine Bq e (P:=λv=>∃u',RP kd ((x',u)::r) m x'=G u'/\VR h C v u') ⟨u,?_,a⟩;unfold RP;rw[CN hx,k9 (by rw[y.keys];exact hn.1)];exact D5 rfl) r
structure FnAt(B:Bs)(a:A9)(fn:Fn)(o:Bl)(fd:Ka):Prop where
 get:B.base.get? a=G o
 data:o.data=.func fd
 sc:fd.scope=fn.sc
 body:fd.body=.stmts fn.body
 closure:fd.closure=[]co:fd.scope.isCoroutine=A6
 gen:fd.scope.isGenerator=A6
 kind:fd.scope.kind=.function
 g3:fd.globals=3b0:fd.builtins=0
 xT:Q3 fn.sc=M
 nodup:(fn.sc.names.map (·.1)).Nodup
 kC:∀x,fn.sc.names.lookup x≠G .free
 code:B.base.CodeRec fd.code fd.qualname
 lim:B.base.NoLimit
 bind:∀{args:I V}{b:I (Y×V)},J9 fn args=G b->(b.map (·.1)).Nodup/\(∀x∈b.map (·.1),fn.sc.names.lookup x=G .local\/fn.sc.names.lookup x=G .cell)/\∀{s:AR}{C:I A9}{us:I A4},B.base.StaysIn s.heap->Aa s.heap C args us->∀{Au:fH}{A:CK}{A2:I (Y×A4)->AR->Prop}{E:A4->AR->Prop},(∀K7 Q,(∀b o,s.heap.get? b=G o->Q.get? b=G o)->BR Q C b K7->A2 K7 {s with heap:=Q})->AG Au A (fX fd ⟨us,[]⟩) A2 E s
structure Ga(B:Bs)(F:Fm)(K:Kx)(A:CK)(H:St)(C:I A9)(s:AR):Prop where
 len:C.length=H.n
 nodup:C.Nodup
 fresh:∀a∈C,B.base.get? a=L
 live:∀a∈C,∃o,s.heap.get? a=G o
 objs:∀i o,AJ H.h i=G o->∃a,C[i]?=G a/\C_ B.prog B.w s.heap C a o
 base:B.base.StaysIn s.heap
 os:s.os=B.os
 gens:s.gens=B.gens
 frames:A.frames=G F.outs
 DN:s.heap.FunFrames B.base F.outs
 Cw:∀A0∈F.outs.filterMap (·.frame),A0∉C/\(A0∈F.A_->A0=F.env.locals)/\∃o,s.heap.get? A0=G o/\H7 o=M
 mods:∃o,B.base.get? NJ=G o
 handled:A.handled=L
 depth:A.depth+3*K.d<900units:A.units+10*K.d<9000
section
theorem K8(ha:h.objs.size<=a):h.get? a=L:=by cases e:h.get? a with
 |none=>rfl|some o=>exact absurd (Df e) (Uc.mpr ha)
theorem Gd.ga(g:Gd B F K A H C s):Ga B F K A H C s:=⟨g.len,g.nodup,g.fresh,g.live,g.objs,g.base,g.os,g.gens,g.frames,g.DN,g.Cw,g.mods,g.handled,g.depth,g.units⟩
theorem Ga.enter(g:Ga B F K A H C s)(hd:K.d=d+1){fn:Fn}{o:Bl}(ok:FnAt B a fn o fd){b:I (Y×V)}{K7:I (Y×A4)}(hn:(b.map (·.1)).Nodup)(hk:∀x∈b.map (·.1),fn.sc.names.lookup x=G .local\/fn.sc.names.lookup x=G .cell)(Kz:∀b o,s.heap.get? b=G o->Af.get? b=G o)(hb:BR Af C b K7)(he:env=newEnv fd.scope Af.objs.size fd.globals (Je (Af.objs.size+1) fd.scope.names []) (fd.qualname++".<locals>.") (G a) fd.code L fd.builtins)(x:InCallC {s with heap:=Af} env.locals (RO env.kindOf K7 λ_=>L) env.cells (RP env.kindOf K7 λ_=>L) AI):Gd B ⟨env,env.locals::env.cells.map (·.2),env::F.outs⟩ ⟨fn.sc,d⟩ (A.deeper env) ⟨b,H.h,H.n⟩ C AI/\(∀b o,s.heap.get? b=G o->AI.heap.get? b=G o)/\env.frame=G env.locals/\∀w∈env.locals::env.cells.map (·.2),s.heap.get? w=L:=by
 refine D9 x.toInCall.same ?_;intro AP tk Av;subst Av;have kD:∀b o,Af.get? b=G o->AP.get? b=G o:=x.toInCall.keep;have keep:∀b o,s.heap.get? b=G o->AP.get? b=G o:=λb o e=>kD b o (Kz b o e);have Sx:env.scope=fn.sc:=by rw[he];exact ok.sc
 have EG:env.cells=Je (Af.objs.size+1) fn.sc.names []:=by rw[he];show Je _ fd.scope.names []=_;rw[ok.sc]
 have hL:env.locals=Af.objs.size:=by rw[he];rfl
 have aH:∀y,env.kindOf y=fn.sc.names.lookup y:=λy=>by show env.scope.names.lookup y=_;rw[Sx]
 have D1:env.frame=G env.locals:=by rw[he];rfl
 have kE:∀c∈env.cells,env.locals<c.2:=λc m=>x.above c.1 c.2 m;have new:∀w∈env.locals::env.cells.map (·.2),s.heap.get? w=L:=λw m=>by
  have :Af.get? w=L:=by
   refine K8 ?_;rw[<-hL];rcases Ci.mp m with e|m;. exact Eg e.symm
   . refine AC (Dz.mp m) ?_;intro c hc B5;clear m;subst B5;exact Gb (kE c hc)
  cases e:s.heap.get? w with
 |none=>rfl|some o=>rw[Kz _ _ e]at this;(exfalso;cases this)
 have cl:∀c∈env.cells,∃u,AP.IsCell c.2 u:=λc m=>by
  rw[EG]at m;have :=W1 ok.nodup m;rw[<-EG]at this;exact⟨_,x.cell _ _ this⟩
 have im:Dt s.heap AP:=λb o e _=>keep b o e;have nb:∀w,s.heap.get? w=L->B.base.get? w=L:=λw hw=>by cases e:B.base.get? w with
 |none=>rfl|some o=>rw[g.base w o e]at hw;(exfalso;cases hw)
 have aI:∀w,s.heap.get? w=L->w∉C:=λw hw m=>by refine xE (g.live w m) ?_;intro o e;rw[hw]at e;exact(BB e).elim
 have xb:Nx F.D [] Af AP C C:=Nx.ext kD;have GV:=hb.nx xb;refine Gi (id x.toInCall.ns) ?_;intro oL N ep K9 xU _;refine⟨?_,keep,D1,new⟩;exact{
  kinds:={
   fn:=by rw[Sx,<-ok.sc];exact ok.kind
   sc:=ok.xT
   kd:=λy k hy=>by
     rw[W0]at hy;have e:env.kindOf y=G k:=(aH y).trans hy;revert e hy;cases k with
 |«local»=>exactλ_ e=>e|cell=>exactλhy e=>⟨e,xE (Sw fn.sc.names (Af.objs.size+1) [] y (mem_of_lookup hy)) λc hc=>⟨c,EG▸W1 ok.nodup hc,Cp _ (Dz.mpr ⟨_,EG▸hc,rfl⟩)⟩⟩|free=>exactλhy _=>absurd hy (ok.kC y)|globalImplicit=>exactλ_ e=>e|globalExplicit=>exactλ_ _=>trivial
   g3:=by rw[he];exact ok.g3
   b0:=by rw[he];exact ok.b0
   cells:=x.apart
   IR:=Co
   MH:=λc m=>PN (kE c m)}
  len:=g.len
  nodup:=g.nodup
  fresh:=g.fresh
  live:=λw m=>by refine xE (g.live w m) ?_;intro o e;exact⟨o,keep w o e⟩
  D4:=λw m=>⟨nb w (new w m),aI w (new w m),by
   rcases Ci.mp m with e|m;. rw[e];exact⟨_,K9⟩
   . refine AC (Dz.mp m) ?_;intro c hc BI;clear m;subst BI;refine EU (cl c hc) ?_;intro u o e _;exact⟨o,e⟩⟩
  D0:=λc m=>⟨aI _ (new _ (Cp _ (Dz.mpr ⟨c,m,rfl⟩))),by refine EU (cl c m) ?_;intro u o e _;exact⟨o,e⟩⟩
  objs:=λi o e=>by
   refine AC (g.objs i o e) ?_;intro a p r;have :=r.mono (J:=[]) im (keep a);exact⟨a,p,by simpa using this⟩
  env:=⟨_,x.toInCall.ns,cl,λy v l fr=>by
   rcases fr with q|q|q;. exact AC (GV.local q hn l) λu e r=>⟨u,⟨λ_=>e,λz=>So z q⟩,r⟩
   . refine AC (GV.cell (kd:=env.kindOf) (m:=λ_=>L) (λz=>So (.inl q) z) hn l) ?_;intro u e r;refine xE (Sw fn.sc.names (Af.objs.size+1) [] y (mem_of_lookup ((aH y).symm.trans q))) ?_;intro c hc;have e':=W1 ok.nodup hc;rw[<-EG]at e';exact⟨u,⟨λz=>So (.inl q) z,λ_=>⟨c,e',e▸x.cell _ _ e'⟩⟩,r⟩
   . exact absurd ((aH y).symm.trans q) (ok.kC y)⟩
  base:=λw o e=>keep w o (g.base w o e)
  os:=g.os
  gens:=g.gens
  frames:=by show A.frames.map _=_;rw[g.frames];rfl
  DN:=by
   refine bK6 (by rw[Sx,<-ok.sc,ok.kind];decide) D1 x.toInCall.ns (nb _ (new _ Co)) ?_;exact bm6 (λb o e _=>⟨o,keep b o e,rfl⟩) g.DN
  Cw:=λA0 m=>by
   show A0∉C/\(A0∈env.locals::env.cells.map (·.2)->A0=env.locals)/\_;rw[RJ,D1]at m;rcases Ci.mp m with e|m;. exact⟨e▸aI _ (new _ Co),λ_=>e,_,e▸K9,by unfold H7;rw[xU]⟩
   . refine Pe (g.Cw A0 m) ?_;intro q _ o ho hd;exact⟨q,λz=>(by rw[new A0 z]at ho;exact(BB ho).elim),o,keep _ _ ho,hd⟩
  mods:=g.mods
  handled:=g.handled
  depth:=by have :=g.depth;show A.depth+1+3*d<900;(with_reducible exact Mine.yK (by assumption) (by assumption) (by decide))
  units:=by have :=g.units;show A.units+3+10*d<9000;(with_reducible exact Mine.yK (by assumption) (by assumption) (by decide))}
theorem Ga.into(g:Ga B F K A H C s)(hd:K.d=d+1){fn:Fn}{o:Bl}(ok:FnAt B a fn o fd){b:I (Y×V)}(hb:J9 fn args=G b)(rs:Aa s.heap C args us){AV:Dq->AR->Prop}(D:∀{env:G_}{AI:AR},Gd B ⟨env,env.locals::env.cells.map (·.2),env::F.outs⟩ ⟨fn.sc,d⟩ (A.deeper env) ⟨b,H.h,H.n⟩ C AI->(∀b o,s.heap.get? b=G o->AI.heap.get? b=G o)->env.frame=G env.locals->(∀w∈env.locals::env.cells.map (·.2),s.heap.get? w=L)->D6 (AQ B.prog B.w) A (.func fn.body env) AV AI):D6 (AQ B.prog B.w) A (.call (.ref a) ⟨us,[]⟩) AV s:=by
 refine G2 (ok.bind hb) ?_;intro hn hk bd;have xV:A.depth<recursionLimit:=by have :=g.depth;exact Ip (show _<900 by(with_reducible exact Gy (Gz _ _) (by assumption))) (by decide)
 refine codeAny_call_function xV (g.base a o ok.get) ok.data ok.co ok.gen ok.body (ok.code.keeps g.base) (bd g.base rs λK7 Af Kz kF=>?_);rw[ok.closure];refine wpAny_newFunctionEnv_cells ok.kind (λx hx=>?_) λenv he AI x=>?_
 . have JH:x.1∈b.map (·.1):=by rw[<-kF.keys];exact Dz.mpr ⟨x,hx,rfl⟩
   rw[ok.sc];rcases hk x.1 JH with q|q;. exact .inl q
   . refine xE (Sw fn.sc.names (Af.objs.size+1) [] x.1 (mem_of_lookup q)) ?_;intro c hc;refine .inr ⟨q,?_⟩;show((Je (Af.objs.size+1) fn.sc.names []).lookup x.1).isSome=M;rw[W1 ok.nodup hc];rfl
 . refine M2 (g.enter hd ok hn hk Kz kF he x) ?_;intro AN keep D1 new;exact⟨ok.lim.keeps λw o e=>keep w o (g.base w o e),D AN keep D1 new⟩
theorem aJ{fn:Fn}{o:Bl}(ok:FnAt B a fn o fd){b:I (Y×V)}(hb:J9 fn args=G b)(hd:K.d=d+1)(hf:f=.next/\v=.none\/f=.ret v)(D:∀{F:Fm}{A:CK}{C:I A9}{s:AR}{C4:I G_},F.outs=F.env::C4->F.env.frame=G F.env.locals->Gd B F ⟨fn.sc,d⟩ A ⟨b,H.h,H.n⟩ C s->CJ B F ⟨fn.sc,d⟩ A AA C s (Iu fn.body F.env) (FR f))(g:Gd B F K A H C s)(rs:Aa s.heap C args us){AV:Dq->AR->Prop}(k:∀u AS s',Gd B F K A ⟨H.env,AA.h,AA.n⟩ AS s'->Nx F.D [] s.heap s'.heap C AS->VR s'.heap AS v u->AV (.ok (.ret u)) s'):D6 (AQ B.prog B.w) A (.call (.ref a) ⟨us,[]⟩) AV s:=by
 refine g.ga.into hd ok hb rs λ{env AI}AN keep D1 new=>codeAny_func (D (C4:=F.outs) rfl D1 AN _ _ λu As Ah AT Al BA=>?_);have xx:Nx F.D [] s.heap Ah.heap C As:=by
   have y:=(Nx.ext (AM:=Fm.D ⟨env,env.locals::env.cells.map (·.2),env::F.outs⟩) (A_:=[]) (C:=C) keep).k5 (W':=env.locals::env.cells.map (·.2)) (λb m=>nomatch m)|>.trans Al;exact⟨y.pre,y.live,y.Bv,λb o e m _=>AC (y.same b o e m (λz=>by rw[new b z]at e;exact(BB e).elim)) λsl q r=>⟨sl,q,λhz=>r λz=>hz (Fm.xS D1 (λw=>by rw[new b (w▸Co)]at e;exact(BB e).elim) z)⟩⟩
 have gg:Gd B F K A ⟨H.env,AA.h,AA.n⟩ As Ah:=g.back (A7:=⟨H.env,AA.h,AA.n⟩) xx AT.len AT.nodup AT.fresh AT.live AT.objs AT.base AT.os AT.gens (Cc.Gq g g.env xx);rcases hf with C8|rfl;refine xA C8 ?_;(try clear C8);intro Ck D8;subst Ck;subst D8;rotate_left;rotate_left;. exact k _ As Ah gg xx (by cases BA;rfl)
 . refine AC BA ?_;(try clear BA);intro y B5 BA;subst B5;exact k _ As Ah gg xx BA
theorem aK(A8:C5 B A3 n){fn:Fn}{o:Bl}(ok:FnAt B a fn o fd)(h:JB K (ev A3 n) fn args H=.ok (.v v) A7)(g:Gd B F K A H C s)(rs:Aa s.heap C args us){AV:Dq->AR->Prop}(k:∀u AS s',Gd B F K A A7 AS s'->Nx F.D [] s.heap s'.heap C AS->VR s'.heap AS v u->AV (.ok (.ret u)) s'):D6 (AQ B.prog B.w) A (.call (.ref a) ⟨us,[]⟩) AV s:=by
 refine A1.Bw h ?_;clear h;intro b hb h;have key:∃d f AA,K.d=d+1/\ev A3 n ⟨fn.sc,d⟩ (.ss fn.body) ⟨b,H.h,H.n⟩=.ok (.f f) AA/\(f=.next/\v=.none\/f=.ret v)/\A7=⟨H.env,AA.h,AA.n⟩:=by cases hd:K.d with
 |zero=>rw[hd]at h;exact(Ac h).elim|succ d=>
  rw[hd]at h;refine A1.Ho h ?_;clear h;intro f AA AP h;cases f with
 |ret w=>(first|(revert k;(first|apply BW h|apply B4 h|apply BX h|apply BY h|apply BZ h);intro k)|apply BW h|apply B4 h|apply BX h|apply BY h|apply BZ h);exact⟨d,_,AA,rfl,AP,.inr rfl,rfl⟩|next=>refine xA (FE h) ?_;intro q Bo;clear h k;subst Bo;injection q with q;exact⟨d,_,AA,rfl,AP,.inl ⟨rfl,q.symm⟩,rfl⟩|brk=>exact(Ac h).elim|cont=>exact(Ac h).elim
 refine J0 key ?_;(try clear key);intro d f AA hd AP hf Bf;clear h;subst Bf;exact aJ ok hb hd hf (λ_ _ g=>A8.ss AP g) g rs k
theorem kI(A8:C5 B A3 n){fn:Fn}{o:Bl}(ok:FnAt B a fn o fd)(h:JB K (ev A3 n) fn args H=.ok (.v v) A7)(g:Gd B F K A H C s)(rs:Aa s.heap C args us):Ae B F K A A7 C s (CD (.ref a) us) (RV v):=λA2 E k=>HL (aK A8 ok h g rs λu AS s' g' x' r'=>k u AS s' g' x' r')
end
noncomputable def MV:MK->Y->A4->A4->I A4->Prop
 |.str,m,u,f,first=>f=.builtin ("str."++m.toString)/\first=[u]|.lst,m,u,f,first=>f=.builtin ("list."++m.toString)/\first=[u]|.Ex,m,u,f,first=>f=.builtin ("dict."++m.toString)/\first=[u]|.fn a,_,u,f,first=>f=.ref a/\first=[u]|.tup,_,_,f,first=>f=.builtin "tuple.__new__"/\first=[]
noncomputable def CU(Au:fH)(h:BJ)(f:A4):Prop:=∃k,(k=Keeper.frame\/k=Keeper.machine\/k=Keeper.boundFrame)/\Gc Au h (keeperOf f) k
theorem CU.builtin{id:DJ}:CU Au h (.builtin id):=⟨.machine,.inr (.inl rfl),bm7 rfl⟩
theorem CU.type{id:DJ}:CU Au h (.type id):=⟨.machine,.inr (.inl rfl),bm7 rfl⟩
theorem CU.func{o:Bl}(e:h.get? a=G o)(d:o.data=.func fd):CU Au h (.ref a):=⟨.frame,.inl rfl,(Kc (part:=L) e).andThen (by rw[d];exact .now)⟩
structure Sy(B:Bs)(A3:Mine.Ctx)(n:O):Prop where
 MO:∀{K:Kx}{f:V}{args:I V}{H A7:Mine.St}{v:V},ev A3 n K (.call f args) H=.ok (.v v) A7->∀{F:Fm}{A:CK}{C:I A9}{s:AR}{fu:A4},Gd B F K A H C s->VR s.heap C f fu->CU (AQ B.prog B.w) s.heap fu
 kJ:∀{K:Kx}{kd:MK}{o:V}{m:Y}{args:I V}{H A7:Mine.St}{v:V},ev A3 n K (.H5 kd o m args) H=.ok (.v v) A7->∀{F:Fm}{A:CK}{C:I A9}{s:AR}{u fv:A4}{first:I A4},Gd B F K A H C s->MV kd m u fv first->CU (AQ B.prog B.w) s.heap fv
 H5:∀{K:Kx}{kd:MK}{o:V}{m:Y}{args:I V}{H A7:Mine.St}{v:V},ev A3 n K (.H5 kd o m args) H=.ok (.v v) A7->∀{F:Fm}{A:CK}{C:I A9}{s:AR}{u fv:A4}{first us:I A4},Gd B F K A H C s->MV kd m u fv first->VR s.heap C o u->Aa s.heap C args us->Ae B F K A A7 C s (CD fv (first++us)) (RV v)
noncomputable def kK(B:Bs)(A3:Mine.Ctx):Prop:=∀{F:Fm}{K:Kx}{A:CK}{H:Mine.St}{C:I A9}{s:AR}{v:V}{u:A4}{m:Y}{kd:MK},Gd B F K A H C s->VR s.heap C v u->Q5 A3 v m H.h=G kd->∀pl A2 E,(∀fv first s',Gd B F K A H C s'->Nx F.D [] s.heap s'.heap C C->MV kd m u fv first->A2 (fv,first) s')->AG (AQ B.prog B.w) A (Jf u m pl) A2 E s
section
theorem W2:∀{l:I AB},l.all CP=M->(F5 pos (Dy l env)).any (·.1)=A6
 |[],_=>rfl|x::l,h=>by
  rw[K4 (B' h)];exact W2 (l:=l) (Ak h)
theorem aL{f:A4}{A2:Args->AR->Prop}(h:AG Au A (Lj []) (λvs s'=>A2 ⟨vs,[]⟩ s') E s):AG Au A (evalArgs f M [] []) A2 E s:=by
 unfold evalArgs;show AG Au A (Lj []>>=_) A2 E s;refine A5 (Fd h (λvs s' Q=>?_) λ_ _ x=>x);refine A5 (AW ?_);refine C' ?_;exact A5 (AW (A5 (AW (AW Q))))
theorem kL{args:I AB}(hp:args.all CP=M)(h:∀p,Ae B F K A AA C s (Lj (F5 p (Dy args F.env))) (O1 vs))(hc:∀us AZ AI,Gd B F K A AA AZ AI->Nx F.D [] s.heap AI.heap C AZ->Aa AI.heap AZ vs us->CU (AQ B.prog B.w) AI.heap fv/\Ae B F K A A7 AZ AI (CD fv (first++us)) (RV v)):Ae B F K A A7 C s (PO pos fv first (F5 pos (Dy args F.env)) []) (RV v):=by
 intro A2 E k;refine fY (P:=λh=>CU (AQ B.prog B.w) h fv) (by rw[W2 hp];rfl) (λh x=>x) ?_;have done:∀us AZ AI,Gd B F K A AA AZ AI->Nx F.D [] s.heap AI.heap C AZ->Aa AI.heap AZ vs us->CU (AQ B.prog B.w) AI.heap fv/\AG (AQ B.prog B.w) A (CD fv (first++us)) A2 E AI:=λus AZ AI AN Ab Ap=>by
  refine xA (hc us AZ AI AN Ab Ap) ?_;intro c d;exact⟨c,d _ _ λu As Ah AT Al BA=>k u As Ah AT (Ab.trans Al) BA⟩
 cases args with
 |nil=>exact aL (h pos _ E done)|cons x l=>
  have :=h pos _ E done;rw[K4 (B' hp)]at this ⊢;exact sg this
set_option tactic.hygienic true in
theorem aM{o:AB}{a:Y}{w:Dx A4}(h:V_ o=M):attributeBase o a env w=w:=by
 cases o<;>first|rfl|skip
 rename_i f args kw pos;cases args with
 |nil=>exact(B3 h).elim|cons a l=>cases f<;>rfl
theorem xW(A8:C5 B A3 n)(Sc:Sy B A3 n)(AV:kK B A3){o:AB}{m:Y}{Fh:BG}{args:I AB}(h:Ey A3 K (ev A3 n) (.Call (.Attribute o m Fh) args [] pos) H=.ok (.v v) A7)(g:Gd B F K A H C s):Ae B F K A A7 C s (eval (.Call (.Attribute o m Fh) args [] pos) F.env) (RV v):=by
 refine A1.Bb h ?_;clear h;intro hp h;refine A1.Bb h ?_;clear h;intro hq h;simp only[D2]at hq;refine xA hq ?_;(try clear hq);intro Av xX;refine xA Av ?_;(try clear Av);intro hs hl;refine A1.Ce h ?_;clear h;intro ov AA AP h;refine A1.Bw h ?_;clear h;intro kd BC h;refine A1.L2 h ?_;clear h;intro vs Bc C3 h;intro A2 E k;rw[bm8,aM hs];refine A5 (A8.e AP g _ _ λu AZ AI AN Ab Ap=>A5 (Eh ?_));have CG:bm9 (args.length+0) (F5 pos (Dy args F.env)) (Ud pos (Ue [] F.env))=M:=by
  have e1:=W2 (pos:=pos) (env:=F.env) hp;have e2:(F5 pos (Dy args F.env)).all (λx=>!x.1)=M:=by
   rw[Bp];intro x hx;rw[Xw]at e1;have :=e1 x hx;simpa using this
  have e3:args.length<30:=by have :=xX;simp only[Fy]at this;exact Di this
  show((F5 pos (Dy args F.env)).all (λx=>!x.1)&&M&&decide (args.length+0+0<30))=M;rw[e2];simp[e3]
 show AG _ A (PP o m Fh pos F.env u (args.length+0) (F5 pos (Dy args F.env)) (Ud pos (Ue [] F.env))) A2 E AI;unfold PP;rw[CG];refine A5 (C' ?_);show AG _ A (Jf u m _) _ E AI;refine AV AN Ap BC _ _ _ λfv first Vz xY kM mv=>?_;show AG _ A (Jg M o F.env Fh pos>>=λp=>PO p fv first (F5 pos (Dy args F.env)) []) A2 E Vz;have O6:Jg M o F.env Fh pos=pure pos:=by
  unfold Jg;have :(Fh.endLine==pos.line)=M:=by simpa using hl
  rw[this];rfl
 rw[O6];refine A5 (AW ?_);exact kL (A7:=A7) hp (λp=>A8.N C3 p xY) (λus As Ah AT Al BA=>⟨Sc.kJ h AT mv,(Sc.H5 h AT mv ((Ap.nx kM).nx Al) BA)⟩) A2 E λy BQ Aw Ao B7 BP=>k y BQ Aw Ao (Ab.trans (kM.trans B7)) BP
theorem xZ(A8:C5 B A3 n)(Sc:Sy B A3 n){f:AB}{args:I AB}(hf:∀o m p,f≠.Attribute o m p)(hp:args.all CP=M)(h:((ev A3 n K (.e f) H).V λfv H=>(ev A3 n K (.N args) H).A0 λvs H=>ev A3 n K (.call fv vs) H)=.ok (.v v) A7)(g:Gd B F K A H C s):Ae B F K A A7 C s (eval (.Call f args [] pos) F.env) (RV v):=by
 refine A1.Ce h ?_;clear h;intro fv AA AP h;refine A1.L2 h ?_;clear h;intro vs Bc BC h;intro A2 E k;have e:eval (.Call f args [] pos) F.env=(do PO pos (<-eval f F.env) [] (F5 pos (Dy args F.env)) []):=by cases f<;>first|rfl|exact absurd rfl (hf _ _ _)
 rw[e];refine A5 (A8.e AP g _ _ λu AZ AI AN Ab Ap=>?_);exact kL (A7:=A7) (first:=[]) hp (λp=>A8.N BC p AN) (λus As Ah AT Al BA=>⟨Sc.MO h AT (Ap.nx Al),(A8.call h AT (Ap.nx Al) BA)⟩) A2 E λy BQ Aw Ao B7 BP=>k y BQ Aw Ao (Ab.trans B7) BP
end
noncomputable def kN(CZ:AB)(gens:I FO)(sc:BS)(pos:BG)(depth:O)(it Am:A4)(env:G_)(g':FO)(x:A4):Dx Fin:=HZ [x] (if g'.is_async !=0 then asyncIter x else PK x)>>=λVk=>runOwn (.compStart (.ListComp CZ gens sc pos) (depth+1) Vk Am env) env>>=λ_=>Kd (.compLoop (.ListComp CZ gens sc pos) depth it Am env)
noncomputable def aN(CZ:AB)(gens:I FO)(sc:BS)(pos:BG)(depth:O)(it Am:A4)(env:G_)(o:AL FO)(ok:AK):Dx Fin:=if ok then(match o with
 |some g'=>eval g'.iter env>>=λx=>Kb g'.iter.pos>>=λ_=>if g'.is_async !=0 then foldedIterable g'.iter x>>=kN CZ gens sc pos depth it Am env g' else sV g'.iter env x>>=kN CZ gens sc pos depth it Am env g'|none=>do
 (do let _<-call (.builtin "list.append") [Am,<-eval CZ env])Kd (.compLoop (.ListComp CZ gens sc pos) depth it Am env))else Kd (.compLoop (.ListComp CZ gens sc pos) depth it Am env)
theorem kO{it Am:A4}(hg:gens[depth]?=G g)(ha:g.is_async=0):Uf (.ListComp CZ gens sc pos) depth it Am env=(Kb g.iter.pos>>=λ_=>EP it>>=λr=>match r with
 |none=>pure (.done .next)|some v=>Xr g.target it v>>=λ_=>Eu g.target env v>>=λ_=>forIn g.ifs M (λc r=>if r=M then do let ok<-NK c env (eval c env);pure (G' ok)else pure (G' r))>>=aN CZ gens sc pos depth it Am env gens[depth+1]?):=by
 unfold Uf;simp only[hg,ha];rfl
section
theorem kP(A8:C5 B A3 n){l:I AB}(h:Zh (ev A3 n K) l H=.ok (.b b) A7)(g:Gd B F K A H C s):Ae B F K A A7 C s (forIn l M λc r=>if r=M then do let ok<-bn0 c F.env (eval c F.env);pure (G' ok)else pure (G' r)) (RB b):=by
 intro A2 E k;cases l with
 |nil=>
  (first|(revert k;(first|apply BW h|apply B4 h|apply BX h|apply BY h|apply BZ h);intro k)|apply BW h|apply B4 h|apply BX h|apply BY h|apply BZ h);exact wpAny_tests_nil (k _ C s g (Nx.refl ..) rfl)|cons c l=>cases l with
 |cons _ _=>exact(Ac h).elim|nil=>exact wpAny_tests_one (A8.t h g _ _ k)
theorem kQ(r:E4 s.heap C it i AD)(h:A2 (.ref AD) s):AG (AQ B.prog B.w) A (PK (.ref AD)) A2 E s:=by cases it with
 |tup U=>refine Bu r ?_;(try clear r);intro T us _ hi _;exact wpAny_pyIter_tupleiter hi h|H4 lo hi=>refine AC r ?_;(try clear r);intro l hi _;exact wpAny_pyIter_rangeiter hi h|lst k=>refine AC r ?_;(try clear r);intro a _ hi;exact wpAny_pyIter_listiter hi h|keys k n=>refine AC r ?_;(try clear r);intro a _ hi;exact wpAny_pyIter_keyiter hi h|Ko s=>exact r.elim
theorem kR{Am:A4}{AV:Dq->AR->Prop}(hg:gens[depth]?=G g)(ha:g.is_async=0)(r:E4 s.heap C it i AD)(h:D6 (AQ B.prog B.w) A (.compLoop (.ListComp CZ gens sc pos) depth (.ref AD) Am env) AV s):D6 (AQ B.prog B.w) A (.compStart (.ListComp CZ gens sc pos) depth (.ref AD) Am env) AV s:=by
 refine RQ ?_;show AG _ A ((fZ (.ListComp CZ gens sc pos) depth (.ref AD) Am env).onRaise (λx=>do I8 x env;Kb bn1)) _ _ s;refine bn2 ?_;unfold fZ;have e:(clausesOf (.ListComp CZ gens sc pos))[depth]?=G g:=hg;simp only[e,bn3,ha,Xx,Jh,Ji];refine A5 (RS (f_ ?_));split;. exact AW (Ug rfl h)
 . exact A5 (Ge (A5 (Eh (A5 (kQ r (AW (Ug rfl h)))))))
noncomputable def Gr(B:Bs)(F:Fm)(C:I A9)(h:BJ)(D:A9)(Am:I V):Prop:=CM B F C h D/\∃us,h.PlainList D us/\Aa h C Am us.toList
theorem Gr.nx(f:Gr B F C h D Am)(x:Nx AM A_ h Q C AS)(hw:D∉A_):Gr B F AS Q D Am:=by
 refine Hg f ?_;(try clear f);intro fr us B5 v;refine xE B5 ?_;(try clear B5);intro n e;exact⟨fr.nx x,us,⟨n,x.keep D _ e fr.C hw (λ_=>rfl)⟩,v.nx x⟩
theorem Gr.but(f:Gr B F C h D Am)(k:Dp AD h Q)(im:Dt h Q)(ne:D≠AD):Gr B F C Q D Am:=by
 refine Hg f ?_;(try clear f);intro fr us BI v;refine xE BI ?_;(try clear BI);intro n e;exact⟨fr.at ⟨_,k D _ ne e⟩,us,⟨n,k D _ ne e⟩,v.Bv im⟩
structure O7(B:Bs)(A3:Mine.Ctx)(n:O):Prop where G7:∀{K:Kx}{CZ:AB}{g:FO}{gens:I FO}{it:It}{i:O}{Am l:I V}{H A7:Mine.St},ev A3 n K (.G7 CZ g gens it i Am) H=.ok (.vs l) A7->∀{GW:I FO}{sc:BS}{pos:BG}{depth:O},GW.drop depth=g::gens->g.is_async=0->∀{F:Fm}{A:CK}{C BE:I A9}{s:AR}{Af:BJ}{AD D:A9}{AV:Dq->AR->Prop},Gd B F K A H C s->Nx F.D (D::F.A_) Af s.heap BE C->Af.get? AD=L->CM B F C s.heap AD->E4 s.heap C it i AD->Gr B F C s.heap D Am->D≠AD->(∀AS s',Gd B F K A A7 AS s'->Nx F.D (D::F.A_) Af s'.heap BE AS->Gr B F AS s'.heap D l->AV (.ok .next) s')->D6 (AQ B.prog B.w) A (.compLoop (.ListComp CZ GW sc pos) depth (.ref AD) (.ref D) F.env) AV s
set_option tactic.hygienic true in
theorem QE(h:MA g=M):CP g.iter=M/\g.is_async=0:=by
 unfold MA at h;simp only[D2]at h;refine⟨h.1,?_⟩;have :=h.2;split at this;. rename_i e;exact e
 . exact(E3 this).elim
theorem x_(x:Nx AM A_ h Q C AS):Nx AM (D::A_) h Q C AS:=x.k5 λ_ m=>Cp _ m
theorem xa(A8:C5 B A3 n)(SL:O7 B A3 n){l:I V}(h:step A3 K (ev A3 n) (.G7 CZ g gens it i Am) H=.ok (.vs l) A7){GW:I FO}(hd:GW.drop depth=g::gens)(ha:g.is_async=0){AV:Dq->AR->Prop}(Bj:Gd B F K A H C s)(Cq:Nx F.D (D::F.A_) Af s.heap BE C)(hI:Af.get? AD=L)(fr:CM B F C s.heap AD)(r:E4 s.heap C it i AD)(ac:Gr B F C s.heap D Am)(ne:D≠AD)(k:∀AS s',Gd B F K A A7 AS s'->Nx F.D (D::F.A_) Af s'.heap BE AS->Gr B F AS s'.heap D l->AV (.ok .next) s'):D6 (AQ B.prog B.w) A (.compLoop (.ListComp CZ GW sc pos) depth (.ref AD) (.ref D) F.env) AV s:=by
 have hg:GW[depth]?=G g:=by have :=congrArg (·[0]?) hd;simpa using this
 have kS:GW[depth+1]?=gens[0]?:=by have :=congrArg (·[1]?) hd;simpa using this
 have xc:GW.drop (depth+1)=gens:=by have :=congrArg (bn4 1) hd;simpa[bn5]using this
 refine A1.Bw h ?_;clear h;intro o AP h;refine fP rfl (λ_ s'=>s'=s) (λn s' e=>?_) 0 rfl;subst e;show AG _ A ((Uf (.ListComp CZ GW sc pos) depth (.ref AD) (.ref D) F.env).onRaise (λx=>do I8 x F.env;fQ x)) _ _ _;refine fR ?_;cases o with
 |none=>
  (first|(revert k;(first|apply BW h|apply B4 h|apply BX h|apply BY h|apply BZ h);intro k)|apply BW h|apply B4 h|apply BX h|apply BY h|apply BZ h);have fin:∀Q tk,Gd B F K A H C {s' with heap:=Q,toks:=tk}->Dp AD s'.heap Q->AV (.ok .next) {s' with heap:=Q,toks:=tk}:=λQ tk AN DO=>by
   have hc:∀o,s'.heap.get? AD=G o->C1 o=A6:=λo e=>by
    refine J0 r.cls ?_;intro o' nm vs e' c d hn;rw[e']at e;injection e with e;subst e;unfold C1;rw[c];rcases hn with rfl|rfl|rfl|rfl<;>rfl
   exact k C _ AN (Cq.Ez DO hI) (ac.but DO (Go DO hc) ne)
  rw[kO hg ha];exact A5 (Eh (A5 (K5 Bj fr r AP (λx hx=>by exact(BB hx).elim) λ_ Q tk AN DO=>AW (fin Q tk AN DO))))|some x=>
  refine A1.Bb h ?_;clear h;intro hf h;simp only[D2]at hf;refine xA hf ?_;(try clear hf);intro hf xd;refine A1.Ho h ?_;clear h;intro _ Bc BC h;refine A1.O3 h ?_;clear h;intro b GU C3 h;have hc:∀o,s'.heap.get? AD=G o->C1 o=A6:=λo e=>by
   refine J0 r.cls ?_;intro o' nm vs e' c d hn;rw[e']at e;injection e with e;subst e;unfold C1;rw[c];rcases hn with rfl|rfl|rfl|rfl<;>rfl
  have kT:AD∉D::F.A_:=λm=>by
   rcases Ci.mp m with e|e;. exact ne e.symm
   . exact fr.w e
  rw[kO hg ha];refine A5 (Eh (A5 (K5 Bj fr r AP (λy hy u Q tk AN DO Ek Ap Hp=>?_) λhx=>by(exfalso;cases hx))));injection hy with hy;subst hy;refine A5 (QD Ap (A5 (A8.asg BC AN Hp _ _ λ_ As Ah AT Al _=>?_)));refine A5 (kP A8 C3 AT _ _ λMN BQ Aw Ao B7 BP=>?_);clear C3;subst BP;have xx:=Al.trans B7.FW;have El:=(Cq.Ez DO hI).trans (x_ xx);have EC:=Ek.nx xx;have BP:=Ap.nx xx Ek.C Ek.w;have W3:=(ac.but DO (Go DO hc) ne).nx xx (ac.but DO (Go DO hc) ne).1.w;cases MN with
 |false=>exact AW (.inr ⟨rfl,SL.G7 h hd ha Ao El hI EC BP W3 ne k⟩)|true=>cases gens with
 |nil=>
    rw[show GW[depth+1]?=L from kS,show aN CZ GW sc pos depth (.ref AD) (.ref D) F.env L M=_ from D5 rfl];refine A1.Ce h ?_;clear h;intro v kU FF h;refine A5 (A5 (A8.e FF Ao _ _ λu IU ED C9 Cy JI=>?_));have kV:=W3.nx Cy (by simp);have L4:=EC.nx Cy;have HS:=BP.nx Cy EC.C (by simp);refine Hg kV ?_;(try clear kV);intro fD us hp vr;have Ea:us.size<=F6:=by
     have e1:=vr.length;have e2:Am.length<=100000:=Di hf;simp at e1;exact B2 (show _<=100000 by(with_reducible exact Mine.yS (by assumption) (by assumption))) (by decide)
    refine A5 (wpAny_list_append_plain hp (λQ FG Dd=>AW (AW ?_)) Ea);have Sz:∀o,ED.heap.get? D=G o->C1 o=A6:=λo e=>by refine xE hp ?_;(try clear hp);intro m e';rw[e']at e;injection e with e;subst e;rfl
    have im:=Go Dd.extBut Sz;have Cn:=C9.move (Q:=Q) (tk:=ED.toks) fD Dd.extBut Sz;have xD:Nx F.D (D::F.A_) ED.heap Q IU IU:=Nx.but (.inr Co) Dd.extBut Sz (by refine xE FG ?_;(try clear FG);intro m e;exact⟨_,e⟩);have xe:=(El.trans Cy.FW).trans xD;refine .inr ⟨rfl,SL.G7 h hd ha Cn xe hI (L4.nx xD) (HS.nx xD L4.C kT) ⟨fD.nx xD,_,FG,?_⟩ ne k⟩;have :=(vr.Bv im).app (v':=[v]) (u':=[u]) ⟨u,[],rfl,JI.Bv im,rfl⟩;simpa using this|cons g' ji=>
    refine xA (QE xd) ?_;intro FG Fj;refine A1.Ce h ?_;clear h;intro w kU FF h;refine A1.Bw h ?_;clear h;intro Vk MP h;refine A1.L2 h ?_;clear h;intro IV bH5 T1 h;have hl:GW[depth+1]?=G g':=by rw[kS];rfl
    rw[hl];rw[show aN CZ GW sc pos depth (.ref AD) (.ref D) F.env (G g') M=_ from D5 rfl];have na:¬(g'.is_async !=0)=M:=by rw[Fj];exact NO
    refine A5 (A8.e FF Ao _ _ λu IU ED C9 Cy JI=>A5 (Eh (PQ (λz=>absurd z na) λ_=>A5 (NP (QB FG u) (A5 (C' (PQ (λz=>absurd z na) λ_=>O5 C9 JI MP λI' Q tk Cn EH W4 W5 W6=>?_)))))));have xf:=(W3.nx Cy (by simp)).nx EH (by simp);have MQ:D≠I':=λz=>by refine xE ((W3.nx Cy (by simp)).1.live) ?_;intro o e;rw[z,W4]at e;exact(BB e).elim
    refine A5 (Xt (wpAny_run (kR (A:=A) hl Fj W6 (SL.G7 T1 (GW:=GW) (depth:=depth+1) xc Fj (Af:=ED.heap) (BE:=IU) Cn (EH.FW) W4 W5 W6 xf MQ λW7 T3 GX GF xg=>?_))));have L4:=EC.nx Cy;have HS:=BP.nx Cy EC.C (by simp);exact AW (.inr ⟨rfl,SL.G7 h hd ha GX ((El.trans Cy.FW).trans GF) hI (L4.nx GF) (HS.nx GF L4.C kT) xg ne k⟩)
end
set_option tactic.hygienic true in
theorem aO:∀{l:I (Y×J)},SV l=M->(l.map (·.1)).Nodup
 |[],_=>HI|p::l,h=>by
  unfold SV at h;split at h
  . rename_i e;refine ER.mpr ⟨λm=>?_,aO h⟩;refine AC (Dz.mp m) ?_;intro q hq e';rw[W0]at e;have :∀{r:I (Y×J)},q∈r->r.lookup p.1≠L:=λ{r}hr=>by induction r with
 |nil=>(exfalso;cases hr)|cons a r ih=>
     obtain⟨k,v⟩:=a;rw[PM];cases hb:p.1==k with
 |true=>simp|false=>
     rcases Ci.mp hr with z|z;. rw[z]at e';simp only at e';rw[e']at hb;simp at hb
     . exact ih z
    exact this hq e
  . exact(E3 h).elim
noncomputable def Em(env:G_):I (Y×E1)->I (Y×A9)->I (Y×A9)
 |[],Am=>Am|(x,k)::r,Am=>if k==.free then Em env r ((x,(env.cells.lookup x).getD 0)::Am)else Em env r Am
theorem aP:∀(names:I (Y×E1))(Am:I (Y×A9)),(∀x,(x,GL)∈names->∃c,env.cells.lookup x=G c)->(forIn names Am λ(x:Y×E1)(cs:I (Y×A9))=>(if(x.2==.free)=M then(do let c<-Uh env x.1;pure (G' ((x.1,c)::cs)))else pure (G' cs):Dx (sh (I (Y×A9)))))=pure (Em env names Am)
 |[],Am,_=>by simp[Em]|(x,k)::r,Am,h=>by
  have hr:=λy(m:(y,GL)∈r)=>h y (Cp _ m);rw[RT];unfold Em;by_cases q:k=.free
  . subst q;refine xE (h x Co) ?_;intro c e;have e1:Uh env x=pure c:=by unfold Uh;rw[e]
    simp only[fa,Jj,e1,e,Option.getD_some];exact aP r _ hr
  . have q':(k==GL)=A6:=by simpa using q
    simp only[q',Jh,Ji];exact aP r _ hr
theorem W8(h:∀x,(x,GL)∈sc.names->∃c,env.cells.lookup x=G c):closureFor sc env=pure (Em env sc.names []):=by
 have :=aP sc.names [] h;unfold closureFor;show(forIn sc.names [] (λ(x:Y×E1)(cs:I (Y×A9))=>match x with|(name,kind)=>if(kind==GL)=M then(do let c<-Uh env name;pure (G' ((name,c)::cs)))else pure (G' cs))>>=λcs=>pure cs)=_;have e:(λ(x:Y×E1)(cs:I (Y×A9))=>(match x with|(name,kind)=>if(kind==.free)=M then(do let c<-Uh env name;pure (G' ((name,c)::cs)))else pure (G' cs):Dx (sh (I (Y×A9)))))=λx cs=>if(x.2==.free)=M then(do let c<-Uh env x.1;pure (G' ((x.1,c)::cs)))else pure (G' cs):=by funext x cs;obtain⟨n,k⟩:=x;rfl
 rw[e,this];rfl
set_option tactic.hygienic true in
theorem QF:∀{names:I (Y×E1)}{Am:I (Y×A9)}{x:Y}{c:A9},(∀x,(x,GL)∈names->∃c,env.cells.lookup x=G c)->(x,c)∈Em env names Am->(x,c)∈Am\/env.cells.lookup x=G c
 |[],_,_,_,_,h=>.inl h|(y,k)::r,Am,x,c,hh,h=>by
  have hr:=λy(m:(y,GL)∈r)=>hh y (Cp _ m);unfold Em at h;split at h
  . rename_i q;have q:k=.free:=by simpa using q
    subst q;rcases QF hr h with z|z
    . rcases Ci.mp z with e|e
      . injection e with e1 e2;subst e1;subst e2;refine xE (hh x Co) ?_;intro c e;rw[e];exact .inr rfl
      . exact .inl e
    . exact .inr z
  . exact QF hr h
theorem aQ:∀{names:I (Y×E1)}{Am:I (Y×A9)}{p:Y×A9},p∈Am->p∈Em env names Am
 |[],_,_,h=>h|(y,k)::r,Am,p,h=>by
  unfold Em;split;. exact aQ (Cp _ h)
  . exact aQ h
theorem aR:∀{names:I (Y×E1)}{Am:I (Y×A9)}{x:Y},(x,GL)∈names->∃c,(x,c)∈Em env names Am
 |(y,k)::r,Am,x,h=>by
  unfold Em;rcases Ci.mp h with e|e
  . injection e with e1 e2;subst e1;subst e2;skip;exact⟨_,aQ Co⟩
  . split;. exact aR e
    . exact aR e
theorem aS:∀{names:I (Y×E1)}{Am:I (Y×A9)},(names.map (·.1)).Nodup->(Am.map (·.1)).Nodup->(∀x∈names.map (·.1),x∉Am.map (·.1))->((Em env names Am).map (·.1)).Nodup
 |[],_,_,h,_=>h|(y,k)::r,Am,hn,ha,hd=>by
  refine xA (ER.mp hn) ?_;intro h1 h2;unfold Em;split
  . refine aS h2 (ER.mpr ⟨hd y Co,ha⟩) λx hx hm=>?_;rcases Ci.mp hm with q|q;. exact h1 (q▸hx)
    . exact hd x (Cp _ hx) q
  . exact aS h2 ha λx hx=>hd x (Cp _ hx)
theorem kW:∀{l:I (Y×J)}{x:Y}{c:J},(x,c)∈l->∃c',l.lookup x=G c'
 |(k,v)::r,x,c,h=>by
  rw[PM];cases hb:x==k with
 |true=>exact⟨v,rfl⟩|false=>
  rcases Ci.mp h with q|q;. injection q with q _;subst q;simp at hb
  . exact kW q
theorem aT{env:G_}{x:Y}:∀{names:I (Y×E1)},(names.map λ(n,k)=>if(k==GL&&env.scope.kind==.function&&env.kindOf n==G .cell)then(n,bn6)else(n,k)).lookup x=match names.lookup x with
  |none=>L|some k=>G (if(k==GL&&env.scope.kind==.function&&env.kindOf x==G .cell)then .cell else k)
 |[]=>rfl|(n,k)::r=>by
  have ih:=aT (env:=env) (x:=x) (names:=r);skip;show fb x ((if(k==GL&&env.scope.kind==.function&&env.kindOf n==G .cell)=M then(n,bn6)else(n,k))::_)=_;by_cases hx:x=n
  . subst hx;by_cases hc:(k==GL&&env.scope.kind==.function&&env.kindOf x==G .cell)=M;. rw[D5 hc];simp[PM,hc]
    . rw[CN hc];simp[PM,hc]
  . have JH:(x==n)=A6:=by simpa using hx
    by_cases hc:(k==GL&&env.scope.kind==.function&&env.kindOf n==G .cell)=M;. rw[D5 hc];simp only[PM,JH];exact ih
    . rw[CN hc];simp only[PM,JH];exact ih
section
theorem Gd.leave(AN:Gd B F K A H AZ AI){A0:A9}(hW:F'.A_=[A0])(g':Gd B F' K' A' A7 AS s')(T4:AI.heap.get? A0=L)(T5:AI.heap.get? D=L)(x:Nx F.D (D::F'.A_) AI.heap s'.heap AZ AS)(fD:CM B F' AS s'.heap D)(hs:E2 A0 s'.heap Q)(Hr:∀o,s'.heap.get? A0=G o->C1 o=A6)(ho:C_ B.prog B.w Q (AS++[D]) D o):Gd B F K A (Mine.St.new ⟨H.env,A7.h,A7.n⟩ o).2 (AS++[D]) {s' with heap:=Q}/\Nx F.D [] AI.heap Q AZ (AS++[D]):=by
 refine G2 (g'.D4 A0 (by rw[hW];simp)) ?_;intro QG O8 _;have KA:D≠A0:=λz=>fD.w (by rw[hW,z];simp);have k:Dp A0 s'.heap Q:=hs.extBut;have im:=Go k Hr;have ne:∀{b:A9}{o:Bl},AI.heap.get? b=G o->b≠A0/\b≠D:=λe=>⟨λz=>by(rw[z,T4]at e;exact(BB e).elim),λz=>by(rw[z,T5]at e;exact(BB e).elim)⟩;have nW:∀{b:A9}{o:Bl},AI.heap.get? b=G o->b∉D::F'.A_:=λe m=>by
   rw[hW]at m;rcases Ci.mp m with z|z;. exact(ne e).2 z
   . exact(ne e).1 (CH.mp z)
 have xx:Nx F.D [] AI.heap Q AZ (AS++[D]):=by
   refine AC x.pre ?_;intro J e hb;refine⟨⟨J++[D],by rw[e,Ua],λb m=>?_⟩,λb o q=>?_,λb o q c=>k b o (ne q).1 (x.Bv b o q c),λb o q m _=>let⟨sl,z,r⟩:=x.same b o q m (nW q);⟨sl,k b _ (ne q).1 z,r⟩⟩
   . rcases Do.mp m with m|m;. exact hb b m
     . rw[CH.mp m];exact T5
   . refine xE (x.live b o q) ?_;intro o' q';exact⟨o',k b o' (ne q).1 q'⟩
 refine xE fD.live ?_;intro oD eD;refine⟨AN.back (s':={s' with heap:=Q}) (A7:=(Mine.St.new ⟨H.env,A7.h,A7.n⟩ o).2) xx (by simp[Mine.St.new,g'.len]) ?_ ?_ ?_ ?_ (λb p e=>k b p (λz=>by rw[z,QG]at e;exact(BB e).elim) (g'.base b p e)) g'.os g'.gens (Cc.Gq AN AN.env xx),xx⟩
 . refine I7.mpr ⟨g'.nodup,by simp,λa ha b hb e=>?_⟩;rw[CH.mp hb]at e;exact fD.C (e▸ha)
 . intro a m;rcases Do.mp m with m|m;. exact g'.fresh a m
   . rw[CH.mp m];exact fD.base
 . intro a m;rcases Do.mp m with m|m;. refine xE (g'.live a m) ?_;intro p e;exact⟨p,k a p (λz=>O8 (z▸m)) e⟩
   . rw[CH.mp m];exact⟨oD,k D oD KA eD⟩
 . intro i p e;simp only[Mine.St.new,AJ]at e;cases q:B8 A7.n i with
 |true=>
     rw[q]at e;injection e with e;subst e;have :=CC q;exact⟨D,by rw[<-this,<-g'.len];simp,ho⟩|false=>
     rw[q]at e;refine AC (g'.objs i p e) ?_;intro b q r;exact⟨b,FV q,r.mono im λy=>k b y λz=>O8 (z▸Es q)⟩
theorem G9.comp(kd:G9 K F){env:I (Y×V)}(hs:Kr K.sc sc env=M){A0:A9}{CS:G_}(he:CS={scope:=si sc F.env,locals:=A0,globals:=F.env.globals,cells:=Em F.env sc.names [],qual:=F.env.qual,func:=L,code:=F.env.code,frame:=F.env.frame,builtins:=F.env.builtins})(hL:∀c∈F.env.cells,c.2≠A0):G9 ⟨sc,K.d⟩ ⟨CS,[A0],F.outs⟩/\sc.kind=.function/\(∀x∈sc.names,x.2≠.cell)/\(∀x,(x,GL)∈sc.names->∃c,F.env.cells.lookup x=G c)/\(∀x∈sc.names,x.2=.local->sc.names.lookup x.1=G .local)/\(∀x,sc.names.lookup x=G .local->Ai env x=L)/\(∀x,sc.names.lookup x=G .free->(F.env.kindOf x=G .cell\/F.env.kindOf x=G .free)/\∃c,F.env.cells.lookup x=G c/\(Em F.env sc.names []).lookup x=G c):=by
 unfold Kr at hs;simp only[D2]at hs;refine xA hs ?_;(try clear hs);intro Av O9;refine xA Av ?_;(try clear Av);intro GB QH;obtain⟨hk,L5⟩:=GB;have hk:sc.kind=.function:=by
   revert hk;cases sc.kind<;>intro hk<;>first|rfl|exact(E3 hk).elim
 have QH:=aO QH;have all:∀x k,(x,k)∈sc.names->(k=.local/\Ai env x=L)\/(k=.free/\Zg K.sc x=M)\/k=.globalImplicit:=λx k m=>by
   have :=(Bp.mp O9) _ m;cases k<;>simp only at this;all_goals first|(first|exact(E3 this).elim|cases this)|skip
   . left;refine⟨rfl,?_⟩;split at this<;>first|assumption|exact(E3 this).elim
   . right;left;exact⟨rfl,this⟩
   . right;right;rfl
 have free:∀x,(x,GL)∈sc.names->(F.env.kindOf x=G .cell\/F.env.kindOf x=G .free)/\∃c,F.env.cells.lookup x=G c:=λx m=>by
   rcases all x _ m with B5|BI|q;refine xA B5 ?_;(try clear B5);intro q _;rotate_left;refine xA BI ?_;(try clear BI);intro _ q;rotate_left;rotate_left;. (exfalso;cases q)
   . exact kd.cf x q
   . (exfalso;cases q)
 have D1:∀x,(x,GL)∈sc.names->∃c,F.env.cells.lookup x=G c:=λx m=>(free x m).2;have cl:∀x c,(x,c)∈Em F.env sc.names []->F.env.cells.lookup x=G c:=λx c m=>by
   rcases QF D1 m with z|z;. simp at z
   . exact z
 have kX:∀x,(x,GL)∈sc.names->∃c,F.env.cells.lookup x=G c/\(Em F.env sc.names []).lookup x=G c:=λx m=>by
   refine xE (aR (env:=F.env) (Am:=[]) m) ?_;intro c hc;refine xE (kW hc) ?_;intro c' GC;exact⟨c',cl x c' (mem_of_lookup GC),GC⟩
 have kdOf:∀x,CS.kindOf x=match sc.names.lookup x with
 |none=>L|some k=>G (if(k==GL&&F.env.scope.kind==.function&&F.env.kindOf x==G .cell)then .cell else k):=λx=>by rw[he];exact aT
 refine⟨{
   fn:=by rw[he];exact hk
   sc:=L5
   kd:=λx k hx=>?_
   g3:=by rw[he];exact kd.g3
   b0:=by rw[he];exact kd.b0
   cells:=?_
   IR:=by rw[he];simp
   MH:=λc m=>by rw[he]at m ⊢;exact hL _ (mem_of_lookup (cl c.1 c.2 m))},hk,λx m z=>?_,D1,λx m z=>?_,λx hx=>?_,λx hx=>⟨(free x (mem_of_lookup hx)).1,kX x (mem_of_lookup hx)⟩⟩
 . rw[W0]at hx;have e:=kdOf x;rw[hx]at e;refine(all x k (mem_of_lookup hx)).elim (λz=>?_) λz=>z.elim (λz=>?_) λz=>?_;. rw[z.1]at e ⊢;exact e
   . rw[z.1]at e hx ⊢;refine AC (kX x (mem_of_lookup hx)) ?_;intro c _ hc;refine⟨?_,c,by rw[he];exact hc⟩;dsimp only at e;split at e;. exact .inl e
     . exact .inr e
   . rw[z]at e ⊢;exact e
 . rw[he];show(Em F.env sc.names []).Pairwise λx y=>x.2≠y.2;have KC:=aS (env:=F.env) (Am:=[]) QH HI λ_ _ m=>by simp at m
   have hp:(Em F.env sc.names []).Pairwise λx y=>x.1≠y.1:=fc.mp KC;refine bK7 (λ{a b}ha hb GY z=>?_) hp;exact GY (name_of_addr kd.cells (mem_of_lookup (cl a.1 a.2 ha)) (by rw[z];exact mem_of_lookup (cl b.1 b.2 hb)))
 . obtain⟨y,k⟩:=x;simp only at z;subst z;(rcases all y _ m with D8|DV|q;refine xA D8 ?_;(try clear D8);intro q _;rotate_left;refine xA DV ?_;(try clear DV);intro q _;rotate_left;rotate_left)<;>(exfalso;cases q)
 . obtain⟨y,k⟩:=x;simp only at z ⊢;subst z;exact aG QH m
 . rcases all x _ (mem_of_lookup hx)with E_|FC|q;refine xA E_ ?_;(try clear E_);intro _ q;rotate_left;refine xA FC ?_;(try clear FC);intro q _;rotate_left;rotate_left;. exact q
   . (exfalso;cases q)
   . (exfalso;cases q)
end
section
noncomputable def T6(F:Fm)(sc:BS)(A0:A9):G_:={scope:=si sc F.env,locals:=A0,globals:=F.env.globals,cells:=Em F.env sc.names [],qual:=F.env.qual,func:=L,code:=F.env.code,frame:=F.env.frame,builtins:=F.env.builtins}
noncomputable def Hs(F:Fm)(sc:BS)(A0:A9):Fm:=⟨T6 F sc A0,[A0],F.outs⟩
theorem Gd.comp(g:Gd B F K A H C s)(hs:Kr K.sc sc H.env=M){A0:A9}(hL:s.heap.get? A0=L)(k:∀b o,s.heap.get? b=G o->Q.get? b=G o)(ns:Q.Ns A0 λ_=>L):Gd B (Hs F sc A0) ⟨sc,K.d⟩ A H C {s with heap:=Q,toks:=tk}:=by
 have new:∀{b:A9}{o:Bl},s.heap.get? b=G o->b≠A0:=λe z=>by rw[z,hL]at e;exact(BB e).elim
 have QG:B.base.get? A0=L:=by cases e:B.base.get? A0 with
 |none=>rfl|some o=>have :=g.base A0 o e;rw[hL]at this;exact(BB this).elim
 have W9:∀c∈F.env.cells,c.2≠A0:=λc m=>by refine H3 (g.D0 c m) ?_;intro _ o e;exact new e
 refine i3 (g.kinds.comp hs (A0:=A0) rfl W9) ?_;intro kd hk MR D1 MT OA xh;have cl:∀x c,(x,c)∈Em F.env sc.names []->F.env.cells.lookup x=G c:=λx c m=>by
  rcases QF D1 m with z|z;. simp at z
  . exact z
 have im:Dt s.heap Q:=λb o e _=>k b o e;refine Hh (id ns) ?_;intro oL _ _ eL _;refine CX g.env ?_;intro m _ ce r;exact{
  kinds:=kd
  len:=g.len
  nodup:=g.nodup
  fresh:=g.fresh
  live:=λa m=>by refine xE (g.live a m) ?_;intro o e;exact⟨o,k a o e⟩
  D4:=λa m=>by
   rw[CH.mp m];exact⟨QG,λz=>by(refine xE (g.live A0 z) ?_;intro o e;exact new e rfl),oL,eL⟩
  D0:=λc m=>by
   refine H3 (g.D0 c (mem_of_lookup (cl c.1 c.2 m))) ?_;intro q o e;exact⟨q,o,k _ _ e⟩
  objs:=λi o e=>by
   refine AC (g.objs i o e) ?_;intro a p r;have :=r.mono (J:=[]) im (k a);exact⟨a,p,by simpa using this⟩
  env:=⟨_,ns,λc m=>by refine xE (ce _ (mem_of_lookup (cl c.1 c.2 m))) ?_;intro u q;exact⟨u,q.keeps k⟩,λx v hl fr=>by
   have kdOf:(T6 F sc A0).kindOf x=match sc.names.lookup x with
 |none=>L|some k=>G (if(k==GL&&F.env.scope.kind==.function&&F.env.kindOf x==G .cell)then .cell else k):=aT;have xj:(T6 F sc A0).kindOf x=G .local\/(T6 F sc A0).kindOf x=G .cell\/(T6 F sc A0).kindOf x=G .free:=fr;revert xj;rw[kdOf];cases q:sc.names.lookup x with
 |none=>intro z;exact absurd z (by simp)|some kk=>cases kk with
 |«local»=>rw[OA x q]at hl;exact(BB hl).elim|cell=>exact absurd rfl (MR _ (mem_of_lookup q))|free=>
    intro _;refine Hg (xh x q) ?_;intro KC c hc GC;refine AC (r x v hl (.inr KC)) ?_;intro u sl e3;refine AC (sl.2 KC) ?_;intro c' e1 e2;have e1:=Bk (e1.symm.trans hc);refine⟨u,⟨λz=>?_,λ_=>⟨c,GC,e1▸e2.keeps k⟩⟩,e3.Bv im⟩;exfalso;have z:=kdOf.symm.trans z;rw[q]at z;dsimp only at z;split at z<;>(exfalso;cases z)|globalImplicit=>intro z;exact absurd z (by simp)|globalExplicit=>intro z;exact absurd z (by simp)⟩
  base:=λb o e=>k b o (g.base b o e)
  os:=g.os
  gens:=g.gens
  frames:=g.frames
  DN:=bm6 (λb o e _=>⟨o,k b o e,rfl⟩) g.DN
  Cw:=λb m=>let⟨q,_,o,ho,hd⟩:=g.Cw b m;⟨q,λz=>CH.mp z,o,k _ _ ho,hd⟩
  mods:=g.mods
  handled:=g.handled
  depth:=g.depth
  units:=g.units}
theorem CM.comp(fr:CM B F C s.heap AD)(g:Gd B F K A H C s)(hs:Kr K.sc sc H.env=M){A0:A9}(xk:AD≠A0)(hl:∃o,Q.get? AD=G o)(hL:∀c∈F.env.cells,c.2≠A0):CM B (Hs F sc A0) C Q AD where
 C:=fr.C;w:=λm=>xk (CH.mp m);cells:=λc m=>by
  refine VA (g.kinds.comp hs (A0:=A0) rfl hL) ?_;intro _ _ _ D1 _;rcases QF D1 m with z|z;. simp at z
  . exact fr.cells _ (mem_of_lookup z)
 base:=fr.base;outs:=fr.outs;live:=hl
theorem aU(SL:O7 B A3 n){x:A4}{l:I V}(IW:MA g=M)(AN:Gd B F K A AA AZ AI)(hs:Kr K.sc sc AA.env=M)(Ap:VR AI.heap AZ v x)(hi:Py v AA.h=G it)(h:ev A3 n ⟨sc,K.d⟩ (.G7 CZ g gens it 0 []) AA=.ok (.vs l) Bc){RR:A4->A9->Dq->AR->Prop}(k:∀A0 D AS s',Gd B (Hs F sc A0) ⟨sc,K.d⟩ A Bc AS s'->AI.heap.get? A0=L->AI.heap.get? D=L->Nx F.D (D::[A0]) AI.heap s'.heap AZ AS->Gr B (Hs F sc A0) AS s'.heap D l->RR (.ref D) A0 (.ok .next) s'):AG (AQ B.prog B.w) A (PK x) (λit Ah=>AG (AQ B.prog B.w) A (sj []) (λAm Aw=>AG (AQ B.prog B.w) A (newFunctionEnv sc F.env.globals (Em F.env sc.names []) [] F.env.qual L .none (G F.env)) (λkY ED=>D6 (AQ B.prog B.w) A (.compStart (.ListComp CZ (g::gens) sc pos) 0 it Am {kY with scope:=si sc F.env}) (RR Am kY.locals) ED) E Aw) E Ah) E AI:=by
 refine xA (QE IW) ?_;intro hp ha;refine O5 AN Ap hi λAD BC tk AT Al hI K6 Su=>?_;refine IA ?_;have W9:∀c∈F.env.cells,∃o,BC.get? c.2=G o:=λc m=>(AT.D0 c m).2;refine M2 (AT.kinds.comp hs (A0:=BC.objs.size) rfl λc m z=>by refine xE (W9 c m) ?_;intro o e;rw[z,GD]at e;exact(BB e).elim) ?_;intro _ hk MR _;skip;generalize hH:BC.push {cls:=.type "list",dict:=L,data:=.seq ([]:I A4).toArray}=BD;have sz:BD.objs.size=BC.objs.size+1:=by rw[<-hH,IB]
 have KD:∀b o,BC.get? b=G o->BD.get? b=G o:=λb o e=>by rw[<-hH];exact C0 _ e
 refine bn7 MR (λy hy=>by simp at hy) (λFF ns QI=>?_) hk;dsimp only at ns QI ⊢;have MU:BC.get? BD.objs.size=L:=K8 (by rw[sz];exact PF _);have MW:BC.get? BC.objs.size=L:=K8 (DE _);have OB:∀b o,BC.get? b=G o->FF.get? b=G o:=λb o e=>QI.extBut b o (λz=>by rw[z,MU]at e;exact(BB e).elim) (C0 _ (KD b o e));have up:∀{b:A9},BC.get? b=L->AI.heap.get? b=L:=λ{b}e=>H8 Al.live e;have KA:BC.objs.size≠BD.objs.size:=by rw[sz];exact EO (PG _)
 have pD:FF.PlainList BC.objs.size #[]:=⟨_,QI.extBut _ _ KA (C0 _ (hH▸CW _ rfl))⟩;have C9:=AT.comp (tk:=tk+([]:I (Y×A4)).length) hs MU OB ns;have WA:∀{b:A9},BC.get? b=L->∀c∈F.env.cells,c.2≠b:=λe c m z=>by refine xE (W9 c m) ?_;intro o q;rw[z,e]at q;exact(BB q).elim
 have L4:CM B (Hs F sc BD.objs.size) AZ FF AD:=K6.comp AT hs (λz=>by refine xE K6.live ?_;intro o e;rw[z,MU]at e;exact(BB e).elim) (by refine xE K6.live ?_;intro o e;exact⟨o,OB _ _ e⟩) (WA MU);have fD:CM B (Hs F sc BD.objs.size) AZ FF BC.objs.size:=(AT.freeOf (Q:=BC.push {cls:=.type "list",data:=.seq #[]}) MW ⟨_,CW _ rfl⟩|>.at (Q:=FF) (by refine xE pD ?_;(try clear pD);intro m e;exact⟨_,e⟩))|>λq=>
 {C:=q.C,w:=λm=>KA (CH.mp m),cells:=λc m=>by
   refine VA (AT.kinds.comp hs (A0:=BD.objs.size) rfl (WA MU)) ?_;intro _ _ _ D1 _;rcases QF D1 m with z|z;. simp at z
   . exact q.cells _ (mem_of_lookup z),base:=q.base,outs:=q.outs,live:=q.live};have Cy:Nx F.D ([]:I A9) BC FF AZ AZ:=Nx.ext OB;have HS:=Su.nx Cy K6.C (by simp);have MQ:BC.objs.size≠AD:=λz=>by refine xE K6.live ?_;intro o e;rw[<-z,MW]at e;exact(BB e).elim
 refine kR (depth:=0) rfl ha HS (SL.G7 h (GW:=g::gens) (depth:=0) rfl ha (F:=Hs F sc BD.objs.size) (Af:=AI.heap) (BE:=AZ) C9 (Al.trans Cy).FW hI L4 HS ⟨fD,#[],pD,rfl⟩ MQ λAS s' g' x' a'=>?_);exact k _ _ AS s' g' (up MU) (up MW) x' a'
theorem kZ(A8:C5 B A3 n)(SL:O7 B A3 n)(h:Ey A3 K (ev A3 n) (.ListComp CZ (g::gens) sc pos) H=.ok (.v v) A7)(Bj:Gd B F K A H C s):Ae B F K A A7 C s (eval (.ListComp CZ (g::gens) sc pos) F.env) (RV v):=by
 refine A1.Bb h ?_;clear h;intro IW h;refine A1.Ce h ?_;clear h;intro w AA AP h;refine A1.Bb h ?_;clear h;intro hs h;refine A1.Bw h ?_;clear h;intro it BC h;refine A1.L2 h ?_;clear h;intro l Bc C3 h;(first|(revert k;(first|apply BW h|apply B4 h|apply BX h|apply BY h|apply BZ h);intro k)|apply BW h|apply B4 h|apply BX h|apply BY h|apply BZ h);refine xA (QE IW) ?_;intro hp ha;intro A2 E kk;refine Rv (Bj.kinds.comp hs (A0:=s.heap.objs.size) rfl λc m z=>by refine H3 (Bj.D0 c m) ?_;intro _ o e;rw[z,GD]at e;exact(BB e).elim) ?_;intro _ hk MR D1 MT _;rw[bn8];have OC:Ui (g::gens)=A6:=by obtain⟨_,_,_,k⟩:=g;show(k !=0)=A6;simp only at ha;rw[ha];rfl
 have OD:Uj (g::gens) F.env=eval g.iter F.env:=by obtain⟨_,_,_,_⟩:=g;rfl
 rw[OC,OD];refine ff (use:=L) (g:=g) (gs:=gens) rfl (λx=>QB hp x) (W8 D1) hk MT ?_;refine A8.e AP Bj _ _ λu AZ AI AN Ab Ap=>?_;refine aU (RR:=λAm A0=>sn (AQ B.prog B.w) A E L A2 Am A0) SL IW AN hs Ap BC C3 λA0 D AS s' g' hL hD x' a'=>?_;refine AC (id g'.env) ?_;intro m ns _;refine⟨m,ns,λQ Dd=>?_⟩;refine Hg a' ?_;(try clear a');intro fD us FX vr;have Hr:∀o,s'.heap.get? A0=G o->C1 o=A6:=λo e=>by
  refine Gi ns ?_;(try clear ns);intro o' N ep e' d _;have e':s'.heap.get? A0=G o':=e';rw[e']at e;injection e with e;subst e;unfold C1;rw[d];simp
 have KA:D≠A0:=λz=>fD.w (by rw[z];exact CH.mpr rfl);have im:=Go Dd.extBut Hr;refine xA (AN.leave (F':=Hs F sc A0) rfl g' hL hD x' fD Dd Hr (o:=.list l) ⟨us,FX.extBut Dd.extBut KA,vr.mono im⟩) ?_;intro gg xx;refine kk _ _ _ gg (Ab.trans xx) ⟨D,?_,rfl⟩;have :=g'.len;rw[<-this];simp
end
section
theorem xl{A0:A9}(g':Gd B F' K' A' A7 AS s')(hW:F'.A_=[A0])(AN:Gd B F K A H AZ AI)(hL:AI.heap.get? A0=L)(Dh:A0∉As)(hl:∃o,h.get? A0=G o):CM B F As h A0 where
 C:=Dh;w:=λm=>by refine IG (AN.D4 A0 m) ?_;intro _ _ o e;rw[hL]at e;exact(BB e).elim
 cells:=λc m z=>by refine H3 (AN.D0 c m) ?_;intro _ o e;rw[z,hL]at e;exact(BB e).elim
 base:=(g'.D4 A0 (by rw[hW];simp)).1;outs:=λm=>by refine Hg (AN.DN.mem m) ?_;intro _ o e _;rw[hL]at e;exact(BB e).elim
 live:=hl
theorem xm(WB:C5 B A3 m)(SL:O7 B A3 m)(A8:C5 B A3 n){KG:BG}(aV:Xv (.ListComp CZ (g::gens) sc KG) (G (.Name id p)) pos.line F.env=pure M)(h:((Ey A3 K (ev A3 m) (.ListComp CZ (g::gens) sc KG) H).V λv H=>ev A3 n K (.G6 [.Name id p] v) H)=.ok (.f f) A7)(Bj:Gd B F K A H C s):CJ B F K A A7 C s (exec (.Assign [.Name id p] (.ListComp CZ (g::gens) sc KG) pos) F.env) (FR .next):=by
 refine A1.Ce h ?_;clear h;intro v GU h FF;refine A1.Bb h ?_;clear h;intro IW h;refine A1.Ce h ?_;clear h;intro w AA AP h;refine A1.Bb h ?_;clear h;intro hs h;refine A1.Bw h ?_;clear h;intro it BC h;refine A1.L2 h ?_;clear h;intro l Bc C3 h;refine xA (FE h) ?_;intro q Av;subst Av;injection q with q;subst q;refine xA (QE IW) ?_;intro hp ha;intro A2 E kk;rw[exec_Assign_Name_used _ _ _ _ aV];refine A5 (Eh (A5 ?_));show AG _ A (do let _<-bn9 (.ListComp CZ (g::gens) sc KG) sc F.env _ (sj []) (Ui (g::gens)) (Uj (g::gens) F.env) (G (Eu (.Name id p) F.env))) _ _ s;have OC:Ui (g::gens)=A6:=by obtain⟨_,_,_,k⟩:=g;show(k !=0)=A6;simp only at ha;rw[ha];rfl
 have OD:Uj (g::gens) F.env=eval g.iter F.env:=by obtain⟨_,_,_,_⟩:=g;rfl
 rw[OC,OD];refine A5 (Fd (Q:=λ_ s'=>A2 .next s') ?_ (λ_ s' hq=>AW (AW hq)) λ_ _ e=>e);refine Rv (Bj.kinds.comp hs (A0:=s.heap.objs.size) rfl λc m z=>by refine H3 (Bj.D0 c m) ?_;intro _ o e;rw[z,GD]at e;exact(BB e).elim) ?_;intro _ hk MR D1 MT _;refine ff (use:=G (Eu (.Name id p) F.env)) (Q:=λ_ s'=>A2 .next s') (g:=g) (gs:=gens) rfl (λx=>QB hp x) (W8 D1) hk MT ?_;refine WB.e AP Bj _ _ λu AZ AI AN Ab Ap=>?_
 . refine aU (RR:=λAm A0=>sn (AQ B.prog B.w) A E (G (Eu (.Name id p) F.env)) (λ_ s'=>A2 .next s') Am A0) SL IW AN hs Ap BC C3 λA0 D AS s' g' hL hD x' a'=>?_;refine AC ((λx=>x) g'.env) ?_;intro mm ns _;refine Hg a' ?_;(try clear a');intro fD us FX vr;have Hr:∀o,s'.heap.get? A0=G o->C1 o=A6:=λo e=>by
    refine Gi ns ?_;(try clear ns);intro o' N ep e' d _;have e':s'.heap.get? A0=G o':=e';rw[e']at e;injection e with e;subst e;unfold C1;rw[d];simp
   have KA:D≠A0:=λz=>fD.w (by rw[z];exact CH.mpr rfl);have sb:E2 A0 s'.heap s'.heap:=fg ..;refine xA (AN.leave (F':=Hs F sc A0) rfl g' hL hD x' fD sb Hr (o:=.list l) ⟨us,FX,vr.mono (λ_ _ e _=>e)⟩) ?_;intro gg xx;have rD:VR s'.heap (AS++[D]) (.ref Bc.n) (.ref D):=⟨D,by rw[<-g'.len];simp,rfl⟩;refine G2 (g'.D4 A0 (by show A0∈[A0];simp)) ?_;intro QG O8 _;have k_:A0∉AS++[D]:=λz=>by
    rcases Do.mp z with z|z;. exact O8 z
    . exact KA (CH.mp z).symm
   show AG _ A (Eu (.Name id p) F.env (.ref D)) _ E s';refine A8.G6 FF gg rD _ _ λ_ As Ah AT Al _=>?_;have xn:A0∉F.A_:=λm=>by refine IG (AN.D4 A0 m) ?_;intro _ _ o e;rw[hL]at e;exact(BB e).elim
   have T7:Ah.heap.Ns A0 mm:=Ns.slots ns λo e=>Al.data A0 o e k_ xn;refine⟨mm,T7,λQ Dd=>?_⟩;have xo:∀o,Ah.heap.get? A0=G o->C1 o=A6:=λo e=>by
    refine Gi T7 ?_;(try clear T7);intro o' N ep e' d _;rw[e']at e;injection e with e;subst e;unfold C1;rw[d];simp
   have MU:A0∉As:=by
    refine Gi ns ?_;(try clear ns);intro o' N ep e' d _;exact Al.out e' k_
   have fL:CM B F As Ah.heap A0:=xl g' rfl AN hL MU (by refine Gi T7 ?_;(try clear T7);intro o' N ep e' d _;exact⟨_,e'⟩);refine kk _ As _ (AT.move (tk:=Ah.toks) fL Dd.extBut xo) ?_ rfl;exact((Ab.trans xx).FW.trans Al).Ez Dd.extBut (H8 Ab.live hL)
theorem xp{l:O}:∃b,Xv e (G (.Name id p)) l env=pure b:=by
 unfold Xv;split<;>exact⟨_,rfl⟩
theorem xq(WB:C5 B A3 m)(SL:O7 B A3 m)(A8:C5 B A3 n){KG:BG}(h:((Ey A3 K (ev A3 m) (.ListComp CZ (g::gens) sc KG) H).V λv H=>ev A3 n K (.G6 [.Name id p] v) H)=.ok (.f f) A7)(Bj:Gd B F K A H C s):CJ B F K A A7 C s (exec (.Assign [.Name id p] (.ListComp CZ (g::gens) sc KG) pos) F.env) (FR .next):=by
 refine xE (xp (e:=.ListComp CZ (g::gens) sc KG) (id:=id) (p:=p) (l:=pos.line) (env:=F.env)) ?_;intro b hb;cases b with
 |true=>exact xm WB SL A8 hb h Bj|false=>
 refine A1.Ce h ?_;clear h;intro v AA AP h;intro A2 E k;exact fW (((kZ WB SL AP Bj).Sr) _ _ λu AZ AI AN Ab Ap=>A8.G6 h AN Ap _ _ λ_ As Ah AT Al _=>k _ As Ah AT (Ab.trans Al) rfl) hb rfl
end
section
theorem Eb{l:I J}(h:CG l=M):l.length<=100000:=Di h
theorem xr(g:Gd B F K A H C s)(r:VR s.heap C v u)(h:Mine.truthy v H.h=G b):Ae B F K A H C s (sW u) (RB b):=by
 intro A2 E k;cases v with
 |none=>cases r;injection h with h;subst h;exact bK8 (k _ C s g (Nx.refl ..) rfl)|bool c=>cases r;injection h with h;subst h;exact NM (k _ C s g (Nx.refl ..) rfl)|int i=>
  refine xE r ?_;(try clear r);intro t Av;subst Av;injection h with h;subst h;refine PySem.P.truthy_int (k _ C s g (Nx.refl ..) ?_);show(i !=0)=decide (i≠0);by_cases q:i=0<;>simp[q]|str x=>
  refine xE r ?_;(try clear r);intro t B5;subst B5;refine Cj h AE λhf h=>?_
  . have :=Eb hf;injection h with h;subst h;have hl:(⟨⟨x⟩⟩:Y).length=x.length:=rfl;refine PySem.P.truthy_str (by rw[hl];omega) (k _ C _ (g.tok _) (Nx.refl ..) ?_);show((x.length:AX)!=0)=!x.isEmpty;cases x<;>simp;omega|ref i=>
  refine AC r ?_;(try clear r);intro a ha BI;subst BI;refine BH h λob hx h=>?_;revert hx;apply IM h AE
  . intro U h hx;refine Cj h AE λhf h=>?_
    . have :=Eb hf;injection h with h;subst h;refine AC (g.obj hx ha) ?_;intro us hp v;have hl:U.length=us.size:=by rw[v.length];simp
      refine wpAny_truthy_list hp.isList (by omega) ?_;refine k _ C _ (g.tok _) (Nx.refl ..) ?_;show(!us.isEmpty)=!U.isEmpty;unfold Array.isEmpty;cases U<;>simp at hl<;>simp[<-hl]|_=>exact(BB h).elim
theorem ka(x y:Tx):(⟨⟨x⟩⟩:Y)++⟨⟨y⟩⟩=⟨⟨x++y⟩⟩:=by
 show bo0 _ _=_;simp[bo0]
theorem xs{r:V}(g:Gd B F K A H C s)(hv:VR s.heap C v u)(Bg:VR s.heap C v' u')(h:ZY op v v'=G r):Ae B F K A H C s (inplaceOp op u u') (RV r):=by
 revert hv Bg;refine Ff h (λe h=>?_) λh=>Ff h (λe h=>?_) λh=>(AE h).elim
 . subst e;refine GP h (λh=>?_) λh=>?_
   . apply Cu h AE;intro a h;apply Cu h AE;intro b h hv Bg A2 E;apply Bq h;intro k;refine xE hv ?_;(try clear hv);intro t BO;subst BO;refine xE Bg ?_;(try clear Bg);intro t' Bo;subst Bo;exact bo1 (k _ C _ (g.tok _) (Nx.refl ..) ⟨_,rfl⟩)
   . apply Db h AE;intro x h;apply Db h AE;intro y h hv Bg A2 E;refine Cj h AE λhf h=>?_;apply Bq h;intro k;refine xE hv ?_;(try clear hv);intro t Bf;subst Bf;refine xE Bg ?_;(try clear Bg);intro t' Br;subst Br;have :=Eb hf;refine PySem.P.iadd_str ?_;skip;cases x with
 |nil=>exact k _ C _ g (Nx.refl ..) ⟨_,rfl⟩|cons a x=>cases y with
 |nil=>exact k _ C _ g (Nx.refl ..) ⟨t,by simp⟩|cons b y=>
     show(so _).post A2 s;rw[ka];exact⟨B2 (show _<=100000 from this) (by decide),k _ C _ (g.tok _) (Nx.refl ..) ⟨_,rfl⟩⟩
 . subst e;apply Cu h AE;intro a h;apply Cu h AE;intro b h hv Bg A2 E;apply Bq h;intro k;refine xE hv ?_;(try clear hv);intro t C8;subst C8;refine xE Bg ?_;(try clear Bg);intro t' Ck;subst Ck;exact bK9 (k _ C _ (g.tok _) (Nx.refl ..) ⟨_,rfl⟩)
end
section
theorem kc{a b:AX}(g:Gd B F K A H C s)(hb:b>0):Ae B F K A H C s (Ev .Mod (.int a t) (.int b t')) (RV (.int (sP a b))):=by
 intro A2 E k;have h0:¬(b==0)=M:=by simp only[PJ];(with_reducible exact bo2 (by assumption))
 exact bL0 h0 (k (.int (sP a b) s.toks) C _ (g.tok _) (Nx.refl ..) ⟨_,rfl⟩)
theorem xt{a b:AX}(g:Gd B F K A H C s):Ae B F K A H C s (Ev .Add (.int a t) (.int b t')) (RV (.int (a+b))):=λA2 E k=>bL1 (k (.int (a+b) s.toks) C _ (g.tok _) (Nx.refl ..) ⟨_,rfl⟩)
theorem xu{a b:AX}(g:Gd B F K A H C s):Ae B F K A H C s (Ev .Sub (.int a t) (.int b t')) (RV (.int (a-b))):=λA2 E k=>bL2 (k (.int (a-b) s.toks) C _ (g.tok _) (Nx.refl ..) ⟨_,rfl⟩)
theorem kf{a b:AX}(g:Gd B F K A H C s)(hb:0<b/\b<=1000000000):Ae B F K A H C s (Ev .FloorDiv (.int a t) (.int b t')) (RV (.int (sO a b))):=by
 intro A2 E k;have h0:¬(b==0)=M:=by simp only[PJ];omega
 have h1:¬(bo3 a b)=M:=by
  unfold bo3;have hn:b.natAbs<=1000000000:=by(with_reducible exact Mine.vg (by assumption))
  have hl:b.natAbs.log2<30:=(bo4 (by omega)).mpr (by(with_reducible exact Gy (by assumption) (by decide)));have e:(b==0)=A6:=by simpa using h0
  simp only[e,Jh,Ji,D2,PL];intro h;have :=h.1;(with_reducible exact Mine.ur (by assumption) (by assumption))
 exact bL3 h0 h1 (k (.int (sO a b) s.toks) C _ (g.tok _) (Nx.refl ..) ⟨_,rfl⟩)
end
section
theorem xv{a:AK}(g:Gd B F K A H C s):Ae B F K A H C s (Ev .Add (.bool a) (.bool b)) (RV (.int (b2i a+b2i b))):=λA2 E k=>bL4 (k (.int (b2i a+b2i b) s.toks) C _ (g.tok _) (Nx.refl ..) ⟨_,rfl⟩)
theorem xw{a:AK}{b:AX}(g:Gd B F K A H C s):Ae B F K A H C s (Ev .Add (.bool a) (.int b t)) (RV (.int (b2i a+b))):=λA2 E k=>bL5 (k (.int (b2i a+b) s.toks) C _ (g.tok _) (Nx.refl ..) ⟨_,rfl⟩)
theorem xz{a:AX}(g:Gd B F K A H C s):Ae B F K A H C s (Ev .Add (.int a t) (.bool b)) (RV (.int (a+b2i b))):=λA2 E k=>PySem.add_int_bool (k (.int (a+b2i b) s.toks) C _ (g.tok _) (Nx.refl ..) ⟨_,rfl⟩)
theorem y0{a:AK}(g:Gd B F K A H C s):Ae B F K A H C s (Ev .Mult (.bool a) (.bool b)) (RV (.int (b2i a*b2i b))):=λA2 E k=>bL6 (k (.int (b2i a*b2i b) s.toks) C _ (g.tok _) (Nx.refl ..) ⟨_,rfl⟩)
theorem kg{x:Tx}(g:Gd B F K A H C s)(hf:CG (x++y)=M):Ae B F K A H C s (Ev .Add (.str ⟨⟨x⟩⟩ t) (.str ⟨⟨y⟩⟩ t')) (RV (.str (x++y))):=by
 intro A2 E k;have :=Eb hf;refine PySem.P.add_str ?_;have e1:(⟨⟨x⟩⟩:Y).length=x.length:=rfl;have e2:(⟨⟨y⟩⟩:Y).length=y.length:=rfl;skip;cases x with
 |nil=>exact k _ C _ g (Nx.refl ..) ⟨_,rfl⟩|cons a x=>cases y with
 |nil=>exact k _ C _ g (Nx.refl ..) ⟨t,by simp⟩|cons b y=>
 show(so _).post A2 s;rw[ka];exact⟨B2 (show _<=100000 from this) (by decide),k _ C _ (g.tok _) (Nx.refl ..) ⟨_,rfl⟩⟩
theorem y1(g:Gd B F K A H C s)(hu:VR s.heap C (.ref i) u)(T8:VR s.heap C (.ref j) u')(hx:AJ H.h i=G (.list U))(hy:AJ H.h j=G (.list ys))(hf:CG (U++ys)=M):Ae B F K A (H.new (.list (U++ys))).2 C s (Ev .Add u u') (RV (.ref H.n)):=by
 intro A2 E k;refine AC hu ?_;(try clear hu);intro a ha Av;subst Av;refine AC T8 ?_;(try clear T8);intro b hb B5;subst B5;refine AC (g.obj hx ha) ?_;intro us BI v;refine xE BI ?_;(try clear BI);intro n hl;refine AC (g.obj hy hb) ?_;intro ws BO v';refine xE BO ?_;(try clear BO);intro n' IX;have Ea:us.size+ws.size<=F6:=by
   have :=Eb hf;have e1:=v.length;have e2:=v'.length;simp at this e1 e2;exact B2 (show _<=100000 by(with_reducible exact Mine.vL (by assumption) (by assumption) (by assumption))) (by decide)
 refine concat_meets ⟨_,hl,rfl⟩ ⟨_,IX,rfl⟩ bo5 seq_list_add bo6 bo7 (bo8 _ _) (bo9 a b us ws n n' L L #[] #[] Ea) ⟨hl,IX,?_⟩;have kp:∀b o,s.heap.get? b=G o->(s.heap.push {cls:=.type "list",data:=.seq (us++ws)}).get? b=G o:=λb o e=>C0 _ e;have hn:s.heap.get? s.heap.objs.size=L:=by cases e:s.heap.get? s.heap.objs.size with
 |none=>rfl|some o=>exact absurd (Df e) (Iq _)
 have hg:=CW s.heap (o:={cls:=.type "list",data:=.seq (us++ws)}) rfl;refine k _ (C++[s.heap.objs.size]) _ (g.new (tk:=s.toks) kp hn ⟨_,hg⟩ (o:=.list (U++ys)) ⟨us++ws,⟨_,hg⟩,?_⟩) (Nx.add [_] kp λb hb=>by rw[CH.mp hb];exact hn) ⟨_,?_,rfl⟩
 . have :=(v.app v').mono (J:=[s.heap.objs.size]) (Q:=s.heap.push {cls:=.type "list",data:=.seq (us++ws)}) (λb o e _=>kp b o e);simpa using this
 . rw[<-g.len];simp
end
section
noncomputable abbrev Dn(v:A4):BJ->I A9->A4->Prop:=λ_ _ r=>r=v
theorem y2{a b:AX}(g:Gd B F K A H C s):Ae B F K A H C s (DZ .Eq (.int a t) (.int b t')) (Dn (.bool (decide (a=b)))):=λ_ _ k=>PySem.P.eq_int (k _ C s g (Nx.refl ..) (by show NQ (a==b)=_;by_cases q:a=b<;>simp[q]))
theorem y3{a b:AX}(g:Gd B F K A H C s):Ae B F K A H C s (DZ .NotEq (.int a t) (.int b t')) (Dn (.bool (!decide (a=b)))):=λ_ _ k=>PySem.P.ne_int (k _ C s g (Nx.refl ..) (by show NQ (a !=b)=_;by_cases q:a=b<;>simp[q]))
theorem y4{a b:AX}(g:Gd B F K A H C s):Ae B F K A H C s (DZ .Lt (.int a t) (.int b t')) (Dn (.bool (decide (a<b)))):=λ_ _ k=>bp0 (k _ C s g (Nx.refl ..) rfl)
theorem y5{a b:AX}(g:Gd B F K A H C s):Ae B F K A H C s (DZ .Gt (.int a t) (.int b t')) (Dn (.bool (decide (b<a)))):=λ_ _ k=>bp1 (k _ C s g (Nx.refl ..) rfl)
theorem y6{a b:AX}(g:Gd B F K A H C s):Ae B F K A H C s (DZ .LtE (.int a t) (.int b t')) (Dn (.bool (decide (a<=b)))):=λ_ _ k=>PySem.P.le_int (k _ C s g (Nx.refl ..) rfl)
theorem y7{a b:AX}(g:Gd B F K A H C s):Ae B F K A H C s (DZ .GtE (.int a t) (.int b t')) (Dn (.bool (decide (b<=a)))):=λ_ _ k=>PySem.P.ge_int (k _ C s g (Nx.refl ..) rfl)
theorem T9{x:Tx}:(x==y)=CY x y:=by cases h:CY x y with
 |true=>simp[EZ.mp h]|false=>simpa using jt.mp h
theorem y8{x:Tx}(g:Gd B F K A H C s):Ae B F K A H C s (DZ .Eq (.str ⟨⟨x⟩⟩ t) (.str ⟨⟨y⟩⟩ t')) (Dn (.bool (CY x y))):=λ_ _ k=>bp2 (k _ C s g (Nx.refl ..) (by show NQ (x==y)=_;rw[T9]))
theorem y9{x:Tx}(g:Gd B F K A H C s):Ae B F K A H C s (DZ .NotEq (.str ⟨⟨x⟩⟩ t) (.str ⟨⟨y⟩⟩ t')) (Dn (.bool (!CY x y))):=λ_ _ k=>PySem.P.ne_str (k _ C s g (Nx.refl ..) (by show NQ (x !=y)=_;rw[<-T9];rfl))
theorem TA:∀{x y:Tx},EX x y=M↔x<y
 |x,[]=>by cases x<;>simp[EX]|[],_::_=>by simp[EX]|a::x,b::y=>by
  unfold EX;cases h:B8 a b with
 |true=>
   have :=CC h;clear h;subst this;simp[TA (x:=x) (y:=y)]|false=>
   have Cb:a≠b:=λe=>by subst e;simp at h
   simp[List.cons_lt_cons_iff,Cb,Fy];try omega
theorem aW{x:Tx}:decide (x<y)=EX x y:=by cases h:EX x y with
 |true=>simpa using TA.mp h|false=>
 have :¬x<y:=λq=>by rw[TA.mpr q]at h;(exfalso;cases h)
 simpa using this
theorem yA{x:Tx}(g:Gd B F K A H C s):Ae B F K A H C s (DZ .Lt (.str ⟨⟨x⟩⟩ t) (.str ⟨⟨y⟩⟩ t')) (Dn (.bool (EX x y))):=λ_ _ k=>bp3 (k _ C s g (Nx.refl ..) (by show NQ (decide (x<y))=_;rw[aW]))
end
section
variable[DecidableEq T]{Bx:KeyKind prog w T}
theorem kh{d:A9}{Ay:I (T×A4)}{k:T}{key v:A4}{A2:Et->AR->Prop}(EI:Bx.is k key=M)(hm:s.heap.DictAt Bx d Ay Ay.length)(hQ:∀Q,Q.DictAt Bx d (F7 Ay k v) (F7 Ay k v).length->E2 d s.heap Q->A2 () {s with heap:=Q,toks:=s.toks+1})(Ea:Ay.length<=F6):AG (AQ prog w) A (RW d key v) A2 E s:=by
 refine M3 hm ?_;(try clear hm);intro o N ho hc hd hk hp hn;have Cf:N.size=Ay.length:=by have :=hp.length;simpa using this
 have OE:(N.findIdx? λe=>Bx.is k e.key)=Ay.findIdx? λkv=>decide (kv.1=k):=by rw[<-hp.findIdx k];obtain⟨l⟩:=N;simp
 unfold RW;refine C' (A5 (Bx.pyHash EI ?_));skip;refine C' (A5 (sq (s:={s with toks:=s.toks+1}) EI ho hd hk ?_));cases hi:N.findIdx? λe=>Bx.is k e.key with
 |some i=>
  have HA:=bp4 (OE▸hi);have e1:F7 Ay k v=Ay.map λkv=>if kv.1=k then(kv.1,v)else kv:=by rw[F7,D5 HA]
  have hl:(N.toList.findIdx? λe=>Bx.is k e.key)=G i:=by rw[<-hi];obtain⟨l⟩:=N;simp
  have FG:=hp.modify hn hl v;refine A5 (Ge (A5 (bp5 (s:={s with toks:=s.toks+1}) ho hd (wpAny_point (hQ _ ?_ (Fe ..))))));refine⟨_,_,FP _ ho (Xy (fh hd _)),hc.mapDict _,?_,hk.modify i v,?_,?_⟩;. rw[e1,Jk];exact fh hd _
  . rw[e1];obtain⟨l⟩:=N;simpa using FG
  . rw[e1,bp6];exact hn|none=>
  have TB:k∉Ay.map (·.1):=bp7 (OE▸hi);have TC:¬(Ay.any λkv=>decide (kv.1=k))=M:=λh=>by
    refine AC (IC.mp h) ?_;intro kv OF he;exact TB (Dz.mpr ⟨kv,OF,of_decide_eq_true he⟩)
  have e1:F7 Ay k v=Ay++[(k,v)]:=by rw[F7,CN TC]
  refine A5 (Ge (sr (hz:=by(with_reducible exact Mine.yT (by assumption) (by assumption))) (s:={s with toks:=s.toks+1}) ho hd (hQ _ ?_ (Fe ..))));refine⟨_,_,FP _ ho (Xy (Uk hd _)),hc.mapDictKeys _,?_,hk.push EI v,?_,?_⟩;. rw[e1,F8];exact Uk hd _
  . have :=hp.append EI (Bx.hash k) v;rw[e1];obtain⟨l⟩:=N;simpa using this
  . rw[e1,NR,I7];refine⟨hn,by simp,λa ha b hb e=>?_⟩;simp only[I9,su,CH]at hb;exact TB (hb▸e▸ha)
end
theorem yB{a b:Y}:a.cps.toList=b.cps.toList↔a=b:=⟨λe=>by cases a;cases b;simp only[bl3];exact sS.mp e,λe=>by rw[e]⟩
theorem WC(a b:Y):G5 (GR a) (GR b)=G (decide (a=b)):=by
 show G (CY _ _)=_;cases h:CY a.cps.toList b.cps.toList with
 |true=>simp[yB.mp (EZ.mp h)]|false=>
 have :a≠b:=λe=>jt.mp h (by rw[e]);simp[this]
theorem aX(a b:AX):G5 (Sm a) (Sm b)=G (decide (a=b)):=rfl
section
variable[DecidableEq T]{key:T->V}
theorem DR.look(hk:∀a b,G5 (key a) (key b)=G (decide (a=b))){k:T}{l:I (T×A4)}(d:DR key h C N l):(Cz N (key k)=L/\Ll l k=L)\/∃v u,Cz N (key k)=G v/\Ll l k=G u/\VR h C v u:=DR.ind (P:=λN l=>(Cz N (key k)=L/\Ll l k=L)\/∃v u,Cz N (key k)=G v/\Ll l k=G u/\VR h C v u) (.inl ⟨rfl,rfl⟩) (λk' v u N r hv _ ih=>by
 unfold Cz;rw[hk];by_cases z:k'=k
 . rw[RX z];exact .inr ⟨_,u,rfl,by simp[Ll,bp8,z],hv⟩
 . rw[RY z];have e2:Ll ((k',u)::r) k=Ll r k:=by simp[Ll,bp8,z]
   rw[e2];exact ih) d
theorem DR.put(hk:∀a b,G5 (key a) (key b)=G (decide (a=b))){k:T}(hv:VR h C v u):∀{N:I (V×V)}{l:I (T×A4)},DR key h C N l->(l.map (·.1)).Nodup->DR key h C (Ej N (key k) v) (F7 l k u):=λ{N l}d=>DR.ind (P:=λN l=>(l.map (·.1)).Nodup->DR key h C (Ej N (key k) v) (F7 l k u)) (λ_=>DR.cons (N:=[]) hv rfl) (λk' v' u' N r Bg hr ih hn=>by
 have O0:k'∉r.map (·.1)/\(r.map (·.1)).Nodup:=ER.mp hn;unfold Ej;rw[hk];by_cases z:k'=k
 . subst z;rw[RX rfl];have e2:F7 ((k',u')::r) k' u=(k',u)::r:=by
    rw[F7,D5 (by simp)];simp only[I9,Jj];rw[map_store_of_not_mem r k' u O0.1]
   rw[e2];exact DR.cons hv hr
 . rw[RY z];have e2:F7 ((k',u')::r) k u=(k',u')::F7 r k u:=by
    unfold F7;simp only[sJ,RY z,bp9];split;. simp[z]
    . rfl
   rw[e2];exact DR.cons Bg (ih O0.2)) d
end
section
variable[DecidableEq T]{Bx:KeyKind prog w T}
theorem yE{d:A9}{Ay:I (T×A4)}{k:T}{key v:A4}{A2:Et->AR->Prop}(EI:Bx.is k key=M)(hm:s.heap.DictAt Bx d Ay Ay.length)(hQ:∀Q,Q.DictAt Bx d (F7 Ay k v) (F7 Ay k v).length->E2 d s.heap Q->A2 () {s with heap:=Q,toks:=s.toks+1})(Ea:Ay.length<=F6):AG (AQ prog w) A (RZ (.ref d) key v) A2 E s:=by
 have hT:=hm.dictOf.typeIs;skip;refine C' (A5 (sv hT (by decide) ?_));refine A5 (Lm (name:=Er "__setitem__") hT bq0 (Gf bq0 hT entry_dict_setitem ?_ (args_dict_setitem _ _ _)));show AG _ _ (bL7 "__setitem__" ⟨[.ref d,key,v],[]⟩>>=_) _ _ s;refine A5 (bq1 hT ?_);show AG _ _ (RW d key v>>=_) _ _ s;exact A5 (kh EI hm (λQ HB Dd=>AW ⟨.none,rfl,AW (hQ Q HB Dd)⟩) Ea)
end
section
theorem ki{x:Tx}:(strKind prog w).is ⟨⟨x⟩⟩ (.str ⟨⟨x⟩⟩ t)=M:=strKind_is ..
theorem aY{CL:Type}[DecidableEq T][DecidableEq CL]{Bx:KeyKind B.prog B.w T}{yL:KeyKind B.prog B.w CL}(m:h.DictAt Bx a [] 0):h.DictAt yL a [] 0:=by
 refine M3 m ?_;intro o BM e1 e2 e3 _ e5 _;have e:BM=#[]:=bq2 e5.length;exact⟨o,#[],e1,e2,e▸e3,λ_ hm=>(nomatch(Array.not_mem_empty _ hm)),.nil,HI⟩
theorem WD(hk:Dc N k=M)(r:Dm B.prog B.w h C a N)(rk:VR h C k ku){P:Prop}(c:∀{T:Type}[DecidableEq T](Bx:KeyKind B.prog B.w T)(key:T->V)(x:T)(Ay:I (T×A4)),(∀a b,G5 (key a) (key b)=G (decide (a=b)))->(∀{Q:BJ}{AS:I A9}{a':A9}{BM:I (V×V)}(aZ:I (T×A4)),Q.DictAt Bx a' aZ aZ.length->DR key Q AS BM aZ->Dm B.prog B.w Q AS a' BM)->k=key x->Bx.is x ku=M->h.DictAt Bx a Ay Ay.length->DR key h C N Ay->P):P:=by
 revert c rk;refine Jt hk (λhk=>?_) λhk=>?_
 . apply Db hk B3;intro x hk rk c;refine xE rk ?_;intro t q;rw[q]at c;have c:=c (strKind B.prog B.w) GR ⟨⟨x⟩⟩;refine r.elim (λr=>AC r λAy hm hd=>c Ay WC (λ_ m d=>.inl ⟨_,m,d⟩) rfl ki hm hd) λr=>AC r λAy hm hd=>?_;cases N with
 |nil=>rw[show Ay=[]from hd]at hm;exact c [] WC (λ_ m d=>.inl ⟨_,m,d⟩) rfl ki (aY hm) rfl|cons e N=>exact Gi hd λk' u r _ e1 _=>by have hk:vStr e.1 A6 (λ_=>M)=M:=hk;rw[e1]at hk;exact(B3 hk).elim
 . apply Cu hk B3;intro x hk rk c;refine xE rk ?_;intro t q;rw[q]at c;have c:=c (intKind B.prog B.w) Sm x;refine r.elim (λr=>AC r λAy hm hd=>?_) λr=>AC r λAy hm hd=>c Ay aX (λ_ m d=>.inr ⟨_,m,d⟩) rfl (intKind_is ..) hm hd;cases N with
 |nil=>rw[show Ay=[]from hd]at hm;exact c [] aX (λ_ m d=>.inr ⟨_,m,d⟩) rfl (intKind_is ..) (aY hm) rfl|cons e N=>exact Gi hd λk' u r _ e1 _=>by have hk:vInt e.1 A6 (λ_=>M)=M:=hk;rw[e1]at hk;exact(B3 hk).elim
end
section
theorem DictAt.live[DecidableEq T]{Bx:KeyKind prog w T}{Ay:I (T×A4)}(x:h.DictAt Bx a Ay ep):∃o,h.get? a=G o:=let⟨o,_,e,_⟩:=x;⟨o,e⟩
theorem yM(g:Gd B F K A H C s)(hd:AJ H.h i=G (.dict N))(ru:VR s.heap C (.ref i) u)(rk:VR s.heap C k ku)(rv:VR s.heap C v vu)(hk:Dc N k=M)(hf:CG N=M):Ae B F K A (H.set i (.dict (Ej N k v))) C s (RZ u ku vu) RU:=by
 intro A2 E kk;refine AC ru ?_;(try clear ru);intro a ha Av;subst Av;have r:=g.obj hd ha;have hl:=Eb hf;refine WD hk r rk λBx key x Ay ke back q hx hm dr=>?_;rw[q]at kk;refine yE hx hm (λQ HB hs=>?_) (B2 (dr.length▸hl) (show 100000<=F6 by decide));refine xA (g.set (Q:=Q) (tk:=s.toks+1) (o':=.dict (Ej N (key x) v)) ha hd (λ_ _ e=>by(exfalso;cases e)) hs.extBut (DictAt.live HB) λim=>back _ HB (Sp (p:=λJ=>DR key Q J _ _) ((dr.put ke (k:=x) rv (Ul hm)).mono (J:=[]) im))) ?_;intro g' x';exact kk () C _ g' x' trivial
end
section
theorem Gd.QJ(g:Gd B F K A H C s)(ha:a∈C):(a==NJ)=A6:=by
 refine xE g.mods ?_;intro o e;exact Li.mpr λz=>by have :=g.fresh a ha;rw[z,e]at this;(exfalso;cases this)
theorem WE(g:Gd B F K A H C s)(hd:AJ H.h i=G (.dict N))(ru:VR s.heap C (.ref i) u)(rk:VR s.heap C k ku)(hk:Dc N k=M){P:A4->Prop}(c:∀{T:Type}[DecidableEq T](Bx:KeyKind B.prog B.w T)(x:T)(f:T->AL A4)(a:A9),a∈C->Bx.is x ku=M->s.heap.MapOf Bx a f->(Cz N k=L/\f x=L\/∃v w,Cz N k=G v/\f x=G w/\VR s.heap C v w)->P (.ref a)):P u:=by
 refine AC ru ?_;intro a ha Av;rw[Av];refine AC (g.objs i _ hd) ?_;intro a' Fj r;rw[Bk (Fj.symm.trans ha)]at r;exact WD hk r rk λBx key x Ay ke _ q hx hm dr=>c Bx x _ a (Es ha) hx hm.dictOf.mapOf (q▸dr.look ke)
theorem WF(g:Gd B F K A H C s)(hd:AJ H.h i=G (.dict N))(ru:VR s.heap C (.ref i) u):s.TypeIs u "dict":=AC ru λa ha q=>q▸AC (g.objs i _ hd) λa' Fj r=>Bk (Fj.symm.trans ha)▸r.elim (λr=>AC r λ_ m _=>m.dictOf.mapOf.typeIs) λr=>AC r λ_ m _=>m.dictOf.mapOf.typeIs
theorem kj(g:Gd B F K A H C s)(hd:AJ H.h i=G (.dict N))(ru:VR s.heap C (.ref i) u)(rk:VR s.heap C k ku)(hk:Dc N k=M)(hv:Cz N k=G v):Ae B F K A H C s (PR u ku) (RV v):=WE (P:=λu=>Ae B F K A H C s (PR u ku) (RV v)) g hd ru rk hk λBx x f a _ hx hm o A2 E kk=>o.elim (λh=>(AE (h.1.symm.trans hv)).elim) λo=>Bu o λv' w h hf r=>wpAny_getItem_of hx hm hf (kk w C _ (g.tok _) (Nx.refl ..) (Bk (h.symm.trans hv)▸r))
theorem kl{v:AL V}{f:AL A4}(o:v=L/\f=L\/∃v' w,v=G v'/\f=G w/\VR h C v' w):f.isSome=v.isSome:=o.elim (λo=>by rw[o.1,o.2];rfl) λo=>Bu o λ_ _ a b _=>by rw[a,b];rfl
theorem km(g:Gd B F K A H C s)(hd:AJ H.h i=G (.dict N))(ru:VR s.heap C (.ref i) u)(rk:VR s.heap C k ku)(hk:Dc N k=M):Ae B F K A H C s (DZ .In ku u) (Dn (.bool (Cz N k).isSome)):=WE (P:=λu=>Ae B F K A H C s (DZ .In ku u) (Dn (.bool (Cz N k).isSome))) g hd ru rk hk λBx x f a ha hx hm o A2 E kk=>wpAny_in_of hx (g.QJ ha) hm (kk _ C _ (g.tok _) (Nx.refl ..) (congrArg NQ (kl o)))
theorem ko(g:Gd B F K A H C s)(hd:AJ H.h i=G (.dict N))(ru:VR s.heap C (.ref i) u)(rk:VR s.heap C k ku)(hk:Dc N k=M):Ae B F K A H C s (DZ .NotIn ku u) (Dn (.bool (!(Cz N k).isSome))):=WE (P:=λu=>Ae B F K A H C s (DZ .NotIn ku u) (Dn (.bool (!(Cz N k).isSome)))) g hd ru rk hk λBx x f a ha hx hm o A2 E kk=>wpAny_notIn_of hx (g.QJ ha) hm (kk _ C _ (g.tok _) (Nx.refl ..) (congrArg (λb=>NQ (!b)) (kl o)))
end
theorem Dm.C1(r:Dm prog w h C a N):∀x,h.get? a=G x->C1 x=A6:=C_.C1 (o:=.dict N) r (λ_ _ e=>by(exfalso;cases e))
theorem Dm.live(r:Dm prog w h C a N):∃o,h.get? a=G o:=r.elim (λr=>AC r λ_ m _=>DictAt.live m) λr=>AC r λ_ m _=>DictAt.live m
section
theorem kq{Am:I (V×V)}(hk:Dc Am k=M)(r:Dm B.prog B.w s.heap C D Am)(rk:VR s.heap C k ku)(rv:VR s.heap C v vu)(hf:CG Am=M){A2:Et->AR->Prop}(kk:∀Q,E2 D s.heap Q->Dm B.prog B.w Q C D (Ej Am k v)->A2 () {s with heap:=Q,toks:=s.toks+1}):AG (AQ B.prog B.w) A (RW D ku vu) A2 E s:=by
 have hl:=Eb hf;have hc:=r.C1;exact WD hk r rk λBx key x Ay ke back q hx hm dr=>kh hx hm (λQ HB hs=>kk Q hs (q▸back _ HB (Sp (p:=λJ=>DR key Q J _ _) ((dr.put ke (k:=x) rv (Ul hm)).mono (J:=[]) (Go hs.extBut hc))))) (B2 (dr.length▸hl) (show 100000<=F6 by decide))
theorem compTurn_dict{k v:AB}{it:A4}{d:A9}(ha:g.is_async=0):Uf (.DictComp k v [g] sc pos) 0 it (.ref d) env=(do
 Kb g.iter.pos match<-EP it with
 |none=>pure (.done .next)|some x=>
 Xr g.target it x
 Eu g.target env x let ok<-forIn g.ifs M λc r=>if r=M then do let ok<-bn0 c env (eval c env);pure (G' ok)else pure (G' r)if ok=M then do
 (do
 let kv<-eval k env let vv<-HZ [kv] (eval v env)Kb {k.pos with endLine:=v.pos.endLine,endCol:=v.pos.endCol}HZ [kv,vv] (RW d kv vv))Kd (.compLoop (.DictComp k v [g] sc pos) 0 it (.ref d) env)else Kd (.compLoop (.DictComp k v [g] sc pos) 0 it (.ref d) env)):=by
 unfold Uf;have e1:([g]:I FO)[0+1]?=L:=rfl;simp only[bq3,ha,Xx,Jh,Ji,e1];rfl
structure a_(B:Bs)(A3:Mine.Ctx)(n:O):Prop where aa:∀{K:Kx}{k v:AB}{g:FO}{it:It}{i d:O}{H A7:Mine.St}{f:Fl},ev A3 n K (.Pz k v g it i d) H=.ok (.f f) A7->∀{sc:BS}{pos:BG},g.is_async=0->∀{F:Fm}{A:CK}{C BE:I A9}{s:AR}{Af:BJ}{AD D:A9}{AV:Dq->AR->Prop},Gd B F K A H C s->C[d]?=G D->Nx F.D F.A_ Af s.heap BE C->Af.get? AD=L->CM B F C s.heap AD->E4 s.heap C it i AD->(∀AS s',Gd B F K A A7 AS s'->Nx F.D F.A_ Af s'.heap BE AS->AS[d]?=G D->AV (.ok .next) s')->D6 (AQ B.prog B.w) A (.compLoop (.DictComp k v [g] sc pos) 0 (.ref AD) (.ref D) F.env) AV s
theorem yN(A8:C5 B A3 n)(SD:a_ B A3 n){k v:AB}(h:step A3 K (ev A3 n) (.Pz k v g it i d) H=.ok (.f f) A7)(ha:g.is_async=0){AV:Dq->AR->Prop}(Bj:Gd B F K A H C s)(hD:C[d]?=G D)(Cq:Nx F.D F.A_ Af s.heap BE C)(hI:Af.get? AD=L)(fr:CM B F C s.heap AD)(r:E4 s.heap C it i AD)(kk:∀AS s',Gd B F K A A7 AS s'->Nx F.D F.A_ Af s'.heap BE AS->AS[d]?=G D->AV (.ok .next) s'):D6 (AQ B.prog B.w) A (.compLoop (.DictComp k v [g] sc pos) 0 (.ref AD) (.ref D) F.env) AV s:=by
 refine A1.Bw h ?_;clear h;intro o AP h;refine fP rfl (λ_ s'=>s'=s) (λn s' e=>?_) 0 rfl;subst e;show AG _ A ((Uf (.DictComp k v [g] sc pos) 0 (.ref AD) (.ref D) F.env).onRaise (λx=>do I8 x F.env;fQ x)) _ _ _;refine fR ?_;rw[compTurn_dict ha];have pre:∀{AM A_:I A9}{h Q:BJ}{AZ As:I A9},Nx AM A_ h Q AZ As->AZ[d]?=G D->As[d]?=G D:=λx e=>by refine AC x.pre ?_;intro J q _;rw[q];exact FV e
 refine A5 (Eh (A5 (K5 Bj fr r AP (λx hx u Q tk AN DO Ek Ap Hp=>?_) λhx Q tk AN DO=>?_)))
 . clear AP;subst hx;refine A1.Ho h ?_;clear h;intro _ Bc BC h;refine A1.O3 h ?_;clear h;intro b GU C3 h;have L3:=Cq.Ez DO hI;refine A5 (QD Ap (A5 (A8.asg BC AN Hp _ _ λ_ As Ah AT Al _=>?_)));refine A5 (kP A8 C3 AT _ _ λMN BQ Aw Ao B7 BP=>?_);clear C3;subst BP;have xx:=Al.trans B7.FW;have El:=L3.trans xx;have EC:=Ek.nx xx;have Gp:=Ap.nx xx Ek.C Ek.w;have kr:=pre xx hD;cases MN with
 |false=>exact AW (.inr ⟨rfl,SD.aa h ha Ao kr El hI EC Gp kk⟩)|true=>
   refine A1.Ce h ?_;clear h;intro kv kU FF h;refine A1.Ce h ?_;clear h;intro vv bH6 MP h;refine A1.O4 h ?_;clear h;intro Am hd h;refine A1.Bb h ?_;clear h;intro TD h;simp only[D2]at TD;refine xA TD ?_;(try clear TD);intro TD hf;refine A5 (A5 (A8.e FF Ao _ _ λku IU ED C9 Cy JI=>A5 (C' (A8.e MP C9 _ _ λvu QK Ec Cn EH IY=>A5 (Eh (C' ?_))))));have WG:=Cy.trans EH;have W5:=EC.nx WG;have W6:=Gp.nx WG EC.C (by simp);have ab:=pre WG kr;have dr:=Cn.obj hd ab;refine kq TD dr (JI.nx EH) IY hf λQ Dd kt=>?_;refine xA (Cn.set (Q:=Q) (tk:=Ec.toks+1) (o':=.dict (Ej Am kv vv)) ab hd (λ_ _ e=>by(exfalso;cases e)) Dd.extBut kt.live λim=>kt) ?_;intro GX GF;exact AW (.inr ⟨rfl,SD.aa h ha GX ab (El.trans (WG.trans GF).FW) hI (W5.nx GF) (W6.nx GF W5.C (by simp)) kk⟩)
 . clear AP;subst hx;refine xA (FE h) ?_;intro q Av;clear h;subst Av;exact AW (kk C _ AN (Cq.Ez DO hI) hD)
theorem yO{k v:AB}{Am:A4}{AV:Dq->AR->Prop}(ha:g.is_async=0)(r:E4 s.heap C it i AD)(h:D6 (AQ B.prog B.w) A (.compLoop (.DictComp k v [g] sc pos) 0 (.ref AD) Am env) AV s):D6 (AQ B.prog B.w) A (.compStart (.DictComp k v [g] sc pos) 0 (.ref AD) Am env) AV s:=by
 refine RQ ?_;show AG _ A ((fZ (.DictComp k v [g] sc pos) 0 (.ref AD) Am env).onRaise (λx=>do I8 x env;Kb bn1)) _ _ s;refine bn2 ?_;unfold fZ;have e:(clausesOf (.DictComp k v [g] sc pos))[0]?=G g:=rfl;simp only[e,bn3,ha,Xx,Jh,Ji];refine A5 (RS (f_ ?_));split;. exact AW (Ug rfl h)
 . exact A5 (Ge (A5 (Eh (A5 (kQ r (AW (Ug rfl h)))))))
end
theorem ky(e:h.get? a=G {cls:=.type "dict",data:=.dict #[]}):Dm prog w h C a []:=.inl ⟨[],⟨_,#[],e,⟨rfl,rfl,rfl⟩,rfl,λ_ hm=>by simp at hm,by first|exact .nil|exact rfl|(simp[Pairs]),by simp⟩,rfl⟩
section
theorem Gd.yP(AN:Gd B F K A H AZ AI){A0:A9}(hW:F'.A_=[A0])(g':Gd B F' K' A' A7 AS s')(T4:AI.heap.get? A0=L)(x:Nx F.D F'.A_ AI.heap s'.heap AZ AS)(hs:E2 A0 s'.heap Q)(Hr:∀o,s'.heap.get? A0=G o->C1 o=A6):Gd B F K A ⟨H.env,A7.h,A7.n⟩ AS {s' with heap:=Q}/\Nx F.D [] AI.heap Q AZ AS:=by
 refine G2 (g'.D4 A0 (by rw[hW];simp)) ?_;intro QG O8 _;have k:Dp A0 s'.heap Q:=hs.extBut;have im:=Go k Hr;have ne:∀{b:A9}{o:Bl},AI.heap.get? b=G o->b≠A0:=λe z=>by rw[z,T4]at e;exact(BB e).elim
 have nW:∀{b:A9}{o:Bl},AI.heap.get? b=G o->b∉F'.A_:=λe m=>by rw[hW]at m;exact ne e (CH.mp m)
 have xx:Nx F.D [] AI.heap Q AZ AS:=by
   refine⟨x.pre,λb o q=>?_,λb o q c=>k b o (ne q) (x.Bv b o q c),λb o q m _=>let⟨sl,z,r⟩:=x.same b o q m (nW q);⟨sl,k b _ (ne q) z,r⟩⟩;. refine xE (x.live b o q) ?_;intro o' q';exact⟨o',k b o' (ne q) q'⟩
 refine⟨AN.back (s':={s' with heap:=Q}) (A7:=⟨H.env,A7.h,A7.n⟩) xx g'.len g'.nodup g'.fresh (λa m=>?_) (λi p e=>?_) (λb p e=>k b p (λz=>by rw[z,QG]at e;exact(BB e).elim) (g'.base b p e)) g'.os g'.gens (Cc.Gq AN AN.env xx),xx⟩;. refine xE (g'.live a m) ?_;intro p e;exact⟨p,k a p (λz=>O8 (z▸m)) e⟩
 . refine AC (g'.objs i p e) ?_;intro b q r;have :=r.mono (J:=[]) im λy=>k b y λz=>O8 (z▸Es q);exact⟨b,q,by simpa using this⟩
theorem yR{k v:AB}:eval (.DictComp k v gens sc pos) env=bn9 (.DictComp k v gens sc pos) sc env (firstIterPos gens pos) newDict (Ui gens) (Uj gens env):=rfl
theorem yY(A8:C5 B A3 n)(SD:a_ B A3 n){k v:AB}{r:V}(h:Ey A3 K (ev A3 n) (.DictComp k v [g] sc pos) H=.ok (.v r) A7)(Bj:Gd B F K A H C s):Ae B F K A A7 C s (eval (.DictComp k v [g] sc pos) F.env) (RV r):=by
 refine A1.Bb h ?_;clear h;intro IW h;refine A1.Ce h ?_;clear h;intro w AA AP h;refine A1.Bb h ?_;clear h;intro hs h;refine A1.Bw h ?_;clear h;intro it BC h;refine A1.Ho h ?_;clear h;intro _ Bc C3 h;refine xA (FE h) ?_;intro q Av;subst Av;injection q with q;subst q;refine xA (QE IW) ?_;intro hp ha;intro A2 E kk;refine Rv (Bj.kinds.comp hs (A0:=s.heap.objs.size) rfl λc m z=>by refine H3 (Bj.D0 c m) ?_;intro _ o e;rw[z,GD]at e;exact(BB e).elim) ?_;intro _ hk MR D1 MT _;rw[yR];have OC:Ui [g]=A6:=by obtain⟨_,_,_,k⟩:=g;show(k !=0)=A6;simp only at ha;rw[ha];rfl
 have OD:Uj [g] F.env=eval g.iter F.env:=by obtain⟨_,_,_,_⟩:=g;rfl
 rw[OC,OD];refine ff (use:=L) (g:=g) (gs:=[]) rfl (λx=>QB hp x) (W8 D1) hk MT ?_;refine A8.e AP Bj _ _ λu AZ AI AN Ab Ap=>?_;refine O5 AN Ap BC λAD BC tk AT Al hI K6 Su=>?_;refine IA ?_;skip;generalize hH:BC.push {cls:=.type "dict",dict:=L,data:=.dict #[]}=BD;have sz:BD.objs.size=BC.objs.size+1:=by rw[<-hH,IB]
 have KD:∀b o,BC.get? b=G o->BD.get? b=G o:=λb o e=>by rw[<-hH];exact C0 _ e
 have MW:BC.get? BC.objs.size=L:=K8 (DE _);have eD:BD.get? BC.objs.size=G {cls:=.type "dict",dict:=L,data:=.dict #[]}:=by rw[<-hH];exact CW _ rfl
 have Ao:=AT.new (Q:=BD) (tk:=tk) (o:=.dict []) KD MW ⟨_,eD⟩ (ky eD);have B7:Nx F.D ([]:I A9) BC BD AZ (AZ++[BC.objs.size]):=Nx.add [_] KD λb hb=>by rw[CH.mp hb];exact MW
 have EC:=K6.nx B7;have Gp:=Su.nx B7 K6.C (by simp);refine bn7 MR (λy hy=>by simp at hy) (λFF ns QI=>?_) hk;dsimp only at ns QI ⊢;have TE:BD.get? BD.objs.size=L:=K8 (DE _);have OB:∀b o,BD.get? b=G o->FF.get? b=G o:=λb o e=>QI.extBut b o (λz=>by rw[z,TE]at e;exact(BB e).elim) (C0 _ e);have T4:AI.heap.get? BD.objs.size=L:=H8 (Al.trans B7).live TE;have WA:∀c∈F.env.cells,c.2≠BD.objs.size:=λc m z=>by refine H3 (Ao.D0 c m) ?_;intro _ o e;rw[z,TE]at e;exact(BB e).elim
 have C9:=Ao.comp (tk:=tk+([]:I (Y×A4)).length) hs TE OB ns;have L4:CM B (Hs F sc BD.objs.size) (AZ++[BC.objs.size]) FF AD:=EC.comp Ao hs (λz=>by refine xE EC.live ?_;intro o e;rw[z,TE]at e;exact(BB e).elim) (by refine xE EC.live ?_;intro o e;exact⟨o,OB _ _ e⟩) WA;have Cy:Nx F.D ([]:I A9) BD FF (AZ++[BC.objs.size]) (AZ++[BC.objs.size]):=Nx.ext OB;have HS:=Gp.nx Cy EC.C (by simp);have hd:(AZ++[BC.objs.size])[AA.n]?=G BC.objs.size:=by rw[<-AN.len];simp
 refine yO ha HS (SD.aa C3 ha (F:=Hs F sc BD.objs.size) (Af:=AI.heap) (BE:=AZ) C9 hd (Al.trans (B7.trans Cy)).FW hI L4 HS λAS s' g' x' d'=>?_);refine AC ((λx=>x) g'.env) ?_;intro m Fk _;refine⟨m,Fk,λQ Dd=>?_⟩;have Hr:∀o,s'.heap.get? BD.objs.size=G o->C1 o=A6:=λo e=>by
  refine Gi Fk ?_;(try clear Fk);intro o' N ep e' d _;have e':s'.heap.get? BD.objs.size=G o':=e';rw[e']at e;injection e with e;subst e;unfold C1;rw[d];simp
 refine xA (AN.yP (F':=Hs F sc BD.objs.size) rfl g' T4 x' Dd Hr) ?_;intro gg xx;exact kk _ _ _ gg (Ab.trans xx) ⟨_,d',rfl⟩
end
structure Cx(B:Bs)(A3:Mine.Ctx)(Kf:GZ):Prop where
 AU:Kf.In B.base
 makes:makesIn Kf A3.Dj=M
 init:Gg Kf (.ref A3.Dj) "__init__"=G (G (.ref A3.Q0))kz:sx Kf (.ref A3.Q0)=G (.type "function")ga:Gg Kf (.ref A3.Dj) "__getattribute__"=G (G (.builtin "object.__getattribute__"))l3:Gg Kf (.ref A3.Dj) "__getattr__"=G L
 l4:Gg Kf (.ref A3.Dj) "__setattr__"=G (G (.builtin "object.__setattr__"))over:plainOver Kf A3.Dj=M
 ae:(clsIn Kf A3.Dj).any (·.hasDict)=M
 attrs:∀a,Sa a=M->Gg Kf (.ref A3.Dj) a=G L
 meths:∀m a,Ai A3.H5 m=G a->Gg Kf (.ref A3.Dj) m=G (G (.ref a))/\sx Kf (.ref a)=G (.type "function")
theorem l5{o:Bl}{N:BV Fx}{m:Y->AL A4}(d:o.data=.dict N ep)(k:sy N)(f:∀name,NS N name=m name)(name:Y):fj name o=G (m name):=by
 unfold fj;rw[d];dsimp only;have hf:=f name;unfold NS findBy at hf;rw[<-Array.find?_toList]at hf;cases q:N.toList.find? (λe=>e.key.isStr name)with
 |some e=>rw[q]at hf;rw[<-hf];rfl|none=>
 rw[q]at hf;have :N.toList.any (·.refKey)=A6:=by
  rw[Xw];intro e he;refine D9 (k e (fk.mp he)) ?_;intro n t hk;simp[bL8,hk]
 dsimp only;rw[this,<-hf];rfl
theorem yZ{N:BV Fx}(k:sy N)(u:t3 N){A0:I Y}(hL:∀name,NS N name≠L->name∈A0):N.size<=A0.length:=by
 have key:∀(l:I Fx)(A0:I Y),(∀e∈l,∃n t,e.key=.str n t)->l.Pairwise (λa b=>∀n,a.key.isStr n=M->b.key.isStr n=M->Bh)->(∀e∈l,∀n t,e.key=.str n t->n∈A0)->l.length<=A0.length:=by
  intro l;induction l with
 |nil=>intro A0 _ _ _;simp|cons e l ih=>
  intro A0 hk hp hm;refine D9 (hk e Co) ?_;intro n t he;refine xA (Um.mp hp) ?_;intro h1 h2;have hn:=hm e Co n t he;have :=ih (A0.erase n) (λe' Q=>hk e' (Cp _ Q)) h2 λe' Q n' t' q=>by
   have Cb:n'≠n:=λz=>by
    clear hn;subst z;exact h1 e' Q n' (by rw[he];simp[t4]) (by rw[q];simp[t4])
   exact(List.mem_erase_of_ne Cb).mpr (hm e' (Cp _ Q) n' t' q)
  rw[List.length_erase_of_mem hn]at this;have :0<A0.length:=List.length_pos_of_mem hn;simp only[R_];(with_reducible exact Mine.vH (by assumption) (by assumption))
 have :=key N.toList A0 (λe he=>k e (fk.mp he)) u λe he n t q=>hL n λz=>by
  unfold NS findBy at z;simp only[Option.map_eq_none_iff,Array.find?_eq_none]at z;have :=z e (fk.mp he);rw[q]at this;simp[t4]at this
 simpa using this
theorem y_{K:GZ}{A3:A9}{od:Bl}{v:A4}(hh:(clsIn K A3).any (·.hasDict)=M)(ha:Gg K (.ref A3) name=G L)(hl:fj name od=G (G v)):findObj K A3 (G od) name=G (.value v):=by
 refine AC (any_some hh) ?_;intro cd hc hd;unfold findObj;rw[hc,t5,ha,t5];simp only[t5,ownOf,hd,Jj,hl]
section
theorem Gd.AU(AF:Cx B A3 Kf)(g:Gd B F K A H C s):Kf.In s.heap:=λa o e=>g.base a o (AF.AU a o e)
theorem af(g:Gd B F K A H C s){c:A9}{N:I (Y×V)}(hi:AJ H.h i=G (.inst c d))(hd:AJ H.h d=G (.EV N))(ru:VR s.heap C (.ref i) u){P:A4->Prop}(k:∀a da od m L6 ep,C[d]?=G da->s.heap.get? da=G od->od.data=.dict L6 ep->sy L6->t3 L6->(∀name,NS L6 name=m name)->s.heap.Ns1 da m->InstAt s.heap a {cls:=.ref c,dict:=G da,data:=.plain} c (G od)->(∀x,match Ai N x with|some v=>∃u,m x=G u/\VR s.heap C v u|none=>m x=L)->P (.ref a)):P u:=by
 refine AC ru ?_;intro a ha q;rw[q];refine AC (g.obj hi ha) ?_;intro da QL ho;refine AC (g.obj hd QL) ?_;intro m ns r;refine i6 ((λx=>x) ns) ?_;intro od L6 ep e dd kk uu f;exact k a da od m L6 ep QL e dd kk uu f ns ⟨ho,rfl,rfl,e⟩ r
theorem ya(AF:Cx B A3 Kf)(g:Gd B F K A H C s){N:I (Y×V)}{a:Y}(hi:AJ H.h i=G (.inst A3.Dj d))(hd:AJ H.h d=G (.EV N))(ha:Sa a=M)(hv:Ai N a=G v)(l6:jd v=M)(ru:VR s.heap C (.ref i) u)(WH:AK):Ae B F K A H C s (Un u a WH) (RV v):=by
 intro A2 E k;apply af g hi hd ru;intro x da od m L6 ep _ _ dd kk _ f _ AD r;have :=r a;rw[hv]at this;refine AC this ?_;(try clear this);intro w e hw;have hh:handedIn w=M:=by
  cases v<;>first|(first|exact(E3 l6).elim|cases l6)|skip
  . cases hw;rfl
  . cases hw;rfl
  . refine xE hw ?_;(try clear hw);intro t BI;clear e;subst BI;rfl
  . refine xE hw ?_;(try clear hw);intro t BO;clear e;subst BO;rfl
  . refine Ju hw ?_;(try clear hw);intro _ _ _ _ Bo _;clear e;subst Bo;rfl
  . refine AC hw ?_;(try clear hw);intro _ _ Bf;clear e;subst Bf;rfl
  . refine Ju hw ?_;(try clear hw);intro _ _ _ _ Br _;clear e;subst Br;rfl
  . refine EU hw ?_;(try clear hw);intro _ _ C8 _;clear e;subst C8;rfl
  . refine xE hw ?_;(try clear hw);intro t Ck;clear e;subst Ck;rfl
  . refine EU hw ?_;(try clear hw);intro _ t D8 _;clear e;subst D8;rfl
  . refine EU hw ?_;(try clear hw);intro _ t DV _;clear e;subst DV;rfl
  . refine EU hw ?_;(try clear hw);intro _ t E_ _;clear e;subst E_;rfl
 exact get_value (g.AU AF) AD AF.ga (y_ AF.ae (AF.attrs a ha) (by rw[l5 dd kk f,e])) hh (k w C _ (g.tok _) (Nx.refl ..) hw)
theorem yb(AF:Cx B A3 Kf)(g:Gd B F K A H C s){N:I (Y×V)}{m:Y}(hi:AJ H.h i=G (.inst A3.Dj d))(hd:AJ H.h d=G (.EV N))(hm:Ai N m=L)(ha:Ai A3.H5 m=G a)(ru:VR s.heap C (.ref i) u)(pl:Dx AK):Gc (AQ B.prog B.w) s.heap (Jf u m pl) (.ref a,[u]):=by
 apply af g hi hd ru;intro x da od mm L6 ep _ eD dd kk _ f _ AD r;refine xA (AF.meths m a ha) ?_;intro h1 h2;have :=r m;rw[hm]at this;intro A A2 E s' k q;have I':InstAt s'.heap x {cls:=.ref A3.Dj,dict:=G da,data:=.plain} A3.Dj (G od):=⟨k _ _ AD.at_,rfl,rfl,k _ _ eD⟩;exact method_fn (λb o e=>k b o (g.AU AF b o e)) I' AF.ga AF.l3 h1 h2 (by show(fj m od).map _=_;rw[l5 dd kk f,this];rfl) q
end
theorem yc{K:GZ}{A3:A9}{a:Y}(h:Gg K (.ref A3) a=G L):takerIn K A3 a=G L:=by unfold takerIn;rw[h];rfl
theorem l7{a:Y}{v:J}:∀(N:I (Y×J)),(EB N a v).length<=N.length+1
 |[]=>by simp[EB]|p::N=>by
  have :=l7 (a:=a) (v:=v) N;unfold EB;cases D7 p.1 a<;>simp only[R_]<;>(with_reducible(first|exact Lh (by assumption)|exact Gz _ _))
section
theorem yd{N:I (Y×V)}{m:Y->AL A4}(r:∀x,match Ai N x with|some v=>∃u,m x=G u/\VR h C v u|none=>m x=L)(hn:m name≠L):name∈N.map (·.1):=by
 have :=r name;cases q:Ai N name with
 |none=>rw[q]at this;exact absurd this hn|some v=>exact Dz.mpr ⟨_,FD q,rfl⟩
theorem ye(AF:Cx B A3 Kf)(g:Gd B F K A H C s){N:I (Y×V)}{a:Y}(hi:AJ H.h i=G (.inst A3.Dj d))(hd:AJ H.h d=G (.EV N))(ha:Sa a=M)(hf:CG N=M)(ru:VR s.heap C (.ref i) u)(rv:VR s.heap C v vu):Ae B F K A (H.set d (.EV (EB N a v))) C s (setAttr u a vu) RU:=by
 intro A2 E k;apply af g hi hd ru;intro x da od m L6 ep QL eD dd kk uu f ns AD r;refine set_plain (g.AU AF) AD AF.l4 ?_;refine osa_open (s:={s with toks:=s.toks+1}) (od:=G od) ((g.tok (s.toks+1)).AU AF) AD AF.over (yc (AF.attrs a ha)) λb=>?_;refine AC (any_some AF.ae) ?_;intro cd hc GS;refine A5 (AW (A5 (A5 (bq4 AD.at_ (A5 ((looks_clsIn ((g.tok (s.toks+1)).AU AF) hc).here ?_))))));rw[GS];refine AW (a:=G da) (A5 (AW (A5 ?_)));refine wpAny_nsSet1 (s:={s with toks:=s.toks+1}) ns λQ Fk hs=>A5 ?_;have r':∀x:Dt s.heap Q,∀y,match Ai (EB N a v) y with|some v=>∃u,(if y=a then G vu else m y)=G u/\VR Q C v u|none=>(if y=a then G vu else m y)=L:=λim y=>by
  rw[Q9];by_cases q:y=a;. clear ha k Fk;subst q;simp only[Jj];exact⟨vu,rfl,rv.Bv im⟩
  . rw[CN (λz=>q z.symm),CN q];have :=r y;cases q:Ai N y with
 |none=>rw[q]at this;exact this|some w=>rw[q]at this;refine AC this ?_;(try clear this);intro u e z;exact⟨u,e,z.Bv im⟩
 refine xA (g.set (Q:=Q) (tk:=s.toks+1+1) (o':=.EV (EB N a v)) QL hd (λ_ _ e=>by(exfalso;cases e)) hs.extBut (by refine Hh Fk ?_;(try clear Fk);intro o _ _ e _;exact⟨o,e⟩) λim=>⟨_,Fk,r' im⟩) ?_;intro g' x';refine i6 ((λx=>x) Fk) ?_;intro o' bH7 yf e' d' k' u' f';refine wpAny_lookBehind e' (by
  rw[d'];refine pastItsLine_dict ?_;have hl:=yZ k' u' (A0:=(EB N a v).map (·.1)) λname hn=>by
    rw[f']at hn;exact yd (h:=Q) (C:=C) (r' x'.Bv) hn
  have hp:=l7 (a:=a) (v:=v) N;have :=Eb hf;simp only[Jk]at hl;rw[sizeLine_eq];(with_reducible exact Mine.vd (by assumption) (by assumption) (by assumption))) ?_;exact AW (k () C _ g' x' trivial)
end
section
theorem G9.deep(k:G9 K F)(d:O):G9 ⟨K.sc,d⟩ F:=⟨k.fn,k.sc,k.kd,k.g3,k.b0,k.cells,k.IR,k.MH⟩
theorem Gd.swap(g:Gd B F K A H C s)(kd:G9 K' F)(fr:A'.frames=G F.outs)(hd:A'.handled=L)(dp:A'.depth+3*K'.d<900)(un:A'.units+10*K'.d<9000):Gd B F K' A' H C s:=⟨kd,g.len,g.nodup,g.fresh,g.live,g.D4,g.D0,g.objs,g.env,g.base,g.os,g.gens,fr,g.DN,g.Cw,g.mods,hd,dp,un⟩
theorem l8{c:A9}{C4:I A4}{kw:I (Y×A4)}:(A.under (.builtin "type.__call__" ⟨.ref c::C4,kw⟩)).frames=A.frames/\(A.under (.builtin "type.__call__" ⟨.ref c::C4,kw⟩)).handled=A.handled/\(A.under (.builtin "type.__call__" ⟨.ref c::C4,kw⟩)).depth<=A.depth+1/\(A.under (.builtin "type.__call__" ⟨.ref c::C4,kw⟩)).units<=A.units+5:=by
 have hw:(t6 "type.__call__" ⟨.ref c::C4,kw⟩).weight=1:=by kernel_rfl
 have he:(t6 "type.__call__" ⟨.ref c::C4,kw⟩).envs=[]:=by kernel_rfl
 have hu:(t6 "type.__call__" ⟨.ref c::C4,kw⟩).cUnits=1:=by kernel_rfl
 refine⟨?_,rfl,?_,?_⟩
 . unfold Around.under;simp only[he,pushEnvs]
 . show A.depth+Code.weight _<=_;rw[hw];exact DE _
 . show A.units+Code.cUnits _<=_;rw[hu];(with_reducible exact HG (by decide) _)
theorem yg(AF:Cx B A3 Kf)(A8:C5 B A3 n)(g:Gd B F K A H C s)(rs:Aa s.heap C args us)(hK:K.d=d+1){fn:Fn}{o:Bl}(ok:FnAt B A3.Q0 fn o fd)(h:JB ⟨K.sc,d⟩ (ev A3 n) fn (.ref (H.n+1)::args) ⟨H.env,(H.n+1,.inst A3.Dj H.n)::(H.n,.EV [])::H.h,H.n+2⟩=.ok (.v .none) A7):Ae B F K A A7 C s (CD (.ref A3.Dj) us) (RV (.ref (H.n+1))):=by
 intro A2 E k;refine HL ?_;obtain⟨hh,gs,dr,t,os⟩:=s;have AU:=g.AU AF;refine make_core (makes_of AU AF.makes) (NT AU AF.init) (λself=>bind_fn AU self AF.kz) (.inl rfl) ?_;refine M2 (l8 (A:=A) (c:=A3.Dj) (C4:=us) (kw:=[])) ?_;intro u1 u2 u3 bP8;have kp:∀b o,hh.get? b=G o->((hh.push fq).push (fs A3.Dj hh.objs.size)).get? b=G o:=λb o e=>C0 _ (C0 _ e);generalize hH:(hh.push fq).push (fs A3.Dj hh.objs.size)=BD at kp;have eD:BD.get? hh.objs.size=G fq:=by rw[<-hH];exact C0 _ (CW _ rfl)
 have eX:BD.get? (hh.objs.size+1)=G (fs A3.Dj hh.objs.size):=by
  rw[<-hH];have :=CW (hh.push fq) (o:=fs A3.Dj hh.objs.size) rfl;rwa[IB]at this
 have nD:hh.get? hh.objs.size=L:=K8 (DE _);have nX:hh.get? (hh.objs.size+1)=L:=K8 (PF _);have im:Dt hh BD:=λb o e _=>kp b o e;have hn:∀b∈[hh.objs.size,hh.objs.size+1],hh.get? b=L:=λb hb=>by
  rcases Ci.mp hb with z|z;. rw[z];exact nD
  . rw[CH.mp z];exact nX
 have Ab:Nx F.D ([]:I A9) hh BD C (C++[hh.objs.size,hh.objs.size+1]):=Nx.add _ kp hn;have i0:(C++[hh.objs.size,hh.objs.size+1])[H.n]?=G hh.objs.size:=by rw[<-g.len];simp
 have i1:(C++[hh.objs.size,hh.objs.size+1])[H.n+1]?=G (hh.objs.size+1):=by rw[<-g.len];simp
 have yh:BD.Ns1 hh.objs.size λ_=>L:=⟨_,#[],0,eD,rfl,λ_ hm=>by simp at hm,by unfold t3;simp,λ_=>rfl⟩;have AN:Gd B F K A ⟨H.env,(H.n+1,.inst A3.Dj H.n)::(H.n,.EV [])::H.h,H.n+2⟩ (C++[hh.objs.size,hh.objs.size+1]) ⟨BD,gs,dr,t,os⟩:=by
  refine g.of (Q:=BD) (tk:=t) (Nx.add _ kp hn) (by simp) hn (λb hb=>?_) (by simp[g.len]) (λi o e=>?_) (g.env.ext kp) (λb o e=>kp b o (g.base b o e))
  . rcases Ci.mp hb with z|z;. rw[z];exact⟨_,eD⟩
    . rw[CH.mp z];exact⟨_,eX⟩
  . simp only[AJ]at e;cases q:B8 (H.n+1) i with
 |true=>
     rw[q]at e;injection e with e;subst e;have :=CC q;clear q;subst this;exact⟨_,i1,_,i0,eX⟩|false=>
     rw[q]at e;dsimp only at e;cases q':B8 H.n i with
 |true=>
      rw[q']at e;injection e with e;subst e;have :=CC q';clear q q';subst this;exact⟨_,i0,_,yh,λx=>rfl⟩|false=>
      rw[q']at e;dsimp only at e;refine AC (g.objs i o e) ?_;intro b p r;exact⟨b,FV p,r.mono im (kp b)⟩
 have dp:=g.depth;have un:=g.units;have AT:=AN.swap (A':=A.under (.builtin "type.__call__" ⟨.ref A3.Dj::us,[]⟩)) (g.kinds.deep d) (u1.trans g.frames) (u2.trans g.handled) (by show _+3*d<900;rw[hK]at dp;(with_reducible exact Mine.yV (by assumption) (by assumption) (by decide))) (by show _+10*d<9000;rw[hK]at un;(with_reducible exact Mine.yV (by assumption) (by assumption) (by decide)));refine aK A8 ok h AT (us:=.ref (hh.objs.size+1)::us) ⟨_,_,rfl,⟨_,i1,rfl⟩,rs.nx Ab⟩ λu AS s' g' x' r'=>?_;cases r';have gg:=g'.swap (K':=K) (A':=A) g.kinds g.frames g.handled dp un;refine⟨rfl,k _ AS s' gg (Ab.trans x') ⟨_,?_,rfl⟩⟩;refine AC (x'.pre) ?_;intro J e _;rw[e];exact FV i1
end
structure HT(B:Bs)(A3:Mine.Ctx)(Kf:GZ):Prop where
 at_:A3.Bn=135cls:∃oc od cd sl,Kf.lookup A3.Bn=G ⟨oc,od,.cls cd,sl⟩/\cd.hasDel=A6
 call:specialIn Kf (.ref A3.Bn) "__call__"=G (G (.builtin "type.__call__"))typ:instIn Kf (.ref A3.Bn) (.type "type")=G M
 self:Xz Kf (.ref A3.Bn) (.ref A3.Bn)=G M
 tup:Xz Kf (.ref A3.Bn) (.type "tuple")=G M
 obj:Xz Kf (.ref A3.Bn) (.type "object")=G M
 init:Gg Kf (.ref A3.Bn) "__init__"=G (G (.builtin "object.__init__"))len:Gg Kf (.ref A3.Bn) "__len__"=G (G (.builtin "tuple.__len__"))iter:Gg Kf (.ref A3.Bn) "__iter__"=G (G (.builtin "tuple.__iter__"))mro:∀A8,Ra Kf A8 (mroOf (.ref A3.Bn))=G [.ref A3.Bn,.type "tuple",.type "object"]made:∀A8,Ra Kf A8 (Bind.madeBy (.ref A3.Bn))=G L
 l9:∀A8,Ra Kf A8 (isType (.ref A3.Bn))=G M
 here:∀A8,Ra Kf A8 (Bind.madeHere "tuple.__new__" (.ref A3.Bn))=G ()lA:∀A8 T,Ra Kf A8 (fw "tuple.__new__" ⟨[.ref A3.Bn,.ref T],[]⟩)=G ()reads:readsIn Kf A3.Bn (.type "type")=M
 new:∃p,t7 Kf (.ref A3.Bn) (.type "type") "__new__"=G (.get (.builtin "staticmethod.__get__") (.ref p) .none (.ref A3.Bn))/\∃C4,recIn Kf p "staticmethod"=G (.ref A3.SQ::C4)
theorem yi:Ln Lp "tuple.__new__"=G E8.«tuple.__new__»:=Y' (by kernel_rfl)
section
theorem yj(An:HT B A3 Kf)(AU:Kf.In B.base)(g:Gd B F K A H C s)(r:VR s.heap C (.tup L U) u)(hf:CG U=M):Ae B F K A H C s (CD (.builtin "tuple.__new__") [.ref A3.Bn,u]) (RV (.tup (G A3.Bn) U)):=by
 intro A2 E k;refine Bu (QC r) ?_;intro T us Av ht vr;clear r;subst Av;have Gs:Kf.In s.heap:=λa o e=>g.base a o (AU a o e);refine Ju An.cls ?_;intro oc od cd sl hC lB;have ag:=Gs _ _ hC;have Ea:us.size<=F6:=by
  have e1:=vr.length;have :=Eb hf;simp at e1;exact B2 (show _<=100000 by(with_reducible exact Mine.yS (by assumption) (by assumption))) (by decide)
 refine HL (codeAny_call_builtin_code (t8 _ (by decide+kernel)) ((NU Gs (An.lA _ T)).here (Iv yi ?_)));skip;refine A5 ((NU Gs (An.l9 _)).here ?_);skip;refine A5 ((Uo Gs An.tup).here ?_);skip;refine A5 ((NU Gs (An.here _)).here ?_);refine A5 ((NT Gs An.init).here ?_);skip;refine A5 (AW (A5 (AW ?_)));show AG _ _ (Y0 (.ref T)>>=λl=>(pure l.toArray:Dx (BV A4))>>=λU=>alloc {cls:=.type "dict",data:=.dict #[]}>>=λd=>t9 (.ref A3.Bn) (.seq U) (G d)>>=λr=>ret r) _ _ _;refine Pf ht ?_;(try clear ht);intro o eT cT m dT;refine A5 (wpAny_collect_seq T (.inr rfl) eT cT dT (λQ kp=>A5 (AW (A5 (Y1 (A5 ?_))))) Ea);have L7:∀b o,s.heap.get? b=G o->(Q.push {cls:=.type "dict",data:=.dict #[]}).get? b=G o:=λb o e=>C0 _ (kp b o e);generalize hH:Q.push {cls:=.type "dict",data:=.dict #[]}=BD at L7;have step:AG (AQ B.prog B.w) (A.under (.builtin "tuple.__new__" ⟨[.ref A3.Bn,.ref T],[]⟩)) (newObjAsIs (.ref A3.Bn) (.seq us.toList.toArray) (G Q.objs.size)) (λr s'=>r=.ref BD.objs.size/\s'={s with heap:=BD.push {cls:=.ref A3.Bn,dict:=G Q.objs.size,data:=.seq us.toList.toArray}}) (λe s'=>E e s') {s with heap:=BD}:=by
  unfold newObjAsIs classHasDel;refine A5 (Y1 (A5 (A5 (NN (C0 _ (L7 _ _ ag)) (AW ?_)))));rw[lB];exact AW ⟨rfl,rfl⟩
 have yk:AG (AQ B.prog B.w) (A.under (.builtin "tuple.__new__" ⟨[.ref A3.Bn,.ref T],[]⟩)) (t9 (.ref A3.Bn) (.seq us.toList.toArray) (G Q.objs.size)) (λr s'=>r=.ref BD.objs.size/\s'={s with heap:=BD.push {cls:=.ref A3.Bn,dict:=G Q.objs.size,data:=.seq us.toList.toArray}}) (λe s'=>E e s') {s with heap:=BD}:=by
  unfold t9;simp only[];rw[CN (by simpa using Uc.mpr Ea)];exact step
 refine Fd yk (λr s' hr=>?_) λ_ _ e=>e;refine xA hr ?_;(try clear hr);intro B5 BI;subst B5;subst BI;refine AW ?_;have ah:∀b o,s.heap.get? b=G o->(BD.push {cls:=.ref A3.Bn,dict:=G Q.objs.size,data:=.seq us.toList.toArray}).get? b=G o:=λb o e=>C0 _ (L7 b o e);refine k _ C _ (g.ext (tk:=s.toks) ah) (Nx.ext ah) ⟨_,_,us.toList.toArray,0,rfl,CW _ rfl,⟨by rw[An.at_];rfl,λh=>by(exfalso;cases h)⟩,rfl,rfl,?_⟩;have :=vr.Bv (Q:=BD.push {cls:=.ref A3.Bn,dict:=G Q.objs.size,data:=.seq us.toList.toArray}) (λb o e _=>ah b o e);simpa using this
theorem yl(a b c d:A4):Jl "object.__init__" ⟨[a,b,c,d],[]⟩:=by unfold Jl;kernel_rfl
theorem ym(An:HT B A3 Kf)(AU:Kf.In B.base)(A8:C5 B A3 n)(g:Gd B F K A H C s){x y z:V}(rs:Aa s.heap C [x,y,z] us)(hK:K.d=d+1){fn:Fn}{o:Bl}(ok:FnAt B A3.SQ fn o fd)(h:JB ⟨K.sc,d⟩ (ev A3 n) fn (.top (.ref A3.Bn)::[x,y,z]) H=.ok (.v (.tup (G A3.Bn) U)) A7):Ae B F K A A7 C s (CD (.ref A3.Bn) us) (RV (.tup (G A3.Bn) U)):=by
 intro A2 E k;refine HL ?_;refine Yc rs ?_;(try clear rs);intro u1 us BO r1 u2 us Bo r2 u3 us Bf r3 yn;subst BO;subst Bo;subst Bf;cases yn;have Gs:Kf.In s.heap:=λa o e=>g.base a o (AU a o e);refine Ju An.cls ?_;intro oc od cd sl hC lB;have ag:=Gs _ _ hC;refine RQ ?_;show AG _ _ (Up (.ref A3.Bn) _) _ _ _;refine A5 (NN ag ?_);show AG _ _ (bq5 (.ref A3.Bn) _) _ _ _;unfold bq5;refine A5 ((bq6 Gs An.call).here ?_);skip;skip;refine A5 (AW (A5 (AW ?_)));refine AW (a:=Fin.again (.call (.builtin "type.__call__") ⟨[.ref A3.Bn,u1,u2,u3],[]⟩)) (Ug rfl ?_);refine codeAny_call_builtin_at (t8 _ (by decide+kernel)) entry_typeCall (Y2 tc_kind tc_split (looks_instIn Gs An.typ) (tc_args _ _ _) ?_);unfold E8.«type.__call__»;refine A5 ((NU Gs (An.mro _)).here ?_);skip;refine A5 ((NU Gs (An.made _)).here ?_);refine M2 (l8 (A:=A) (c:=A3.Bn) (C4:=[u1,u2,u3]) (kw:=[])) ?_;intro v1 v2 v3 v4;generalize hA:A.under (.builtin "type.__call__" ⟨[.ref A3.Bn,u1,u2,u3],[]⟩)=A' at v1 v2 v3 v4 ⊢;have dp:=g.depth;have un:=g.units;have AN:=g.swap (A':=A') (g.kinds.deep d) (v1.trans g.frames) (v2.trans g.handled) (by show _+3*d<900;rw[hK]at dp;(with_reducible exact Mine.yV (by assumption) (by assumption) (by decide))) (by show _+10*d<9000;rw[hK]at un;(with_reducible exact Mine.yV (by assumption) (by assumption) (by decide)));refine u_ An.new ?_;intro p hf C4 hp;refine A5 (cls_bind Gs An.reads hf (HL (sm_get (s:={s with toks:=s.toks+1}) Gs hp (handed_on rfl ?_))));refine A5 (C' (kI A8 ok h (AN.tok (s.toks+1)) (us:=[.ref A3.Bn,u1,u2,u3]) ⟨_,_,rfl,rfl,_,_,rfl,r1,_,_,rfl,r2,_,_,rfl,r3,rfl⟩ _ _ λu As Ah AT Al BA=>?_));refine Kl BA ?_;(try clear BA);intro T oT yo m Br eT tk cT dT vr;subst Br;have TF:Kf.In Ah.heap:=λa o e=>AT.base a o (AU a o e);have tT:Gc (AQ B.prog B.w) Ah.heap (H_ (.ref T)) (.ref A3.Bn):=(Kc (part:=L) eT).andThen (by rw[cT];exact .now);have iT:∀{b:A4}{r:AK},Xz Kf (.ref A3.Bn) b=G r->Gc (AQ B.prog B.w) Ah.heap (Uq (.ref T) b) r:=λe=>tT.andThen (Uo TF e);refine A5 ((iT An.self).here ?_);skip;have fin:AG (AQ B.prog B.w) A' (tA (.ref T) "__init__" [u1,u2,u3] []) (λr s'=>r=G .none/\s'=Ah) (λ_ _=>Bh) Ah:=by
  unfold tA NV;refine A5 (A5 (tT.here ((NT TF An.init).here ?_)));refine C' ?_;skip;refine A5 (AW (A5 (HL ?_)));show D6 _ A' (.call (.builtin "object.__init__") ⟨[.ref T,u1,u2,u3],[]⟩) _ Ah;refine Lq oi_plain entry_oi ?_;refine Y2 (i:="object.__init__") (owner:="object") (n:="__init__") (self:=.ref T) (rest:=[u1,u2,u3]) (kw:=[]) oi_kind oi_split (iT An.obj) (yl _ _ _ _) ?_;skip;skip;refine A5 (tT.here (A5 ((NT TF An.init).here ?_)));refine A5 ((NU TF (An.made _)).here ?_);skip;exact AW (AW ⟨rfl,rfl⟩)
 refine A5 (C' (Fd fin (λr s' hr=>?_) λ_ _ e=>e.elim));refine xA hr ?_;(try clear hr);intro C8 Ck;subst C8;clear fin iT TF tT;subst Ck;refine AW ?_;have gg:=AT.swap (K':=K) (A':=A) g.kinds g.frames g.handled dp un;exact k _ As s' gg Al ⟨T,oT,yo,m,rfl,eT,tk,cT,dT,vr⟩
end
noncomputable def MX(h:BJ)(t:A9)(Ca:BV A4):Prop:=∃o n,h.get? t=G o/\o.data=.seq Ca n
theorem MX.extBut{t b:A9}(x:MX h t Ca)(k:Dp b h Q)(ne:t≠b):MX Q t Ca:=let⟨o,n,e,d⟩:=x;⟨o,n,k _ _ ne e,d⟩
theorem yp:Rb "tuple.__iter__"=G .slot:=by decide+kernel
theorem yq:fx "tuple.__iter__"=G ("tuple","__iter__"):=by decide+kernel
theorem yr:Y3 "tuple.__iter__"=M:=by decide+kernel
section
theorem yt{it t:A9}{x:A4}{A2:AL A4->AR->Prop}(By:s.heap.IsTupleIter it t i)(ht:MX s.heap t Ca)(hx:Ca[i]?=G x)(hQ:∀Q,Q.IsTupleIter it t (i+1)->E2 it s.heap Q->A2 (G x) {s with heap:=Q}):AG (AQ prog w) A (EP (.ref it)) A2 E s:=by
 refine CX (id By) ?_;intro o ho hc hd;refine EU ht ?_;(try clear ht);intro ol nl OG ak;unfold EP;refine A5 (Rc (Lm (name:=Er "__next__") By.typeIs Y4 (Gf Y4 By.typeIs bq7 ?_ (bq8 _))));show AG _ _ (Ke (.ref it) 0>>=_) _ _ s;refine A5 (Gh ho hd (x:=.ref t) rfl ?_);show AG _ _ (if(Jm t==Ha)=M then _ else _) _ _ s;skip;show AG _ _ (Ke (.ref it) 1>>=_) _ _ s;refine A5 (Gh ho hd (x:=.int i 0) rfl ?_);show AG _ _ (NW (.ref t)>>=_) _ _ s;refine A5 (NX OG ak ?_);simp only[fy,hx];refine A5 (Lr ho hd (by simp) (AW ⟨x,rfl,AW (hQ _ ?_ (Fe ..))⟩));exact⟨_,FP _ ho (tB (g0 hd _)),(tC ..).trans hc,by rw[g0 hd];simp[EQ]⟩
theorem yu{it t:A9}{A2:AL A4->AR->Prop}(hh:A.handled=L)(By:s.heap.IsTupleIter it t i)(ht:MX s.heap t Ca)(hx:Ca[i]?=L)(hQ:∀Q,Dp it s.heap Q->A2 L {s with heap:=Q}):AG (AQ prog w) A (EP (.ref it)) A2 E s:=by
 refine CX (id By) ?_;intro o ho hc hd;refine EU ht ?_;(try clear ht);intro ol nl OG ak;unfold EP;refine A5 (Rc (Lm (name:=Er "__next__") By.typeIs Y4 (Gf Y4 By.typeIs bq7 ?_ (bq8 _))));show AG _ _ (Ke (.ref it) 0>>=_) _ _ s;refine A5 (Gh ho hd (x:=.ref t) rfl ?_);show AG _ _ (if(Jm t==Ha)=M then _ else _) _ _ s;skip;show AG _ _ (Ke (.ref it) 1>>=_) _ _ s;refine A5 (Gh ho hd (x:=.int i 0) rfl ?_);show AG _ _ (NW (.ref t)>>=_) _ _ s;refine A5 (NX OG ak ?_);simp only[fy,hx];refine A5 (Ge (A5 (Lr ho hd (by simp) ?_)));show AG _ _ (g4 (.type "StopIteration") []>>=_) _ _ _;refine A5 ?_;simp only[g4,Y5];refine A5 (IA ?_ (by size_fits));refine A5 (m:=Ur _ _) (NP (a:=Ha) (by first|rfl|(simp only[Ur];rfl)) ?_);refine IA ?_ (by size_fits);skip;refine A5 (tD ?_);first|rw[show A.in1.handled=L from hh]|rw[hh]
 refine A5 (AW (g5 ?_));refine A5 (Ls (T:="StopIteration") (b:=M) ⟨_,CW _ rfl,rfl⟩ g6 ?_);exact AW (hQ _ (((Fe ..).extBut.push _).push _))
theorem lD{it t:A9}(Cb:t≠it):∀(n i:O)(s:AR)(A2:I A4->AR->Prop),s.heap.IsTupleIter it t i->MX s.heap t Ca->i+n<=Ca.size->(∀Q,Q.IsTupleIter it t (i+n)->E2 it s.heap Q->A2 ((Ca.toList.drop i).take n) {s with heap:=Q})->AG (AQ prog w) A (draw (.ref it) n) A2 E s
 |0,i,s,A2,By,_,_,hQ=>by
  show AG _ _ (pure []) A2 E s;exact AW (by simpa using hQ s.heap By (fg ..))|n+1,i,s,A2,By,ht,al,hQ=>by
  have CE:i<Ca.size:=by omega
  show AG _ _ (EP (.ref it)>>=_) A2 E s;refine A5 (yt By ht (x:=Ca[i]) (by simp[CE]) λAP QM HU=>?_);refine A5 (C' (lD Cb n (i+1) _ _ QM (ht.extBut HU.extBut Cb) (by(with_reducible exact Mine.Yf (by assumption))) λBC yv QN=>AW ?_));have hd:Ca.toList.drop i=Ca[i]::Ca.toList.drop (i+1):=by simp[Y6,CE]
  have :=hQ BC (by rw[show i+(n+1)=i+1+n by omega];exact yv) (HU.trans QN);rw[hd,List.take_succ_cons]at this;exact this
end
section
theorem yw(An:HT B A3 Kf)(AU:Kf.In s.heap){t:A9}{o:Bl}(e:s.heap.get? t=G o)(hc:o.cls=.ref A3.Bn)(hQ:A2 (.ref s.heap.objs.size) {s with heap:=s.heap.push {cls:=.type "tuple_iterator",data:=.fields #[.ref t,.int 0 0]}}):AG (AQ B.prog B.w) A (PK (.ref t)) A2 E s:=by
 have tT:Gc (AQ B.prog B.w) s.heap (H_ (.ref t)) (.ref A3.Bn):=(Kc (part:=L) e).andThen (by rw[hc];exact .now);have sT:Gc (AQ B.prog B.w) s.heap (NV (.ref t) "__iter__") (G (.builtin "tuple.__iter__")):=tT.andThen (NT AU An.iter);have am:AG (AQ B.prog B.w) A (call (.builtin "tuple.__iter__") [.ref t]) (λv s'=>v=.ref s.heap.objs.size/\s'={s with heap:=s.heap.push {cls:=.type "tuple_iterator",data:=.fields #[.ref t,.int 0 0]}}) E s:=by
  refine HL (Lq yr F.entry_tuple_iter ?_);refine Y2 (i:="tuple.__iter__") (owner:="tuple") (n:="__iter__") (self:=.ref t) (rest:=[]) (kw:=[]) yp yq (tT.andThen (Uo AU An.tup)) (F.args_tuple_iter_1 _) ?_;show AG _ _ (do ret (<-newFields "tuple_iterator" [.ref t,EQ 0])) _ _ s;exact A5 (IA (AW ⟨rfl,rfl⟩))
 unfold PK;refine A5 (sT.here ?_);show AG _ A (bq9 (.ref t) "__iter__" _>>=_) A2 E s;refine A5 ?_;simp only[bq9,br0];refine C' (A5 (A5 (sT.here ?_)));skip;have fin:∀{P:AL A4->AR->Prop}{yx:Dx A4},P (G (.ref s.heap.objs.size)) {s with heap:=s.heap.push {cls:=.type "tuple_iterator",data:=.fields #[.ref t,.int 0 0]}}->AG (AQ B.prog B.w) A (if(br1 "tuple.__iter__"==Ha)=M then(yx>>=λv=>pure (G v))else(call (.builtin "tuple.__iter__") [.ref t]>>=λv=>pure (G v))) P E s:=λhp=>by
  rw[CN (show¬((br1 "tuple.__iter__"==Ha)=M)from NO)];refine A5 (Fd am (λv s' hv=>?_) λ_ _ e=>e);refine xA hv ?_;(try clear hv);intro Av B5;subst Av;subst B5;exact AW hp
 have yy:AG (AQ B.prog B.w) A (NV (.ref s.heap.objs.size) "__next__") (λr s'=>∃f,r=G f/\s'={s with heap:=s.heap.push {cls:=.type "tuple_iterator",data:=.fields #[.ref t,.int 0 0]}}) E {s with heap:=s.heap.push {cls:=.type "tuple_iterator",data:=.fields #[.ref t,.int 0 0]}}:=Y7 ⟨_,CW _ rfl,rfl⟩ Y4.lookup ⟨_,rfl,rfl⟩;have lE:=A5 (f:=λr=>match r with
 |none=>(do Y8 "iter.non-iterator";raiseError"TypeError"s!"iter() returned non-iterator of type '{<-PySem.typeNameOf (.ref s.heap.objs.size)}'":Dx A4)|some _=>pure (.ref s.heap.objs.size)) (Q:=A2) (Fd yy (λr s' hr=>by refine AC hr ?_;(try clear hr);intro f BI BO;subst BI;subst BO;exact AW hQ) λ_ _ e=>e);refine A5 (RS (f_ ?_));split;. exact A5 (AW (AW (fin lE)))
 . exact PS (A5 (AW (AW (fin lE))))
end
section
theorem yz(An:HT B A3 Kf)(AU:Kf.In s.heap)(hh:A.handled=L){t:A9}{o:Bl}(e:s.heap.get? t=G o)(hc:o.cls=.ref A3.Bn)(hd:o.data=.seq Ca m){WI:I (AK×(A4->Dx Et))}{A2:Et->AR->Prop}(hn:WI.length=Ca.size)(z0:WI.findIdx? (·.1)=L)(h:∀Q,Dp s.heap.objs.size s.heap Q->AG (AQ B.prog B.w) A (NL (WI.map (·.2)) Ca.toList) A2 E {s with heap:=Q}):AG (AQ B.prog B.w) A (unpack (.ref t) WI) A2 E s:=by
 have CE:t≠s.heap.objs.size:=EO (Df e);have tT:Gc (AQ B.prog B.w) s.heap (H_ (.ref t)) (.ref A3.Bn):=(Kc (part:=L) e).andThen (by rw[hc];exact .now);have sT:Gc (AQ B.prog B.w) s.heap (NV (.ref t) "__iter__") (G (.builtin "tuple.__iter__")):=tT.andThen (NT AU An.iter);unfold unpack;rw[hn,z0];refine A5 (C' ?_);unfold unpackItems;refine A5 ?_;skip;refine A5 (sT.here ?_);refine AW ?_;skip;refine A5 (C' (yw An AU e hc ?_));have hs:MX (s.heap.push {cls:=.type "tuple_iterator",data:=.fields #[.ref t,.int 0 0]}) t Ca:=⟨o,m,C0 _ e,hd⟩;refine A5 (C' (lD CE Ca.size 0 _ _ ⟨_,CW _ rfl,rfl,rfl⟩ hs (by omega) λAP QM HU=>?_));have O9:List.take Ca.size (bn4 0 Ca.toList)=Ca.toList:=by rw[Y9];exact g7 (by simp)
 rw[O9,CN (by simp)];have z8:MX AP t Ca:=hs.extBut HU.extBut CE;refine A5 (C' (yu hh QM z8 (by simp) λBC IZ=>?_));skip;exact AW (h BC λb o hb e=>IZ b o hb (HU.extBut b o hb (C0 _ e)))
theorem z9(AF:HT B A3 Kf)(AU:Kf.In B.base)(A8:C5 B A3 n){c:AL A9}(h:Kt A3 K (ev A3 n) (.Tuple ts kd pos) (.tup c U) H=.ok (.f f) A7)(g:Gd B F K A H C s)(r:VR s.heap C (.tup c U) u):CJ B F K A A7 C s (Eu (.Tuple ts kd pos) F.env u) RU:=by cases c with
 |none=>exact xG A8 h g r|some c=>
 refine A1.Bb h ?_;clear h;intro hl h;simp only[D2]at hl;refine xA hl ?_;(try clear hl);intro hl hp;have hl:=CC hl;refine Kl r ?_;(try clear r);intro a o us m Av e tk hc hd rs;subst Av;have GC:o.cls=.ref A3.Bn:=by
  have :c=135:=by simpa[Vm]using tk.1
  rw[AF.at_,<-this];exact hc
 intro A2 E k;have Cf:ts.length=us.size:=by rw[<-hl,rs.length];simp
 have Gs:Kf.In s.heap:=λa o e=>g.base a o (AU a o e);skip;refine A5 (Eh (yz AF Gs g.handled e GC hd (by rw[Vw,Cf]) (Vx hp) λQ hx=>?_));have kp:∀b o,s.heap.get? b=G o->Q.get? b=G o:=λb o e=>hx b o (EO (Df e)) e;have Ab:Nx F.D F.A_ s.heap Q C C:=Nx.ext kp;exact A8.Kp h (g.ext (tk:=s.toks) kp) (rs.nx Ab) _ _ λ_ As Ah AT Al _=>k () As Ah AT (Ab.trans Al) trivial
theorem zA(AF:Cx B A3 Kf)(A8:C5 B A3 n){o:AB}{a:Y}(h:Kt A3 K (ev A3 n) (.Attribute o a pos) v H=.ok (.f f) A7)(g:Gd B F K A H C s)(r:VR s.heap C v vu):CJ B F K A A7 C s (Eu (.Attribute o a pos) F.env vu) RU:=by
 refine A1.Ce h ?_;clear h;intro w AA AP h;revert AP;apply EF h Ac;intro i h;refine A1.Bw h ?_;clear h;intro ob hi h;revert hi;apply jM h Ac;intro c d h hi AP;refine A1.Bb h ?_;clear h;intro hc h;refine A1.Bw h ?_;clear h;intro od hd h;revert hd;apply ZS h Ac;intro N h hd;refine A1.Bb h ?_;clear h;intro hf h;apply O2 h;clear h;have hi:=CC (B' hc)▸hi;have ha:=Ak hc;intro A2 E k;show AG _ A (do
 let ov<-HZ [vu] (eval o F.env)Kb pos.atName
 HZ [vu,ov] (setAttr ov a vu)release [vu,ov] []) A2 E s;refine A5 (C' (A8.e AP g _ _ λu AZ AI AN Ab Ap=>A5 (Eh (A5 (C' (ye AF AN hi hd ha hf Ap (r.nx Ab) _ _ λ_ As Ah AT Al _=>?_))))));exact br2 (k () As Ah AT (Ab.trans Al).FW trivial)
end
theorem WJ{i:AX}(h:J7 i=M):-1000000000<=i/\i<=1000000000:=by
 unfold J7 at h;simpa using h
set_option tactic.hygienic true in
theorem ao{l:I J}{k:AX}{x:J}(h:Pw l k=G x):∃j,g8 k l.length=G j/\l[j]?=G x:=by
 unfold Pw at h;have lt:∀{j:O},l[j]?=G x->j<l.length:=λe=>(HH.mp e).1;split at h
 . split at h;. exact(BB h).elim
   . rw[HR]at h;refine⟨_,?_,h⟩;have :=lt h;unfold g8;rename_i h1 h2;simp only[h1,Jj];rw[D5 (by simp only[D2,PL];(with_reducible exact Mine.iE (by assumption) (by assumption)))]
 . rw[HR]at h;refine⟨_,?_,h⟩;have :=lt h;unfold g8;rename_i h1;simp only[h1,Ji];rw[D5 (by simp only[D2,PL];(with_reducible exact Mine.iE (by assumption) (by assumption)))]
theorem zB{i:AX}:Hb n i<=n:=bk2.mpr (bk0.mpr ⟨f9 _,Int.min_le_right _ _⟩)
theorem WK(l:I J)(lo hi:AL AX):Hl l lo hi=(l.drop (lo.elim 0 (Hb l.length))).take (hi.elim l.length (Hb l.length)-lo.elim 0 (Hb l.length)):=by
 unfold Hl;rw[List.drop_take];cases lo<;>cases hi<;>simp
theorem aq{us:BV A4}(r:Aa h C U us.toList)(lo hi:AL AX):Aa h C (Hl U lo hi) (Hc us lo hi L).toList:=by
 have hl:U.length=us.size:=by rw[r.length];simp
 rw[WK,br3,hl];simp only[List.toList_toArray];have dr:∀(n:O){a:I V}{b:I A4},Aa h C a b->Aa h C (a.drop n) (b.drop n):=λn=>by induction n with
 |zero=>intro a b x;simpa using x|succ n ih=>
  intro a b x;cases a with
 |nil=>cases x;simp;exact rfl|cons v a=>refine Bu x ?_;(try clear x);intro u us Av _ y;subst Av;simpa using ih y
 have tk:∀(n:O){a:I V}{b:I A4},Aa h C a b->Aa h C (a.take n) (b.take n):=λn=>by induction n with
 |zero=>intro a b x;exact rfl|succ n ih=>
  intro a b x;cases a with
 |nil=>cases x;simp;exact rfl|cons v a=>refine Bu x ?_;(try clear x);intro u us B5 z y;subst B5;exact⟨u,_,rfl,z,ih y⟩
 exact tk _ (dr _ r)
theorem zC(x:Tx)(lo hi:AL (AX×EM)):(g9 ⟨⟨x⟩⟩ lo hi L).filterMap ((⟨⟨x⟩⟩:Y).cps[·]?)=Hl x (lo.map (·.1)) (hi.map (·.1)):=by
 unfold g9;have e:Rd (lo.map (·.1)) (hi.map (·.1)) 1 x.length=sliceRange (((lo.map (·.1)).elim 0 (Hb x.length):O):AX) (((hi.map (·.1)).elim x.length (Hb x.length):O):AX) 1:=by
  unfold Rd;cases lo<;>cases hi<;>simp[clipAt_cast]
 show(Rd (lo.map (·.1)) (hi.map (·.1)) 1 x.length).filterMap _=_;rw[e,br4,br5,WK]
set_option tactic.hygienic true in
theorem OH{i:AB}{o w:A4}(h:∀a b p,i≠.Slice a b L p):subscripted i A6 o w=operate [o,w] (PR o w):=by
 cases i<;>try rfl
 rename_i a b st p;cases st with
 |none=>exact absurd rfl (h _ _ _)|some _=>rfl
section
theorem zD(x:Tx):(⟨⟨x⟩⟩:Y).length=x.length:=rfl
set_option tactic.hygienic true in
theorem zE{o r:V}{w:A4}(g:Gd B F K A H C s)(ro:VR s.heap C o u)(rk:VR s.heap C k w)(h:Zn o k H=.ok (.v r) A7)(hu:∀i N,o=.ref i->AJ H.h i≠G (.B1 N))(value i:AB)(hs:∀a b p,i≠.Slice a b L p):Ae B F K A A7 C s (tE value i u w) (RV r):=by
 revert ro;apply Np h
 . intro x h ro;revert rk;apply Cu h Ac;intro j h rk;refine A1.Bb h λhc h=>?_;refine xA (ML h) ?_;intro AP BI;clear h hu;subst BI;cases hx:Pw x j with
 |none=>rw[hx]at AP;exact(AE AP).elim|some y=>
     rw[hx]at AP;apply Bq AP;intro A2 E kk;refine AC (ao hx) ?_;intro m e1 e2;refine xE ro ?_;(try clear ro);intro t BO;subst BO;refine xE rk ?_;(try clear rk);intro t' Bo;subst Bo;have hm:=WJ (B' hc);refine Kg (PT s _ t) br6.lookup (P.getItem_str (i:=j) (c:=y) (by simp only[br7,gA];omega) ?_ ?_) (OH hs);. rw[zD,e1];simpa using e2
     . exact kk _ C _ (g.tok _) (Nx.refl ..) ⟨_,rfl⟩
 intro h;apply jH h
 . intro c U h ro;revert ro;apply GQ h Ac;intro h ro;revert rk;apply Cu h Ac;intro j h rk;refine A1.Bb h λhc h=>?_;refine xA (ML h) ?_;intro AP Bf;clear h hu;subst Bf;intro A2 E kk;refine AC (ao AP) ?_;intro m e1 e2;refine Kl ro ?_;(try clear ro);intro a o us n Br e tg EG hd vr;subst Br;refine xE rk ?_;(try clear rk);intro t' C8;subst C8;refine xA (tg.2 rfl) ?_;intro MY MZ;have ho:o={cls:=.type "tuple",data:=.seq us n}:=by obtain⟨c1,c2,c3,c4⟩:=o;simp only at EG hd MY MZ;rw[EG,hd,MY,MZ];rfl
   have hm:=WJ (B' hc);refine AC (vr.get e2) ?_;intro y ey ry;have Cf:U.length=us.size:=by rw[vr.length];simp
   rw[Cf]at e1;refine Kg ⟨o,e,EG⟩ PySem.F.slot_tuple_getitem.lookup (P.getItem_tuple (n:=n) (by rw[ho]at e;exact e) (by omega) (by omega) e1 (by simpa using ey) ?_) (OH hs);exact kk _ C _ g (Nx.refl ..) ry
 intro h;revert hu;apply EF h Ac;intro i' h hu ro;refine A1.Bw h λob hl h=>?_;revert hl;apply Jx h
 . intro U h hl;refine AC ro ?_;(try clear ro);intro a ha Ck;subst Ck;refine AC (g.obj hl ha) ?_;intro us hp vr;have Cf:U.length=us.size:=by rw[vr.length];simp
   revert rk;apply Pn h
   . intro j h rk;refine A1.Bb h λhc h=>?_;refine xA (ML h) ?_;intro AP D8;clear h hl hu;subst D8;intro A2 E kk;refine xE rk ?_;(try clear rk);intro t' DV;subst DV;have hm:=WJ (B' hc);refine AC (ao AP) ?_;intro m e1 e2;refine AC (vr.get e2) ?_;intro y ey ry;have QO:us[m]?=G y:=by simpa using ey
     have CE:m<us.size:=(gB.mp QO).1;have main:AG (AQ B.prog B.w) A (PR (.ref a) (.int j t')) A2 E s:=by
      unfold g8 at e1;by_cases hj:j<0
      . simp only[hj,Jj]at e1;split at e1
        . rename_i hb;simp only[D2,PL]at hb;injection e1 with e1;refine wpAny_getItem_list_neg hp.isList hj (by omega) (by omega) ?_ (kk _ C _ g (Nx.refl ..) ry);rw[<-Cf,e1];exact QO
        . exact(BB e1).elim
      . simp only[hj,Ji]at e1;split at e1
        . injection e1 with e1;refine tF hp.isList (by omega) (by omega) ?_ (kk _ C _ g (Nx.refl ..) ry);rw[e1];exact QO
        . exact(BB e1).elim
     exact Kg hp.isList.typeIs PU.lookup main (OH hs)
   . intro h;apply w5 h Ac;intro m h rk;refine A1.Bb h λhc h=>?_;apply B4 h;intro A2 E kk;have h1:=B' hc;have h2:=B' (Ak hc);have h3:=Ak (Ak hc);refine Bu rk ?_;(try clear rk);intro AF t' E_ x1 x2;subst E_;have h1:=CC h1;have h2:=Di h2;have CE:AF.toNat<U.length:=by(with_reducible exact Mine.uv (by assumption) (by assumption) (by assumption))
     have e2:U[AF.toNat]?=G U[AF.toNat]:=Hd CE;refine AC (vr.get e2) ?_;intro y ey ry;have QO:us[AF.toNat]?=G y:=by simpa using ey
     refine Kg hp.isList.typeIs PU.lookup (tF hp.isList x1 (by omega) QO (kk _ C _ g (Nx.refl ..) ?_)) (OH hs);have hm:=(Bp.mp h3) _ (gC CE);revert ry hm;cases U[AF.toNat]<;>intro ry hm<;>first|(exact(E3 hm).elim;done)|skip
     refine xE ry ?_;(try clear ry);intro t FC;clear ey QO;subst FC;refine AC (IC.mp hm) ?_;intro z hz hq;rw[EZ]at hq;exact⟨_,t,rfl,hq▸hz⟩
 intro h;apply SJ h
 . intro N h hl;refine A1.Bb h λhc h=>?_;refine xA (ML h) ?_;intro AP GB;clear h hu;subst GB;intro A2 E kk;exact Kg (WF g hl ro) br8.lookup (kj g hl ro rk hc AP _ _ kk) (OH hs)
 intro h;apply SM h Ac;intro N h hl;exact absurd hl (hu _ _ rfl)
end
theorem DR.mem{key:T->V}{l:I (T×A4)}(d:DR key h C N l):∀p∈N,∃k,p.1=key k/\k∈l.map (·.1):=DR.ind (P:=λN l=>∀p∈N,∃k,p.1=key k/\k∈l.map (·.1)) (λ_ m=>nomatch m) (λk _ _ _ _ _ _ ih p hp=>(Ci.mp hp).elim (λz=>⟨k,congrArg br9 z,Co⟩) λz=>AC (ih p z) λk' e' m=>⟨k',e',Cp _ m⟩) d
theorem lF{p:V×V}{l:I (V×V)}{x:V}:Cz (p::l) x=match G5 p.1 x with|some M=>G p.2|_=>Cz l x:=rfl
theorem ar[DecidableEq T]{key:T->V}(hk:∀a b,G5 (key a) (key b)=G (decide (a=b))){k:T}:(∀p∈N,∃k,p.1=key k)->(Cz N (key k)=L↔∀p∈N,p.1≠key k):=by induction N with
 |nil=>exactλ_=>⟨λ_ _ m=>(nomatch m),λ_=>rfl⟩|cons e N ih=>
 intro h;have ih:=ih λp m=>h p (Cp _ m);refine xE (h e Co) ?_;intro k' e1;rw[lF,e1,hk];by_cases q:k'=k
 . rw[RX q];exact⟨λz=>(nomatch z),λz=>(z e Co (by rw[e1,q])).elim⟩
 . rw[RY q];have Cb:key k'≠key k:=λz=>by have :=hk k' k;rw[z,hk,RX rfl,RY q]at this;(exfalso;cases this)
   exact ih.trans ⟨λa p m=>(Ci.mp m).elim (λz=>by rw[z,e1];exact Cb) (a p),λa p m=>a p (Cp _ m)⟩
theorem lG[DecidableEq T]{key:T->V}(hk:∀a b,G5 (key a) (key b)=G (decide (a=b))){k:T}:(∀p∈N,∃k,p.1=key k)->Cz N (key k)=G v->(key k,v)∈N:=by induction N with
 |nil=>exactλ_ e=>(AE e).elim|cons e N ih=>
 intro h q;refine xE (h e Co) ?_;intro k' e1;rw[lF,e1,hk]at q;by_cases z:k'=k
 . rw[RX z]at q;have q:G e.2=G v:=q;rw[<-z,<-e1,<-Bk q];exact Co
 . rw[RY z]at q;exact Cp _ (ih (λp m=>h p (Cp _ m)) q)
theorem DR.uniq[DecidableEq T]{key:T->V}(hk:∀a b,G5 (key a) (key b)=G (decide (a=b))){k:T}{l:I (T×A4)}(d:DR key h C N l):(l.map (·.1)).Nodup->(key k,v)∈N->(key k,v')∈N->v=v':=DR.ind (P:=λN l=>(l.map (·.1)).Nodup->(key k,v)∈N->(key k,v')∈N->v=v') (λ_ m=>nomatch m) (λk' _ u N r _ y ih hn m m'=>by
 refine xA (ER.mp hn) ?_;intro h1 h2;have inj:∀{a b:T},key a=key b->a=b:=λ{a b}z=>by have :=hk a b;rw[z,hk]at this;simpa using this
 rcases Ci.mp m with z|z<;>rcases Ci.mp m' with z'|z';. rw[<-z']at z;injection z
 . exfalso;refine AC (DR.mem y _ z') ?_;intro k2 e2 m2;have a1:k2=k:=inj e2.symm;have a2:k'=k:=inj (bs0.mp z).1.symm;exact h1 (by rw[a2,<-a1];exact m2)
 . exfalso;refine AC (DR.mem y _ z) ?_;intro k2 e2 m2;have a1:k2=k:=inj e2.symm;have a2:k'=k:=inj (bs0.mp z').1.symm;exact h1 (by rw[a2,<-a1];exact m2)
 . exact ih h2 z z') d
theorem lH[DecidableEq T]{key:T->V}(hk:∀a b,G5 (key a) (key b)=G (decide (a=b))){l:I (T×A4)}(r:DR key h C BM l)(hn:(l.map (·.1)).Nodup)(p:BM.Perm N)(k:T):Cz N (key k)=Cz BM (key k):=by
 have a':∀p∈BM,∃k,p.1=key k:=λq m=>let⟨k,e,_⟩:=r.mem q m;⟨k,e⟩;have a:∀p∈N,∃k,p.1=key k:=λq m=>a' q (p.mem_iff.mpr m);cases q:Cz N (key k)with
 |none=>
  have :=(ar hk a).mp q;exact((ar hk a').mpr λx m=>this x (p.mem_iff.mp m)).symm|some v=>
  have m:=lG hk a q;have m':=p.mem_iff.mpr m;cases q':Cz BM (key k)with
 |none=>exact absurd rfl ((ar hk a').mp q' _ m')|some v'=>rw[DR.uniq hk r hn m' (lG hk a' q')]
theorem lI(r:Dm prog w h C a BM)(p:BM.Perm N)(hk:Dc N k=M):Dc BM k=M:=by cases N with
 |nil=>rw[List.perm_nil.mp p];exact hk|cons e N=>
 have hm:e∈BM:=p.mem_iff.mpr Co;obtain⟨e0,e2⟩:=e;cases BM with
 |nil=>simp at hm|cons d ds=>
 obtain⟨d0,d2⟩:=d;rcases r with BO|Bo;refine AC BO ?_;(try clear BO);intro Ay _ hd;rotate_left;refine AC Bo ?_;(try clear Bo);intro Ay _ hd;rotate_left
 . refine AC (hd.mem _ hm) ?_;intro k1 q1 _;refine AC (hd.mem _ Co) ?_;intro k2 q2 _;simp only at q1 q2;subst q1;subst q2;cases k<;>first|exact hk|cases hk
 . refine AC (hd.mem _ hm) ?_;intro k1 q1 _;refine AC (hd.mem _ Co) ?_;intro k2 q2 _;simp only at q1 q2;subst q1;subst q2;cases k<;>first|exact hk|cases hk
section
set_option tactic.hygienic true in
theorem Gd.open(g:Gd B F K A H C s)(h:AJ H.h i=G (.B1 N)):∃BM,Vq BM N/\Gd B F K A (H.set i (.dict BM)) C s/\AJ (H.set i (.dict BM)).h i=G (.dict BM)/\(∀k,Dc N k=M->Dc BM k=M)/\(∀k,Dc N k=M->Cz N k=Cz BM k):=by
 refine ub (g.objs i _ h) ?_;intro a ha BM p r;refine⟨BM,p,?_,ME h,λk hk=>lI r p.1 hk,λk hk=>?_⟩
 . have x:Nx F.D F.A_ s.heap s.heap C C:=Nx.refl ..;refine⟨g.kinds,g.len,g.nodup,g.fresh,g.live,g.D4,g.D0,λj o e=>?_,g.env,g.base,g.os,g.gens,g.frames,g.DN,g.Cw,g.mods,g.handled,g.depth,g.units⟩;rcases Zx e with Bf|Br;refine xA Bf ?_;(try clear Bf);intro D8 DV;subst D8;subst DV;rotate_left;refine xA Br ?_;(try clear Br);intro _ e;rotate_left;. exact⟨a,ha,r⟩
   . exact g.objs j o e
 . have KC:=lI r p.1 hk;replace p:=p.1;cases BM with
 |nil=>rw[List.nil_perm.mp p]|cons d ds=>
   obtain⟨d0,d2⟩:=d;rcases r with C8|Ck;refine AC C8 ?_;(try clear C8);intro Ay hm hd;rotate_left;refine AC Ck ?_;(try clear Ck);intro Ay hm hd;rotate_left
   . refine AC (hd.mem _ Co) ?_;intro k2 q2 _;simp only at q2;subst q2;cases k<;>first|(first|exact(E3 KC).elim|cases KC)|skip
     rename_i x;exact lH WC hd (Ul hm) p ⟨⟨x⟩⟩
   . refine AC (hd.mem _ Co) ?_;intro k2 q2 _;simp only at q2;subst q2;cases k<;>first|(first|exact(E3 KC).elim|cases KC)|skip
     rename_i x;exact lH aX hd (Ul hm) p x
theorem Gd.close(h:AJ H.h i=G (.B1 N))(p:Vq BM N)(g:Gd B F K A (H.set i (.dict BM)) C s):Gd B F K A H C s:=by
 refine⟨g.kinds,g.len,g.nodup,g.fresh,g.live,g.D4,g.D0,λj o e=>?_,g.env,g.base,g.os,g.gens,g.frames,g.DN,g.Cw,g.mods,g.handled,g.depth,g.units⟩;by_cases q:j=i
 . subst q;rw[h]at e;injection e with e;subst e;refine AC (g.objs j _ (ME h)) ?_;intro a ha r;exact⟨a,ha,BM,p,r⟩
 . exact g.objs j o (by show AJ (putN H.h i _) j=_;rw[MF q];exact e)
theorem zF(g:Gd B F K A H C s)(hd:AJ H.h i=G (.B1 N))(ru:VR s.heap C (.ref i) u)(rk:VR s.heap C k ku)(hk:Dc N k=M)(hv:Cz N k=G v):s.TypeIs u "dict"/\Ae B F K A H C s (PR u ku) (RV v):=by
 refine Rw (g.open hd) ?_;intro BM p g' Q k' l';have Bg:=(l' k hk)▸hv;refine⟨?_,λA2 E kk=>kj g' Q ru rk (k' k hk) Bg A2 E λw AS s' AT Al BA=>kk w AS s' (Gd.close hd p AT) Al BA⟩;exact WF g' Q ru
theorem zG(g:Gd B F K A H C s)(hd:AJ H.h i=G (.B1 N))(ru:VR s.heap C (.ref i) u)(rk:VR s.heap C k ku)(hk:Dc N k=M):Ae B F K A H C s (DZ .In ku u) (Dn (.bool (Cz N k).isSome)):=by
 refine Rw (g.open hd) ?_;intro BM p g' Q k' l';rw[l' k hk];exactλA2 E kk=>km g' Q ru rk (k' k hk) A2 E λw AS s' AT Al BA=>kk w AS s' (Gd.close hd p AT) Al BA
theorem zH(g:Gd B F K A H C s)(hd:AJ H.h i=G (.B1 N))(ru:VR s.heap C (.ref i) u)(rk:VR s.heap C k ku)(hk:Dc N k=M):Ae B F K A H C s (DZ .NotIn ku u) (Dn (.bool (!(Cz N k).isSome))):=by
 refine Rw (g.open hd) ?_;intro BM p g' Q k' l';rw[l' k hk];exactλA2 E kk=>ko g' Q ru rk (k' k hk) A2 E λw AS s' AT Al BA=>kk w AS s' (Gd.close hd p AT) Al BA
theorem zI(A8:C5 B A3 n){o i:AB}{ov:V}(hs:∀a b p,i≠.Slice a b L p)(AP:ev A3 n K (.e o) H=.ok (.v ov) AA)(h:((ev A3 n K (.e i) AA).V λk H=>Zn ov k H)=.ok (.v v) A7)(g:Gd B F K A H C s):Ae B F K A A7 C s (eval (.Subscript o i pos) F.env) (RV v):=by
 refine A1.Ce h ?_;clear h;intro kv Bc BC h;intro A2 E kk;refine YA (A8.e AP g _ _ λu AZ AI AN Ab Ap=>A8.e BC AN _ _ λw As Ah AT Al BA=>?_);have ro:=Ap.nx Al;have xx:=Ab.trans Al;by_cases hu:∃j N,ov=.ref j/\AJ Bc.h j=G (.B1 N)
 . refine EU hu ?_;(try clear hu);intro j N B5 hj;subst B5;refine A1.Bw (show jc j kv Bc=_ from h) ?_;intro o' e' h;rw[hj]at e';injection e' with e';subst e';refine A1.Bb h ?_;clear h;intro hc h;refine A1.Bw h ?_;clear h;intro c C3 h;refine xA (FE h) ?_;intro q BI;subst BI;injection q with q;subst q;refine xA (zF AT hj ro BA hc C3) ?_;intro hT d;exact Kg hT br8.lookup (d _ _ λy BQ Aw Ao B7 BP=>kk y BQ Aw Ao (xx.trans B7) BP) (OH hs)
 . exact zE AT ro BA h (λj N e z=>hu ⟨j,N,e,z⟩) o i hs _ _ λy BQ Aw Ao B7 BP=>kk y BQ Aw Ao (xx.trans B7) BP
end
section
theorem part_of{a:AL AX}(r:VR h C v u)(e:S_ v=G a):∃p:AL (AX×EM),u=Us p/\a=p.map (·.1):=by
 revert r;apply ZQ e
 . intro e r;cases r;apply Bq e;exact⟨L,rfl,rfl⟩
 intro e;apply Cu e AE;intro i e r;refine Cj e AE λ_ e=>?_;refine xE r ?_;(try clear r);intro t Av;subst Av;apply Bq e;exact⟨G (i,t),rfl,rfl⟩
theorem WL(p:AL (AX×EM)):IsPart (Us p) (p.map (·.1)):=by cases p with
 |none=>exact .none|some p=>exact .int _ _
set_option tactic.hygienic true in
theorem zJ{o lo hi r:V}{p q:AL (AX×EM)}{sl:A9}(g:Gd B F K A H C s)(ro:VR s.heap C o u)(hl:S_ lo=G (p.map (·.1)))(hh:S_ hi=G (q.map (·.1)))(h:Zo o lo hi H=.ok (.v r) A7)(value l:AB)(hs:s.heap.IsSlice sl p q L)(lJ:∀{o i:A4},subscripted l A6 o i=operate [i,o] (PR o i)):Ae B F K A A7 C s (tE value l u (.ref sl)) (RV r):=by
 intro A2 E kk;refine A1.Bw h ?_;clear h;intro a ha h;refine A1.Bw h ?_;clear h;intro b hb h;rw[hl]at ha;injection ha with ha;subst ha;rw[hh]at hb;injection hb with hb;subst hb;have lst:A1.lst H.h o (λ_ U=>A1.iff (CG U) (FU (H.new (.list (Hl U (p.map (·.1)) (q.map (·.1)))))))=.ok (.v r) A7->AG (AQ B.prog B.w) A (tE value l u (.ref sl)) A2 E s:=λh=>by
  revert ro;apply A1.MJ h;clear h;intro i U hx h ro;refine A1.Bb h ?_;clear h;intro hf h;refine xA (FE h) ?_;intro z B5;subst B5;injection z with z;subst z;refine AC ro ?_;(try clear ro);intro x JH BI;subst BI;refine AC (g.obj hx JH) ?_;intro us hp vr;have Cf:us.size<=100000:=by have :=Eb hf;have e:=vr.length;simp at e;(with_reducible exact Mine.yS (by assumption) (by assumption))
  refine Kg hp.isList.typeIs PU.lookup (tG hp.isList hs (WL p) (WL q) gD (by simp) ?_ (B2 Cf (by decide))) lJ;have kp:∀b o,s.heap.get? b=G o->(s.heap.push {cls:=.type "list",data:=.seq (Hc us (p.map (·.1)) (q.map (·.1)) L)}).get? b=G o:=λb o e=>C0 _ e;have hg:=CW s.heap (o:={cls:=.type "list",data:=.seq (Hc us (p.map (·.1)) (q.map (·.1)) L)}) rfl;refine kk _ (C++[s.heap.objs.size]) _ (g.new (tk:=s.toks) kp (GD _) ⟨_,hg⟩ (o:=.list (Hl U (p.map (·.1)) (q.map (·.1)))) ⟨_,⟨_,hg⟩,?_⟩) (Nx.add [_] kp λb hb=>by rw[CH.mp hb];exact GD _) ⟨_,?_,rfl⟩;. exact(aq vr _ _).mono λb o e _=>kp b o e
  . rw[<-g.len];simp
 cases o with
 |str x=>
  refine A1.Bb h ?_;clear h;intro hf h;refine xA (FE h) ?_;intro z BO;subst BO;injection z with z;subst z;refine xE ro ?_;(try clear ro);intro t Bo;subst Bo;refine Kg (PT s _ t) br6.lookup (wpAny_getItem_str_slice hs rfl ?_) lJ;unfold sliceMade;have e:=zC x p q;split
  . rename_i hw;simp only[D2,PJ]at hw;have hx:Hl x (p.map (·.1)) (q.map (·.1))=x:=by
     have Ed:(g9 ⟨⟨x⟩⟩ p q L).length=x.length:=hw.2;rw[<-e];have h2:=e;skip;have e3:Rd (p.map (·.1)) (q.map (·.1)) 1 x.length=sliceRange (((p.map (·.1)).elim 0 (Hb x.length):O):AX) (((q.map (·.1)).elim x.length (Hb x.length):O):AX) 1:=by
       unfold Rd;cases p<;>cases q<;>simp[clipAt_cast]
     change(Rd (p.map (·.1)) (q.map (·.1)) 1 x.length).length=x.length at Ed;show(Rd (p.map (·.1)) (q.map (·.1)) 1 x.length).filterMap _=_;rw[e3,br4]at Ed ⊢;rw[br5];simp only[Jk,bs1]at Ed;replace Ed:_=Rf x:=Ed;have hb:(q.map (·.1)).elim x.length (Hb x.length)<=x.length:=by cases q<;>first|exact DE _|exact zB
     have ha:(p.map (·.1)).elim 0 (Hb x.length)=0\/x.length=0:=by
       have e1:=Ed;have e2:=hb;revert e1 e2;generalize(gE (λx=>x.1) p).elim 0 (Hb x.length)=P;generalize(gE (λx=>x.1) q).elim x.length (Hb x.length)=AV;intro e1 e2;have e3:AV-P=x.length:=e1;exact P.eq_zero_or_pos.imp_right λz=>x.length.eq_zero_or_pos.resolve_right λy=>Iq _ (Ip (e3▸Nat.sub_lt (Ip y (e3▸gF AV P)) z) e2)
     rcases ha with ha|ha;. rw[ha]at Ed ⊢;rw[Ed];simp
     . have :x=[]:=List.length_eq_zero_iff.mp ha;subst this;simp
    show A2 (.str ⟨⟨x⟩⟩ t) s;exact kk _ C _ g (Nx.refl ..) ⟨t,by rw[hx]⟩
  . show(so ⟨((g9 ⟨⟨x⟩⟩ p q L).filterMap ((⟨⟨x⟩⟩:Y).cps[·]?)).toArray⟩).post A2 s;rw[e];have al:(Hl x (p.map (·.1)) (q.map (·.1))).length<=x.length:=by rw[WK,PV];exact B2 (sG _ _) (by rw[Ut];exact gF _ _)
    have :=Eb hf;exact⟨B2 (show(Hl x (p.map (·.1)) (q.map (·.1))).length<=100000 by(with_reducible exact B2 (by assumption) (by assumption))) (by decide),kk _ C _ (g.tok _) (Nx.refl ..) ⟨_,rfl⟩⟩|_=>exact lst h
theorem zK(A8:C5 B A3 n){o:AB}{lo hi:AL AB}{sp:BG}{ov:V}(AP:ev A3 n K (.e o) H=.ok (.v ov) AA)(h:((oS lo (A1.ok (.v .none) AA) λx=>ev A3 n K (.e x) AA).V λa H=>(oS hi (A1.ok (.v .none) H) λx=>ev A3 n K (.e x) H).V λb H=>Zo ov a b H)=.ok (.v v) A7)(g:Gd B F K A H C s):Ae B F K A A7 C s (eval (.Subscript o (.Slice lo hi L sp) pos) F.env) (RV v):=by
 refine A1.Ce h ?_;clear h;intro bP9 Bc BC h;refine A1.Ce h ?_;clear h;intro bQ0 GU C3 h;have Hq:∀{x:AL AB}{H A7:Mine.St}{v:V}{C:I A9}{s:AR},(oS x (A1.ok (.v .none) H) λx=>ev A3 n K (.e x) H)=.ok (.v v) A7->Gd B F K A H C s->Ae B F K A A7 C s (evalPart x F.env) (RV v):=λ{x H A7 v C s}h g=>by cases x with
 |none=>
   refine xA (FE h) ?_;intro q Bf;subst Bf;injection q with q;subst q;exact CJ.pure g rfl|some x=>exact A8.e h g
 intro A2 E kk;refine YA (A8.e AP g _ _ λu AZ AI AN Ab Ap=>tH (Hq BC AN _ _ λa As Ah AT Al BA=>Hq C3 AT _ _ λb BQ Aw Ao B7 BP=>?_));skip;refine AW ?_;have h0:=h;refine A1.Bw h0 ?_;clear h0;intro a' Fj h0;refine A1.Bw h0 ?_;intro b' GV _;refine AC (part_of (BA.nx B7) Fj) ?_;intro p Br C8;subst Br;subst C8;refine AC (part_of BP GV) ?_;intro q Ck D8;subst Ck;subst D8;have kp:∀b o,Aw.heap.get? b=G o->(Aw.heap.push {cls:=.type "slice",data:=.fields #[Us p,Us q,.none]}).get? b=G o:=λb o e=>C0 _ e;have Cy:Nx F.D ([]:I A9) Aw.heap (Aw.heap.push {cls:=.type "slice",data:=.fields #[Us p,Us q,.none]}) BQ BQ:=Nx.ext kp;have xx:=Ab.trans (Al.trans (B7.trans Cy));refine zJ (Ao.ext (tk:=Aw.toks) kp) ((Ap.nx (Al.trans B7)).nx Cy) Fj GV h o _ ⟨_,CW _ rfl,rfl,rfl⟩ rfl _ _ λy QK Ec Cn EH IY=>kk y QK Ec Cn (xx.trans EH) IY
end
section
open PySem.SeqAt
theorem zL{x:Tx}(h:Lu ⟨⟨x⟩⟩ t=Lu ⟨⟨y⟩⟩ t'):x=y:=by injection h with h _;injection h with h;injection h
noncomputable def lK(h:BJ)(C:I A9)(f:V->V->AL AK):Prop:=∀{v v':V}{u:A4}{b:AK},VR h C v u->VR h C v' u->f v v'=G b->b=M
theorem zM{x y:AX}(h:Uu x t=Uu y t'):x=y:=by injection h
theorem lL(h:Pu v v'=G b){P:V->V->AK->Prop}(i:∀x y,P (.int x) (.int y) (decide (x=y)))(s:∀x y,P (.str x) (.str y) (CY x y)):P v v' b:=by
 apply Pn h;. intro x h;apply Cu h AE;intro y h;exact Bq h (i x y)
 . intro h;apply Db h AE;intro x h;apply Db h AE;intro y h;exact Bq h (s x y)
theorem zN(h:G5 v v'=G b){P:V->V->AK->Prop}(i:∀x y,P (.int x) (.int y) (decide (x=y)))(s:∀x y,P (.str x) (.str y) (CY x y))(t:∀x y b,Jy Pu x y=G b->P (.tup L x) (.tup L y) b):P v v' b:=by
 apply Pn h;. intro x h;apply Cu h AE;intro y h;exact Bq h (i x y)
 intro h;apply Np h;. intro x h;apply Db h AE;intro y h;exact Bq h (s x y)
 intro h;apply IJ h AE;intro c x h;apply GQ h AE;intro h;apply IJ h AE;intro c' y h;apply GQ h AE;intro h;exact t x y b h
theorem lM{f:V->V->AL AK}{P:I V->I V->AK->Prop}(n:P [] [] M)(c:∀x y U ys p q,f x y=G p->P U ys q->P (x::U) (y::ys) (p&&q))(l:∀y ys,P [] (y::ys) A6)(r:∀x U,P (x::U) [] A6):∀{ys:I V}{b:AK},Jy f U ys=G b->P U ys b:=by induction U with
 |nil=>intro ys b h;cases ys with
  |nil=>exact Bq h n|cons y ys=>exact Bq h (l y ys)
 |cons x U ih=>intro ys b h;cases ys with
 |nil=>exact Bq h (r x U)|cons y ys=>exact BH (x:=f x y) h λp h1 h=>BH h λq h2 h=>Bq h (c x y U ys p q h1 (ih h2))
theorem zO{f:V->V->AL AK}(hf:lK h C f){v v':I V}{u:I A4}(r:Aa h C v u)(r':Aa h C v' u)(q:Jy f v v'=G b):b=M:=by
 refine lM (P:=λv v' b=>∀u,Aa h C v u->Aa h C v' u->b=M) (λ_ _ _=>rfl) (λx y U ys p q h1 ih u r r'=>?_) (λy ys u r r'=>Bu r' λ_ _ e _ _=>by rw[show u=[]from r]at e;(exfalso;cases e)) (λy ys u r' r=>Bu r' λ_ _ e _ _=>by rw[show u=[]from r]at e;(exfalso;cases e)) q u r r';refine Bu r ?_;clear r;intro w us e a rs;subst e;refine Bu r' ?_;clear r';intro w' Dv e a' Fo;injection e with e1 e2;subst e1;subst e2;rw[hf a a' h1,ih _ rs Fo];rfl
theorem zP:lK h C Pu:=λ{v v' u b}r r' q=>lL q (P:=λv v' b=>VR h C v u->VR h C v' u->b=M) (λ_ _ r r'=>xE r λ_ e=>xE r' λ_ e'=>RX (zM (e.symm.trans e'))) (λ_ _ r r'=>xE r λ_ e=>xE r' λ_ e'=>EZ.mpr (zL (e.symm.trans e'))) r r'
theorem lN{f:V->V->AL AK}(q:Jy f U ys=G b):∃e:O->AK,(∀(j:O)(x y:V),U[j]?=G x->ys[j]?=G y->f x y=G (e j))/\b=((DQ (min U.length ys.length)).all e&&U.length==ys.length):=by
 refine lM (P:=λU ys b=>∃e:O->AK,(∀(j:O)(x y:V),U[j]?=G x->ys[j]?=G y->f x y=G (e j))/\b=((DQ (min U.length ys.length)).all e&&U.length==ys.length)) ⟨λ_=>M,λ_ _ _ h=>(AE h).elim,rfl⟩ (λx y U ys p q h1 ih=>?_) (λy ys=>⟨λ_=>M,λ_ _ _ h=>(AE h).elim,by simp⟩) (λx U=>⟨λ_=>M,λ_ _ _ _ h=>(AE h).elim,by simp⟩) q;refine AC ih ?_;clear ih;intro e he hb;refine⟨λj=>match j with|0=>p|j+1=>e j,λj a c ha hc=>?_,?_⟩;. cases j with
 |zero=>exact Bq ha (P:=λa=>f a c=G p) (Bq hc (P:=λc=>f x c=G p) h1)|succ j=>exact he j a c ha hc
 . rw[hb];simp only[R_,Nat.succ_min_succ,List.range_succ_eq_map,sa,List.all_map];have :((U.length+1==ys.length+1):AK)=(U.length==ys.length):=by simp
   rw[this,Bool.and_assoc];rfl
theorem au(r:VR s.heap C v u)(r':VR s.heap C v' u')(q:Pu v v'=G b):Rg A s u u' b:=by
 refine lL q (P:=λv v' b=>VR s.heap C v u->VR s.heap C v' u'->Rg A s u u' b) (λa c r r'=>?_) (λa c r r'=>?_) r r'
 . refine xE r ?_;clear r;intro t q;subst q;refine xE r' ?_;clear r';intro t' q;subst q;exact(tI a c t t').at A s
 . refine xE r ?_;clear r;intro t q;subst q;refine xE r' ?_;clear r';intro t' q;subst q;have e:(a==c)=CY a c:=T9;rw[<-e];exact(bs2 ⟨⟨a⟩⟩ ⟨⟨c⟩⟩ t t').at A s
theorem lO{f:V->V->AL AK}(hf:∀{v v':V}{u u':A4}{b:AK},VR s.heap C v u->VR s.heap C v' u'->f v v'=G b->Rg A s u u' b){us Dv:BV A4}(rs:Aa s.heap C U us.toList)(Fo:Aa s.heap C ys Dv.toList){e:O->AK}(he:∀(j:O)(x y:V),U[j]?=G x->ys[j]?=G y->f x y=G (e j)):∀j(h1:j<us.size)(h2:j<Dv.size),Rg A s us[j] Dv[j] (e j):=λj h1 h2=>by
 have l1:U.length=us.size:=by rw[rs.length];simp
 have l2:ys.length=Dv.size:=by rw[Fo.length];simp
 have hx:U[j]?=G U[j]:=Hd (by(with_reducible exact Mine.yQ (by assumption) (by assumption)));have hy:ys[j]?=G ys[j]:=Hd (by(with_reducible exact Mine.yQ (by assumption) (by assumption)));refine AC (rs.get hx) ?_;intro w ew L8;refine AC (Fo.get hy) ?_;intro w' zQ zR;have e1:us[j]=w:=by
  have :us[j]?=G w:=by simpa using ew
  rw[Rh h1]at this;injection this
 have e2:Dv[j]=w':=by
  have :Dv[j]?=G w':=by simpa using zQ
  rw[Rh h2]at this;injection this
 rw[e1,e2];exact hf L8 zR (he j _ _ hx hy)
theorem zS(hu:A.units+2<ID)(r:VR s.heap C v u)(r':VR s.heap C v' u')(q:G5 v v'=G b):Rg A s u u' b:=by
 refine zN q (P:=λv v' b=>VR s.heap C v u->VR s.heap C v' u'->Rg A s u u' b) (λa c r r'=>au r r' rfl) (λa c r r'=>au r r' rfl) (λU ys b q r r'=>?_) r r';refine Bu (QC r) ?_;clear r;intro l us C8 ht rs;subst C8;refine Bu (QC r') ?_;clear r';intro l' Dv Ck av Fo;subst Ck;by_cases hl:l=l'
 . subst hl;have :Dv=us:=by
    refine Pf ht ?_;clear ht;intro o e _ n d;refine Pf av ?_;clear av;intro o' e' _ n' d';rw[e]at e';injection e' with e';subst e';rw[d]at d';injection d' with d' _;exact d'.symm
   subst this;rw[zO zP rs Fo q];exact EqAt.same _
 . refine AC (lN q) ?_;intro e he hb;have l1:U.length=us.size:=by rw[rs.length];simp
   have l2:ys.length=Dv.size:=by rw[Fo.length];simp
   rw[hb,l1,l2];exact EqAt.of_refs hl (RcAt.tuples (e:=e) ht av (by(with_reducible exact Gy (Gz _ _) (by assumption))) (lO au rs Fo he))
theorem lP(hu:A.units+4<ID){us Dv:BV A4}{l l':A9}(hl:s.heap.IsList l us)(IX:s.heap.IsList l' Dv)(rs:Aa s.heap C U us.toList)(Fo:Aa s.heap C ys Dv.toList)(q:ZT U ys=G b)(h:A2 (.bool b) s):AG (AQ prog w) A (DZ .Eq (.ref l) (.ref l')) A2 E s:=by
 refine AC (lN q) ?_;intro e he hb;have l1:U.length=us.size:=by rw[rs.length];simp
 have l2:ys.length=Dv.size:=by rw[Fo.length];simp
 by_cases hz:us.size=Dv.size
 . refine eq_listAt (e:=e) hl IX hz (by(with_reducible exact Gy (Gz _ _) (by assumption))) (lO (A:=A.in1) (zS (by show A.units+1+2<ID;(with_reducible exact Mine.vP (by assumption)))) rs Fo he) ?_;have :b=(DQ us.size).all e:=by rw[hb,l1,l2,hz];simp
   rw[<-this];exact h
 . refine eq_list_lengthsAt hl IX (by simpa using hz) (by(with_reducible exact Gy (Gz _ _) (by assumption))) ?_;have :b=A6:=by rw[hb,l1,l2];simp[hz]
   rw[<-this];exact h
end
section
open PySem.SeqAt
section
theorem Gd.listAt(g:Gd B F K A H C s)(r:VR s.heap C (.ref i) u)(h:AJ H.h i=G (.list U)):∃a us,u=.ref a/\s.heap.PlainList a us/\Aa s.heap C U us.toList:=by
 refine AC r ?_;(try clear r);intro a e Av;subst Av;refine AC (g.obj h e) ?_;intro us p v;exact⟨a,us,rfl,p,v⟩
theorem Gd.lQ(g:Gd B F K A H C s){U:I Sg}(r:VR s.heap C (.ref i) u)(h:AJ H.h i=G (.rows m U)):∃a us,u=.ref a/\s.heap.PlainList a us/\Aa s.heap C (DM U) us.toList/\(DM U).length+m<=Dk:=by
 refine AC r ?_;(try clear r);intro a e B5;subst B5;refine CX (g.obj h e) ?_;intro us p v l;exact⟨a,us,rfl,p,v,l⟩
noncomputable def L9(x:Tx):A4->AK
 |.str z _=>CY z.cps.toList x|_=>A6
theorem zT{x:Tx}:∀{us:I A4}{r:AK},Aa h C U us->Nt U (.str x)=G r->us.any (L9 x)=r/\∀y∈us,∃z t,y=.str ⟨⟨z⟩⟩ t:=by induction U with
 |nil=>intro us r e q;cases e;exact Bq q (P:=λr=>[].any (L9 x)=r/\∀y∈[],∃z t,y=Lu ⟨⟨z⟩⟩ t) ⟨rfl,λ_ m=>nomatch m⟩|cons y l ih=>
 intro us r e q;refine Aa.Si e (P:=λus=>us.any (L9 x)=r/\∀y∈us,∃z t,y=.str ⟨⟨z⟩⟩ t) ?_;clear e;intro u us ru rs;revert ru;apply Db (v:=y) q AE;intro z q ru;have q:Az (Nt l (.str x)) (λr=>G (CY z x||r))=G r:=q;refine BH q λr' q' q=>?_;refine xE ru ?_;clear ru;intro t e;subst e;refine xA (ih rs q') ?_;intro a b;refine Bq q (P:=λr=>(Lu ⟨⟨z⟩⟩ t::us).any (L9 x)=r/\∀y∈Lu ⟨⟨z⟩⟩ t::us,∃z t,y=.str ⟨⟨z⟩⟩ t) ⟨by rw[sJ,a];rfl,λy m=>(Ci.mp m).elim (λe=>⟨z,t,e⟩) (b y)⟩
theorem zU{r:AK}(h:Nt U v=G r):∃x,v=.str x:=by cases U with
 |nil=>apply Db (v:=v) h AE;intro x _;exact⟨x,rfl⟩|cons a l=>apply Db (v:=a) h AE;intro z h;apply Db (v:=v) h AE;intro x _;exact⟨x,rfl⟩
theorem lR{x:Tx}{y:A4}(h:∃z t,y=.str ⟨⟨z⟩⟩ t):Rg A s y (.str ⟨⟨x⟩⟩ t) (L9 x y):=by
 refine D9 h ?_;(try clear h);intro z t' BO;subst BO;have :(z==x)=L9 x (.str ⟨⟨z⟩⟩ t'):=T9;rw[<-this];exact(bs2 ⟨⟨z⟩⟩ ⟨⟨x⟩⟩ t' t).at A s
theorem i2{f:AX->AX->AK}(h:VW f v v'=G b){P:A4->A4->AK->Prop}(rv:VR s.heap C v u)(C6:VR s.heap C v' u')(k:∀x y t t',P (.int x t) (.int y t') (f x y)):P u u' b:=by
 revert rv C6;apply Cu h AE;intro x h;apply Cu h AE;intro y h rv C6;refine xE rv ?_;(try clear rv);intro t Bo;subst Bo;refine xE C6 ?_;(try clear C6);intro t' Bf;subst Bf;apply Bq h;exact k x y t t'
theorem aw{f:Tx->Tx->AK}(h:(vStr v L λx=>vStr v' L λy=>G (f x y))=G b){P:A4->A4->AK->Prop}(rv:VR s.heap C v u)(C6:VR s.heap C v' u')(k:∀x y t t',P (.str ⟨⟨x⟩⟩ t) (.str ⟨⟨y⟩⟩ t') (f x y)):P u u' b:=by
 revert rv C6;apply Db h AE;intro x h;apply Db h AE;intro y h rv C6;refine xE rv ?_;(try clear rv);intro t Br;subst Br;refine xE C6 ?_;(try clear C6);intro t' C8;subst C8;apply Bq h;exact k x y t t'
theorem zV(g:Gd B F K A H C s)(rv:VR s.heap C v u)(C6:VR s.heap C v' u')(h:jU v v' H.h=G b):Ae B F K A H C s (DZ .Eq u u') (Dn (.bool b)):=by
 refine GP h (λh=>?_) λh=>GP h (λh=>?_) λh=>?_;. exact i2 (P:=λu u' b=>Ae B F K A H C s (DZ .Eq u u') (Dn (.bool b))) h rv C6 λx y t t'=>y2 g
 . exact aw (P:=λu u' b=>Ae B F K A H C s (DZ .Eq u u') (Dn (.bool b))) h rv C6 λx y t t'=>y8 g
 . revert rv C6;apply EF h AE;intro i h;apply EF h AE;intro j h rv C6;refine BH h λo q h=>BH h λo' q' h=>?_;revert q q';apply IM h AE;intro x h;apply IM h AE;intro y h q q';have hu:A.units+4<ID:=by have :=g.units;unfold ID;(with_reducible exact Mine.yU (by assumption) (by decide))
   refine Bu (g.listAt rv q) ?_;intro a us Ck p r;clear rv;subst Ck;refine Bu (g.listAt C6 q') ?_;intro a' Dv D8 p' r';clear C6;subst D8;exactλA2 E k=>lP hu p.isList p'.isList r r' h (k _ C s g (Nx.refl ..) rfl)
theorem lS{f:AK->AK}{a b:V}{r:AK}(h:SO f a b hp=G r){P:V->AK->Prop}(cd:∀j N,AJ hp j=G (.dict N)->Dc N a=M->P (.ref j) (f (Cz N a).isSome))(cu:∀j N,AJ hp j=G (.B1 N)->Dc N a=M->P (.ref j) (f (Cz N a).isSome))(cl:∀j U y,AJ hp j=G (.list U)->Nt U a=G y->P (.ref j) (f y)):P b r:=by
 apply EF h AE;intro j h;refine BH h λo q h=>?_;revert q;refine GP h (λh=>?_) λh=>GP h (λh=>?_) λh=>?_
 . apply J4 h AE;intro N h q;refine Cj h AE λhk h=>?_;apply Bq h;exact cd j N q hk
 . apply SM h AE;intro N h q;refine Cj h AE λhk h=>?_;apply Bq h;exact cu j N q hk
 . apply IM h AE;intro U h q;refine BH h λy hk h=>?_;apply Bq h;exact cl j U y q hk
theorem lT{y:AK}(g:Gd B F K A H C s)(rv:VR s.heap C v u)(C6:VR s.heap C (.ref j) u')(q:AJ H.h j=G (.list U))(hk:Nt U v=G y){P:Prop}(k:∀x t a us,u=.str ⟨⟨x⟩⟩ t->u'=.ref a->s.heap.PlainList a us->us.any (L9 x)=y->(∀y∈us.toList,∃z t,y=.str ⟨⟨z⟩⟩ t)->P):P:=by
 refine Bu (g.listAt C6 q) ?_;intro a us DV p r;clear C6;subst DV;refine xE (zU hk) ?_;intro x E_;subst E_;refine xE rv ?_;(try clear rv);intro t FC;subst FC;refine xA (zT r hk) ?_;intro e hm;exact k x t a us rfl rfl p (by rw[<-e,bk4]) hm
theorem zW(g:Gd B F K A H C s)(rv:VR s.heap C v u)(C6:VR s.heap C v' u')(h:SO (λb=>b) v v' H.h=G b):Ae B F K A H C s (DZ .In u u') (Dn (.bool b)):=by
 revert C6;apply lS h;. intro j N q hk C6;exact km g q C6 rv hk
 . intro j N q hk C6;exact zG g q C6 rv hk
 . intro j U y q hk C6;refine lT g rv C6 q hk λx t a us e e' p ha hm=>?_;clear rv;subst e;clear C6;subst e';clear hk;subst ha;exactλA2 E k=>in_listAt (L9 x) p.isList (λy m=>lR (hm y (by simpa using m))) (k _ C s g (Nx.refl ..) rfl)
theorem zX(g:Gd B F K A H C s)(rv:VR s.heap C v u)(C6:VR s.heap C v' u')(h:SO (λb=>!b) v v' H.h=G b):Ae B F K A H C s (DZ .NotIn u u') (Dn (.bool b)):=by
 revert C6;apply lS h;. intro j N q hk C6;exact ko g q C6 rv hk
 . intro j N q hk C6;exact zH g q C6 rv hk
 . intro j U y q hk C6;refine lT g rv C6 q hk λx t a us e e' p ha hm=>?_;clear rv;subst e;clear C6;subst e';clear hk;subst ha;exactλA2 E k=>notIn_listAt (L9 x) p.isList (λy m=>lR (hm y (by simpa using m))) (k _ C s g (Nx.refl ..) rfl)
theorem lU{t:AK}(h:ZZ t v v'=G b)(rv:VR s.heap C v u)(C6:VR s.heap C v' u'){P:A4->A4->AK->Prop}(k:P .none .none t)(n:∀u,u≠.none->(∀x,u≠.bool x)->P u .none !t):P u u' b:=by
 revert rv C6;apply Po h AE;intro h;refine GP h (λh=>?_) λh=>GP h (λh=>?_) λh=>GP h (λh=>?_) λh=>?_
 . apply Po h AE;intro h rv C6;cases rv;cases C6;apply Bq h;exact k
 . apply Db h AE;intro x h rv C6;refine xE rv ?_;(try clear rv);intro t' GB;subst GB;cases C6;apply Bq h;exact n _ (λz=>Uv z) λ_ z=>Uv z
 . apply EF h AE;intro x h rv C6;refine AC rv ?_;(try clear rv);intro a _ H9;subst H9;cases C6;apply Bq h;exact n _ (λz=>Uv z) λ_ z=>Uv z
 . apply Cu h AE;intro x h rv C6;refine xE rv ?_;(try clear rv);intro t' Hn;subst Hn;cases C6;apply Bq h;exact n _ (λz=>Uv z) λ_ z=>Uv z
theorem zY{op:PE}(g:Gd B F K A H C s)(rv:VR s.heap C v u)(C6:VR s.heap C v' u')(h:VX op v v' H.h=G b):Ae B F K A H C s (DZ op u u') (Dn (.bool b)):=by cases op with
 |Eq=>exact zV g rv C6 h|In=>exact zW g rv C6 h|NotIn=>exact zX g rv C6 h|Is=>exact lU (P:=λu u' b=>Ae B F K A H C s (DZ .Is u u') (Dn (.bool b))) h rv C6 (λA2 E k=>bL9 (k _ C s g (Nx.refl ..) rfl)) λu h0 h1 A2 E k=>bM0 h0 (k _ C s g (Nx.refl ..) rfl)|IsNot=>exact lU (P:=λu u' b=>Ae B F K A H C s (DZ .IsNot u u') (Dn (.bool b))) h rv C6 (λA2 E k=>bM1 (k _ C s g (Nx.refl ..) rfl)) λu h0 h1 A2 E k=>bM2 h0 (k _ C s g (Nx.refl ..) rfl)|NotEq=>exact GP h (λh=>i2 (P:=λu u' b=>Ae B F K A H C s (DZ .NotEq u u') (Dn (.bool b))) h rv C6 λx y t t'=>y3 g) λh=>aw (P:=λu u' b=>Ae B F K A H C s (DZ .NotEq u u') (Dn (.bool b))) h rv C6 λx y t t'=>y9 g|Lt=>exact GP h (λh=>i2 (P:=λu u' b=>Ae B F K A H C s (DZ .Lt u u') (Dn (.bool b))) h rv C6 λx y t t'=>y4 g) λh=>aw (P:=λu u' b=>Ae B F K A H C s (DZ .Lt u u') (Dn (.bool b))) h rv C6 λx y t t'=>yA g|Gt=>exact i2 (P:=λu u' b=>Ae B F K A H C s (DZ .Gt u u') (Dn (.bool b))) h rv C6 λx y t t'=>y5 g|LtE=>exact i2 (P:=λu u' b=>Ae B F K A H C s (DZ .LtE u u') (Dn (.bool b))) h rv C6 λx y t t'=>y6 g|GtE=>exact i2 (P:=λu u' b=>Ae B F K A H C s (DZ .GtE u u') (Dn (.bool b))) h rv C6 λx y t t'=>y7 g
end
end
section
open PySem.SeqAt
section
theorem OI{l:I V}:∀{t:I Tx},HQ l=G t->l=t.map .str:=by induction l with
 |nil=>exactλh=>Bk h▸rfl|cons v l ih=>
 intro t h;apply Db (show vStr v L (λt=>Az (HQ l) λr=>G (t::r))=G t from h) AE;intro x h;exact BH h λr e h=>Bk h▸congrArg (V.str x::·) (ih e)
theorem zZ{t:I Tx}(h:jW v=G t):v=.tup L (t.map .str):=by
 apply IJ h AE;intro o l h;apply GQ h AE;intro h;exact congrArg (V.tup L) (OI h)
theorem lV{g:Sg}(h:VZ v=G g):IQ g=[v]:=by
 apply Np h;. exactλx h=>Bk h▸rfl
 . exactλh=>BH h λl e h=>Bk h▸congrArg (λv=>[v]) (zZ e).symm
theorem z_{l:I V}:∀{t:I Sg},Q1 l=G t->DM t=l:=by induction l with
 |nil=>exactλh=>Bk h▸rfl|cons v l ih=>exactλh=>BH h λa e h=>BH h λr e' h=>Bk h▸(show IQ a++DM r=_ by rw[ih e',lV e];rfl)
theorem ax{l:I Sg}(h:FT o=G (r,l)){P:Ob->Prop}(a:CG (DM l)=M->r=Dk-(DM l).length->P (.list (DM l)))(b:P (.rows r l)):P o:=by
 apply Jx h
 . intro U h;refine Cj h AE λhf h=>BH h λl' hl h=>?_;have e:=Bk h;have e2:DM l=U:=(congrArg (·.2) e:l'=l)▸z_ hl;exact e2▸a (e2▸hf) (e2▸(congrArg (·.1) e).symm)
 . intro h;apply jO h AE;intro m ys h;have e:=Bk h;exact(congrArg (·.1) e:m=r)▸(congrArg (·.2) e:ys=l)▸b
theorem OJ{x y:I Sg}:DM (x++y)=DM x++DM y:=bs3
theorem WM(g:Gd B F K A H C s){r:O×I Sg}(hu:VR s.heap C (.ref i) u)(ho:AJ H.h i=G o)(h:FT o=G r):∃a us,u=.ref a/\s.heap.PlainList a us/\Aa s.heap C (DM r.2) us.toList/\(DM r.2).length+r.1<=Dk:=by
 revert ho;apply ax h
 . intro hf e ho;refine Bu (g.listAt hu ho) λa us q p v=>⟨a,us,q,p,v,?_⟩;rw[e,bs4 (B2 (Eb hf) (by decide))];exact DE _
 . exact g.lQ hu
theorem za{x y:O×I Sg}(g:Gd B F K A H C s)(hu:VR s.heap C (.ref i) u)(T8:VR s.heap C (.ref j) u')(ho:AJ H.h i=G o)(IT:AJ H.h j=G o')(hx:FT o=G x)(hy:FT o'=G y)(hc:EN Dk (x.1+y.1)=M):Ae B F K A (H.new (.rows (x.1+y.1-Dk) (x.2++y.2))).2 C s (Ev .Add u u') (RV (.ref H.n)):=by
 intro A2 E k;refine HO (WM g hu ho hx) ?_;intro a us Av B5 v l;clear hu;subst Av;refine xE B5 ?_;(try clear B5);intro n hl;refine HO (WM g T8 IT hy) ?_;intro b ws BI BO v' l';clear T8;subst BI;refine xE BO ?_;(try clear BO);intro n' IX;have hc:=Di hc;have Ea:us.size+ws.size<=F6:=by
   have e1:=v.length;have e2:=v'.length;simp at e1 e2;exact B2 (show _<=1000000 by unfold Dk at*;(with_reducible exact Mine.v_ (by assumption) (by assumption) (by assumption) (by assumption) (by assumption))) (by decide)
 refine concat_meets ⟨_,hl,rfl⟩ ⟨_,IX,rfl⟩ bo5 seq_list_add bo6 bo7 (bo8 _ _) (bo9 a b us ws n n' L L #[] #[] Ea) ⟨hl,IX,?_⟩;have kp:∀b o,s.heap.get? b=G o->(s.heap.push {cls:=.type "list",data:=.seq (us++ws)}).get? b=G o:=λb o e=>C0 _ e;have hn:s.heap.get? s.heap.objs.size=L:=by cases e:s.heap.get? s.heap.objs.size with
 |none=>rfl|some o=>exact absurd (Df e) (Iq _)
 have hg:=CW s.heap (o:={cls:=.type "list",data:=.seq (us++ws)}) rfl;refine k _ (C++[s.heap.objs.size]) _ (g.new (tk:=s.toks) kp hn ⟨_,hg⟩ (o:=.rows (x.1+y.1-Dk) (x.2++y.2)) ⟨us++ws,⟨_,hg⟩,?_,?_⟩) (Nx.add [_] kp λb hb=>by rw[CH.mp hb];exact hn) ⟨_,?_,rfl⟩
 . have :=(v.app v').mono (J:=[s.heap.objs.size]) (Q:=s.heap.push {cls:=.type "list",data:=.seq (us++ws)}) (λb o e _=>kp b o e);rw[OJ];simpa using this
 . rw[OJ,F8];unfold Dk at*;(with_reducible exact Mine.iD (by assumption) (by assumption) (by assumption))
 . rw[<-g.len];simp
set_option tactic.hygienic true in
theorem zb{c:O}{n:AX}(g:Gd B F K A H C s)(hn:ZV n=M):Ae B F K A H C s (Ev .Mult (.str ⟨⟨[c]⟩⟩ t) (.int n t')) (RV (.str (Xo n.toNat c))):=by
 intro A2 E k;unfold ZV at hn;simp only[D2,PL]at hn;refine xA hn ?_;(try clear hn);intro h0 h1;have e1:(⟨⟨[c]⟩⟩:Y).length=1:=rfl;refine SB.mul ⟨?_,?_,?_⟩ λH6 m=>k _ C _ (g.tok _) (Nx.refl ..) ⟨H6,?_⟩;. simp only[br7,gA];constructor<;>omega
 . intro hz _;rw[e1];intro hc;have h2:(2^63-1)/n>=1:=by
     have :n*1<=2^63-1:=by omega
     exact(Int.le_ediv_iff_mul_le (by omega)).mpr (by omega)
   omega
 . intro _ _;rw[e1];unfold bM3 F6;have :n.toNat<=1000:=by(with_reducible exact Mine.vh (by assumption))
   simp;omega
 . congr 1;unfold Txt.mul;split
   . have :n.toNat=0:=by omega
     rw[this];rfl
   . split
     . rename_i h2 h3;simp only[e1,tJ,PJ]at h3;have :n.toNat=1:=by omega
       rw[this];rfl
     . congr 1;have :∀(m:O)(Am:I UInt32),True:=λ_ _=>trivial;have key:∀(m:O)(Am:BV _),(Xo m (#[c])).foldl (·++·) Am=Am++(Xo m c).toArray:=by
        intro m;induction m with
  |zero=>intro Am;simp|succ m ih=>
        intro Am;rw[bs5,tK,ih,bs5];apply sS.mp;simp
       have :=key n.toNat #[];simpa using this
theorem zc{AF:AX}{b:O}(hb:0<b)(hm:m%b=0)(hr:r<m)(h:AF%(m:AX)=r):AF/(b:AX)%((m/b:O):AX)=((r/b:O):AX)/\AF%(b:AX)=((r%b:O):AX):=by
 refine xE (bs6 hm) ?_;intro c Bo;clear hm;subst Bo;have e:AF=(b:AX)*((c:AX)*(AF/((b*c:O):AX)))+r:=by
   have :=Int.mul_ediv_add_emod AF ((b*c:O):AX);rw[h]at this;rw[<-Int.mul_assoc,<-Int.natCast_mul];exact this.symm
 generalize AF/((b*c:O):AX)=q at e;have hc:b*c/b=c:=Nat.mul_div_cancel_left c hb;rw[hc];have GV:(b:AX)≠0:=by omega
 constructor
 . rw[e,bs7,Int.add_mul_ediv_left _ _ GV,bs8];have CE:r/b<c:=gG hr;rw[<-Int.natCast_ediv];exact Int.emod_eq_of_lt (f9 _) (fB.mpr CE)
 . rw[e,bs7,bs8];exact(Int.natCast_emod r b).symm
theorem zd{r:V}(g:Gd B F K A H C s)(hv:VR s.heap C v u)(Bg:VR s.heap C v' u')(h:jQ v v'=G r):Ae B F K A H C s (Ev .Add u u') (RV r):=by
 revert hv Bg;refine GP h (λh=>?_) λh=>GP h (λh=>?_) λh=>?_
 . apply Cu h AE;intro a h;refine GP h (λh=>?_) λh=>?_
   . apply Cu h AE;intro b h hv Bg;refine xE hv ?_;(try clear hv);intro t Bf;subst Bf;refine xE Bg ?_;(try clear Bg);intro t' Br;subst Br;apply Bq h;exact xt g
   . apply SG h AE;intro b h hv Bg;refine xE hv ?_;(try clear hv);intro t C8;subst C8;cases Bg;apply Bq h;exact xz g
 . apply SG h AE;intro a h;refine GP h (λh=>?_) λh=>?_
   . apply Cu h AE;intro b h hv Bg;refine xE Bg ?_;(try clear Bg);intro t Ck;subst Ck;cases hv;apply Bq h;exact xw g
   . apply SG h AE;intro b h hv Bg;cases hv;cases Bg;apply Bq h;exact xv g
 . apply Db h AE;intro a h;apply Db h AE;intro b h hv Bg;refine xE hv ?_;(try clear hv);intro t D8;subst D8;refine xE Bg ?_;(try clear Bg);intro t' DV;subst DV;refine Cj h AE λhf h=>?_;apply Bq h;exact kg g hf
theorem ze{r:V}(g:Gd B F K A H C s)(hv:VR s.heap C v u)(Bg:VR s.heap C v' u')(h:jT v v'=G r):Ae B F K A H C s (Ev .Mult u u') (RV r):=by
 revert hv Bg;refine GP h (λh=>?_) λh=>?_
 . apply SG h AE;intro a h;apply SG h AE;intro b h hv Bg;cases hv;cases Bg;apply Bq h;exact y0 g
 . apply Db h AE;intro a h;apply Cs h AE;intro c h;apply Cu h AE;intro n h hv Bg;refine xE hv ?_;(try clear hv);intro t E_;subst E_;refine xE Bg ?_;(try clear Bg);intro t' FC;subst FC;refine Cj h AE λhf h=>?_;apply Bq h;exact zb g hf
theorem zf{r:V}(g:Gd B F K A H C s)(hv:VR s.heap C v u)(Bg:VR s.heap C v' u')(h:ZX v v'=G r):Ae B F K A H C s (Ev .Sub u u') (RV r):=by
 revert hv Bg;apply Cu h AE;intro a h;apply Cu h AE;intro n h hv Bg;refine xE hv ?_;(try clear hv);intro t GB;subst GB;refine xE Bg ?_;(try clear Bg);intro t' H9;subst H9;apply Bq h;exact xu g
theorem lW{b:AX}(h:ZW b=M):0<b/\b<=1000000000:=⟨of_decide_eq_true (B' h),of_decide_eq_true (Ak h)⟩
theorem lX{AF b:AX}(h:VV m r b=M)(hb:0<b)(hX:AF%(m:AX)=r):AF/b%((m/b.toNat:O):AX)=((r/b.toNat:O):AX)/\AF%b=((r%b.toNat:O):AX):=by
 have h4:r<m:=gH (Di (Ak h));have e:((b.toNat:O):AX)=b:=tL (fC hb);have d:=zc (b:=b.toNat) (by omega) (CC (B' h)) h4 hX;rw[e]at d;exact d
theorem zg{r:V}(g:Gd B F K A H C s)(hv:VR s.heap C v u)(Bg:VR s.heap C v' u')(h:jR v v'=G r):Ae B F K A H C s (Ev .FloorDiv u u') (RV r):=by
 revert hv Bg;apply Cu h AE;intro b h;refine Cj h AE λhb h=>?_;have hb:=lW hb;refine GP h (λh=>?_) λh=>?_
 . apply Cu h AE;intro a h hv Bg;refine xE hv ?_;(try clear hv);intro t Hn;subst Hn;refine xE Bg ?_;(try clear Bg);intro t' Kw;subst Kw;apply Bq h;exact kf g hb
 . apply jI h AE;intro m r' h hv Bg;refine Cj h AE λhc h=>?_;refine EU hv ?_;(try clear hv);intro AF t Ky hX;subst Ky;refine xE Bg ?_;(try clear Bg);intro t' TG;subst TG;apply Bq h;intro A2 E k;refine kf g hb A2 E λu AS s' g' x' r=>?_;refine xE r ?_;(try clear r);intro t TH;subst TH;exact k _ AS s' g' x' ⟨_,t,rfl,by rw[Int.fdiv_eq_ediv_of_nonneg _ (fC hb.1)];exact(lX hc hb.1 hX).1⟩
theorem zh{r:V}(g:Gd B F K A H C s)(hv:VR s.heap C v u)(Bg:VR s.heap C v' u')(h:jS v v'=G r):Ae B F K A H C s (Ev .Mod u u') (RV r):=by
 revert hv Bg;apply Cu h AE;intro b h;refine Cj h AE λhb h=>?_;have hb:=(lW hb).1;refine GP h (λh=>?_) λh=>?_
 . apply Cu h AE;intro a h hv Bg;refine xE hv ?_;(try clear hv);intro t TJ;subst TJ;refine xE Bg ?_;(try clear Bg);intro t' ay;subst ay;apply Bq h;exact kc g hb
 . apply jI h AE;intro m r' h hv Bg;refine EU hv ?_;(try clear hv);intro AF t QP hX;subst QP;refine xE Bg ?_;(try clear Bg);intro t' TK;subst TK;apply Bq h;intro A2 E k;refine kc g hb A2 E λu AS s' g' x' r=>k _ AS s' g' x' ?_;refine xE r ?_;(try clear r);intro t TL;subst TL;rw[Int.fmod_eq_emod_of_nonneg _ (fC hb)];cases hc:VV m r' b with
 |true=>exact⟨t,by rw[(lX hc hb hX).2];rfl⟩|false=>exact⟨_,t,rfl,bs9 _ (by(with_reducible exact bo2 (by assumption))),by have :=bt0 AF hb;(with_reducible exact Mine.vR (by assumption))⟩
theorem zi{r:V}(g:Gd B F K A H C s)(hv:VR s.heap C (.ref i) u)(Bg:VR s.heap C (.ref j) u')(h:Sb i j H=.ok (.v r) A7):Ae B F K A A7 C s (Ev .Add u u') (RV r):=by
 refine A1.Bw h λo q h=>A1.Bw h λo' q' h=>?_;have AV:(A1.of (FT o) λx=>A1.of (FT o') λy=>A1.iff (EN Dk (x.1+y.1)) (FU (H.new (.rows (x.1+y.1-Dk) (x.2++y.2)))))=.ok (.v r) A7->Ae B F K A A7 C s (Ev .Add u u') (RV r):=λh=>A1.Bw h λx hx h=>A1.Bw h λy hy h=>A1.Bb h λhc h=>B4 h (P:=λr A7=>Ae B F K A A7 C s (Ev .Add u u') (RV r)) (za g hv Bg q q' hx hy hc);revert q;apply Jx h (e:=λh _=>AV h);intro x h;revert q';apply Jx h (e:=λh _ _=>AV h);intro y h q' q;refine A1.Bb h λhf h=>?_;apply B4 h;exact y1 g hv Bg q q' hf
theorem zj{r:V}(g:Gd B F K A H C s)(hv:VR s.heap C v u)(Bg:VR s.heap C v' u')(h:Vg op v v' H=.ok (.v r) A7):Ae B F K A A7 C s (Ev op u u') (RV r):=by
 have fin:∀{op:Jc}{x:AL V},Gn x H=.ok (.v r) A7->(x=G r->Ae B F K A H C s (Ev op u u') (RV r))->Ae B F K A A7 C s (Ev op u u') (RV r):=λh k=>by refine xA (ML h) ?_;intro e az;clear g h;subst az;exact k e
 refine Ff h (λe h=>?_) λh=>Ff h (λe h=>?_) λh=>Ff h (λe h=>?_) λh=>Ff h (λe h=>?_) λh=>Ff h (λe h=>?_) λh=>(Ac h).elim
 . subst e;revert hv;apply VS h (e:=λh hv=>fin h (zd g hv Bg));intro i h hv;revert Bg;apply EF h Ac;intro j h Bg;exact zi g hv Bg h
 . subst e;exact fin h (zf g hv Bg)
 . subst e;exact fin h (zg g hv Bg)
 . subst e;exact fin h (zh g hv Bg)
 . subst e;exact fin h (ze g hv Bg)
theorem OK:Lf B:=⟨xr,zY,xs,zj⟩
end
end
section
open Sem(wp)
section
namespace Bd
theorem zk:PW (.type "set") "__contains__"=pure (G (.builtin "set.__contains__")):=by rw[Iw,Ix];kernel_rfl
theorem zl:PW (.type "dict") "get"=pure (G (.builtin "dict.get")):=by rw[Iw,Ix];kernel_rfl
theorem ty_set:H_ (.builtin "set.__contains__")=pure (.type "method_descriptor"):=by kernel_rfl
theorem ty_dict:H_ (.builtin "dict.get")=pure (.type "method_descriptor"):=by kernel_rfl
theorem QQ:Lv "method_descriptor" "__get__" "method_descriptor.__get__":=.of (owner:="method_descriptor") (n:="__get__") (by rw[Iw,Ix];kernel_rfl) (by decide+kernel) (by decide+kernel) (by decide+kernel) (by first|exact .inl (by decide+kernel)|exact .inr (by decide+kernel)) (by rw[Iy];kernel_rfl)
theorem lY:Ln Lp "method_descriptor.__get__"=G E8.«method_descriptor.__get__»:=Y' (by kernel_rfl)
theorem lZ(a b c:A4):Jl "method_descriptor.__get__" ⟨[a,b,c],[]⟩:=by unfold Jl;kernel_rfl
theorem l_:PW (.type "method_descriptor") "__set__"=pure L:=by rw[Iw,Ix];kernel_rfl
theorem lc:PW (.type "method_descriptor") "__delete__"=pure L:=by rw[Iw,Ix];kernel_rfl
theorem zm:(".".intercalate ("set.__contains__".cutAt '.').dropLast)="set":=by
 have e0:"set.__contains__".cutAt '.'=["set","__contains__"]:=by first|rfl|decide+kernel
 rw[e0];decide+kernel
theorem zn:(".".intercalate ("dict.get".cutAt '.').dropLast)="dict":=by
 have e0:"dict.get".cutAt '.'=["dict","get"]:=by first|rfl|decide+kernel
 rw[e0];decide+kernel
theorem zo:Ri (.type "set") (.type (".".intercalate ("set.__contains__".cutAt '.').dropLast))=pure M:=by rw[zm,Iy];kernel_rfl
theorem zp:Ri (.type "dict") (.type (".".intercalate ("dict.get".cutAt '.').dropLast))=pure M:=by rw[zn,Iy];kernel_rfl
end Bd
section
variable{g:BV fG}{d:Drawn}{t:O}{os:Jd}
theorem zq{AV:Dq->AR->Prop}(hx:h.get? a=G {cls:=.type "set",dict:=L,data:=.set ez n sf,slots:=sl})(hq:AV (.ok (.ret (.ref h.objs.size))) ⟨h.push {cls:=.type "builtin_function_or_method",data:=.fields #[.builtin "set.__contains__",.ref a]},g,d,t,os⟩):D6 (AQ prog w) A (.call (.builtin "method_descriptor.__get__") ⟨[.builtin "set.__contains__",.ref a,.type "set"],[]⟩) AV ⟨h,g,d,t,os⟩:=by
 have hT:(⟨h,g,d,t,os⟩:AR).TypeIs (.ref a) "set":=⟨_,hx,rfl⟩;have TM:(⟨h,g,d,t,os⟩:AR).TypeIs (.builtin "set.__contains__") "method_descriptor":=Bd.ty_set;have f8:=Bd.zo;refine Lq Bd.QQ.plain Bd.lY (Bd.QQ.check _ _ _ _ _ _ _ _ TM (Bd.lZ _ _ _) ?_);repeat(any_goals(first|with_reducible assumption|wp_step|assumption))
theorem zr{tk:EM}{A2:Fin->AR->Prop}(hx:h.get? a=G {cls:=.type "set",dict:=L,data:=.set ez n sf,slots:=sl})(hq:A2 (.done (.ret (.ref h.objs.size))) ⟨h.push {cls:=.type "builtin_function_or_method",data:=.fields #[.builtin "set.__contains__",.ref a]},g,d,t,os⟩):AG (AQ prog w) A (E8.«object.__getattribute__» ⟨[.ref a,.str "__contains__" tk],[]⟩) A2 E ⟨h,g,d,t,os⟩:=by
 have hT:(⟨h,g,d,t,os⟩:AR).TypeIs (.ref a) "set":=⟨_,hx,rfl⟩;have TM:(⟨h,g,d,t,os⟩:AR).TypeIs (.builtin "set.__contains__") "method_descriptor":=Bd.ty_set;have f4:=Bd.zk;have f5:=Bd.ty_set;have f6:=Bd.QQ.lookup;have f7:=Bd.l_;have f8:=Bd.lc;repeat(any_goals(first|with_reducible assumption|wp_step|assumption))
 refine zq hx ?_;repeat(any_goals(first|with_reducible assumption|wp_step|assumption))
theorem zs{tk:EM}{AV:Dq->AR->Prop}(hx:h.get? a=G {cls:=.type "set",dict:=L,data:=.set ez n sf,slots:=sl})(hq:AV (.ok (.ret (.ref h.objs.size))) ⟨h.push {cls:=.type "builtin_function_or_method",data:=.fields #[.builtin "set.__contains__",.ref a]},g,d,t,os⟩):D6 (AQ prog w) A (.call (.builtin "set.__getattribute__") ⟨[.ref a,.str "__contains__" tk],[]⟩) AV ⟨h,g,d,t,os⟩:=Lq gI.plain F.entry_set_ga (gI.check _ _ _ _ _ _ _ _ (show(⟨h,g,d,t,os⟩:AR).TypeIs (.ref a) "set"from⟨_,hx,rfl⟩) (F.args_set_getattribute_2 _ _) (zr hx hq))
theorem zt{tk:EM}{fill:AK}(hx:h.get? a=G {cls:=.type "set",dict:=L,data:=.set ez n sf,slots:=sl})(hq:A2 (.ref h.objs.size) ⟨h.push {cls:=.type "builtin_function_or_method",data:=.fields #[.builtin "set.__contains__",.ref a]},g,d,t,os⟩):AG (AQ prog w) A (gJ (.ref a) (.str "__contains__" tk) fill ex) A2 E ⟨h,g,d,t,os⟩:=by
 have hT:(⟨h,g,d,t,os⟩:AR).TypeIs (.ref a) "set":=⟨_,hx,rfl⟩;have f2:=gI.lookup;have f3:=gI.bind (.ref a);have e1:(ex&&onTheHeap (.builtin "set.__getattribute__"))=A6:=by cases ex<;>rfl
 unfold gJ;refine C' (A5 (Rj hT (A5 (NP f2 ?_))));show AG _ _ (gK _ _ _ _ _ _) _ _ _;unfold gK bt1;rw[e1];repeat(any_goals(first|with_reducible assumption|wp_step|assumption))
 refine zs hx ?_;repeat(any_goals(first|with_reducible assumption|wp_step|assumption))
theorem zu(hx:h.get? a=G {cls:=.type "set",dict:=L,data:=.set ez n sf,slots:=sl})(hq:A2 (.ref h.objs.size) ⟨h.push {cls:=.type "builtin_function_or_method",data:=.fields #[.builtin "set.__contains__",.ref a]},g,d,t+1,os⟩):AG (AQ prog w) A (Un (.ref a) "__contains__" ex) A2 E ⟨h,g,d,t,os⟩:=by
 unfold Un;refine A5 (tM ?_);exact zt hx hq
theorem zv{AV:Dq->AR->Prop}(hx:h.get? a=G {cls:=.type "dict",dict:=L,data:=.dict ez n,slots:=sl})(hq:AV (.ok (.ret (.ref h.objs.size))) ⟨h.push {cls:=.type "builtin_function_or_method",data:=.fields #[.builtin "dict.get",.ref a]},g,d,t,os⟩):D6 (AQ prog w) A (.call (.builtin "method_descriptor.__get__") ⟨[.builtin "dict.get",.ref a,.type "dict"],[]⟩) AV ⟨h,g,d,t,os⟩:=by
 have hT:(⟨h,g,d,t,os⟩:AR).TypeIs (.ref a) "dict":=⟨_,hx,rfl⟩;have TM:(⟨h,g,d,t,os⟩:AR).TypeIs (.builtin "dict.get") "method_descriptor":=Bd.ty_dict;have f8:=Bd.zp;refine Lq Bd.QQ.plain Bd.lY (Bd.QQ.check _ _ _ _ _ _ _ _ TM (Bd.lZ _ _ _) ?_);repeat(any_goals(first|with_reducible assumption|wp_step|assumption))
theorem zw{tk:EM}{A2:Fin->AR->Prop}(hx:h.get? a=G {cls:=.type "dict",dict:=L,data:=.dict ez n,slots:=sl})(hq:A2 (.done (.ret (.ref h.objs.size))) ⟨h.push {cls:=.type "builtin_function_or_method",data:=.fields #[.builtin "dict.get",.ref a]},g,d,t,os⟩):AG (AQ prog w) A (E8.«object.__getattribute__» ⟨[.ref a,.str "get" tk],[]⟩) A2 E ⟨h,g,d,t,os⟩:=by
 have hT:(⟨h,g,d,t,os⟩:AR).TypeIs (.ref a) "dict":=⟨_,hx,rfl⟩;have TM:(⟨h,g,d,t,os⟩:AR).TypeIs (.builtin "dict.get") "method_descriptor":=Bd.ty_dict;have f4:=Bd.zl;have f5:=Bd.ty_dict;have f6:=Bd.QQ.lookup;have f7:=Bd.l_;have f8:=Bd.lc;repeat(any_goals(first|with_reducible assumption|wp_step|assumption))
 refine zv hx ?_;repeat(any_goals(first|with_reducible assumption|wp_step|assumption))
theorem zx{tk:EM}{AV:Dq->AR->Prop}(hx:h.get? a=G {cls:=.type "dict",dict:=L,data:=.dict ez n,slots:=sl})(hq:AV (.ok (.ret (.ref h.objs.size))) ⟨h.push {cls:=.type "builtin_function_or_method",data:=.fields #[.builtin "dict.get",.ref a]},g,d,t,os⟩):D6 (AQ prog w) A (.call (.builtin "dict.__getattribute__") ⟨[.ref a,.str "get" tk],[]⟩) AV ⟨h,g,d,t,os⟩:=Lq gL.plain F.entry_dict_ga (gL.check _ _ _ _ _ _ _ _ (show(⟨h,g,d,t,os⟩:AR).TypeIs (.ref a) "dict"from⟨_,hx,rfl⟩) (F.args_dict_getattribute_2 _ _) (zw hx hq))
theorem zy{tk:EM}{fill:AK}(hx:h.get? a=G {cls:=.type "dict",dict:=L,data:=.dict ez n,slots:=sl})(hq:A2 (.ref h.objs.size) ⟨h.push {cls:=.type "builtin_function_or_method",data:=.fields #[.builtin "dict.get",.ref a]},g,d,t,os⟩):AG (AQ prog w) A (gJ (.ref a) (.str "get" tk) fill ex) A2 E ⟨h,g,d,t,os⟩:=by
 have hT:(⟨h,g,d,t,os⟩:AR).TypeIs (.ref a) "dict":=⟨_,hx,rfl⟩;have f2:=gL.lookup;have f3:=gL.bind (.ref a);have e1:(ex&&onTheHeap (.builtin "dict.__getattribute__"))=A6:=by cases ex<;>rfl
 unfold gJ;refine C' (A5 (Rj hT (A5 (NP f2 ?_))));show AG _ _ (gK _ _ _ _ _ _) _ _ _;unfold gK bt1;rw[e1];repeat(any_goals(first|with_reducible assumption|wp_step|assumption))
 refine zx hx ?_;repeat(any_goals(first|with_reducible assumption|wp_step|assumption))
theorem zz(hx:h.get? a=G {cls:=.type "dict",dict:=L,data:=.dict ez n,slots:=sl})(hq:A2 (.ref h.objs.size) ⟨h.push {cls:=.type "builtin_function_or_method",data:=.fields #[.builtin "dict.get",.ref a]},g,d,t+1,os⟩):AG (AQ prog w) A (Un (.ref a) "get" ex) A2 E ⟨h,g,d,t,os⟩:=by
 unfold Un;refine A5 (tM ?_);exact zy hx hq
end
end
end
section
open Sem(wp)
section
theorem lf{q d:A9}{id T:DJ}{o:Bl}{lg:Manifest.Signature}{Bt:E8}(hq:s.heap.get? q=G {cls:=.type "builtin_function_or_method",data:=.fields #[.builtin id,.ref d]})(hd:s.heap.get? d=G o)(hT:o.cls=.type T)(hn:∀c,o.data≠.cls c)(b4:gM id=G lg)(hk:Rb id=G .method)(hm:Ri (.type T) (.type "module")=pure A6)(hv:tN.contains id=A6)(hc:tO id {lg with full:=s!"{Uw T}.{Uw id}"} ⟨.ref d::us,[]⟩=pure ())(hp:Y3 id=M)(he:Ln Lp id=G Bt)(h:AG (AQ prog w) A.in1 (Bt ⟨.ref d::us,[]⟩) (λfin s'=>∃v,fin=.done (.ret v)/\A2 v s') E s):AG (AQ prog w) A (call (.ref q) us) A2 E s:=by
 refine HL (RQ ?_);show AG _ A.in1 (Up (.ref q) ⟨us,[]⟩) _ _ _;unfold Up;refine A5 (NN hq ?_);have WN:s.TypeIs (.ref d) T:=⟨_,hd,hT⟩;have hL:∀{A2:AK->AR->Prop},A2 A6 s->AG (AQ prog w) A.in1 (isType (.ref d)) A2 E s:=by
  intro A2 q;show AG _ _ (do return match(<-loadHead d).data with|.cls _=>M|_=>A6) _ _ _;refine A5 (bq4 hd (AW ?_));cases o with|mk c dd bQ1 sl=>cases bQ1<;>first|exact q|exact absurd rfl (hn _)
 show AG _ _ (do bt2 id ⟨.ref d::us,[]⟩;Kd (.builtin id ⟨.ref d::us,[]⟩)) _ _ _;refine A5 ?_;unfold bt2;simp only[b4,hk];refine A5 (Ls WN hm ?_);rw[hv];skip;refine A5 (hL ?_);skip;refine A5 (Rj WN ?_);skip;refine NP hc (AW ⟨plainId_quiet hp _,Iv he ?_⟩);rw[bt3 hp _];refine Fd h (λfin s' Q=>?_) λ_ _ Q=>Q;refine AC Q ?_;(try clear Q);intro v Av hv;subst Av;exact hv
theorem aa0:gM "set.__contains__"=G ⟨.oneArg,"set.__contains__","__contains__",.self,[⟨"object",.posOnly,M⟩]⟩:=by kernel_rfl
theorem aa1:gM "dict.get"=G ⟨.positional,"dict.get","get",.self,[⟨"key",.posOnly,M⟩,⟨"default",.posOnly,A6⟩]⟩:=by kernel_rfl
theorem aa2:Rb "set.__contains__"=G .method:=by decide+kernel
theorem aa3:Rb "dict.get"=G .method:=by decide+kernel
theorem aa4:Ri (.type "set") (.type "module")=pure A6:=by rw[Iy];kernel_rfl
theorem aa5:Ri (.type "dict") (.type "module")=pure A6:=by rw[Iy];kernel_rfl
theorem aa6:tN.contains "set.__contains__"=A6:=by decide+kernel
theorem aa7:tN.contains "dict.get"=A6:=by decide+kernel
theorem aa8:s!"{Uw "set"}.{Uw "set.__contains__"}"="set.__contains__":=by decide+kernel
theorem aa9:s!"{Uw "dict"}.{Uw "dict.get"}"="dict.get":=by decide+kernel
theorem ab0{d x:A4}:tO "set.__contains__" ⟨.oneArg,"set.__contains__","__contains__",.self,[⟨"object",.posOnly,M⟩]⟩ ⟨[d,x],[]⟩=pure ():=by kernel_rfl
theorem ab1{d x y:A4}:tO "dict.get" ⟨.positional,"dict.get","get",.self,[⟨"key",.posOnly,M⟩,⟨"default",.posOnly,A6⟩]⟩ ⟨[d,x,y],[]⟩=pure ():=by kernel_rfl
theorem ab2{Bx:KeyKind prog w Y}{k:Y}{key:A4}(EI:Bx.is k key=M)(Sx:key.scannable=M)(hS:s.heap.get? a=G {cls:=.type "set",dict:=L,data:=.set #[] 0 (.fresh 0 0 led)})(h:A2 (.bool A6) {s with toks:=s.toks+1}):AG (AQ prog w) A (E8.«frozenset.__contains__» ⟨[.ref a,key],[]⟩) (λfin s'=>∃v,fin=.done (.ret v)/\A2 v s') E s:=by
 have hS:s.heap.SetOf Bx a (λ_=>A6) 0:=⟨_,#[],0,_,hS,⟨rfl,rfl,rfl⟩,rfl,λe he=>by simp at he,λk=>by simp,by decide,by rfl,rfl⟩;unfold E8.«frozenset.__contains__»bM4;simp only[bt4,bind_assoc];skip;refine A5 (AW ?_);try dsimp only
 refine A5 (AW ?_);try dsimp only
 refine A5 (PS ?_);refine C' ?_;refine A5 (Bx.pyHash EI ?_);refine A5 (wpAny_setFind_of (s:={s with toks:=s.toks+1}) EI Sx hS λr hr=>?_);refine AW ?_;show AG _ _ (ret (NQ r.isSome)) _ _ _;rw[hr];exact AW ⟨_,rfl,h⟩
theorem ab3[DecidableEq T]{Bx:KeyKind prog w T}{d:A9}{k:T}{key dflt:A4}{f:T->AL A4}(EI:Bx.is k key=M)(hd:(d==NJ)=A6)(hm:s.heap.MapOf Bx d f)(h:A2 ((f k).getD dflt) {s with toks:=s.toks+1}):AG (AQ prog w) A (E8.«dict.get» ⟨[.ref d,key,dflt],[]⟩) (λfin s'=>∃v,fin=.done (.ret v)/\A2 v s') E s:=by
 show AG _ _ (dictGet d key>>=_) _ _ s;refine A5 (wpAny_dictGet_of EI hm ?_);cases hf:f k with
 |some v=>
  rw[hf]at h;exact AW ⟨v,rfl,h⟩|none=>
  rw[hf]at h;show AG _ _ (bM5 d key>>=_) _ _ _;exact A5 (wpAny_missed_other hd (AW ⟨dflt,rfl,h⟩))
end
section
theorem ab4{x:Tx}(g:Gd B F K A H C s)(hf:VR s.heap C (.Az 0 i) fu)(hs:Aa s.heap C [.str x] us)(h:AJ H.h i=G .HP):Ae B F K A H C s (CD fu us) (RV (.bool A6)):=by
 intro A2 E k;refine Bu hf ?_;(try clear hf);intro q d B5 hd hq;subst B5;refine Bu hs ?_;(try clear hs);intro u us BI BO e;subst BI;refine xE BO ?_;(try clear BO);intro t Hn;subst Hn;cases e;refine xE (g.obj h hd) ?_;intro led ho;have hq:s.heap.get? q=G {cls:=.type "builtin_function_or_method",data:=.fields #[.builtin "set.__contains__",.ref d]}:=hq;refine lf (T:="set") hq ho rfl (λ_ z=>by(exfalso;cases z)) aa0 aa2 aa4 aa6 (by rw[aa8];exact ab0) PySem.F.slot_set_contains.plain entry_set_contains ?_;exact ab2 (Bx:=strKind B.prog B.w) (k:=⟨⟨x⟩⟩) (by simp[strKind,YB]) rfl ho (k _ C _ (g.tok _) (Nx.refl ..) rfl)
theorem WO[DecidableEq T]{Bx:KeyKind B.prog B.w T}{Ay:I (T×A4)}(m:h.DictAt Bx a Ay n):∃o,h.get? a=G o/\o.cls=.type "dict"/\∀c,o.data≠.cls c:=by
 refine HO m ?_;intro o N e hc hd _;exact⟨o,e,hc.1,λc z=>by rw[hd]at z;(exfalso;cases z)⟩
theorem lh{d:V}(g:Gd B F K A H C s)(hd:AJ H.h i=G (.dict N))(ru:VR s.heap C (.ref i) u)(rk:VR s.heap C k ku)(rd:VR s.heap C d du)(hk:Dc N k=M)(kk:∀w s',Gd B F K A H C s'->Nx F.D [] s.heap s'.heap C C->VR s'.heap C ((Cz N k).getD d) w->A2 w s'):AG (AQ B.prog B.w) A' (E8.«dict.get» ⟨[u,ku,du],[]⟩) (λfin s'=>∃v,fin=.done (.ret v)/\A2 v s') E s:=by
 revert kk;refine WE (P:=λu=>_->AG (AQ B.prog B.w) A' (E8.«dict.get» ⟨[u,ku,du],[]⟩) (λfin s'=>∃v,fin=.done (.ret v)/\A2 v s') E s) g hd ru rk hk λBx x f a ha hx hm o kk=>?_;refine ab3 hx (g.QJ ha) hm (kk _ _ (g.tok _) (Nx.refl ..) ?_);refine o.elim (λo=>?_) λo=>Bu o λv' w h hf r=>?_;. rw[o.1,o.2];exact rd
 . rw[h,hf];exact r
theorem ab5(h:Nz i N .get args H=.ok (.v v) A7):∃k d,args=[k,d]/\Dc N k=M/\v=(Cz N k).getD d/\A7=H:=by
 apply Hf h Ac;intro k d h;refine A1.Bb h λhk h=>?_;apply B4 h;exact⟨k,d,rfl,hk,rfl,rfl⟩
theorem ab6(g:Gd B F K A H C s)(hf:VR s.heap C (.Az 1 i) fu)(hs:Aa s.heap C args us)(h:A1.Ex H.h (.ref i) (λi N=>Nz i N .get args H)=.ok (.v v) A7):Ae B F K A A7 C s (CD fu us) (RV v):=by
 intro A2 E k;refine A1.O4 h ?_;clear h;intro N hl h;refine HO (ab5 h) ?_;intro x d Bf hk Br C8;subst Bf;subst Br;subst C8;refine Bu hf ?_;(try clear hf);intro q a Ck hd hq;subst Ck;have hq:s.heap.get? q=G {cls:=.type "builtin_function_or_method",data:=.fields #[.builtin "dict.get",.ref a]}:=hq;refine Rx hs ?_;(try clear hs);intro ku us D8 rk du Dv DV rd e;subst D8;subst DV;cases e;have r:=g.obj hl hd;have ho:∃o,s.heap.get? a=G o/\o.cls=.type "dict"/\∀c,o.data≠.cls c:=r.elim (λr=>AC r λ_ m _=>WO m) λr=>AC r λ_ m _=>WO m;refine CX ho ?_;(try clear ho);intro o ho hc hn;refine lf (T:="dict") hq ho hc hn aa1 aa3 aa5 aa7 (by rw[aa9];exact ab1) tP.plain bt5 ?_;exact lh g hl ⟨a,hd,rfl⟩ rk rd hk λw s' g' x' r'=>k w C s' g' x' r'
end
end
structure Gl(B:Bs)(A3:Mine.Ctx):Prop where ns:∃mg mb,B.base.Ns 3 mg/\B.base.Ns 0 mb/\∀x v,Ai A3.glob x=G v->∃w,v=.top w/\(mg x=G w\/(mg x=L/\mb x=G w))
section
theorem li(h:Q3 sc=M)(hl:Dl sc x=M):(x==("__debug__":Y))=A6:=by
 refine AC (Vs (P:=λ_=>PH) hl λ_ _=>trivial) ?_;intro k q _;have :=(Bp.mp h) _ (FD q);simp only[D2,RL,Kv]at this;exact Li.mpr this.1
theorem b5(Bj:Gl B A3)(h:Ey A3 K (ev A3 n) (.Name id pos) H=.ok (.v v) A7)(g:Gd B F K A H C s):Ae B F K A A7 C s (eval (.Name id pos) F.env) (RV v):=by
 unfold Ey at h;simp only at h;by_cases hl:D' K.sc id=M
 . rw[D5 hl]at h;refine xA (ML h) ?_;intro e Av;subst Av;exact a9 g hl e
 . rw[CN hl]at h;by_cases hg:Dl K.sc id=M
   . rw[D5 hg]at h;refine xA (ML h) ?_;intro e B5;subst B5;refine Bu Bj.ns ?_;intro mg mb n3 n0 hh;refine AC (hh id v e) ?_;intro w BI hw;subst BI;have st:∀b o,B.base.get? b=G o->s.heap.get? b=G o:=g.base;have m3:s.heap.Ns F.env.globals mg:=by rw[g.kinds.g3];refine Hh n3 ?_;(try clear n3);intro o N ep e r;exact⟨o,N,ep,st _ _ e,r⟩
     have m0:s.heap.Ns F.env.builtins mb:=by rw[g.kinds.b0];refine Hh n0 ?_;(try clear n0);intro o N ep e r;exact⟨o,N,ep,st _ _ e,r⟩
     intro A2 E k;refine bt6 g.kinds.fn (g.kinds.glob id hg) ?_ (li g.kinds.sc hg);rcases hw with hw|Ck;rotate_left;refine xA Ck ?_;(try clear Ck);intro hm hw;rotate_left;. exact loadGlobal_global m3 hw (k w C s g (Nx.refl ..) rfl)
     . exact bt7 m3 hm m0 hw (k w C s g (Nx.refl ..) rfl)
   . rw[CN hg]at h;exact(Ac h).elim
theorem ab7(A8:C5 B A3 n)(Lo:Lf B){op:UnaryOp}{x:AB}(h:Ey A3 K (ev A3 n) (.UnaryOp op x pos) H=.ok (.v v) A7)(g:Gd B F K A H C s):Ae B F K A A7 C s (eval (.UnaryOp op x pos) F.env) (RV v):=by
 intro A2 E k;cases op<;>first|exact(Ac h).elim|skip
 . refine A1.Ce h ?_;clear h;intro a AA AP h;refine A1.Bw h ?_;clear h;intro b C3 h;(first|(revert k;(first|apply BW h|apply B4 h|apply BX h|apply BY h|apply BZ h);intro k)|apply BW h|apply B4 h|apply BX h|apply BY h|apply BZ h);refine bt8 (A8.e AP g _ _ λu AZ AI AN Ab Ap=>bM6 (Lo.truthy AN Ap C3 _ _ λy BQ Aw Ao B7 BP=>?_));subst BP;exact k _ BQ Aw Ao (Ab.trans B7) rfl
 . refine A1.Ce h ?_;clear h;intro a AA AP h;revert AP;apply Cu h Ac;intro i h AP;(first|(revert k;(first|apply BW h|apply B4 h|apply BX h|apply BY h|apply BZ h);intro k)|apply BW h|apply B4 h|apply BX h|apply BY h|apply BZ h);refine bt8 (A8.e AP g _ _ λu AZ AI AN Ab Ap=>?_);refine xE Ap ?_;(try clear Ap);intro t Bf;subst Bf;exact PySem.P.neg_int (k (.int _ AI.toks) AZ _ (AN.tok _) Ab ⟨_,rfl⟩)
theorem Gd.push(g:Gd B F K A H C s)(o:Bl)(tk:O):Gd B F K A H C {s with heap:=s.heap.push o,toks:=tk}/\Nx F.D [] s.heap (s.heap.push o) C C:=have kp:∀b o',s.heap.get? b=G o'->(s.heap.push o).get? b=G o':=λb o e=>C0 _ e;⟨g.ext kp,Nx.ext kp⟩
theorem ab8(AF:Cx B A3 Kf)(g:Gd B F K A H C s){o:V}{a:Y}(h:je A3 o a H=.ok (.v v) A7)(r:VR s.heap C o u)(WH:AK):Ae B F K A A7 C s (Un u a WH) (RV v):=by
 revert r;apply EF h Ac;intro i h r;refine A1.Bw h λob hi h=>?_;revert hi;apply jL h
 . intro c d h hi;refine A1.Bb h λhc h=>A1.Bw h λob hd h=>?_;revert hd;apply ZS h Ac;intro N h hd;refine A1.Bw h λw hv h=>A1.Bb h λhn h=>?_;apply B4 h;exact ya AF g (CC (B' hc)▸hi) hd (Ak hc) hv hn r WH
 intro h;apply jK h
 . intro h hi;refine A1.Bb h λhc h=>?_;apply B4 h;apply Zw hc;refine AC r ?_;(try clear r);intro d hd Br;subst Br;refine xE (g.obj hi hd) ?_;intro led ho;intro A2 E k;obtain⟨hh,gg,dd,tt,bQ2⟩:=s;have gp:=g.push {cls:=.type "builtin_function_or_method",data:=.fields #[.builtin "set.__contains__",.ref d]} (tt+1);exact zu ho (k _ C _ gp.1 gp.2 ⟨_,d,rfl,hd,CW _ rfl⟩)
 intro h;apply J4 h Ac;intro N h hi;refine A1.Bb h λhc h=>?_;apply B4 h;apply Zw hc;refine AC r ?_;(try clear r);intro d hd C8;subst C8;have ro:=g.obj hi hd;have ho:∃N ep,s.heap.get? d=G {cls:=.type "dict",dict:=L,data:=.dict N ep,slots:=#[]}:=by
  (rcases ro with D8|DV;refine AC D8 ?_;(try clear D8);intro Ay E_ _;obtain⟨⟨_,_,_,_⟩,BM,e,⟨hc,hn,hs⟩,hd,_⟩:=E_;rotate_left;refine AC DV ?_;(try clear DV);intro Ay FC _;obtain⟨⟨_,_,_,_⟩,BM,e,⟨hc,hn,hs⟩,hd,_⟩:=FC;rotate_left)<;>. simp only at hc hn hs hd;subst hc hn hs hd;exact⟨_,_,e⟩
 refine D9 ho ?_;(try clear ho);intro BM ep ho;intro A2 E k;obtain⟨hh,gg,dd,tt,bQ2⟩:=s;have gp:=g.push {cls:=.type "builtin_function_or_method",data:=.fields #[.builtin "dict.get",.ref d]} (tt+1);exact zz ho (k _ C _ gp.1 gp.2 ⟨_,d,rfl,hd,CW _ rfl⟩)
theorem ab9(AF:Cx B A3 Kf)(A8:C5 B A3 n){o:AB}{a:Y}(h:Ey A3 K (ev A3 n) (.Attribute o a pos) H=.ok (.v v) A7)(g:Gd B F K A H C s):Ae B F K A A7 C s (eval (.Attribute o a pos) F.env) (RV v):=by
 refine A1.Bb h ?_;clear h;intro hs h;refine A1.Ce h ?_;clear h;intro w AA AP h;intro A2 E k;rw[PySem.arm_eval_Attribute,aM hs];refine A5 (A8.e AP g _ _ λu AZ AI AN Ab Ap=>A5 (Eh (A5 (C' (ab8 AF AN h Ap M _ _ λy As Ah AT Al BA=>?_)))));exact A5 (bt9 (AW (k y As Ah AT (Ab.trans Al) BA)))
end
theorem ac0{l:A9}{k:AX}{v:A4}{A2:Et->AR->Prop}(hl:s.heap.PlainList l Ca)(h0:0<=k)(lj:k<2^63)(hn:k<Ca.size)(hQ:∀Q,Q.PlainList l (Ca.setIfInBounds k.toNat v)->E2 l s.heap Q->A2 () {s with heap:=Q}):AG (AQ prog w) A (RZ (.ref l) (.int k t) v) A2 E s:=by
 refine xE (id hl) ?_;intro n ho;have hL:=hl.isList;unfold RZ;try with_reducible refine C' ?_
 first|refine A5 (AW ?_)|skip
 refine A5 (sv hL.typeIs (by decide) ?_);refine A5 (Lm (name:=Er "__setitem__") hL.typeIs bu0 (Gf bu0 hL.typeIs entry_list_setitem ?_ (args_list_setitem _ _ _)));show AG _ _ (bu1 (.int k t)>>=_) _ _ s;refine A5 (bu2 (fitsIndex_of h0 lj) ?_);clear lj;refine xE (Int.eq_ofNat_of_zero_le h0) ?_;intro j Av;clear h0;subst Av;have hj:j<Ca.size:=by omega
 have JH:Ca[j]?=G Ca[j]:=Rh hj;show AG _ _ ((seqItemAt l j>>=λr=>pure (r.map (j,·)))>>=_) _ _ s;refine A5 (A5 (bu3 ho rfl (AW ?_)));rw[JH];show AG _ _ (setSeqItemAt l j v>>=_) _ _ s;have lk:(s.heap.update l (GN (·.setIfInBounds j v))).PlainList l (Ca.setIfInBounds j v):=⟨_,FP _ ho rfl⟩;refine A5 (wpAny_setSeqItemAt ho rfl ?_);first
 |exact A5 (AW (AW ⟨.none,rfl,AW (hQ _ lk (Fe ..))⟩))|exact AW ⟨.none,rfl,AW (hQ _ lk (Fe ..))⟩
theorem Aa.set{v:I V}{u:I A4}{x:V}{y:A4}(r:Aa h C v u)(q:VR h C x y):Aa h C (v.set i x) (u.set i y):=Aa.ind (P:=λv u=>∀i,Aa h C (v.set i x) (u.set i y)) (λ_=>rfl) (λ_ _ _ _ a b ih i=>by cases i with|zero=>exact .cons q b|succ i=>exact .cons a (ih i)) r i
section
theorem ac1{k:AX}(g:Gd B F K A H C s)(hd:AJ H.h i=G (.list U))(ru:VR s.heap C (.ref i) u)(rk:VR s.heap C (.int k) ku)(rv:VR s.heap C v vu)(h0:0<=k)(h1:J7 k=M)(h2:k<U.length):Ae B F K A (H.set i (.list (U.set k.toNat v))) C s (RZ u ku vu) RU:=by
 intro A2 E kk;refine AC ru ?_;(try clear ru);intro a ha B5;subst B5;refine xE rk ?_;(try clear rk);intro t BI;subst BI;refine AC (g.obj hd ha) ?_;intro us p r;have hl:U.length=us.size:=by rw[r.length];simp
 have hm:=WJ h1;refine ac0 p h0 (by omega) (by omega) λQ hp hs=>?_;refine xA (g.set (Q:=Q) (tk:=s.toks) (o':=.list (U.set k.toNat v)) ha hd (λ_ _ e=>by(exfalso;cases e)) hs.extBut (by refine xE hp ?_;(try clear hp);intro n e;exact⟨_,e⟩) λim=>⟨_,hp,by
 have :=r.set (i:=k.toNat) rv;rw[Array.toList_setIfInBounds];exact this.Bv im⟩) ?_;intro g' x';exact kk () C _ g' x' trivial
theorem ac2(A8:C5 B A3 n){o i:AB}(h:Kt A3 K (ev A3 n) (.Subscript o i pos) v H=.ok (.f f) A7)(g:Gd B F K A H C s)(r:VR s.heap C v vu):CJ B F K A A7 C s (Eu (.Subscript o i pos) F.env vu) RU:=by
 refine A1.Ce h ?_;clear h;intro w AA AP h;refine A1.Ce h ?_;clear h;intro k Bc BC h;intro A2 E kk;skip;refine A5 (C' (A8.e AP g _ _ λu AZ AI AN Ab Ap=>A5 (C' (A8.e BC AN _ _ λku As Ah AT Al BA=>A5 (Eh (A5 (C' ?_)))))));have fin:∀{GU:Mine.St}{l:I A4},Ae B F K A GU As Ah (RZ u ku vu) RU->A7=GU->AG (AQ B.prog B.w) A (RZ u ku vu) (λ_ s'=>AG (AQ B.prog B.w) A (release l []) A2 E s') E Ah:=by
   intro GU l d e;subst e;exact d _ _ λ_ BQ Aw Ao B7 _=>br2 (kk () BQ Aw Ao (Ab.trans (Al.trans B7)).FW trivial)
 have ra:=Ap.nx Al;have rb:=(r.nx Ab).nx Al;revert AP Ap ra;apply EF h Ac;intro a h AP Ap ra;refine A1.Bw h ?_;clear h;intro ob hi h;revert hi;apply Jx h
 . intro U h hi;revert rb BA BC;apply Cu h Ac;intro k h BC BA rb;refine A1.Bb h ?_;clear h;intro hc h;simp only[D2,PL]at hc;exact fin (ac1 AT hi ra BA rb hc.1.2 hc.1.1 hc.2) (FE h).2.symm
 . intro h;apply J4 h Ac;intro N h hi;refine A1.Bb h ?_;clear h;intro hc h;exact fin (yM AT hi ra BA rb (B' hc) (Ak hc)) (FE h).2.symm
end
set_option tactic.hygienic true in
theorem ac3:∀{n:O}{e:AB},MD n e=M->∀m,n<=m->YC m e=A6:=by
 intro n;induction n with
 |zero=>
  intro e h m _;cases e<;>first|(exact(E3 h).elim;done)|(cases m<;>rfl)|skip
  have h:(!D7 _ ⟨⟨[95,95,100,101,98,117,103,95,95]⟩⟩)=M:=h;have h:=Kv.mp (by simpa using h);have :=Li.mpr h;cases m<;>exact this|succ n ih=>
  intro e h m hm;cases m with
 |zero=>omega|succ m=>
  have hm:=sF hm;cases e<;>first|(exact(E3 h).elim;done)|rfl|skip
  case BinOp l op r p=>
   have h:(MD n l||MD n r)=M:=h;show(YC m l&&YC m r)=A6;rcases(tJ _ _).mp h with h|h;. rw[ih h m hm];rfl
   . rw[ih h m hm];simp
  case UnaryOp op x p=>exact ih (e:=x) h m hm
  case Name id p=>
   have h:(!D7 id ⟨⟨[95,95,100,101,98,117,103,95,95]⟩⟩)=M:=h;have h:=Kv.mp (by simpa using h);exact Li.mpr h
  case Subscript v i p=>
   show(YC m v&&YC m i)=A6;rw[ih (e:=v) h m hm];rfl
noncomputable def QR(env:G_)(ln:O):AB->AL Y:=λ|.Name id pos=>if env.kindOf id==G .local&&pos.line==ln then G id else L|_=>L
theorem WP:∀{Be:I Y},Sh ts=G Be->ts.length=Be.length/\ts.all CP=M/\∀(env:G_)(l:O),(ts.filterMap (QR env l)).length=ts.length->ts.filterMap (QR env l)=Be:=by induction ts with
 |nil=>intro Be h;exact Bq h (P:=λBe=>[].length=Be.length/\[].all CP=M/\∀(env:G_)(l:O),([].filterMap (QR env l)).length=[].length->[].filterMap (QR env l)=Be) ⟨rfl,rfl,λ_ _ _=>rfl⟩|cons t ts ih=>
 intro Be h;apply ES (e:=t) h AE;intro id p h;refine BH h λl e h=>?_;obtain rfl:=Bk h;refine G2 (ih e) ?_;intro h1 h2 h3;refine⟨congrArg (·+1) h1,h2,λenv ln hl=>?_⟩;have al:=bu4 (QR env ln) ts;cases q:QR env ln (.Name id p)with
 |none=>rw[List.filterMap_cons_none q,R_]at hl;exact absurd al (by omega)|some x=>
 rw[bu5 q]at hl ⊢;rw[h3 env ln (YD hl)];have q:(if env.kindOf id==G .local&&p.line==ln then G id else L)=G x:=q;split at q;. rw[Bk q]
 . exact(BB q).elim
set_option tactic.hygienic true in
theorem ac4{Be:I Y}(h:Vj ts e=G Be):∃LA k p,ts=[.Tuple LA k p]/\Sh LA=G Be/\JC e=A6/\(fV ts e env=pure L\/fV ts e env=pure (G Be)):=by
 apply Cs h AE;intro t h;apply Rp h AE;intro LA k p h;apply Rp h AE;intro vs k' p' h;refine Cj h AE λhn h=>?_;refine G2 (WP h) ?_;intro h1 h2 h3;refine⟨LA,k,p,rfl,h,rfl,?_⟩;unfold fV;dsimp only;split;. exact .inl rfl
 split;. exact .inl rfl
 split;. exact .inl rfl
 rename_i hl;split;. exact .inl rfl
 split
 . rename_i hc;refine AC (IC.mp hn) ?_;intro v hv Bg;have :=(Bp.mp hc) v hv;rw[ac3 Bg 8 (by decide)]at this;exact(E3 this).elim
 . refine .inr ?_;have hl:=(gN.mp λz=>hl ((tJ _ _).mpr z)).1;have :=h3 env ((LA.head?.map λx:AB=>x.pos.line).getD 0) (bu6 λz=>hl (bne_iff_ne.mpr z));exact congrArg (λz=>pure (G z)) this
theorem b6:∀{l:I Y},Q6 l=M->l.Nodup
 |[],_=>HI|x::l,h=>by
  simp only[Q6,D2,RL]at h;refine ER.mpr ⟨λm=>?_,b6 h.2⟩;have :=Xw.mp h.1 x m;exact this (E0.mpr rfl)
theorem WQ:∀{Be:I Y}{vs:I V}{env:I (Y×V)},x∉Be->Ai (putAll env Be vs) x=Ai env x
 |[],_,_,_=>rfl|_::_,[],_,_=>rfl|y::Be,v::vs,env,h=>by
  show Ai (putAll (EB env y v) Be vs) x=_;rw[WQ (λm=>h (Cp _ m)),Q9,CN];exactλz=>h (z▸Co)
theorem b7:∀{Be:I Y}{vs:I V}{env:I (Y×V)},Be.Nodup->(x,v)∈Be.zip vs->Ai (putAll env Be vs) x=G v
 |[],_,_,_,h=>by simp at h|_::_,[],_,_,h=>by simp at h|y::Be,u::vs,env,hn,h=>by
  refine xA (ER.mp hn) ?_;(try clear hn);intro hy hn;show Ai (putAll (EB env y u) Be vs) x=_;rw[bu7]at h;rcases Ci.mp h with h|h
  . injection h with h1 h2;subst h1;subst h2;rw[WQ hy,Q9,D5 rfl]
  . exact b7 hn h
theorem ac5{Be:I Y}{env:I (Y×V)}(hl:Be.length=vs.length)(hn:Be.Nodup)(x:Y):Ai (putAll env Be.reverse vs.reverse) x=Ai (putAll env Be vs) x:=by
 by_cases hx:x∈Be
 . obtain⟨i,hi,e⟩:=bu8.mp hx;have hm:(x,vs[i])∈Be.zip vs:=by
    refine bu8.mpr ⟨i,by simp;(with_reducible exact Mine.vM (by assumption) (by assumption)),?_⟩;simp[e]
   rw[b7 hn hm,b7 (v:=vs[i]) (List.pairwise_reverse.mpr (hn.imp λh z=>h z.symm))];have hz:∀{Be:I Y}{vs:I V},Be.length=vs.length->(Be.reverse.zip vs.reverse)=(Be.zip vs).reverse:=by
    intro Be;induction Be with
 |nil=>intro vs h;simp|cons a Be ih=>
    intro vs h;cases vs with
 |nil=>(exfalso;cases h)|cons b vs=>
    have h:Be.length=vs.length:=by simpa using h
    rw[YE,YE,bu7,YE,<-ih h,List.zip_append (by simp[h])];rfl
   rw[hz hl];exact List.mem_reverse.mpr hm
 . rw[WQ hx,WQ (by simpa using hx)]
section
theorem Gd.ac6{env:I (Y×V)}{h:I (O×Ob)}(g:Gd B F K A ⟨env,h,m⟩ C s)(e:∀x,Ai CS x=Ai env x):Gd B F K A ⟨CS,h,m⟩ C s:=⟨g.kinds,g.len,g.nodup,g.fresh,g.live,g.D4,g.D0,g.objs,by
 refine CX g.env ?_;intro m ns ce r;exact⟨m,ns,ce,λx v q=>r x v ((e x).symm.trans q)⟩,g.base,g.os,g.gens,g.frames,g.DN,g.Cw,g.mods,g.handled,g.depth,g.units⟩
theorem ll(hi:G8 K.sc id=M)(g:Gd B F K A H C s)(r:VR s.heap C v u):CJ B F K A ⟨EB H.env id v,H.h,H.n⟩ C s (fN F.env id u) RU:=aC (A3:=⟨[],λ_=>L,0,0,0,0,0,0,M,[],λ_ _ _=>L⟩) (n:=0) (id:=id) (pos:=⟨0,0,0,0⟩) (f:=.next) (congrArg (A1.iff · _) hi) g r
theorem ac7:∀{Be:I Y}{us:I A4}{H:Mine.St}{C:I A9}{s:AR},Be.all (G8 K.sc)=M->Be.length=vs.length->Gd B F K A H C s->Aa s.heap C vs us->CJ B F K A ⟨putAll H.env Be vs,H.h,H.n⟩ C s (NL (Be.map λn=>gO F.env n) us) RU:=by induction vs with
 |nil=>intro Be us H C s _ hl g e;cases Be with
  |nil=>cases e;exactλA2 E k=>AW (k () C s g (Nx.refl ..) trivial)|cons id Be=>exact(nomatch hl)
 |cons v vs ih=>intro Be us H C s ho hl g e;cases Be with
 |nil=>exact(nomatch hl)|cons id Be=>
  revert e;intro e A2 E k;refine Bu e ?_;clear e;intro u us e r rs;subst e;show AG _ A (do HZ us (gO F.env id u);NL (Be.map λn=>gO F.env n) us) A2 E s;refine A5 (C' (wpAny_bindName (ll (B' ho) g r _ _ λ_ AZ AI AN Ab _=>?_)));exact ih (Ak ho) (YD hl) AN (rs.nx Ab) _ _ λ_ As Ah AT Al _=>k () As Ah AT (Ab.trans Al) trivial
theorem ac8:∀{ts:I AB}{Be:I Y}{us:I A4}{H:Mine.St}{C:I A9}{s:AR},Sh ts=G Be->Be.all (G8 K.sc)=M->Be.length=vs.length->Gd B F K A H C s->Aa s.heap C vs us->CJ B F K A ⟨putAll H.env Be vs,H.h,H.n⟩ C s (NL ((GK ts F.env).map (·.2)) us) RU:=by induction vs with
 |nil=>intro ts Be us H C s hm _ hl g e;cases Be with
  |nil=>cases ts with
   |nil=>cases e;exactλA2 E k=>AW (k () C s g (Nx.refl ..) trivial)|cons t ts=>exact(bu9 (WP hm).1)
  |cons id Be=>exact(nomatch hl)
 |cons v vs ih=>intro ts Be us H C s hm ho hl g e;cases Be with
 |nil=>exact(nomatch hl)|cons id Be=>cases ts with
 |nil=>exact(bu9 (WP hm).1)|cons t ts=>
   apply ES (e:=t) hm AE;intro TN p hm;refine BH hm λl e2 q=>?_;refine Bu e ?_;clear e;intro u us e r rs;subst e;injection Bk q with q1 q2;subst q1;subst q2;intro A2 E k;show AG _ A (do HZ us (Eu (.Name TN p) F.env u);NL ((GK ts F.env).map (·.2)) us) A2 E s;refine A5 (C' (bm4 (ll (B' ho) g r _ _ λ_ AZ AI AN Ab _=>?_)));exact ih e2 (Ak ho) (YD hl) AN (rs.nx Ab) _ _ λ_ As Ah AT Al _=>k () As Ah AT (Ab.trans Al) trivial
theorem Aa.reverse{v:I V}{u:I A4}(r:Aa h C v u):Aa h C v.reverse u.reverse:=Aa.ind (P:=λv u=>Aa h C v.reverse u.reverse) rfl (λ_ _ _ _ a _ ih=>by rw[YE,YE];exact ih.app (.cons a (vs:=[]) rfl)) r
theorem ac9(A8:C5 B A3 n)(h:(A1.of (Vj ts e) λBe=>(ev A3 n K (.e e) H).V λv H=>FS v .bad λo vs=>oN o .bad (A1.iff (B8 Be.length vs.length&&Be.all (G8 K.sc)&&Q6 Be) (.ok (.f .next) ⟨putAll H.env Be vs,H.h,H.n⟩)))=.ok (.f f) A7)(g:Gd B F K A H C s):CJ B F K A A7 C s (exec (.Assign ts e pos) F.env) (FR f):=by
 refine A1.Bw h ?_;clear h;intro Be hs h;refine A1.Ce h ?_;clear h;intro v AA AP h;revert AP;apply IJ h Ac;intro o vs h;apply GQ h Ac;intro h AP;refine A1.Bb h ?_;clear h;intro hc h;(first|(revert k;(first|apply BW h|apply B4 h|apply BX h|apply BY h|apply BZ h);intro k)|apply BW h|apply B4 h|apply BX h|apply BY h|apply BZ h);simp only[D2]at hc;refine xA hc ?_;(try clear hc);intro Bo hn;refine xA Bo ?_;(try clear Bo);intro hl ho;have hl:=CC hl;have hn:=b6 hn;refine J0 (ac4 (env:=F.env) hs) ?_;intro LA k' p' Bf hm ad0 hw;subst Bf;intro A2 E k;skip;refine A5 (Eh ?_);have aV:bv0 [.Tuple LA k' p'] e pos.line F.env=pure A6:=by
   show Xv e (G (.Tuple LA k' p')) pos.line F.env=pure A6;exact Sv ad0
 rw[aV];refine A5 (AW ?_);skip;refine A5 (A8.eW AP g _ _ λu AZ AI AN Ab Ap=>?_);refine Bu (QC Ap) ?_;intro a us Br ht rs;subst Br;have Cf:Be.length=us.size:=by rw[hl,rs.length];simp
 have kp:∀Q,Dp AI.heap.objs.size AI.heap Q->∀b o,AI.heap.get? b=G o->Q.get? b=G o:=λQ hx b o e=>hx b o (EO (Df e)) e;rcases hw with hw|hw
 . rw[hw];refine A5 (AW ?_);show AG _ A (do Eu (.Tuple LA k' p') F.env (.ref a);pure .next) A2 E AI;refine G2 (WP hm) ?_;intro h1 h2 _;refine A5 (bl8 AN.handled ht (by rw[Vw,h1,Cf]) (Vx h2) λQ hx=>?_);have Al:Nx F.D F.A_ AI.heap Q AZ AZ:=Nx.ext (kp Q hx);exact ac8 hm ho hl (AN.ext (tk:=AI.toks) (kp Q hx)) (rs.nx Al) _ _ λ_ BQ Aw Ao B7 _=>AW (k _ BQ Aw Ao (Ab.trans (Al.trans B7)) rfl)
 . rw[hw];refine A5 (AW ?_);show AG _ A (do Y8 "assign.swapped-stores";let Ca<-unpackItems (.ref a) Be.length L;NL (Be.reverse.map λn=>gO F.env n) Ca.reverse;pure .next) A2 E AI;refine A5 (Ge ?_);rw[Cf];refine A5 (wpAny_unpackItems_tuple AN.handled ht λQ hx=>?_);have Al:Nx F.D F.A_ AI.heap Q AZ AZ:=Nx.ext (kp Q hx);refine A5 (ac7 (Be:=Be.reverse) (vs:=vs.reverse) (by rw[List.all_reverse];exact ho) (by simp[hl]) (AN.ext (tk:=AI.toks) (kp Q hx)) (rs.nx Al).reverse _ _ λ_ BQ Aw Ao B7 _=>AW (k _ BQ Aw (Ao.ac6 ?_) (Ab.trans (Al.trans B7)) rfl));exactλx=>(ac5 hl hn x).symm
end
section
theorem ad1{e it:A9}{c:O}{GG:A4}{A2:AL A4->AR->Prop}(he:Lw s.heap e it i GG)(By:s.heap.IsStrIter it "str_ascii_iterator" x t i)(hx:x.cps[i]?=G c)(Cb:e≠it)(hQ:∀AP Q a tk M_ Ee y,Dp it s.heap AP->Dp e AP Q->gP Q e it ((i:AX)+1) y a->Q.IsStrIter it "str_ascii_iterator" x t (i+1)->Q.get? a=G {cls:=.type "tuple",data:=.seq #[.int i M_,.str ⟨#[c]⟩ Ee]}->A2 (G (.ref a)) {s with heap:=Q,toks:=tk}):AG (AQ prog w) A (EP (.ref e)) A2 E s:=by
 have hT:s.TypeIs (.ref e) "enumerate":=⟨_,he,rfl⟩;unfold EP;refine A5 (Rc (Lm (name:=Er "__next__") hT gQ (Gf gQ hT bv1 ?_ (bv2 _))));obtain⟨hp,g,d,tk,os⟩:=s;show AG _ _ (Ke (.ref e) 2>>=_) _ _ _;refine A5 (Gh he rfl (x:=.ref it) rfl ?_);refine A5 (wpAny_nextOf_ascii_item By hx λAP QM HU=>?_);replace HU:E2 it hp AP:=HU;have QS:Lw AP e it i GG:=(HU.2 e Cb).trans he;show AG _ _ (Ke (.ref e) 3>>=_) _ _ ⟨AP,g,d,tk+1,os⟩;refine A5 (Gh QS rfl (x:=EQ i) rfl ?_);show AG _ _ (Ke (.ref e) 4>>=_) _ _ ⟨AP,g,d,tk+1,os⟩;refine A5 (Gh QS rfl (x:=.none) rfl ?_);show AG _ _ (mkInt i>>=_) _ _ ⟨AP,g,d,tk+1,os⟩;refine A5 (wpAny_mkInt ?_);show AG _ _ (tQ (.ref e) 3 (EQ ((i:AX)+1))>>=_) _ _ ⟨AP,g,d,tk+1+1,os⟩;refine A5 (YF QS (by simp) λBC IZ QN=>?_);replace QN:E2 e AP BC:=QN;replace IZ:Lw BC e it ((i:AX)+1) GG:=IZ;show AG _ _ (tQ (.ref e) 4 .none>>=_) _ _ ⟨BC,g,d,tk+1+1,os⟩;refine A5 (YF IZ (by simp) λC3 JJ WR=>?_);replace WR:E2 e BC C3:=WR;replace JJ:Lw C3 e it ((i:AX)+1) GG:=JJ;show AG _ _ (Y5 [.int i (tk+1),.str ⟨#[c]⟩ tk]>>=_) _ _ ⟨C3,g,d,tk+1+1,os⟩;refine A5 (gR ?_);have WS:Lw (C3.push {cls:=.type "tuple",data:=.seq #[.int i (tk+1),.str ⟨#[c]⟩ tk]}) e it ((i:AX)+1) GG:=C0 _ JJ;have b8:=CW C3 (o:={cls:=.type "tuple",data:=.seq #[.int i (tk+1),.str ⟨#[c]⟩ tk]}) rfl;have QT:Dp e AP (C3.push {cls:=.type "tuple",data:=.seq #[.int i (tk+1),.str ⟨#[c]⟩ tk]}):=λb o lm hb=>C0 _ (WR.extBut b o lm (QN.extBut b o lm hb));have b9:(C3.push {cls:=.type "tuple",data:=.seq #[.int i (tk+1),.str ⟨#[c]⟩ tk]}).IsStrIter it "str_ascii_iterator" x t (i+1):=by refine AC QM ?_;(try clear QM);intro o ho r;exact⟨o,QT _ _ (CV Cb) ho,r⟩
 have lp:C3.objs.size≠e:=PN (Df JJ);show AG _ _ (bM7 (.ref e)>>=_) _ _ ⟨C3.push {cls:=.type "tuple",data:=.seq #[.int i (tk+1),.str ⟨#[c]⟩ tk]},g,d,tk+1+1,os⟩;generalize C3.push {cls:=.type "tuple",data:=.seq #[.int i (tk+1),.str ⟨#[c]⟩ tk]}=FF at WS b8 QT b9;generalize C3.objs.size=a at b8 lp;clear JJ WR IZ QN;refine A5 ?_;skip;refine A5 (Gh WS rfl (x:=.none) rfl (AW ?_));skip;refine A5 (Ge ?_);refine A5 (Gh WS rfl (x:=GG) rfl ?_);refine A5 (YF WS (by simp) λMP bA bB=>?_);replace bB:E2 e FF MP:=bB;replace bA:Lw MP e it ((i:AX)+1) (.str ⟨#[c]⟩ tk):=bA;show AG _ _ (bM8 (.ref e) (.ref a)>>=_) _ _ ⟨MP,g,d,tk+1+1,os⟩;refine A5 ?_;skip;refine A5 (YF bA (by simp) λT1 bD bE=>?_);replace bE:E2 e MP T1:=bE;replace bD:gP T1 e it ((i:AX)+1) (.str ⟨#[c]⟩ tk) a:=bD;refine YF bD (by simp) λWT bF bG=>?_;replace bG:E2 e T1 WT:=bG;replace bF:gP WT e it ((i:AX)+1) (.str ⟨#[c]⟩ tk) a:=bF;have k7:Dp e FF WT:=λb o hb z=>bG.extBut b o hb (bE.extBut b o hb (bB.extBut b o hb z));refine A5 (PX (AW ⟨_,rfl,AW (hQ AP WT a _ _ _ _ HU.extBut (λb o hb z=>k7 b o hb (QT b o hb z)) bF ?_ (k7 _ _ lp b8))⟩));refine AC b9 ?_;(try clear b9);intro o ho r;exact⟨o,k7 _ _ (CV Cb) ho,r⟩
theorem ad2{e it:A9}{GG:A4}{A2:AL A4->AR->Prop}(hh:A.handled=L)(he:Lw s.heap e it i GG)(By:s.heap.IsStrIter it "str_ascii_iterator" x t i)(hx:x.cps[i]?=L)(hQ:∀Q,Dp it s.heap Q->A2 L {s with heap:=Q}):AG (AQ prog w) A (EP (.ref e)) A2 E s:=by
 have hT:s.TypeIs (.ref e) "enumerate":=⟨_,he,rfl⟩;unfold EP;refine A5 (Rc (Lm (name:=Er "__next__") hT gQ (Gf gQ hT bv1 ?_ (bv2 _))));show AG _ _ (Ke (.ref e) 2>>=_) _ _ _;refine A5 (Gh he rfl (x:=.ref it) rfl ?_);refine A5 (wpAny_nextOf_ascii_end hh By hx λQ x he' JH=>?_);refine AC JH ?_;(try clear JH);intro o ho hc;refine A5 (Ls (T:="StopIteration") (b:=M) ⟨o,ho,hc⟩ g6 ?_);exact AW (hQ _ he')
end
noncomputable def QU(h:BJ)(x:Tx)(i:O)(AD E':A9):Prop:=AD≠E'/\(∃GG,Lw h AD E' (i:O) GG)/\∃t,h.IsStrIter E' "str_ascii_iterator" ⟨⟨x⟩⟩ t i
section
theorem QU.nx{x:Tx}(r:QU h x i AD E')(y:Nx AM A_ h Q C AS)(hI:AD∉C)(hw:AD∉A_)(hJ:E'∉C)(hw':E'∉A_):QU Q x i AD E':=by
 refine ud r ?_;(try clear r);intro ne Av t o e' c d;refine xE Av ?_;(try clear Av);intro GG e;exact⟨ne,⟨GG,y.keep AD _ e hI hw (λ_=>rfl)⟩,t,o,y.keep E' o e' hJ hw' (λ_=>by unfold H7;rw[d]),c,d⟩
noncomputable def bH(B:Bs)(A3:Mine.Ctx)(n:O):Prop:=∀{K:Kx}{ts:I AB}{kd:O}{p:BG}{x:Tx}{i:O}{b:I Ar}{H A7:Mine.St}{f:Fl},ev A3 n K (.loop (.Tuple ts kd p) (.Ko x) i b) H=.ok (.f f) A7->∀{F:Fm}{A:CK}{C BE:I A9}{s:AR}{Af:BJ}{AD E':A9}{AV:Dq->AR->Prop},Gd B F K A H C s->Nx F.D F.A_ Af s.heap BE C->Af.get? AD=L->Af.get? E'=L->CM B F C s.heap AD->CM B F C s.heap E'->QU s.heap x i AD E'->(∀u AS s',Gd B F K A A7 AS s'->Nx F.D F.A_ Af s'.heap BE AS->FR f s'.heap AS u->AV (.ok u) s')->D6 (AQ B.prog B.w) A (.forLoop (.Tuple ts kd p) (.ref AD) b [] F.env) AV s
theorem ad3(A8:C5 B A3 n)(Se:bH B A3 n){x:Tx}{b:I Ar}(h:step A3 K (ev A3 n) (.loop (.Tuple ts kd p) (.Ko x) i b) H=.ok (.f f) A7){AV:Dq->AR->Prop}(g:Gd B F K A H C s)(Cq:Nx F.D F.A_ Af s.heap BE C)(hI:Af.get? AD=L)(hJ:Af.get? E'=L)(fI:CM B F C s.heap AD)(fJ:CM B F C s.heap E')(r:QU s.heap x i AD E')(k:∀u AS s',Gd B F K A A7 AS s'->Nx F.D F.A_ Af s'.heap BE AS->FR f s'.heap AS u->AV (.ok u) s'):D6 (AQ B.prog B.w) A (.forLoop (.Tuple ts kd p) (.ref AD) b [] F.env) AV s:=by
 unfold step at h;simp only at h;refine A1.Bw h ?_;clear h;intro o AP h;injection AP with AP;rw[HR]at AP;refine IG r ?_;(try clear r);intro ne B5 t By;refine xE B5 ?_;(try clear B5);intro GG he;have bQ3:∀{h:BJ}{e it:A9}{i:AX}{GG:A4},Lw h e it i GG->∀o,h.get? e=G o->C1 o=A6:=λe o q=>by rw[e]at q;injection q with q;subst q;rfl
 have bQ4:∀{h:BJ}{e it a:A9}{i:AX}{y:A4},gP h e it i y a->∀o,h.get? e=G o->C1 o=A6:=λe o q=>by rw[e]at q;injection q with q;subst q;rfl
 have cJ:∀{h:BJ}{it:A9}{x:Y}{t:EM}{i:O},h.IsStrIter it "str_ascii_iterator" x t i->∀o,h.get? it=G o->C1 o=A6:=λe o q=>by
  refine CX e ?_;(try clear e);intro o' e' c _;rw[e']at q;injection q with q;subst q;unfold C1;rw[c];rfl
 refine MM ?_;cases hx:x[i]? with
 |none=>
  rw[hx]at AP;subst AP;(first|(revert k;(first|apply BW h|apply B4 h|apply BX h|apply BY h|apply BZ h);intro k)|apply BW h|apply B4 h|apply BX h|apply BY h|apply BZ h);exact ad2 g.handled he By (by simpa using hx) λQ kx=>k _ C _ (g.move (tk:=s.toks) fJ kx (cJ By)) (Cq.Ez kx hJ) rfl|some c=>
  rw[hx]at AP;subst AP;refine A1.Ho h ?_;clear h;intro _ Bc BC h;refine A1.Ho h ?_;clear h;intro d GU C3 h;refine ad1 he By (c:=c) (by simpa using hx) ne λhA hB a tk M_ Ee y kA kB eo ei et=>?_;have lq:Lw hA AD E' i GG:=kA _ _ ne he;have bQ5:=g.move (tk:=tk) fJ kA (cJ By);have fIA:CM B F C hA AD:=fI.at ⟨_,lq⟩;have bQ6:=Gd.move (s:={s with heap:=hA,toks:=tk}) (tk:=tk) bQ5 fIA kB (bQ3 lq);have fIB:CM B F C hB AD:=fI.at ⟨_,eo⟩;have fJB:CM B F C hB E':=fJ.at (by refine AC ei ?_;(try clear ei);intro o e _;exact⟨o,e⟩);have bQ7:Nx F.D F.A_ Af hB BE C:=(Cq.Ez kA hJ).Ez kB hI;refine wpAny_letOwnedTupleGo_enum eo λhC eC sC=>?_;replace sC:E2 AD hB hC:=sC;have bQ8:=Gd.move (s:={s with heap:=hB,toks:=tk}) (tk:=tk) bQ6 fIB sC.extBut (bQ4 eo);have bI:CM B F C hC AD:=fI.at ⟨_,eC⟩;have bJ:hC.IsStrIter E' "str_ascii_iterator" ⟨⟨x⟩⟩ t (i+1):=by refine AC ei ?_;(try clear ei);intro o e r;exact⟨o,sC.extBut _ _ (CV ne) e,r⟩
  have bK:CM B F C hC E':=fJ.at (by refine AC bJ ?_;(try clear bJ);intro o e _;exact⟨o,e⟩);have yC:Nx F.D F.A_ Af hC BE C:=bQ7.Ez sC.extBut hI;have ne':a≠AD:=λz=>by rw[z,eo]at et;injection et with et;have :=congrArg Obj.cls et;injection this with this;exact absurd this (by decide)
  have etC:hC.get? a=G {cls:=.type "tuple",data:=.seq #[.int i M_,.str ⟨#[c]⟩ Ee]}:=sC.extBut _ _ ne' et;have bQ9:QU hC x (i+1) AD E':=⟨ne,⟨_,eC⟩,t,bJ⟩;refine A8.asg BC bQ8 (u:=.ref a) ⟨a,_,_,_,rfl,etC,⟨rfl,λ_=>⟨rfl,rfl⟩⟩,rfl,rfl,_,_,rfl,⟨M_,rfl⟩,_,_,rfl,⟨Ee,rfl⟩,rfl⟩ _ _ λ_ As Ah AT Al _=>A8.ss C3 AT _ _ λMN BQ Aw Ao B7 BP=>?_;have xx:=Al.trans B7;have El:=yC.trans xx;have lr:=bI.nx xx;have ls:=bK.nx xx;have lu:=bQ9.nx xx bI.C bI.w bK.C bK.w;cases d with
 |next=>cases BP;exact Se h Ao El hI hJ lr ls lu k|cont=>cases BP;exact Se h Ao El hI hJ lr ls lu k|brk=>
   cases BP;(first|(revert k;(first|apply BW h|apply B4 h|apply BX h|apply BY h|apply BZ h);intro k)|apply BW h|apply B4 h|apply BX h|apply BY h|apply BZ h);exact k _ BQ Aw Ao El rfl|ret v=>
   refine AC BP ?_;(try clear BP);intro y Bo BP;subst Bo;(first|(revert k;(first|apply BW h|apply B4 h|apply BX h|apply BY h|apply BZ h);intro k)|apply BW h|apply B4 h|apply BX h|apply BY h|apply BZ h);exact k _ BQ Aw Ao El ⟨y,rfl,BP⟩
end
noncomputable def WU:Y:=⟨⟨[101,110,117,109,101,114,97,116,101]⟩⟩
section
theorem ad4(A8:C5 B A3 n){body:I Ar}{Af:RH}{hs:I RH}(h:ev A3 n K (.ss body) H=.ok (.f f) A7)(g:Gd B F K A H C s):CJ B F K A A7 C s (exec (.Try body (Af::hs) [] [] pos) F.env) (FR f):=by
 intro A2 E k;refine bv3 (A8.ss h g _ _ λu AZ AI AN Ab Ap=>?_);cases f with
 |next=>cases Ap;exact Fz (k .next AZ AI AN Ab rfl)|brk=>cases Ap;exact k _ AZ AI AN Ab rfl|cont=>cases Ap;exact k _ AZ AI AN Ab rfl|ret v=>refine AC Ap ?_;(try clear Ap);intro y Av Ap;subst Av;exact k _ AZ AI AN Ab ⟨y,rfl,Ap⟩
theorem WV{x:AB}(hp:CP x=M)(d:Ae B F K A A7 C s (eval x F.env) (RV v))(pos:BG):Ae B F K A A7 C s (Lj (F5 pos (Dy [x] F.env))) (O1 [v]):=by
 intro A2 E k;refine Lk (d _ _ λu AZ AI AN Ab Ap=>Ub (k [u] AZ AI AN Ab ⟨u,[],rfl,Ap,rfl⟩)) (K4 hp)
theorem ad5(hg:Dl sc id=M):D' sc id=A6:=AC (Vs (P:=λk=>isIn [.local,.cell,.free] (G k)=A6) hg (all_cons rfl EA)) λk e c=>(congrArg (isIn [.local,.cell,.free]) e).trans c
theorem lw{w:A4}(hg:Dl K.sc id=M)(hw:Ai A3.glob id=G (.top w)):Ey A3 K (ev A3 0) (.Name id p) H=.ok (.v (.top w)) H:=by
 unfold Ey;simp only[ad5 hg,Jh,Ji,hg,Jj,hw];rfl
theorem WW{Bj:Gl B A3}{args:I AB}{w:A4}(hg:Dl K.sc id=M)(hw:Ai A3.glob id=G (.top w))(hp:args.all CP=M)(g:Gd B F K A H C s)(h:∀AZ AI,Gd B F K A H AZ AI->Nx F.D [] s.heap AI.heap C AZ->AG (AQ B.prog B.w) A (Lj (F5 pos (Dy args F.env))) (λus s'=>CU (AQ B.prog B.w) s'.heap w/\AG (AQ B.prog B.w) A (CD w us) A2 E s') E AI):AG (AQ B.prog B.w) A (eval (.Call (.Name id p) args [] pos) F.env) A2 E s:=by
 rw[show eval (.Call (.Name id p) args [] pos) F.env=(do PO pos (<-eval (.Name id p) F.env) [] (F5 pos (Dy args F.env)) [])from rfl];refine A5 (b5 Bj (lw hg hw) g _ _ λu AZ AI AN Ab Ap=>?_);cases Ap;refine fY (P:=λh=>CU (AQ B.prog B.w) h w) (by rw[W2 hp];rfl) (λh c=>c) ?_;have this:=h AZ AI AN Ab;cases args with
 |nil=>exact aL this|cons x l=>rw[K4 (B' hp)]at this ⊢;exact sg this
theorem bL{Bj:Gl B A3}{args:I AB}{w:A4}(hg:Dl K.sc id=M)(hw:Ai A3.glob id=G (.top w))(hc:∀h,CU (AQ B.prog B.w) h w)(hp:args.all CP=M)(g:Gd B F K A H C s)(h:∀BE EJ p,Gd B F K A H BE EJ->Nx F.D [] s.heap EJ.heap C BE->Ae B F K A AA BE EJ (Lj (F5 p (Dy args F.env))) (O1 vs))(hk:∀us AZ AI,Gd B F K A AA AZ AI->Nx F.D [] s.heap AI.heap C AZ->Aa AI.heap AZ vs us->AG (AQ B.prog B.w) A (CD w us) A2 E AI):AG (AQ B.prog B.w) A (eval (.Call (.Name id p) args [] pos) F.env) A2 E s:=WW (Bj:=Bj) hg hw hp g λAZ AI AN Ab=>h AZ AI pos AN Ab _ E λus As Ah AT Al BA=>⟨hc _,hk us As Ah AT (Ab.trans Al) BA⟩
theorem QV{f:AB}{m:DJ}(h:Nv f m=M){P:AB->Prop}(k:∀p,P (.Name (Er m) p)):P f:=by
 apply ES h B3;intro id p h;rw[E0.mp h];exact k p
theorem ad6{it x:AB}(h:SR it=G x):∃p pos,it=.Call (.Name WU p) [x] [] pos:=by
 apply M0 h AE;intro f a k pos h;apply Cs h AE;intro y h;apply ET h AE;intro h;refine Cj h AE λq h=>?_;apply QV q;intro p;apply Bq h.symm;exact⟨p,pos,rfl⟩
theorem ad7(Bj:Gl B A3)(hen:Ai A3.glob WU=G (.top (.type "enumerate")))(A8:C5 B A3 n)(Se:bH B A3 n){t it x:AB}{b:I Ar}(he:SR it=G x)(h:Hm K (ev A3 n) (.For t it b [] pos) H=.ok (.f f) A7)(g:Gd B F K A H C s):CJ B F K A A7 C s (exec (.For t it b [] pos) F.env) (FR f):=by
 refine Nf h (λx' e q=>?_) λe _=>by rw[he]at e;exact(AE e.symm).elim
 clear h;revert q;intro h;rw[he]at e;injection e with e;subst e;apply Rp h Ac;intro ts kd p h;refine A1.Bb h ?_;clear h;intro hg h;simp only[D2]at hg;refine A1.Ce h ?_;clear h;intro v AA AP h;revert AP;apply Db h Ac;intro tx h AP;refine A1.Bb h ?_;clear h;intro ha h;refine D9 (ad6 he) ?_;intro bR0 bR1 BO;clear he;subst BO;intro A2 E k;refine Xu (bL (Bj:=Bj) (vs:=[.str tx]) hg.1 hen (λ_=>CU.type) (by simp[hg.2]) g (λBE EJ p FY Cq=>WV hg.2 (A8.e AP FY) p) λus AZ AI AN Ab Ap=>?_) (λ_=>rfl);refine Bu Ap ?_;(try clear Ap);intro u us Bo Bf e;subst Bo;refine xE Bf ?_;(try clear Bf);intro tk Br;subst Br;cases e;refine call_enumerate_str λQ he By Ea kp=>?_;have hJ:AI.heap.get? AI.heap.objs.size=L:=GD AI.heap;have hI:AI.heap.get? (AI.heap.objs.size+1)=L:=by cases e:AI.heap.get? (AI.heap.objs.size+1)with
 |none=>rfl|some o=>exact absurd (Df e) (Uc.mpr (PF _))
 have ty:strIterType ⟨⟨tx⟩⟩="str_ascii_iterator":=by
  unfold strIterType;rw[D5];rw[Bp]at ha;show(YG tx).all _=M;rw[<-Array.all_toList,Bp];intro c hc;have :=ha c hc;have :c<128:=gH (Di this);simpa using this
 rw[ty]at By;refine wpAny_pyIter_enum he ?_;have x':Nx F.D F.A_ AI.heap Q AZ AZ:=Nx.ext kp;exact Se h (AN.ext (tk:=AI.toks) kp) x' hI hJ (AN.freeOf hI ⟨_,he⟩) (AN.freeOf hJ (by refine AC By ?_;(try clear By);intro o e _;exact⟨o,e⟩)) ⟨tR _,⟨_,he⟩,tk,By⟩ λu BQ Aw Ao B7 BP=>k u BQ Aw Ao (Ab.FW.trans B7) BP
end
theorem ad8{x y:Ob}:(H.set i x).set i y=H.set i y:=by show Mine.St.mk _ (putN (putN H.h i x) i y) _=_;rw[wV];rfl
theorem ad9{x y:Ob}:(H.new x).2.set H.n y=(H.new y).2:=by
 show Mine.St.mk _ (putN ((H.n,x)::H.h) H.n y) _=_;unfold putN;simp only[Ir];rfl
noncomputable def QW(h:BJ)(C:I A9):I (V×V)->I (A4×A4)->Prop
 |[],l=>l=[]|p::ps,l=>∃k v r,l=(k,v)::r/\VR h C p.1 k/\VR h C p.2 v/\QW h C ps r
theorem QW.nx(x:Nx AM A_ h Q C AS):∀{l:I (A4×A4)},QW h C ps l->QW Q AS ps l:=by induction ps with
 |nil=>exact id|cons p ps ih=>exactλe=>J0 e λk v r e a b c=>⟨k,v,r,e,a.nx x,b.nx x,ih c⟩
theorem ae0{d:A9}{x:A4×A4}{vs:I (A4×A4)}:YH d (x::vs)=(RW d x.1 x.2>>=λ_=>YH d vs):=by
 unfold YH;rw[RT,bind_assoc];rfl
section
theorem lx(g:Gd B F K A H C s)(hd:AJ H.h i=G (.dict N))(ha:C[i]?=G a)(rk:VR s.heap C k ku)(rv:VR s.heap C v vu)(hk:Dc N k=M)(hf:CG N=M):Ae B F K A (H.set i (.dict (Ej N k v))) C s (RW a ku vu) RU:=by
 intro A2 E kk;have r:=g.obj hd ha;exact kq hk r rk rv hf λQ hs d=>xA (g.set (Q:=Q) (tk:=s.toks+1) (o':=.dict (Ej N k v)) ha hd (λ_ _ e=>by(exfalso;cases e)) hs.extBut d.live λ_=>d) λg' x'=>kk () C _ g' x' trivial
theorem ae1:∀{vs:I (A4×A4)}{H:Mine.St}{C:I A9}{s:AR}{Am N:I (V×V)},Gd B F K A H C s->QW s.heap C ps vs->Ks ps Am=G N->AJ H.h i=G (.dict Am)->C[i]?=G a->Ae B F K A (H.set i (.dict N)) C s (YH a vs) RU:=by induction ps with
 |nil=>
  intro vs H C s Am N g e hf hd ha;cases e;refine Bq hf (P:=λN=>Ae B F K A (H.set i (.dict N)) C s (YH a []) RU) ?_;rw[show H.set i (.dict Am)=H from congrArg (λh=>Mine.St.mk H.env h H.n) (wW hd)];exactλA2 E k=>AW (k () C s g (Nx.refl ..) trivial)|cons p ps ih=>
  intro vs H C s Am N g e hf hd ha;refine J0 e ?_;clear e;intro ku vu r q rk rv rr;subst q;have hf:bC (Dc Am p.1&&CG Am) (Ks ps (Ej Am p.1 p.2)) L=G N:=hf;refine Fi hf (λhc hf=>?_) λ_ e=>(AE e).elim
  . replace hc:=Ug (B' hc) (Ak hc);intro A2 E k;rw[ae0];refine A5 (lx g hd ha rk rv hc.1 hc.2 _ _ λ_ AZ AI AN Ab _=>?_);have :=ih AN (rr.nx Ab) hf (ME hd) (by refine AC Ab.pre ?_;intro J e _;rw[e];exact FV ha);rw[ad8]at this;exact this _ _ λ_ As Ah AT Al _=>k () As Ah AT (Ab.trans Al) trivial
theorem ly{k:AL AB}{ks:I (AL AB)}{vs:I AB}(h:MB (k::ks) vs=G ps){P:AL AB->I AB->I (V×V)->Prop}(d:∀c KH LB c' JK I_ OL kv vv l,Nu c=G kv->Nu c'=G vv->MB ks OL=G l->P (G (.Constant c KH LB)) (.Constant c' JK I_::OL) ((kv,vv)::l)):P k vs ps:=by
 apply Nd h AE;intro x h;apply Iz h AE;intro c KH LB h;apply FQ h AE;intro y OL h;apply Iz h AE;intro c' JK I_ h;refine BH h λkv h1 h=>?_;refine BH h λvv h2 h=>?_;refine BH h λl h3 h=>?_;apply Bq h;exact d _ _ _ _ _ _ _ _ _ _ h1 h2 h3
theorem lz:∀{ks:I (AL AB)}{vs:I AB}{ps:I (V×V)}{C:I A9}{s:AR}{pos:BG},MB ks vs=G ps->Gd B F K A H C s->Ae B F K A H C s (tS (pairTrees ks vs F.env pos)) (λh C l=>QW h C ps l)
 |[],vs,ps,C,s,pos,h,g=>by
  apply ET h AE;intro h;apply Bq h;exactλA2 E k=>AW (k [] C s g (Nx.refl ..) rfl)|k::ks,vs,ps,C,s,pos,h,g=>by
  apply ly h;intro c KH LB c' JK I_ OL kv vv l h1 h2 h3 A2 E k;show AG _ A (do
 let kv<-eval (.Constant c KH LB) F.env let vv<-HZ [kv] (do let x<-eval (.Constant c' JK I_) F.env;Kb pos;pure x)return(kv,vv)::(<-HZ [kv,vv] (tS (pairTrees ks OL F.env pos)))) A2 E s;refine A5 (Vv g h1 _ _ λu AZ AI AN Ab Ap=>A5 (C' (A5 (Vv AN h2 _ _ λu' As Ah AT Al BA=>A5 (Eh (AW ?_))))));refine A5 (C' (lz h3 AT _ _ λl' BQ Aw Ao B7 BP=>AW ?_));exact k _ BQ Aw Ao (Ab.trans (Al.trans B7)) ⟨u,u',l',rfl,(Ap.nx Al).nx B7,BA.nx B7,BP⟩
theorem m1:∀{ks:I (AL AB)}{vs:I AB}{ps:I (V×V)},MB ks vs=G ps->ks.all (·.isSome)=M/\ks.length=vs.length/\ks.length=ps.length
 |[],vs,ps,h=>by
  apply ET h AE;intro h;apply Bq h;exact⟨rfl,rfl,rfl⟩|k::ks,vs,ps,h=>by
  apply ly h;intro c KH LB c' JK I_ OL kv vv l h1 h2 h3;refine G2 (m1 h3) ?_;intro a b c;exact⟨by simpa using a,by simp[b],by simp[c]⟩
theorem Gd.newDict(g:Gd B F K A H C s)(tk:O):Gd B F K A (H.new (.dict [])).2 (C++[s.heap.objs.size]) {s with heap:=s.heap.push {cls:=.type "dict",data:=.dict #[]},toks:=tk}/\Nx F.D [] s.heap (s.heap.push {cls:=.type "dict",data:=.dict #[]}) C (C++[s.heap.objs.size]):=by
 have kp:∀b o,s.heap.get? b=G o->(s.heap.push {cls:=.type "dict",data:=.dict #[]}).get? b=G o:=λb o e=>C0 _ e;have hn:=GD s.heap;have hg:=CW s.heap (o:={cls:=.type "dict",data:=.dict #[]}) rfl;exact⟨g.new kp hn ⟨_,hg⟩ (o:=.dict []) (ky hg),Nx.add [_] kp λb hb=>by rw[CH.mp hb];exact hn⟩
theorem Gd.LC(g:Gd B F K A H C s):(C++[a])[H.n]?=G a:=by rw[<-g.len];simp
theorem ae2:AJ (H.new o).2.h H.n=G o:=by simp[Mine.St.new,AJ]
theorem ae3:YI []=newDict:=by
 unfold YI;simp
theorem m4{ks:I (AL AB)}{vs:I AB}(h1:MB ks vs=G ps)(h2:EN ps.length 15=M)(h3:Ks ps []=G N)(g:Gd B F K A H C s):Ae B F K A (H.new (.dict N)).2 C s (eval (.Dict ks vs pos) F.env) (RV (.ref H.n)):=by
 refine G2 (m1 h1) ?_;intro ha hl hp;have gp:=g.newDict (s.toks);intro A2 E k;cases ks with
 |nil=>
  cases vs<;>first|((exfalso;cases hl);done)|skip
  injection h1 with h1;clear h2 hp;subst h1;injection h3 with h3;subst h3;skip;refine A5 (Eh ?_);show AG _ A (YI []) A2 E s;rw[ae3];exact IA (k _ _ _ gp.1 gp.2 ⟨_,g.LC,rfl⟩)|cons Kz ks=>
  refine wpAny_Dict_any ha hl (by simp) (by rw[hp];exact Di h2) ?_;refine lz h1 gp.1 _ _ λl AZ AI AN Ab Ap=>?_;have Dh:AZ[H.n]?=G s.heap.objs.size:=by refine AC Ab.pre ?_;intro J e _;rw[e];exact FV g.LC
  have :=ae1 AN Ap h3 ae2 Dh;rw[ad9]at this;exact this _ _ λ_ As Ah AT Al _=>k _ As Ah AT (gp.2.trans (Ab.trans Al)) ⟨_,by refine AC Al.pre ?_;intro J e _;rw[e];exact FV Dh,rfl⟩
end
section
variable[DecidableEq T]{Bx:KeyKind prog w T}
theorem ae4{d:A9}{Ay:I (T×A4)}{k:T}{key v:A4}{A2:Et->AR->Prop}(EI:Bx.is k key=M)(hm:s.heap.DictAt Bx d Ay Ay.length)(hQ:∀Q,Q.DictAt Bx d (F7 Ay k v) (F7 Ay k v).length->E2 d s.heap Q->A2 () {s with heap:=Q})(Ea:Ay.length<=F6):AG (AQ prog w) A (tU d (Bx.hash k) key v) A2 E s:=by
 refine M3 hm ?_;(try clear hm);intro o N ho hc hd hk hp hn;have Cf:N.size=Ay.length:=by have :=hp.length;simpa using this
 have OE:(N.findIdx? λe=>Bx.is k e.key)=Ay.findIdx? λkv=>decide (kv.1=k):=by rw[<-hp.findIdx k];obtain⟨l⟩:=N;simp
 unfold tU;refine A5 (sq EI ho hd hk ?_);cases hi:N.findIdx? λe=>Bx.is k e.key with
 |some i=>
  have HA:=bp4 (OE▸hi);have e1:F7 Ay k v=Ay.map λkv=>if kv.1=k then(kv.1,v)else kv:=by rw[F7,D5 HA]
  have hl:(N.toList.findIdx? λe=>Bx.is k e.key)=G i:=by rw[<-hi];obtain⟨l⟩:=N;simp
  have FG:=hp.modify hn hl v;refine bp5 ho hd (hQ _ ?_ (Fe ..));refine⟨_,_,FP _ ho (Xy (fh hd _)),hc.mapDict _,?_,hk.modify i v,?_,?_⟩;. rw[e1,Jk];exact fh hd _
  . rw[e1];obtain⟨l⟩:=N;simpa using FG
  . rw[e1,bp6];exact hn|none=>
  have TB:k∉Ay.map (·.1):=bp7 (OE▸hi);have TC:¬(Ay.any λkv=>decide (kv.1=k))=M:=λh=>by
    refine AC (IC.mp h) ?_;intro kv OF he;exact TB (Dz.mpr ⟨kv,OF,of_decide_eq_true he⟩)
  have e1:F7 Ay k v=Ay++[(k,v)]:=by rw[F7,CN TC]
  refine sr (hz:=by(with_reducible exact Mine.yT (by assumption) (by assumption))) ho hd (hQ _ ?_ (Fe ..));refine⟨_,_,FP _ ho (Xy (Uk hd _)),hc.mapDictKeys _,?_,hk.push EI v,?_,?_⟩;. rw[e1,F8];exact Uk hd _
  . have :=hp.append EI (Bx.hash k) v;rw[e1];obtain⟨l⟩:=N;simpa using this
  . rw[e1,NR,I7];refine⟨hn,by simp,λa ha b hb e=>?_⟩;simp only[I9,su,CH]at hb;exact TB (hb▸e▸ha)
end
section
open Builtin Builtin.Str
theorem ae5{i:AX}(h0:0<=i)(h1:i<100){u:EM}:Ux («str.format» ⟨[.str ⟨#[123,125]⟩ t,.int i u],[]⟩) (λ_ AV s=>∀t' k,AV (.ok (.ret (.str (Lx (toString i)) t'))) {s with toks:=k}):=by kfm_run
theorem ae6{i j:AX}(h0:0<=i)(h1:i<100)(h2:0<=j)(h3:j<100){u v:EM}:Ux («str.format» ⟨[.str ⟨#[123,125,44,123,125]⟩ t,.int i u,.int j v],[]⟩) (λ_ AV s=>∀t' k,AV (.ok (.ret (.str ((Lx (toString i)++Lx ",")++Lx (toString j)) t'))) {s with toks:=k}):=by kfm_run
theorem ae7:∀n:Fin 100,Lx (toString ((n.val:O):AX))=⟨⟨Px n.val⟩⟩:=by decide+kernel
theorem TO{i:AX}(h:Nr i=M):0<=i/\i<100:=by simpa[Nr]using h
theorem WX{i:AX}(h:Nr i=M):Lx (toString i)=⟨⟨J6 i⟩⟩:=by
 refine xA (TO h) ?_;intro h0 h1;have :=ae7 ⟨i.toNat,by(with_reducible exact Mine.vT (by assumption) (by assumption))⟩;simp only at this;rw[show((i.toNat:O):AX)=i by(with_reducible exact tL (by assumption))]at this;exact this
theorem m5:∀{p s:Tx},Jz p s=M↔p<+:s
 |[],s=>by simp[Jz]|a::p,[]=>by simp[Jz]|a::p,b::s=>by
  unfold Jz;cases q:B8 a b with
 |true=>
   have :=CC q;clear q;subst this;rw[bv4];simp only[true_and];exact m5|false=>
   have :a≠b:=λz=>by subst z;simp at q
   simp[bv4,this]
theorem ae8{s p:Tx}:bv5 ⟨⟨s⟩⟩ ⟨⟨p⟩⟩=Jz p s:=by
 rw[Bool.eq_iff_iff,m5];unfold bv5 subAt;simp only[U_,D2,PL,PJ];have e:(YG s).extract 0 p.length=⟨s.take p.length⟩:=by simp
 show p.length<=s.length/\(YG s).extract 0 p.length=⟨p⟩↔_;rw[e,List.prefix_iff_eq_take];constructor;. rintro⟨_,h⟩;injection h with h;exact h.symm
 . intro h;exact⟨by have :=congrArg Rf h;simp at this;(with_reducible exact Mine.vW (by assumption)),by rw[<-h]⟩
noncomputable def m6:SK->DJ|.sw=>"str.startswith"|.ew=>"str.endswith"|.split=>"str.split"|.rfind=>"str.rfind"|.rstrip=>"str.rstrip"|.fmt=>"str.format"|.join=>"str.join"
theorem ae9{m:Y}{k:SK}(h:SY m=G k):"str."++m.toString=m6 k:=H'.mp (show Vb.map (λp=>"str."++p.1.toString)=Vb.map (λp=>m6 p.2)by decide+kernel) _ (FD h)
section
theorem af0{c:O}{u:EM}(hx:x.length<=100000)(k:∀l tk,l.map (·.1)=Xp x ⟨⟨[c]⟩⟩->A2 (.ref s.heap.objs.size) {s with heap:=s.heap.push {cls:=.type "list",data:=.seq (Uy l).toArray},toks:=tk}):AG (AQ prog w) A (CD (.builtin "str.split") [.str x t,.str ⟨⟨[c]⟩⟩ u]) A2 E s:=by
 have hy:((⟨⟨[c]⟩⟩:Y).length==0)=A6:=rfl;have WY:(100002:O)<=F6:=by decide
 cases QX:(decide (x.length<(⟨⟨[c]⟩⟩:Y).length)||decide (strKind x<strKind ⟨⟨[c]⟩⟩))with
 |true=>
  refine tV gT (PT _ _ _) tX (tY _ _) (meets_str_split_cannot_occur x _ t u QX) ?_;exact k [(x,t)] _ (by unfold Xp;rw[D5 QX];rfl)|false=>cases hf:(occurrences x ⟨⟨[c]⟩⟩ 0 x.length (x.length+1)).isEmpty with
 |true=>
   refine tV gT (PT _ _ _) tX (tY _ _) (meets_str_split_not_found x _ t u QX hy hf) ?_;exact k [(x,t)] _ (by unfold Xp;rw[CN (by rw[QX];simp),D5 hf];rfl)|false=>
   have hn:(partsBetween x (occurrences x ⟨⟨[c]⟩⟩ 0 x.length (x.length+1)) (⟨⟨[c]⟩⟩:Y).length).length<=F6:=by
    unfold partsBetween;simp only[Jk,List.length_zip,R_,F8,List.length_nil];have :=StrLaws.occ_length_le_len x ⟨⟨[c]⟩⟩ 0 x.length (x.length+1);refine B2 (Xj _ _) ?_;(with_reducible exact Mine.uo (by assumption) (by assumption) (by assumption))
   refine tV gT (PT _ _ _) tX (tY _ _) (meets_str_split_sep x _ t u QX hy hf (by(with_reducible exact B2 (by assumption) (by decide))) hn) ?_;rw[strsFrom_eq];exact k _ _ (by rw[numbered_texts];unfold Xp;rw[CN (by rw[QX];simp),CN (by rw[hf];simp)])
end
theorem m7:∀(l:I (Y×EM)),Aa h C ((l.map (·.1)).map λx=>.str x.cps.toList) (Uy l)
 |[]=>rfl|p::l=>⟨_,_,rfl,⟨p.2,rfl⟩,m7 l⟩
theorem af1:∀{us:I A4},Aa h C (l.map .str) us->∃lt:I (Y×EM),us=Uy lt/\lt.map (·.1)=l.map λx=>⟨⟨x⟩⟩:=by induction l with
 |nil=>exactλe=>⟨[],e,rfl⟩|cons x l ih=>intro us r;refine Aa.Si (vs:=l.map .str) r (P:=λus=>∃lt:I (Y×EM),us=Uy lt/\lt.map (·.1)=(x::l).map λx=>⟨⟨x⟩⟩) ?_;intro u us a b;exact xE a λt a=>AC (ih b) λlt q h2=>⟨(⟨⟨x⟩⟩,t)::lt,by rw[a,q];rfl,congrArg (_::·) h2⟩
section
theorem Gd.af2(g:Gd B F K A H C s){us:BV A4}(r:Aa s.heap C U us.toList)(tk:O):Gd B F K A (H.new (.list U)).2 (C++[s.heap.objs.size]) {s with heap:=s.heap.push {cls:=.type "list",data:=.seq us},toks:=tk}/\Nx F.D [] s.heap (s.heap.push {cls:=.type "list",data:=.seq us}) C (C++[s.heap.objs.size]):=by
 have kp:∀b o,s.heap.get? b=G o->(s.heap.push {cls:=.type "list",data:=.seq us}).get? b=G o:=λb o e=>C0 _ e;have hn:=GD s.heap;have hg:=CW s.heap (o:={cls:=.type "list",data:=.seq us}) rfl;exact⟨g.new kp hn ⟨_,hg⟩ (o:=.list U) ⟨us,⟨_,hg⟩,r.mono (λb o e _=>kp b o e)⟩,Nx.add [_] kp λb hb=>by rw[CH.mp hb];exact hn⟩
theorem af3{k:SK}{m:Y}{tx:Tx}(g:Gd B F K A H C s)(hk:SY m=G k)(ro:VR s.heap C (.str tx) u)(rs:Aa s.heap C args us)(h:ja tx k args H=.ok (.v v) A7):Ae B F K A A7 C s (CD (.builtin ("str."++m.toString)) (u::us)) (RV v):=by
 rw[ae9 hk];refine A1.Bb h λhf h=>?_;have hl:=Eb hf;have Ea:(⟨⟨tx⟩⟩:Y).length<=F6:=B2 (show tx.length<=100000 from hl) (by decide);refine xE ro ?_;(try clear ro);intro t B5;subst B5;clear hk;revert rs;cases k with
 |sw=>
  apply Cs h Ac;intro p h;apply Db h Ac;intro p h rs;apply B4 h;apply Q8 rs;intro t' A2 E kk;exact SC.startswith (by rw[ae8];exact kk _ C _ g (Nx.refl ..) rfl)|ew=>
  apply Cs h Ac;intro p h;apply Db h Ac;intro p h rs;apply B4 h;apply Q8 rs;intro t' A2 E kk;exact SC.endswith (kk _ C _ g (Nx.refl ..) rfl)|split=>
  apply Cs h Ac;intro p h;apply Db h Ac;intro p h;apply Cs h Ac;intro c h rs;apply B4 h;apply Q8 rs;intro t' A2 E kk;refine af0 hl λl tk CE=>?_;have :=m7 (h:=s.heap) (C:=C) l;rw[CE]at this;refine xA (g.af2 (us:=(Uy l).toArray) (by simpa using this) tk) ?_;intro g' x';exact kk _ _ _ g' x' ⟨_,g.LC,rfl⟩|rfind=>
  apply Cs h Ac;intro p h;apply Db h Ac;intro p h rs;apply B4 h;apply Q8 rs;intro t' A2 E kk;exact SC.rfind (kk _ C _ (g.tok _) (Nx.refl ..) ⟨_,rfl⟩)|rstrip=>
  apply Cs h Ac;intro p h;apply Db h Ac;intro p h rs;apply B4 h;apply Q8 rs;intro t' A2 E kk;exact SC.rstripChars (λH6 tk=>kk _ C _ (g.tok _) (Nx.refl ..) ⟨_,rfl⟩) Ea|fmt=>
  apply hZ h Ac
  . intro i h;apply Cu h Ac;intro i h rs;refine A1.Bb h λhc h=>?_;apply B4 h;apply Zt rs;intro t' A2 E kk;have :=EZ.mp (B' hc);clear hf hl Ea;subst this;refine xA (TO (Ak hc)) ?_;intro h0 h1;refine bv6 rfl (KFm.args_2 _ _) (ae5 h0 h1) λH6 tk=>kk _ C _ (g.tok _) (Nx.refl ..) ⟨H6,?_⟩;rw[WX (Ak hc)]
  . intro i j h;apply Cu h Ac;intro i h;apply Cu h Ac;intro j h rs;refine A1.Bb h λhc h=>?_;apply B4 h;apply jm rs;intro t' t2 A2 E kk;have :=EZ.mp (B' hc);clear hf hl Ea;subst this;refine xA (TO (B' (Ak hc))) ?_;intro h0 h1;refine xA (TO (Ak (Ak hc))) ?_;intro h2 h3;refine bv6 rfl (KFm.args_3 _ _ _) (ae6 h0 h1 h2 h3) λH6 tk=>kk _ C _ (g.tok _) (Nx.refl ..) ⟨H6,?_⟩;rw[WX (B' (Ak hc)),WX (Ak (Ak hc))];have :(tZ ⟨J6 i⟩++Lx ",")++tZ ⟨J6 j⟩=⟨⟨J6 i++44::J6 j⟩⟩:=by
     show tZ ((YG (J6 i)++(Lx ",").cps)++YG (J6 j))=_;have :(Lx ",").cps=⟨[44]⟩:=by decide+kernel
     rw[this];simp
    rw[this]|join=>
  apply Cs h Ac;intro v' h;apply A1.MJ h;intro i U hi h rs;refine A1.Bw h λl IX h=>A1.Bb h λL5 h=>?_;apply B4 h;apply MG rs;intro u r A2 E kk;refine Bu (g.listAt r hi) ?_;intro a us BI BO vr;clear r;subst BI;refine xE BO ?_;(try clear BO);intro _ p;rw[OI IX]at vr;refine AC (af1 vr) ?_;intro lt e1 e2;have bM:us=(Uy lt).toArray:=by rw[<-e1]
  exact SC.join (D:=a) (l:=lt) ⟨_,p,rfl,_,by rw[bM]⟩ e2 L5 λH6 tk=>kk _ C _ (g.tok _) (Nx.refl ..) ⟨H6,rfl⟩
end
end
section
theorem af4{id:DJ}(g:Gd B F K A H C s)(rs:Aa s.heap C args us)(h:Zk id args H=.ok (.v v) A7):Ae B F K A A7 C s (CD (.type id) us) (RV v):=by
 revert rs;refine Ff h (λe h=>?_) λh=>?_
 . subst e;apply Cs h Ac;intro v h;apply Db h Ac;intro x h rs;apply B4 h;apply Q8 rs;intro t;exactλA2 E kk=>call_type_of (PT _ _ _) (by decide) (kk _ C _ g (Nx.refl ..) rfl)
 refine Ff h (λe h=>?_) λh=>?_
 . subst e;apply hZ h Ac
   . intro n h;apply Cu h Ac;intro n h rs;apply B4 h;apply Zt rs;intro t' A2 E kk;obtain⟨g',x'⟩:=g.push {cls:=.type "range",data:=.fields #[.int 0 s.toks,.int _ t',.int 1 (s.toks+1)]} (s.toks+1+1);exact call_range_1 (kk _ C _ g' x' ⟨_,_,_,_,rfl,CW _ rfl⟩)
   . intro a b h;apply Cu h Ac;intro a h;apply Cu h Ac;intro b h rs;apply B4 h;apply jm rs;intro t' t2 A2 E kk;obtain⟨g',x'⟩:=g.push {cls:=.type "range",data:=.fields #[.int _ t',.int _ t2,.int 1 s.toks]} (s.toks+1);exact call_range_2 (kk _ C _ g' x' ⟨_,_,_,_,rfl,CW _ rfl⟩)
 refine Ff h (λe h=>?_) λh=>?_
 . subst e;apply ET h Ac;intro h rs;apply B4 h;apply Zs rs;intro A2 E kk;refine call_set_0 λled=>?_;have kp:∀b o,s.heap.get? b=G o->(s.heap.push {cls:=.type "set",dict:=L,data:=.set #[] 0 (.fresh 0 0 led)}).get? b=G o:=λb o e=>C0 _ e;have hn:=GD s.heap;have hg:=CW s.heap (o:={cls:=.type "set",dict:=L,data:=.set #[] 0 (.fresh 0 0 led)}) rfl;exact kk _ _ _ (g.new (tk:=s.toks) kp hn ⟨_,hg⟩ (o:=.HP) ⟨led,hg⟩) (Nx.add [_] kp λb hb=>by rw[CH.mp hb];exact hn) ⟨_,g.LC,rfl⟩
 refine Ff h (λe h=>?_) λh=>(Ac h).elim;subst e;apply Cs h Ac;intro v h;apply Cu h Ac;intro i h rs;refine A1.Bb h λhc h=>?_;apply B4 h;apply Zt rs;intro t' A2 E kk;refine xA (TO hc) ?_;intro h0 h1;refine PySem.P.str_of_int (a:=i) ?_ (kk _ C _ (g.tok _) (Nx.refl ..) ⟨s.toks,?_⟩)
 . have :i.natAbs<2^1920:=Ip (show i.natAbs<100 by(with_reducible exact Mine.vZ (by assumption) (by assumption))) (by decide);by_cases z:i.natAbs=0;. rw[z];decide
   . exact(bo4 z).mpr this
 . show Lu (Lx (toString i)) _=_;rw[WX hc]
theorem af5{id:DJ}(slot:Lv "str" name id)(ty:H_ (.builtin id)=pure (.type "method_descriptor")):Gc Au h (Jf (.str x t) name pl) (.builtin id,[.str x t]):=λ_ _ _ _ _ q=>by with_reducible exact GM.of _ (PT _ _ _) slot ty GM.noRef q
theorem af6{l r:AB}{c z:Tx}(h:Sf l op r=G (c,id,y,z)){P:AB->Jc->AB->Prop}(k:∀KH LB I_ Fh JK TP KD TQ pos,(Fh:BG).endLine=(pos:BG).line->P (.Constant (.str ⟨⟨c⟩⟩) KH LB) .Add (.Call (.Attribute (.Name id I_) "replace" Fh) [.Constant (.str ⟨⟨y⟩⟩) JK TP,.Constant (.str ⟨⟨z⟩⟩) KD TQ] [] pos)):P l op r:=by
 apply Iz h AE;intro c' KH LB h;apply YZ h AE;intro c' h;apply M0 h AE;intro f a kw pos h;apply Rq h AE;intro o m Fh h;apply ES h AE;intro TN I_ h;apply FQ h AE;intro y' a h;apply Cs h AE;intro z' h;apply Iz h AE;intro y' JK TP h;apply YZ h AE;intro y' h;apply Iz h AE;intro z' KD TQ h;apply YZ h AE;intro z' h;apply ET h AE;intro h;refine Cj h AE λq h=>?_;apply IF (B' q);rw[E0.mp (B' (Ak q))];revert k;apply uZ h;intro k;exact k _ _ _ _ _ _ _ _ _ (CC (Ak (Ak q)))
theorem af7{l r:AB}{c z:Tx}(hr:Sf l op r=G (c,id,y,z))(h:Ey A3 K (ev A3 n) (.BinOp l op r pos) H=.ok (.v v) A7)(g:Gd B F K A H C s):Ae B F K A A7 C s (eval (.BinOp l op r pos) F.env) (RV v):=by
 refine Nf h (λx' e h=>?_) λe _=>by rw[hr]at e;exact(AE e.symm).elim
 rw[hr]at e;injection e with e;subst e;refine A1.Bb h ?_;clear h;intro hc h;simp only[D2]at hc;apply af6 hr;intro KH LB I_ Fh JK TP KD TQ Ma O6;refine A1.Bw h λw hx h=>?_;revert hx;apply Db h Ac
 . intro x h hx;refine A1.Bb h ?_;clear h;intro hd h;simp only[D2,RL]at hd;refine xA hd ?_;(try clear hd);intro Av hfc;refine xA Av ?_;(try clear Av);intro BO hz;obtain⟨hf,m8⟩:=BO;(first|(revert k;(first|apply BW h|apply B4 h|apply BX h|apply BY h|apply BZ h);intro k)|apply BW h|apply B4 h|apply BX h|apply BY h|apply BZ h);have hl:=Eb hf;have EG:=Eb hc.2;have hz:=Di hz;have hb:(⟨⟨x⟩⟩:Y).length+((⟨⟨x⟩⟩:Y).length+1)*(⟨⟨z⟩⟩:Y).length<=16777216:=by
    show x.length+(x.length+1)*z.length<=16777216;have :(x.length+1)*z.length<=(x.length+1)*100:=s9 _ hz;(with_reducible exact Mine.vE (by assumption) (by assumption))
   have af8:((⟨⟨y⟩⟩:Y)==⟨⟨z⟩⟩)=A6:=by
    rw[Li];intro q;injection q with q;injection q with q;rw[EZ.mpr q]at m8;(exfalso;cases m8)
   intro A2 E kk;refine sX (fK ?_);have AN:=g.tok (s.toks+1);skip;refine A5 (wpAny_with_toks (n:=1) (f0 _ _) (a9 AN hc.1 hx _ _ λu As Ah AT Al BA hn=>A5 (Eh ?_)));refine xE BA ?_;(try clear BA);intro Ee BI;subst BI;show AG _ A (PP (.Name id I_) "replace" Fh Ma F.env (.str ⟨⟨x⟩⟩ Ee) (2+0) (F5 Ma (Dy [.Constant (.str ⟨⟨y⟩⟩) JK TP,.Constant (.str ⟨⟨z⟩⟩) KD TQ] F.env)) (Ud Ma (Ue [] F.env))) _ E Ah;unfold PP;skip;refine A5 (C' ?_);show AG _ A (Jf (.str ⟨⟨x⟩⟩ Ee) "replace" _) _ E Ah;with_reducible refine(af5 PySem.F.slot_str_replace PySem.F.type_str_replace).here ?_
   show AG _ A (Jg M (.Name id I_) F.env Fh Ma>>=λp=>PO p (.builtin "str.replace") [.str ⟨⟨x⟩⟩ Ee] (F5 Ma (Dy [.Constant (.str ⟨⟨y⟩⟩) JK TP,.Constant (.str ⟨⟨z⟩⟩) KD TQ] F.env)) []) _ E Ah;have hp:Jg M (.Name id I_) F.env Fh Ma=pure Ma:=by
    unfold Jg;have :(Fh.endLine==Ma.line)=M:=by simpa using O6
    rw[this];rfl
   rw[hp];refine A5 (AW ?_);refine fY (P:=λh=>CU (AQ B.prog B.w) h (.builtin "str.replace")) rfl (λh x=>x) ?_;refine sg ?_;refine Lk (fK (Lk (fK (Ub ⟨CU.builtin,?_⟩)) rfl)) rfl;have h0:Ah.toks≠0:=PN hn;refine SC.replace h0 (Nat.succ_ne_zero _) (EO (PG _)) af8 hb λt' tk=>?_;exact kg (s:={Ah with toks:=tk}) (AT.tok tk) hfc A2 E λw BQ Aw Ao B7 BP=>kk w BQ Aw Ao ((show Nx F.D [] s.heap Ah.heap C As from Al).trans B7) BP
end
section
theorem af9:Y3 "issubclass.nested"=M:=by decide+kernel
theorem ag7:Rb "issubclass.nested"=L:=by decide+kernel
theorem sub_tuple_self:Ri (.type "tuple") (.type "tuple")=pure M:=by rw[Iy];kernel_rfl
theorem ag8{AV:Dq->AR->Prop}(h:AV (.ok (.ret (.bool M))) s):D6 (AQ prog w) A (.call (.builtin "issubclass.nested") ⟨[.type "str",.type "str",.int 1 t],[]⟩) AV s:=by
 refine Lq af9 PySem.F.entry_issubclass_nested ?_;simp only[fw,ag7];have hs:=PySem.F.sub_str_str;have b4:gM "issubclass.nested"=L:=by kernel_rfl
 rw[b4];refine AW ?_;repeat(any_goals(first|assumption|(rw[hs])|wp_step))
theorem ag9(ha:s.heap.get? a=G {cls:=.type "tuple",data:=.seq #[.type "str",.type "bytes"] m})(h:∀tk,A2 (.bool M) {s with toks:=tk}):AG (AQ prog w) A (call (.builtin "issubclass") [.type "str",.ref a]) A2 E s:=by
 refine bv7 PySem.F.kind_issubclass PySem.F.plain_issubclass PySem.F.entry_issubclass (PySem.F.args_issubclass_2 _ _) ?_;refine bM9 ?_;have hT:s.TypeIs (.ref a) "tuple":=⟨_,ha,rfl⟩;have LD:=sub_tuple_self;repeat(any_goals(first|assumption|wp_step))
 refine ag8 ?_;have hh:=h s.toks;repeat(any_goals(first|assumption|wp_step))
end
section
theorem ah0{r:V}(hn:JA v=A6)(g:Gd B F K A H C s)(ru:VR s.heap C v u)(h:jX v H=.ok (.v r) A7):Ae B F K A A7 C s (CD (.builtin "len") [u]) (RV r):=by
 intro A2 E kk;have WY:(100000:AX)<2^63:=by decide
 refine Fi h (λq _=>UY (q.symm.trans hn)) λ_ h=>?_;revert ru;apply Np h
 . intro x h;refine A1.Bb h ?_;clear h;intro hf h ru;revert kk;apply B4 h;intro kk;refine xE ru ?_;intro t q;rw[q];have hl:(⟨⟨x⟩⟩:Y).length<=100000:=Eb hf;exact PySem.P.len_str (Int.not_le.mpr (bv8 (sH.mpr hl) WY)) (kk _ C _ (g.tok _) (Nx.refl ..) ⟨_,rfl⟩)
 intro h;apply A1.MJ h;intro i U hi h;refine A1.Bb h ?_;clear h;intro hf h ru;revert kk;apply B4 h;intro kk;refine Bu (g.listAt ru hi) ?_;intro a us q p vr;rw[q];have Cf:U.length=us.size:=vr.length;rw[Cf]at kk;exact call_len_list p.isList (bv8 (sH.mpr (Cf▸Eb hf)) WY) (kk _ C _ (g.tok _) (Nx.refl ..) ⟨_,rfl⟩)
theorem ah1{a b:AX}{w:A4}(g:Gd B F K A H C s)(ru:VR s.heap C (.int a) u)(L8:VR s.heap C (.int b) w):Ae B F K A H C s (CD (.builtin "min") [u,w]) (RV (.int (if b<a then b else a))):=by
 intro A2 E kk;refine xE ru ?_;(try clear ru);intro t Bf;subst Bf;refine xE L8 ?_;(try clear L8);intro t' Br;subst Br;refine min_two_ints g.handled λQ tk k=>kk _ C _ (g.ext k) (Nx.ext k) ?_;by_cases c:b<a;. rw[D5 c,D5 c];exact⟨_,rfl⟩
 . rw[CN c,CN c];exact⟨_,rfl⟩
theorem ah2(e:Va v=M)(r:VR h C v u):∃x tk,u=.str x tk:=by cases v<;>first|exact(B3 e).elim|exact xE r λt q=>⟨_,t,q⟩
theorem ah3{r:V}{t:DJ}(g:Gd B F K A H C s)(ru:VR s.heap C v u)(h:j_ v t H=.ok (.v r) A7):Ae B F K A A7 C s (CD (.builtin "isinstance") [u,.type t]) (RV r):=by
 intro A2 E kk;refine A1.Bb h ?_;clear h;intro ht h;revert ru;apply VS h
 . intro i h;refine A1.Bw h λo hl h=>A1.Bb h λq h ru=>?_;revert kk;apply B4 h;intro kk;refine AC ru λa ha e=>?_;rw[e,eq_of_beq (Ak q)];have fin:∀{BM:I (V×V)},Dm B.prog B.w s.heap C a BM->∃o,s.heap.get? a=G o/\o.cls=.type "dict"/\∀c,o.data≠.cls c:=λr=>r.elim (λr=>AC r λ_ m _=>WO m) λr=>AC r λ_ m _=>WO m;have ho:∃o,s.heap.get? a=G o/\o.cls=.type "dict"/\∀c,o.data≠.cls c:=by
    revert hl;apply SJ (B' q);. exactλN _ hl=>fin (g.obj hl ha)
    . intro h;apply SM h B3;exactλN _ hl=>AC (g.obj hl ha) λBM _ r=>fin r
   exact CX ho λo ho hc _=>bN0 ho hc (kk _ C _ (g.tok _) (Nx.refl ..) rfl)
 . intro h;refine A1.Bb h λq h ru=>?_;revert kk;apply B4 h;intro kk;refine D9 (ah2 q ru) ?_;intro x tk e;rw[e];refine Jt ht (λq=>?_) λq=>?_;. rw[eq_of_beq q]at kk ⊢;exact bN1 (kk _ C _ g (Nx.refl ..) rfl)
   . rw[eq_of_beq q]at kk ⊢;exact bN2 (kk _ C _ (g.tok _) (Nx.refl ..) rfl)
theorem ah4(g:Gd B F K A H C s)(rs:Aa s.heap C [.top (.type "str"),.tup L [.top (.type "str"),.top (.type "bytes")]] us):Ae B F K A H C s (CD (.builtin "issubclass") us) (RV (.bool M)):=by
 intro A2 E kk;refine Rx rs ?_;(try clear rs);intro _ _ GB H9 _ _ Hn bR2 e;subst GB;subst H9;subst Hn;cases e;refine Kl bR2 ?_;intro a o us n Kw e tg EG hd vs;subst Kw;refine Rx vs ?_;intro _ _ h1 Ky _ _ TG TH TJ;subst Ky;subst TG;subst TH;subst TJ;refine xA (tg.2 rfl) ?_;intro MY MZ;have :us=#[.type "str",.type "bytes"]:=by rw[<-h1]
 subst this;have ho:o={cls:=.type "tuple",data:=.seq #[.type "str",.type "bytes"] n}:=by obtain⟨c1,c2,c3,c4⟩:=o;simp only at EG hd MY MZ;rw[EG,hd,MY,MZ];rfl
 subst ho;exact ag9 e λtk=>kk _ C _ (g.tok _) (Nx.refl ..) rfl
end
section
variable[DecidableEq T]{Bx:KeyKind prog w T}
theorem ah5{d:A9}{Ay:I (T×A4)}{k:T}{key v:A4}(EI:Bx.is k key=M)(hm:s.heap.DictAt Bx d Ay Ay.length)(TR:k∉Ay.map (·.1))(hQ:∀Q,Q.DictAt Bx d (Ay++[(k,v)]) (Ay++[(k,v)]).length->E2 d s.heap Q->A2 v {s with heap:=Q,toks:=s.toks+1})(Ea:Ay.length<=F6):AG (AQ prog w) A (t_ d key v) A2 E s:=by
 refine M3 hm ?_;(try clear hm);intro o N ho hc hd hk hp hn;have Cf:N.size=Ay.length:=by have :=hp.length;simpa using this
 have OE:(N.findIdx? λe=>Bx.is k e.key)=Ay.findIdx? λkv=>decide (kv.1=k):=by rw[<-hp.findIdx k];obtain⟨l⟩:=N;simp
 unfold t_;refine C' (A5 (Bx.pyHash EI ?_));refine A5 (sq (s:={s with toks:=s.toks+1}) EI ho hd hk ?_);have hi:(N.findIdx? λe=>Bx.is k e.key)=L:=by
   rw[OE,bv9];intro kv OF;simp only[gA];intro z;exact TR (Dz.mpr ⟨kv,OF,z⟩)
 rw[hi];refine A5 (Ge (A5 (sr (hz:=by(with_reducible exact Mine.yT (by assumption) (by assumption))) (s:={s with toks:=s.toks+1}) ho hd (AW (hQ _ ?_ (Fe ..))))));refine⟨_,_,FP _ ho (Xy (Uk hd _)),hc.mapDictKeys _,?_,hk.push EI v,?_,?_⟩;. rw[F8];exact Uk hd _
 . have :=hp.append EI (Bx.hash k) v;obtain⟨l⟩:=N;simpa using this
 . rw[NR,I7];refine⟨hn,by simp,λa ha b hb e=>?_⟩;simp only[I9,su,CH]at hb;exact TR (hb▸e▸ha)
end
section
theorem ah6{w:A4}(g:Gd B F K A H C s)(hi:AJ H.h i=G (.list U))(ru:VR s.heap C (.ref i) u)(rv:VR s.heap C v w)(hf:CG U=M):Ae B F K A (H.set i (.list (U++[v]))) C s (CD (.builtin "list.append") [u,w]) (RV .none):=by
 intro A2 E kk;have hl:=Eb hf;refine AC ru ?_;(try clear ru);intro a ha Av;subst Av;refine AC (g.obj hi ha) ?_;intro us B5 vr;refine xE B5 ?_;(try clear B5);intro m ho;have Cf:U.length=us.size:=by rw[vr.length];simp
 refine bw0 ho (λQ hs IT=>?_) (B2 (show us.size<=100000 by(with_reducible exact Mine.yS (by assumption) (by assumption))) (by decide));refine xA (g.set (Q:=Q) (tk:=s.toks) (o':=.list (U++[v])) ha hi (λ_ _ e=>by(exfalso;cases e)) hs.extBut ⟨_,IT⟩ λim=>⟨us.push w,⟨_,IT⟩,by rw[Uz];exact(vr.Bv im).app ⟨_,_,rfl,rv.Bv im,rfl⟩⟩) ?_;intro g' x';exact kk _ C _ g' x' rfl
theorem ah7{U:I Sg}{l:Sg}{w:A4}(g:Gd B F K A H C s)(hi:AJ H.h i=G (.rows (r+1) U))(ru:VR s.heap C (.ref i) u)(rv:VR s.heap C v w)(hl:IQ l=[v]):Ae B F K A (H.set i (.rows r (U++[l]))) C s (CD (.builtin "list.append") [u,w]) (RV .none):=by
 intro A2 E kk;refine AC ru ?_;(try clear ru);intro a ha BI;subst BI;refine CX (g.obj hi ha) ?_;intro us BO vr ah8;refine xE BO ?_;(try clear BO);intro m ho;have Cf:(DM U).length=us.size:=by rw[vr.length];simp
 have e:DM (U++[l])=DM U++[v]:=by rw[OJ];simp[DM,hl]
 refine bw0 ho (λQ hs IT=>?_) (B2 (show us.size<=1000000 by unfold Dk at ah8;(with_reducible exact Mine.vU (by assumption) (by assumption))) (by decide));refine xA (g.set (Q:=Q) (tk:=s.toks) (o':=.rows r (U++[l])) ha hi (λ_ _ e=>by(exfalso;cases e)) hs.extBut ⟨_,IT⟩ λim=>⟨us.push w,⟨_,IT⟩,by rw[Uz,e];exact(vr.Bv im).app ⟨_,_,rfl,rv.Bv im,rfl⟩,by rw[e,F8,ta];(with_reducible exact Mine.Yf (by assumption))⟩) ?_;intro g' x';exact kk _ C _ g' x' rfl
theorem ah9{x:V}(r:Aa h C U us):U.getLast?=G x->∃u,us.getLast?=G u/\VR h C x u/\Aa h C U.dropLast us.dropLast:=by
 refine Aa.ind (P:=λU us=>U.getLast?=G x->∃u,us.getLast?=G u/\VR h C x u/\Aa h C U.dropLast us.dropLast) (λe=>(AE e).elim) (λv u U us a b ih q=>?_) r;cases U with
 |nil=>cases b;exact Bq q (P:=λx=>∃u',G u=G u'/\VR h C x u'/\Aa h C [] []) ⟨u,rfl,a,rfl⟩|cons z l=>
 refine Aa.Si b (P:=λus=>(∃u,us.getLast?=G u/\VR h C x u/\Aa h C (z::l).dropLast us.dropLast)->∃u',(u::us).getLast?=G u'/\VR h C x u'/\Aa h C (v::(z::l).dropLast) (u::us).dropLast) ?_ (ih q);exactλ_ _ _ _ r=>CX r λu' e1 e2 e3=>⟨u',e1,e2,.cons a e3⟩
theorem ai0(g:Gd B F K A H C s)(hi:AJ H.h i=G (.list U))(ru:VR s.heap C (.ref i) u)(hf:CG U=M)(hv:U.getLast?=G v):Ae B F K A (H.set i (.list U.dropLast)) C s (CD (.builtin "list.pop") [u]) (RV v):=by
 intro A2 E kk;have hl:=Eb hf;refine AC ru ?_;(try clear ru);intro a ha Bf;subst Bf;refine AC (g.obj hi ha) ?_;intro us Br vr;refine xE Br ?_;(try clear Br);intro m ho;have Cf:U.length=us.size:=by rw[vr.length];simp
 refine CX (ah9 vr hv) ?_;intro w e1 L8 QY;have hy:us[us.size-1]?=G w:=by
  have :us.toList[us.toList.length-1]?=G w:=by rw[<-List.getLast?_eq_getElem?];exact e1
  simpa using this
 refine bN3 ho hy (λQ hs IT=>?_) (B2 (show us.size<=100000 by(with_reducible exact Mine.yS (by assumption) (by assumption))) (by decide));have ai1:Dt s.heap Q:=Go hs.extBut λo e=>by rw[ho]at e;injection e with e;subst e;rfl
 refine xA (g.set (Q:=Q) (tk:=s.toks) (o':=.list U.dropLast) ha hi (λ_ _ e=>by(exfalso;cases e)) hs.extBut ⟨_,IT⟩ λim=>⟨us.pop,⟨_,IT⟩,by rw[Array.toList_pop];exact QY.Bv im⟩) ?_;intro g' x';exact kk _ C _ g' x' (L8.Bv ai1)
theorem ai2[DecidableEq T]{Ay:I (T×A4)}{k:T}{v:A4}(h:k∉Ay.map (·.1)):F7 Ay k v=Ay++[(k,v)]:=by
 have TC:¬(Ay.any λkv=>decide (kv.1=k))=M:=λq=>by
  refine AC (IC.mp q) ?_;intro kv OF he;exact h (Dz.mpr ⟨kv,OF,of_decide_eq_true he⟩)
 rw[F7,CN TC]
theorem DR.ai3[DecidableEq T]{key:T->V}(hk:∀a b,G5 (key a) (key b)=G (decide (a=b))){k:T}{l:I (T×A4)}(d:DR key h C N l):Cz N (key k)=L->k∉l.map (·.1):=DR.ind (P:=λN l=>Cz N (key k)=L->k∉l.map (·.1)) (λ_ m=>nomatch m) (λk' v u N r _ _ ih hl=>by
 rw[show Cz ((key k',v)::N) (key k)=match G5 (key k') (key k)with|some M=>G v|_=>Cz N (key k)from rfl,hk]at hl;by_cases z:k'=k;. simp[z]at hl
 . simp only[z,decide_false]at hl;simp only[I9,Ci,gN];exact⟨λq=>z q.symm,ih hl⟩) d
theorem ai4{d:V}(g:Gd B F K A H C s)(hd:AJ H.h i=G (.dict N))(ru:VR s.heap C (.ref i) u)(rk:VR s.heap C k ku)(rd:VR s.heap C d du)(h:Nz i N .SX [k,d] H=.ok (.v v) A7):Ae B F K A A7 C s (CD (.builtin "dict.setdefault") [u,ku,du]) (RV v):=by
 refine A1.Bb h ?_;clear h;intro hc h;simp only[D2]at hc;refine xA hc ?_;(try clear hc);intro hk hf;have hl:=Eb hf;intro A2 E kk;refine AC ru ?_;(try clear ru);intro a ha C8;subst C8;have hT:=WF g hd ⟨a,ha,rfl⟩;refine Gf bw1 hT PySem.F.entry_dict_setdefault ?_ (PySem.F.args_dict_setdefault_3 _ _ _);skip;refine A5 ?_;skip;refine A5 (bq1 hT ?_);show AG _ _ (pure (a,ku,G du)) _ _ s;refine AW ?_;show AG _ _ (if(a==NJ)=M then _ else(t_ a ku du>>=_)) _ _ s;rw[CN (by rw[g.QJ (Es ha)];exact NO)];refine AC (g.objs i _ hd) ?_;intro a' Fj r;rw[Bk (Fj.symm.trans ha)]at r;revert kk;refine WD hk r rk λBx key x Ay ke back q hx hm dr=>?_;cases hv:Cz N k with
 |some v'=>
  rw[hv]at h;apply B4 h;intro kk;have hz:s.heap.DictLe a F6:=λo BM ep ho bN=>by
   refine M3 hm ?_;intro o' bH8 e hc GS KC hp _;rw[Bk (e.symm.trans ho)]at GS;injection GS.symm.trans bN with bN;exact B2 (bN▸Eg (hp.length.trans dr.length)) (B2 hl (by decide))
  refine(q▸dr.look ke:Cz N k=L/\Ll Ay x=L\/∃v u,Cz N k=G v/\Ll Ay x=G u/\VR s.heap C v u).elim (λh=>(AE (h.1.symm.trans hv)).elim) λo=>Bu o λv2 w q2 FH r=>?_;exact A5 (wpAny_dictSetDefault_of (hz:=hz) hx hm.dictOf.mapOf (λv Bg=>AW ⟨v,rfl,kk _ C _ (g.tok _) (Nx.refl ..) (Bk (FH.symm.trans Bg)▸Bk (q2.symm.trans hv)▸r)⟩) λhn=>(AE (hn.symm.trans FH)).elim)|none=>
  rw[hv]at h;apply B4 h;intro kk;have TR:=dr.ai3 ke (q▸hv);refine A5 (ah5 hx hm TR (λQ HB hs=>?_) (B2 (dr.length▸hl) (show 100000<=F6 by decide)));refine xA (g.set (Q:=Q) (tk:=s.toks+1) (o':=.dict (Ej N k d)) ha hd (λ_ _ e=>by(exfalso;cases e)) hs.extBut (DictAt.live HB) λim=>back _ HB (q▸ai2 TR▸Sp (p:=λJ=>DR key Q J _ _) ((dr.put ke (k:=x) rd (Ul hm)).mono (J:=[]) im))) ?_;intro g' x';exact AW ⟨_,rfl,kk _ C _ g' x' (rd.Bv (Go hs.extBut (Dm.C1 r)))⟩
theorem ai5{d:V}(g:Gd B F K A H C s)(hd:AJ H.h i=G (.dict N))(ru:VR s.heap C (.ref i) u)(rk:VR s.heap C k ku)(rd:VR s.heap C d du)(h:Nz i N .get [k,d] H=.ok (.v v) A7):Ae B F K A A7 C s (CD (.builtin "dict.get") [u,ku,du]) (RV v):=by
 refine A1.Bb h ?_;clear h;intro hk h;refine xA (FE h) ?_;intro e DV;subst DV;injection e with e;subst e;intro A2 E kk;exact Gf tP (WF g hd ru) bt5 (lh g hd ru rk rd hk λw s' g' x' r'=>kk w C s' g' x' r') (PySem.F.args_dict_get_3 _ _ _)
end
open PyProof.Rows(IntsAre)
noncomputable def PI:I (A4×A4)->I AX->I AX->Prop
 |[],m,n=>m=[]/\n=[]|p::r,m,n=>∃a t c u m' n',p=(.int a t,.int c u)/\m=a::m'/\n=c::n'/\PI r m' n'
theorem m9{vs ws:I A4}{ms ns:I AX}(hv:PY vs ms):PY ws ns->vs.length=ws.length->PI (vs.zip ws) ms ns:=by induction hv generalizing ws ns with
 |nil=>intro hw h;cases hw with
  |nil=>exact⟨rfl,rfl⟩|cons=>(exfalso;cases h)
 |cons a t hv ih=>intro hw h;cases hw with
 |nil=>(exfalso;cases h)|cons c u hw=>exact⟨a,t,c,u,_,_,rfl,rfl,rfl,ih hw (YD h)⟩
theorem mA{a b:AX}{x y:I AX}:J5 (a::x) (b::y)=if a=b then J5 x y else decide (a<b):=rfl
section
theorem ai6(l b:A9)(c1 c2:A4)(d1 d2:AL A9)(LF TS:BV (AL A4))(Ca OM:BV A4)(n n2:O)(ms ns:I AX)(hm:PY Ca.toList ms)(hn:PY OM.toList ns)(hs:Ca.size=OM.size):Ux (E8.«tuple.__lt__» ⟨[.ref l,.ref b],[]⟩) (λA AV s=>s.heap.get? l=G ⟨c1,d1,.seq Ca n,LF⟩/\s.heap.get? b=G ⟨c2,d2,.seq OM n2,TS⟩/\(∀(prog:HY)(w:F4)(A':CK)(A2:AK->AR->Prop)(E:A4->AR->Prop),A2 M s->AG (AQ prog w) A' (Uq (.ref b) (.type "tuple")) A2 E s)/\AV (.ok (.ret (.bool (J5 ms ns)))) s):=.of_wp λprog w A AV s h=>by
 obtain⟨FG,g,d,tk,os⟩:=s;refine M2 h ?_;(try clear h);intro hl hb hi h;wp_walk using hi _ _ _ _ _,YJ hl,YJ hb,gU _ (λC4 b s'=>b.1=L/\s'=⟨FG,g,d,tk,os⟩/\∃LG Fk,PI C4 LG Fk/\AV (.ok (.ret (.bool (J5 LG Fk)))) ⟨FG,g,d,tk,os⟩) _;case turn=>
  rintro⟨y,x⟩C4 b s'⟨GV,rfl,LG,Fk,hp,hR⟩;refine i7 hp ?_;clear hp;intro a t c u m n q1 q2 q3 hp;injection q1 with q1 q4;subst q1;subst q4;subst q2;subst q3;rw[mA]at hR;refine A5 ((tI a c t u).at A.in1 _ prog w _ _ ?_);by_cases ON:a=c
  . subst ON;simp only[fa,Jj]at hR ⊢;wp_walk;exact⟨rfl,rfl,_,_,hp,hR⟩
  . have Ht:(a==c)=A6:=by simpa using ON
    rw[CN ON]at hR;rw[Ht];refine A5 (Ge (A5 ?_));show AG (AQ prog w) A.in1 (DZ .Lt (.int a t) (.int c u)) _ _ _;refine bp0 ?_;wp_walk;exact⟨_,rfl,hR⟩
 case fin=>
  rintro⟨b1,b2⟩s'⟨GV,rfl,LG,Fk,hp,hR⟩;have GV:b1=L:=GV;subst GV;refine xA hp ?_;clear hp;intro q1 q2;subst q1;subst q2;have hR:AV (.ok (.ret (.bool A6))) ⟨FG,g,d,tk,os⟩:=hR;wp_walk;refine⟨_,rfl,?_⟩;simpa[bw2,hs]using hR
 case h=>exact⟨rfl,rfl,_,_,m9 hm hn (by simpa using hs),h⟩
theorem ai7(l b:A9)(c1 c2:A4)(d1 d2:AL A9)(LF TS:BV (AL A4))(Ca OM:BV A4)(n n2:O)(ms ns:I AX)(hm:PY Ca.toList ms)(hn:PY OM.toList ns)(hs:Ca.size=OM.size):Ux (E8.«tuple.__gt__» ⟨[.ref l,.ref b],[]⟩) (λA AV s=>s.heap.get? l=G ⟨c1,d1,.seq Ca n,LF⟩/\s.heap.get? b=G ⟨c2,d2,.seq OM n2,TS⟩/\(∀(prog:HY)(w:F4)(A':CK)(A2:AK->AR->Prop)(E:A4->AR->Prop),A2 M s->AG (AQ prog w) A' (Uq (.ref b) (.type "tuple")) A2 E s)/\AV (.ok (.ret (.bool (J5 ns ms)))) s):=.of_wp λprog w A AV s h=>by
 obtain⟨FG,g,d,tk,os⟩:=s;refine M2 h ?_;(try clear h);intro hl hb hi h;wp_walk using hi _ _ _ _ _,YJ hl,YJ hb,gU _ (λC4 b s'=>b.1=L/\s'=⟨FG,g,d,tk,os⟩/\∃LG Fk,PI C4 LG Fk/\AV (.ok (.ret (.bool (J5 Fk LG)))) ⟨FG,g,d,tk,os⟩) _;case turn=>
  rintro⟨y,x⟩C4 b s'⟨GV,rfl,LG,Fk,hp,hR⟩;refine i7 hp ?_;clear hp;intro a t c u m n q1 q2 q3 hp;injection q1 with q1 q4;subst q1;subst q4;subst q2;subst q3;rw[mA]at hR;refine A5 ((tI a c t u).at A.in1 _ prog w _ _ ?_);by_cases ON:a=c
  . subst ON;simp only[fa,Jj]at hR ⊢;wp_walk;exact⟨rfl,rfl,_,_,hp,hR⟩
  . have Ht:(a==c)=A6:=by simpa using ON
    rw[CN (λz=>ON z.symm)]at hR;rw[Ht];refine A5 (Ge (A5 ?_));show AG (AQ prog w) A.in1 (DZ .Gt (.int a t) (.int c u)) _ _ _;refine bp1 ?_;wp_walk;exact⟨_,rfl,hR⟩
 case fin=>
  rintro⟨b1,b2⟩s'⟨GV,rfl,LG,Fk,hp,hR⟩;have GV:b1=L:=GV;subst GV;refine xA hp ?_;clear hp;intro q1 q2;subst q1;subst q2;have hR:AV (.ok (.ret (.bool A6))) ⟨FG,g,d,tk,os⟩:=hR;wp_walk;refine⟨_,rfl,?_⟩;simpa[bw2,hs]using hR
 case h=>exact⟨rfl,rfl,_,_,m9 hm hn (by simpa using hs),h⟩
end
theorem mB(hv:Ny v=M)(r:VR h C v u):∃x y z l us n,v=.tup L [.int x,.int y,.int z]/\u=.ref l/\h.get? l=G {cls:=.type "tuple",data:=.seq us n}/\PY us.toList [x,y,z]/\us.size=3:=by
 revert r;apply IJ hv B3;intro o l hv;apply GQ hv B3;intro hv;apply FQ hv B3;intro a l hv;apply FQ hv B3;intro b l hv;apply Cs hv B3;intro c hv;apply Cu hv B3;intro x hv;apply Cu hv B3;intro y hv;apply Cu hv B3;intro z _ r;refine Kl r ?_;(try clear r);intro a o us n Bo e tg EG hd vr;subst Bo;refine xA (tg.2 rfl) ?_;intro MY MZ;have ho:o={cls:=.type "tuple",data:=.seq us n}:=by obtain⟨c1,c2,c3,c4⟩:=o;simp only at EG hd MY MZ;rw[EG,hd,MY,MZ];rfl
 subst ho;refine Yc vr ?_;(try clear vr);intro _ _ h1 Bf _ _ Br C8 _ _ Ck D8 DV;refine xE Bf ?_;(try clear Bf);intro t1 QP;subst QP;subst Br;refine xE C8 ?_;(try clear C8);intro t2 TK;subst TK;subst Ck;refine xE D8 ?_;(try clear D8);intro bR3 TL;subst TL;subst DV;refine⟨x,y,z,a,us,n,rfl,rfl,e,?_,?_⟩;. rw[h1];exact .cons _ _ (.cons _ _ (.cons _ _ .nil))
 . have :=congrArg Rf h1;simpa using this
theorem mC{x y z x' y' z':AX}{c c':AL A9}:SN (.tup c [.int x,.int y,.int z]) (.tup c' [.int x',.int y',.int z'])=G (J5 [x,y,z] [x',y',z']):=rfl
section
theorem ai8(hv:Ny v=M)(Bg:Ny v'=M)(r:VR h C v u)(r':VR h C v' u')(q:SN v' v=G b)(k:∀c o,h.get? c=G o->C1 o=M->s.heap.get? c=G o)(hu:A.units<ID)(hq:A2 (.bool b) s):AG (AQ prog w) A (tb .Gt u u') A2 E s:=by
 refine i9 (mB hv r) ?_;intro x y z l us n E_ FC e i1 s1;subst E_;subst FC;refine i9 (mB Bg r') ?_;intro x' y' z' l' Dv n' GB H9 e' i2 s2;subst GB;subst H9;rw[mC]at q;injection q with q;subst q;have e:=k _ _ e rfl;have e':=k _ _ e' rfl;refine richCompare_meets_room (op:=.Gt) ⟨_,e,rfl⟩ ⟨_,e',rfl⟩ PySem.F.slot_tuple_gt PySem.F.entry_tuple_gt (PySem.F.args_tuple_gt_2 _ _) (ai7 l l' _ _ _ _ _ _ us Dv n n' _ _ i1 i2 (s1.trans s2.symm)) ⟨e,e',?_,?_⟩ hu
 . intro prog w A' A2 E hq;exact Ls (T:="tuple") ⟨_,e',rfl⟩ AutoSeq1.sub_tuple_tuple hq
 . show NQ _≠Value.notImplemented/\A2 _ s;exact⟨(λx=>nomatch x),hq⟩
theorem ai9{A8:A9}{us:BV A4}(hh:A.handled=L)(hu:A.units+10<ID)(hp:Af.PlainList a us)(hI:Af.get? AD=L)(hS:Af.get? A8=L)(LH:AD≠A8){AV:Dq->AR->Prop}(C4:I V):∀(i:O)(x m:V)(vb:A4)(s:AR)(c:O),Ny x=M->C4.all Ny=M->ZU x C4=G m->Aa Af C C4 (us.toList.drop i)->VR Af C x vb->(∀b o,Af.get? b=G o->s.heap.get? b=G o)->s.heap.IsListIter AD a i->s.heap.get? A8=G {cls:=.type "list",data:=.seq #[vb,vb] c}->(∀u Q tk,VR Af C m u->(∀b o,Af.get? b=G o->Q.get? b=G o)->AV (.ok (.ret u)) {s with heap:=Q,toks:=tk})->D6 (AQ prog w) A (.builtin "max.loop" ⟨[.ref AD,.none,.ref A8],[]⟩) AV s:=by induction C4 with
 |nil=>
  intro i x m vb s c hx hr hm vr rx kp By TU hR;injection hm with hm;subst hm;have bO:(toString "max"++toString ".loop":DJ)="max.loop":=by decide
  refine Iv tc ?_;skip;show AG _ A.in1 (NW (.ref A8)>>=_) _ _ s;refine A5 (NX TU rfl ?_);show AG _ A.in1 (tryCatch (EP (.ref AD)) _>>=_) _ _ s;have aj0:us[i]?=L:=by
   have :us.toList.drop i=[]:=vr;have h1:=congrArg Rf this;simp at h1;rw[Array.getElem?_eq_none_iff];(with_reducible exact bw3 (by assumption))
  have FG:s.heap.PlainList a us:=let⟨n,e⟩:=hp;⟨n,kp _ _ e⟩;refine A5 (PS (bm1 (by simp[hh]) By FG.isList aj0 λQ Dd=>?_));have FZ:=Dd A8 _ (CV LH) TU;skip;refine A5 ?_;refine NY FZ rfl (A5 (PX (AW ?_)));have ne:∀{b:A9}{o:Bl},Af.get? b=G o->b≠AD/\b≠A8:=λe=>⟨λz=>by(rw[z,hI]at e;exact(BB e).elim),λz=>by(rw[z,hS]at e;exact(BB e).elim)⟩;exact hR vb _ _ rx λb o e=>(GO _ _ (CV (ne e).2)).trans (Dd b o (ne e).1 (kp b o e))|cons y C4 ih=>
  intro i x m vb s c hx hr hm vr rx kp By TU hR;have bO:(toString "max"++toString ".loop":DJ)="max.loop":=by decide
  simp only[sa,D2]at hr;have ne:∀{b:A9}{o:Bl},Af.get? b=G o->b≠AD/\b≠A8:=λe=>⟨λz=>by(rw[z,hI]at e;exact(BB e).elim),λz=>by(rw[z,hS]at e;exact(BB e).elim)⟩;refine Bu vr ?_;(try clear vr);intro v vs hd ry QY;have hi:us[i]?=G v:=by
   have :(us.toList.drop i)[0]?=G v:=by rw[hd];rfl
   rw[td]at this;simpa using this
  have GS:us.toList.drop (i+1)=vs:=by rw[<-bn5,hd];rfl
  refine Iv tc ?_;skip;show AG _ A.in1 (NW (.ref A8)>>=_) _ _ s;refine A5 (NX TU rfl ?_);show AG _ A.in1 (tryCatch (EP (.ref AD)) _>>=_) _ _ s;have FG:s.heap.PlainList a us:=let⟨n,e⟩:=hp;⟨n,kp _ _ e⟩;refine A5 (PS (se By FG.isList hi λQ QZ Dd=>?_));have FZ:=Dd.extBut A8 _ (CV LH) TU;have TV:∀b o,Af.get? b=G o->Q.get? b=G o:=λb o e=>Dd.extBut b o (ne e).1 (kp b o e);show AG _ A.in1 (tryCatch (HZ [v,v] (tb .Gt v vb>>=_)) _>>=_) _ _ _;apply BH hm;intro bR4 hb hm;refine A5 (PS (C' (A5 (ai8 hr.1 hx ry rx hb (λc o e _=>TV c o e) (by show A.units+1<ID;(with_reducible exact Mine.vX (by assumption))) ?_))));refine A5 (C' (NM ?_));refine A5 (PX (AW ?_));cases bR4 with
 |true=>
   simp only[Jj];refine A5 ?_;refine NY FZ rfl (A5 (PX ?_));skip;refine AW ⟨plainId_quiet gV _,ih (i+1) y m v _ _ hr.1 hr.2 hm (by rw[GS];exact QY) ry (λb o e=>(GO _ _ (CV (ne e).2)).trans (TV b o e)) ?_ (FP _ FZ rfl) λu WZ tk ru OO=>hR u WZ tk ru OO⟩;refine AC QZ ?_;(try clear QZ);intro o e r;exact⟨o,(GO _ _ (CV LH)).trans e,r⟩|false=>
   simp only[Jh,Ji];refine A5 (PX ?_);skip;exact AW ⟨plainId_quiet gV _,ih (i+1) x m vb _ _ hx hr.2 hm (by rw[GS];exact QY) rx TV QZ FZ λu WZ tk ru OO=>hR u WZ tk ru OO⟩
end
section
theorem aj1{r:V}(g:Gd B F K A H C s)(ru:VR s.heap C v u)(h:jY v H=.ok (.v r) A7):Ae B F K A A7 C s (CD (.builtin "max") [u]) (RV r):=by
 intro A2 E kk;revert ru;apply A1.MJ h;clear h;intro i U hi h ru;cases U with
 |nil=>exact(Ac h).elim|cons x C4=>
 refine A1.Bb h ?_;clear h;intro hc h;simp only[D2]at hc;refine xA (ML h) ?_;intro hm Kw;subst Kw;refine Bu (g.listAt ru hi) ?_;intro a us Ky p vr;subst Ky;refine Bu vr ?_;(try clear vr);intro v vs hd rx QY;have bO:(toString "max"++toString ".loop":DJ)="max.loop":=by decide
 have W_:=g.units;refine bv7 PySem.F.kind_max PySem.F.plain_max PySem.F.entry_max (PySem.F.args_max1 _) ?_;show AG _ A.in1 (bw4 "max" ["key","default"] 0 ⟨[],[]⟩>>=_) _ _ s;refine A5 (NP (show bw4 "max" ["key","default"] 0 ⟨[],[]⟩=pure [L,L]from rfl) ?_);refine A5 (AW ?_);refine A5 (fU p.isList ?_);refine A5 (IA ?_);rw[bO];have hI:s.heap.get? s.heap.objs.size=L:=GD s.heap;generalize hH:s.heap.push {cls:=.type "list_iterator",data:=.fields #[.ref a,.int 0 0]}=BD;have kH:∀b o,s.heap.get? b=G o->BD.get? b=G o:=λb o e=>by rw[<-hH];exact C0 _ e
 have mD:BD.objs.size=s.heap.objs.size+1:=by rw[<-hH];exact IB ..
 have bR5:BD.get? s.heap.objs.size=G {cls:=.type "list_iterator",data:=.fields #[.ref a,.int 0 0]}:=by rw[<-hH];exact CW _ rfl
 have hS:s.heap.get? BD.objs.size=L:=K8 (by rw[mD];exact PF _);have LH:s.heap.objs.size≠BD.objs.size:=by rw[mD];exact EO (PG _)
 dsimp only;generalize hG:BD.push {cls:=.type "list",dict:=L,data:=.seq ([]:I A4).toArray}=Bj;have gS:Bj.get? BD.objs.size=G {cls:=.type "list",dict:=L,data:=.seq #[]}:=by rw[<-hG];exact CW _ rfl
 have kG:∀b o,BD.get? b=G o->Bj.get? b=G o:=λb o e=>by rw[<-hG];exact C0 _ e
 have ne:∀{b:A9}{o:Bl},s.heap.get? b=G o->b≠s.heap.objs.size/\b≠BD.objs.size:=λe=>⟨λz=>by(rw[z,hI]at e;exact(BB e).elim),λz=>by(rw[z,hS]at e;exact(BB e).elim)⟩;refine AW ⟨plainId_quiet gV _,Iv tc ?_⟩;skip;show AG _ A.in1 (NW (.ref BD.objs.size)>>=_) _ _ _;refine A5 (NX gS rfl ?_);show AG _ A.in1 (tryCatch (EP (.ref s.heap.objs.size)) _>>=_) _ _ _;have By:Bj.IsListIter s.heap.objs.size a 0:=⟨_,kG _ _ bR5,rfl,rfl⟩;have bR6:Bj.PlainList a us:=let⟨n,e⟩:=p;⟨n,kG _ _ (kH _ _ e)⟩;have h0:us[0]?=G v:=by
   have :us.toList[0]?=G v:=by rw[hd];rfl
   simpa using this
 refine A5 (PS (se By bR6.isList h0 λQ QZ Dd=>?_));have FZ:=Dd.extBut BD.objs.size _ (CV LH) gS;show AG _ A.in1 (Rk BD.objs.size (λ_=>#[v,v])>>=_) _ _ _;refine A5 ?_;refine NY FZ rfl ?_;skip;refine AW ⟨plainId_quiet gV _,ai9 (C:=C) (Af:=s.heap) g.handled (by unfold ID;(with_reducible exact Mine.yU (by assumption) (by decide))) p hI hS LH C4 1 x r v _ _ hc.1.1 hc.1.2 hm ?_ rx (λb o e=>(GO _ _ (CV (ne e).2)).trans (Dd.extBut b o (ne e).1 (kG _ _ (kH _ _ e)))) ?_ (FP _ FZ rfl) λu WZ tk ru OO=>?_⟩
 . have :us.toList.drop 1=vs:=by rw[hd];rfl
   rw[this];exact QY
 . refine AC QZ ?_;(try clear QZ);intro o e r;exact⟨o,(GO _ _ (CV LH)).trans e,r⟩
 . exact kk u C _ (g.ext OO) (Nx.ext OO) (ru.Bv λb o e _=>OO b o e)
end
section
set_option tactic.hygienic true in
theorem bP{k:Y}{v:A4}(h:(strKind prog w).is k v=M):∃t,v=.str k t:=by
 cases v<;>first|(simp[strKind,YB]at h;done)|skip
 rename_i y t;have :y=k:=by simpa[strKind,YB]using h
 exact⟨t,by rw[this]⟩
noncomputable def FI(B:Bs)(h:BJ)(C:I A9):I (V×V)->I Fx->Prop
 |[],l=>l=[]|p::ps,l=>∃x ku vu r,l=⟨(strKind B.prog B.w).hash x,ku,vu⟩::r/\p.1=GR x/\(strKind B.prog B.w).is x ku=M/\VR h C p.2 vu/\FI B h C ps r
theorem FI.cons{r:I Fx}(b:(strKind B.prog B.w).is x ku=M)(c:VR h C v vu)(d:FI B h C ps r):FI B h C ((GR x,v)::ps) (⟨(strKind B.prog B.w).hash x,ku,vu⟩::r):=⟨x,ku,vu,r,rfl,rfl,b,c,d⟩
theorem FI.ind{P:I (V×V)->I Fx->Prop}(n:P [] [])(c:∀x ku vu v ps r,(strKind B.prog B.w).is x ku=M->VR h C v vu->FI B h C ps r->P ps r->P ((GR x,v)::ps) (⟨(strKind B.prog B.w).hash x,ku,vu⟩::r)):∀{l:I Fx},FI B h C ps l->P ps l:=by induction ps with
 |nil=>intro l e;cases e;exact n|cons p ps ih=>
 intro l e;refine VD e ?_;clear e;intro x ku vu r q e1 a b d;subst q;rw[show p=(GR x,p.2)from NI e1 rfl];exact c x ku vu p.2 ps r a b d (ih d)
theorem aj2{Ay:I (Y×A4)}{l:I Fx}(d:DR GR h C N Ay):Pairs (strKind B.prog B.w) l Ay->(∀e∈l,∃k,(strKind B.prog B.w).is k e.key=M/\e.hash=(strKind B.prog B.w).hash k)->FI B h C N l:=by
 revert l;refine DR.ind (P:=λN Ay=>∀{l},Pairs (strKind B.prog B.w) l Ay->(∀e∈l,∃k,(strKind B.prog B.w).is k e.key=M/\e.hash=(strKind B.prog B.w).hash k)->FI B h C N l) (λp _=>by cases p;rfl) (λk v u N r rv _ ih l p hk=>?_) d;cases p with|@cons en _ l' _ h1 h2 h3=>
 refine AC (hk en Co) ?_;intro k' q1 q2;obtain⟨bR7,ek,ev⟩:=en;have :k'=k:=(strKind B.prog B.w).inj ek k' k q1 h1;subst this;have q2:bR7=_:=q2;have h2:ev=u:=h2;rw[q2,h2];exact .cons h1 rv (ih h3 λe m=>hk e (Cp _ m))
theorem bQ(h:Sd N=M){hp:BJ}(r:Dm B.prog B.w hp C a N):∃Ay,hp.DictAt (strKind B.prog B.w) a Ay Ay.length/\DR GR hp C N Ay:=by
 refine r.elim id λr=>AC r λAy hm dr=>?_;cases N with
 |nil=>exact⟨[],aY (B:=B) (by rw[show Ay=[]from dr]at hm;exact hm),rfl⟩|cons p N=>
 refine Gi dr λk u r _ e1 _=>?_;have h1:=Bp.mp h p Co;rw[e1]at h1;exact(E3 h1).elim
theorem FI.drop{l:I Fx}(k:O)(r:FI B h C ps l):FI B h C (ps.drop k) (l.drop k):=FI.ind (P:=λps l=>∀k,FI B h C (ps.drop k) (l.drop k)) (λk=>by cases k<;>rfl) (λ_ _ _ _ _ _ b c d ih k=>by cases k with|zero=>exact .cons b c d|succ k=>exact ih k) r k
theorem FI.aj3{l:I Fx}(r:FI B h C ps l):∀e∈l,∃x t,e.key=.str x t:=FI.ind (P:=λ_ l=>∀e∈l,∃x t,e.key=.str x t) (λ_ m=>nomatch m) (λx _ _ _ _ _ b _ _ ih q m=>(Ci.mp m).elim (λe=>xE (bP b) λt z=>⟨x,t,e▸z⟩) (ih q)) r
theorem FI.length{l:I Fx}(r:FI B h C ps l):ps.length=l.length:=FI.ind (P:=λps l=>ps.length=l.length) rfl (λ_ _ _ _ _ _ _ _ _ ih=>congrArg (·+1) ih) r
set_option tactic.hygienic true in
theorem mE{Am IV:I (V×V)}{w:A4}(g:Gd B F K A H C s)(hd:AJ H.h i=G (.dict Am))(ha:C[i]?=G a)(hj:AJ H.h j=G (.dict N))(L8:VR s.heap C (.ref j) w)(Q_:i≠j)(hf:Vh N Am=G IV):Ae B F K A (H.set i (.dict IV)) C s (mergeMapping a w A6) RU:=by
 intro A2 E kk;unfold Vh at hf;split at hf;case h_2=>exact(BB hf).elim
 rename_i TW;simp only[D2]at TW;refine AC L8 ?_;(try clear L8);intro b hb Av;subst Av;have r:=g.obj hj hb;refine AC (bQ TW.1 r) ?_;intro Ay B5 dr;refine M3 B5 ?_;(try clear B5);intro o l ho hc OP aj4 aj5 _;have er:FI B s.heap C N l.toList:=aj2 dr aj5 λe m=>aj4 e (by simpa using m);have GY:a≠b:=λz=>by
   clear ho r;subst z;exact Q_ ((RK (HH.mp ha).1 g.nodup).mp (ha.trans hb.symm))
 have hT:s.TypeIs (.ref b) "dict":=⟨o,ho,hc.1⟩;have ra:=g.obj hd ha;refine AC (bQ TW.2 ra) ?_;intro kva bR dra;have Wa:∃oa la mF,s.heap.get? a=G oa/\oa.data=.dict la mF:=by refine HO bR ?_;(try clear bR);intro o' BM e hc hd _;exact⟨o',BM,_,e,hd⟩
 refine Hh Wa ?_;(try clear Wa);intro oa la mF Wa QL;have Cf:=er.length;unfold mergeMapping;refine A5 (Ls hT isSubtype_dict_dict ?_);skip;refine A5 (Y7 hT PySem.F.slot_dict_iter.lookup (A5 (AW ?_)));simp only[fa];rw[g.QJ (Es hb)];skip;have mG:∀(AV:PUnit->AR->Prop)(E:A4->AR->Prop)(f:O->PUnit->Dx (sh PUnit)),(∀i u,f i u=(do
 let G e:=(<-dictEntries b)[i]?|unsupported "dict.changed-during-merge"
 HZ [e.key,e.val] (tU a e.hash e.key e.val)if(<-dictEpoch b)!=Ay.length then RN "dict.changed-during-merge"
 pure (.yield ⟨⟩)))->(∀AP Fp,E2 a s.heap AP->AP.DictAt (strKind B.prog B.w) a Fp Fp.length->DR GR s.heap C IV Fp->AV ⟨⟩ {s with heap:=AP})->AG (AQ B.prog B.w) A (forIn (DQ l.size) PUnit.unit f) AV E s:=by
   intro AV E f hfe hR;refine gU _ (λC4 _ s'=>∃k AP Fp Wb,C4=(DQ l.size).drop k/\s'={s with heap:=AP}/\E2 a s.heap AP/\AP.DictAt (strKind B.prog B.w) a Fp Fp.length/\DR GR s.heap C Wb Fp/\Ks (N.drop k) Wb=G IV) _ ?turn ?fin _ _ ?h;case h=>exact⟨0,s.heap,kva,Am,rfl,rfl,fg _ _,bR,dra,hf⟩
   case fin=>
    rintro⟨⟩s'⟨k,AP,Fp,Wb,hr,rfl,hs,hm,d1,FH⟩;have :(DQ l.size).length<=k:=by
     rcases bw5 k (DQ l.size).length with h|h;. have :=congrArg Rf hr;simp at this h;omega
     . exact h
    simp at this Cf;rw[bw6 (by(with_reducible exact Mine.yT (by assumption) (by assumption)))]at FH;injection FH with FH;clear hf kk;subst FH;exact hR AP Fp hs hm d1
   case turn=>
    rintro x C4⟨⟩s'⟨k,AP,Fp,Wb,hr,rfl,hs,hm,d1,FH⟩;have hk:k<l.size:=by
     rcases bw5 k l.size with h|h;. exact h
     . rw[bw6 (by simpa using h)]at hr;(exfalso;cases hr)
    rw[Y6 (by simpa using hk)]at hr;injection hr with mH hr2;simp only[List.getElem_range]at mH;subst mH;have bS:=er.drop x;have hkl:x<N.length:=by rw[Cf];simpa using hk
    rw[Y6 hkl]at bS FH;refine VD bS ?_;(try clear bS);intro xx ku vu r' he e1 e2 e3 _;have bU:l[x]?=G ⟨(strKind B.prog B.w).hash xx,ku,vu⟩:=by
     have :(l.toList.drop x)[0]?=G ⟨(strKind B.prog B.w).hash xx,ku,vu⟩:=by rw[he];rfl
     skip;simpa using this
    have OQ:AP.get? b=G o:=(hs.2 b (CV GY)).trans ho;unfold Ks at FH;split at FH;case h_2=>exact(BB FH).elim
    rename_i mI;simp only[D2]at mI;have hl:=Eb mI.2;rw[hfe];refine A5 (YK (s:={s with heap:=AP}) OQ OP ?_);rw[bU];dsimp only;refine A5 (C' (ae4 (Bx:=strKind B.prog B.w) (k:=xx) (s:={s with heap:=AP}) e2 hm (λQ HB Dd=>?_) (by have :=d1.length;exact B2 (show _<=100000 by(with_reducible exact Mine.yT (by assumption) (by assumption))) (by decide))));have aj6:Q.get? b=G o:=(Dd.2 b (CV GY)).trans OQ;refine A5 (te (s:={s with heap:=Q}) aj6 OP ?_);simp only[Xx,Jh,Ji];refine AW ⟨x+1,Q,_,_,hr2,rfl,hs.trans Dd,HB,?_,FH⟩;rw[e1];exact d1.put WC (k:=xx) e3 (Ul hm)
 have C4:∀(_:Et->AR->Prop),(∀AP Fp,E2 a s.heap AP->AP.DictAt (strKind B.prog B.w) a Fp Fp.length->DR GR s.heap C IV Fp->A2 () {s with heap:=AP}):=λAV AP Fp hs hm d1=>by
   refine xA (g.set (Q:=AP) (tk:=s.toks) (o':=.dict IV) ha hd (λ_ _ e=>by(exfalso;cases e)) hs.extBut (DictAt.live hm) λim=>.inl ⟨_,hm,Sp (p:=λJ=>DR GR AP J _ _) (d1.mono (J:=[]) im)⟩) ?_;intro g' x';exact kk () C _ g' x' trivial
 refine A5 (YK Wa QL ?_);refine PQ (λ_=>?_) (λ_=>?_)
 . refine A5 (YK ho OP ?_);rw[<-th];refine A5 (gU _ (λC4 _ s'=>s'=s/\∀e∈C4,∃x t,e.key=.str x t) _ ?turn ?fin _ _ ⟨rfl,er.aj3⟩);case turn=>
    rintro e C4⟨⟩s'⟨rfl,hk⟩;refine D9 (hk e Co) ?_;intro x t e1;rw[e1];exact AW ⟨rfl,λe m=>hk e (Cp _ m)⟩
   case fin=>
    rintro⟨⟩s'⟨rfl,_⟩;refine A5 (YK ho OP ?_);refine A5 (te ho OP ?_);refine A5 (mG _ _ _ ?_ λAP Fp hs hm d1=>AW (C4 A2 AP Fp hs hm d1));intro i u;rfl
 . refine A5 (YK ho OP ?_);refine A5 (te ho OP ?_);refine A5 (mG _ _ _ ?_ λAP Fp hs hm d1=>AW (C4 A2 AP Fp hs hm d1));intro i u;rfl
theorem JL{J:I A9}(x:Nx AM A_ h Q C J)(e:C[i]?=G a):J[i]?=G a:=by refine AC x.pre ?_;intro F9 q _;rw[q];exact FV e
theorem aj7(A8:C5 B A3 n){k v0 v:AB}{r:V}(h:Ey A3 K (ev A3 n) (.Dict [L,G k] [v0,v] pos) H=.ok (.v r) A7)(g:Gd B F K A H C s):Ae B F K A A7 C s (eval (.Dict [L,G k] [v0,v] pos) F.env) (RV r):=by
 refine A1.Ce h ?_;clear h;intro w AA AP h;revert AP;apply A1.wd h;clear h;intro wi N mJ h AP;refine A1.Bb h ?_;clear h;intro Cb h;refine A1.O4 h ?_;clear h;intro Am OR h;refine A1.Bw h ?_;clear h;intro IV hm h;refine A1.Ce h ?_;clear h;intro kv Bc BC h;refine A1.Ce h ?_;clear h;intro vv GU C3 h;refine A1.O4 h ?_;clear h;intro sub LD h;refine A1.Bb h ?_;clear h;intro hc h;simp only[D2]at hc;refine A1.O4 h ?_;clear h;intro aj8 aj9 h;refine A1.Bw h ?_;clear h;intro bH9 hm3 h;apply B4 h;clear h;have Cb:wi≠H.n:=λz=>by clear mJ AP;subst z;simp at Cb
 intro A2 E kk;skip;refine A5 (Eh ?_);show AG _ A (YI [(L,do let x<-eval v0 F.env;Kb pos;pure x),(G (eval k F.env),do let x<-eval v F.env;Kb pos;pure x)]) A2 E s;unfold YI;simp only[RT,gW,bt4,Jj,pure_bind,bind_assoc,ti,List.isEmpty_cons,ta];refine A5 (Y1 ?_);refine xA (g.newDict s.toks) ?_;intro FY Cq;have hD:(C++[s.heap.objs.size])[H.n]?=G s.heap.objs.size:=g.LC;refine A5 (C' (A5 (A8.e AP FY _ _ λu AZ AI AN Ab Ap=>A5 (Eh (AW ?_)))));have T5:=JL Ab hD;refine A5 (Xt (PS (Xt (C' (mE AN OR T5 mJ Ap (λz=>Cb z.symm) hm _ _ λ_ As Ah AT Al _=>?_)))));have MW:=JL Al T5;skip;refine A5 (AW ?_);refine A5 (AW ?_);refine A5 (A5 (C' ?_));unfold subDict;refine xA (AT.newDict Ah.toks) ?_;intro Ao B7;have TX:(AA.set H.n (.dict IV)).n=AA.n:=rfl;have hS:(As++[Ah.heap.objs.size])[AA.n]?=G Ah.heap.objs.size:=AT.LC;refine A5 (Y1 (A5 (C' ?_)));dsimp only;skip;simp only[tS];refine A5 (A5 (A8.e BC Ao _ _ λku IU ED C9 Cy JI=>A5 (C' (A5 (A8.e C3 C9 _ _ λvu QK Ec Cn EH IY=>A5 (Eh (AW ?_)))))));have mK:=JL EH (JL Cy hS);have mL:=JL EH (JL Cy (JL B7 MW));refine A5 (C' (AW (AW ?_)));refine C' ?_;simp only[RT,gW];refine A5 (A5 (A5 (lx Cn LD mK (JI.nx EH) IY hc.1 hc.2 _ _ λ_ W7 T3 GX GF _=>AW (AW (AW (AW ?_))))));have CE:H.n<AA.n:=by
  have h1:(C++[s.heap.objs.size]).length<=AZ.length:=by refine AC Ab.pre ?_;intro J e _;rw[e];simp
  have h2:=AN.len;have h3:=g.len;simp at h1;omega
 have hb:AJ (GU.set AA.n (.dict (Ej sub kv vv))).h H.n=G (.dict aj8):=by
  show AJ (putN GU.h AA.n _) H.n=_;rw[MF (EO CE)];exact aj9
 have hs2:AJ (GU.set AA.n (.dict (Ej sub kv vv))).h AA.n=G (.dict (Ej sub kv vv)):=ME LD;refine A5 (Xt (C' (mE GX hb (JL GF mL) hs2 ⟨_,JL GF mK,rfl⟩ (EO CE) hm3 _ _ λ_ bV bW TY Qa _=>?_)));refine AW (AW ?_);exact kk _ _ _ TY (Cq.trans (Ab.trans (Al.trans (B7.trans (Cy.trans (EH.trans (GF.trans Qa))))))) ⟨_,JL Qa (JL GF mL),rfl⟩
end
open PyProof.Rows(StrsAre sortedS risingS)
theorem bX(x:Tx):∀l:I Tx,(Q4 x l).Perm (x::l)
 |[]=>.rfl|y::l=>by
  unfold Q4;cases EX x y with
 |true=>exact .rfl|false=>exact((bX x l).cons y).trans (.swap x y l)
theorem Wc:∀l:I Tx,(EY l).Perm l
 |[]=>.rfl|x::l=>(bX x _).trans ((Wc l).cons x)
theorem ak0{x:Tx}(h:EX y x=A6):x<=y:=bw7.mp λz=>by rw[TA.mpr z]at h;(exfalso;cases h)
theorem mM(x:Tx):∀{l:I Tx},l.Pairwise (·<=·)->(Q4 x l).Pairwise (·<=·)
 |[],_=>gX _ _|y::l,h=>by
  refine xA (Um.mp h) ?_;intro h1 h2;unfold Q4;cases q:EX x y with
 |true=>
   have xy:x<=y:=List.le_of_lt (TA.mp q);refine Um.mpr ⟨λz hz=>?_,h⟩;rcases Ci.mp hz with rfl|hz;. exact xy
   . exact bw8 xy (h1 z hz)|false=>
   have bR8:y<=x:=ak0 q;refine Um.mpr ⟨λz hz=>?_,mM x h2⟩;rcases Ci.mp ((bX x l).mem_iff.mp hz)with rfl|hz;. exact bR8
   . exact h1 z hz
theorem Wd:∀l:I Tx,(EY l).Pairwise (·<=·)
 |[]=>.nil|x::l=>mM x (Wd l)
noncomputable def tx(x:Y):Tx:=x.cps.toList
theorem mN:∀(p:Y)(l:I Y),risingS p l=M->((p::l).map tx).Pairwise (·<=·)
 |p,[],_=>gX _ _|p,x::r,h=>by
  simp only[risingS,D2,RL]at h;have ih:=mN x r h.2;have px:tx p<=tx x:=bw7.mp λz=>by have :=h.1;rw[bN4,gA]at this;exact this z
  skip;refine xA (Um.mp ih) ?_;intro h1 h2;refine Um.mpr ⟨λz hz=>?_,ih⟩;rcases Ci.mp hz with rfl|hz;. exact px
  . exact bw8 px (h1 z hz)
theorem ak1{l:I Y}(h:sortedS l=M):(l.map tx).Pairwise (·<=·):=by cases l with
 |nil=>exact .nil|cons x r=>exact mN x r h
theorem mO{OS:I Y}(hs:sortedS OS=M)(hp:(OS.map tx).Perm l):OS.map tx=EY l:=bw9 (le:=(·<=·)) (λa b _ _ h1 h2=>bx0 h1 h2) (ak1 hs) (Wd l) (hp.trans (Wc l).symm)
theorem bY:∀{vs:I A4}{ss:I Y},Ly vs ss->∀{h:BJ}{C:I A9},Aa h C ((ss.map tx).map .str) vs
 |_,_,.nil,_,_=>rfl|_,_,.cons y t r,_,_=>⟨_,_,rfl,⟨t,rfl⟩,bY r⟩
theorem mP:∀{us:I A4},Aa h C (l.map .str) us->Ly us (l.map λx=>⟨⟨x⟩⟩):=by induction l with
 |nil=>exactλe=>e▸.nil|cons x l ih=>intro us r;refine Aa.Si (vs:=l.map .str) r (P:=λus=>Ly us ((x::l).map λx=>⟨⟨x⟩⟩)) ?_;intro u us a b;refine xE a ?_;intro t a;subst a;exact .cons _ t (ih b)
section
theorem mQ{x:A4}(hl:l.length<60)(hc:∀(AV:I A4->AR->Prop)(E:A4->AR->Prop),(∀vs ss Q tk,Ly vs ss->(ss.map tx).Perm l->(∀b o,s.heap.get? b=G o->Q.get? b=G o)->AV vs {s with heap:=Q,toks:=tk})->AG (AQ prog w) A.in1 (Y0 x) AV E s)(hQ:∀(D:A9)(us:BV A4)(Q:BJ)(tk e:O),s.heap.get? D=L->Q.get? D=G {cls:=.type "list",data:=.seq us e}->(∀b o,s.heap.get? b=G o->Q.get? b=G o)->(∀h C,Aa h C ((EY l).map .str) us.toList)->A2 (.ref D) {s with heap:=Q,toks:=tk}):AG (AQ prog w) A (call (.builtin "sorted") [x]) A2 E s:=by
 refine bx1 bx2 bx3 bx4 (bx5 _) ?_;skip;refine A5 (m:=checkCount "sorted" 1 1 _) (AW ?_);refine A5 (hc _ _ λvs ss Q tk hS hp kp=>?_);have Cf:vs.length=l.length:=by
   have h1:=hp.length_eq;have h2:vs.length=ss.length:=by clear hp h1;induction hS with|nil=>rfl|cons _ _ _ ih=>simp[ih]
   simp at h1;(with_reducible exact tj (by assumption) (by assumption))
 have hn:s.heap.get? Q.objs.size=L:=by cases e:s.heap.get? Q.objs.size with
 |none=>rfl|some o=>exact absurd (Df (kp _ _ e)) (Iq _)
 refine A5 (tl ?_ (by rw[Cf];exact B2 (show l.length<=60 by(with_reducible exact Gb (by assumption))) (by decide)));have K9:(Q.push {cls:=.type "list",data:=.seq vs.toArray}).get? Q.objs.size=G (tm "list" vs.toArray 0):=CW _ rfl;refine A5 (C' (Gf to ⟨_,K9,rfl⟩ tp (bx6 bx7 K9 hS.keysOf (λHp ak2 C4 e=>bx8 (by rw[<-e];exact hS)) (by(with_reducible exact Mine.vf (by assumption) (by assumption))) λbZ a1 a2=>⟨_,rfl,?_⟩) (tq _)));refine CX (bx9 hS a1 a2) ?_;intro OS h1 h2 h3;have key:OS.map tx=EY l:=mO h3 ((h2.map tx).trans hp);refine xE (tu (vs:=vs) (out:=(by0 bZ).map (·.2)) K9) ?_;intro e he;refine AW ⟨_,rfl,hQ Q.objs.size _ _ tk e hn he (λb o q=>?_) λh C=>?_⟩
 . have lt:=Df (kp _ _ q);rw[tv (EO lt) (by rw[IB];exact f1 lt)];exact C0 _ (kp _ _ q)
 . rw[<-key];exact bY h1
end
section
theorem Gd.newList(g:Gd B F K A H C s){us:BV A4}{e:O}(hn:s.heap.get? D=L)(hd:Q.get? D=G {cls:=.type "list",data:=.seq us e})(kp:∀b o,s.heap.get? b=G o->Q.get? b=G o)(hv:∀h C,Aa h C U us.toList):Gd B F K A (H.new (.list U)).2 (C++[D]) {s with heap:=Q,toks:=tk}/\Nx F.D [] s.heap Q C (C++[D]):=⟨g.new kp hn ⟨_,hd⟩ (o:=.list U) ⟨us,⟨e,hd⟩,hv _ _⟩,Nx.add [_] kp λb hb=>by rw[CH.mp hb];exact hn⟩
theorem mR{r:V}(g:Gd B F K A H C s)(hi:AJ H.h i=G (.list U))(ru:VR s.heap C (.ref i) u)(h:Nw U H=.ok (.v r) A7):Ae B F K A A7 C s (CD (.builtin "sorted") [u]) (RV r):=by
 refine A1.Bw h ?_;clear h;intro l hl h;refine A1.Bb h ?_;clear h;intro hc h;(first|(revert k;(first|apply BW h|apply B4 h|apply BX h|apply BY h|apply BZ h);intro k)|apply BW h|apply B4 h|apply BX h|apply BY h|apply BZ h);have CE:l.length<60:=Di hc;intro A2 E kk;refine Bu (g.listAt ru hi) ?_;intro a us B5 p vr;clear ru;subst B5;rw[OI hl]at vr;refine mQ CE (λAV E k=>?_) λD Dv Q tk e hn hd kp hv=>?_
 . have IX:s.heap.IsList a us.toList.toArray:=by simpa using p.isList
   have Cf:us.toList.length=l.length:=by rw[<-vr.length];simp
   refine bN5 IX ?_ (by rw[Cf];exact B2 (show l.length<=60 by(with_reducible exact Gb (by assumption))) (by decide));have kp:∀b o,s.heap.get? b=G o->((s.heap.push (tm "list" #[] 0)).update s.heap.objs.size (GN (·++us.toList.toArray))).get? b=G o:=λb o e=>(GO _ _ (λz=>by rw[<-z]at e;exact absurd (Df e) (Iq _))).trans (C0 _ e);exact k _ _ _ s.toks (mP vr) (by rw[Jn];have :(tx ∘λx=>(⟨⟨x⟩⟩:Y))=id:=rfl;rw[this,by1]) kp
 . refine xA (g.newList (tk:=tk) hn hd kp hv) ?_;intro g' x';exact kk _ _ _ g' x' ⟨_,g.LC,rfl⟩
theorem DR.ak3{Ay:I (Y×A4)}(d:DR GR h C N Ay):N.map (·.1)=(Ay.map λp=>tx p.1).map .str:=DR.ind (P:=λN Ay=>N.map (·.1)=(Ay.map λp=>tx p.1).map .str) rfl (λk _ _ _ _ _ _ ih=>congrArg (GR k::·) ih) d
theorem ak4:∀(Ay:I (Y×A4))(Am:I A4),Am.length=Ay.length->(∀(j:O)(v:A4),Am[j]?=G v->∃k x,Ay[j]?=G (k,x)/\(strKind prog w).is k v=M)->Ly Am (Ay.map (·.1)):=by
 intro Ay;induction Ay with
 |nil=>
  intro Am hl _;have :Am=[]:=by simpa using hl
  clear hl;subst this;exact .nil|cons p Ay ih=>
  intro Am hl h;cases Am with
 |nil=>simp at hl|cons v Am=>
  refine EU (h 0 v rfl) ?_;intro k x e hk;simp only[bq3,bN6]at e;subst e;refine xE (bP hk) ?_;intro t BI;clear hk;subst BI;exact .cons k t (ih Am (by simpa using hl) λj u hu=>by have :=h (j+1) u (by simpa using hu);simpa using this)
theorem ak5(g:Gd B F K A H C s)(ha:a∈C)(r:Dm B.prog B.w s.heap C a BM)(hp:BM.Perm N)(hl:HQ (N.map (·.1))=G l)(CE:l.length<60):Ae B F K A (H.new (.list ((EY l).map .str))).2 C s (CD (.builtin "sorted") [.ref a]) (RV (.ref H.n)):=by
 intro A2 E kk;have hk:=OI hl;have TW:Sd BM=M:=by
   rw[Sd,Bp];intro p hm;have :p.1∈N.map (·.1):=Dz.mpr ⟨p,hp.mem_iff.mp hm,rfl⟩;rw[hk]at this;refine AC (Dz.mp this) ?_;intro x _ e;rw[<-e]
 refine AC (bQ TW r) ?_;intro Ay hm dr;have FX:(Ay.map λp=>tx p.1).Perm l:=by
   have h1:=dr.ak3;have h2:(BM.map (·.1)).Perm (N.map (·.1)):=hp.map _;rw[h1,hk]at h2;have :=h2.map (λv=>match v with|.str s=>s|_=>[]);simpa[Jn,Function.comp_def]using this
 have Cf:Ay.length=l.length:=by have :=FX.length_eq;simpa using this
 refine mQ CE (λAV E k=>?_) λD Dv Q tk e hn hd kp hv=>?_
 . refine kdu_collect (kdl_dict (knd:=strKind B.prog B.w) (kvs:=Ay) (ep:=Ay.length) (g.QJ ha)) (by simp[g.handled]) hm (by rw[Cf];exact B2 (show l.length<=60 by(with_reducible exact Gb (by assumption))) (by decide)) λQ tk Am kp OR=>?_;refine k _ (Ay.map (·.1)) _ tk (ak4 (prog:=B.prog) (w:=B.w) _ _ (by rw[V'];exact OR.1) λj v e=>OR.2 j v (by rw[<-Rl];exact e)) ?_ kp;rw[Jn];exact FX
 . refine xA (g.newList (tk:=tk) hn hd kp hv) ?_;intro g' x';exact kk _ _ _ g' x' ⟨_,g.LC,rfl⟩
theorem ak6{r:V}(g:Gd B F K A H C s)(ru:VR s.heap C (.ref i) u)(h:jZ i H=.ok (.v r) A7):Ae B F K A A7 C s (CD (.builtin "sorted") [u]) (RV r):=by
 refine A1.Bw h λo hi h=>?_;have Ex:∀{N BM:I (V×V)}{a:A9},C[i]?=G a->u=.ref a->Dm B.prog B.w s.heap C a BM->BM.Perm N\/BM=N->Nw (N.map (·.1)) H=.ok (.v r) A7->Ae B F K A A7 C s (CD (.builtin "sorted") [u]) (RV r):=λ{N BM a}ha hu dr hp h=>by
  refine A1.Bw h λl hl h=>A1.Bb h λhc h=>?_;apply B4 h;clear ru;subst hu;exact ak5 g (Es ha) dr (hp.elim (λp=>p) λe=>by rw[e]) hl (Di hc)
 revert hi;apply Jx h;. exactλU h hi=>mR g hi ru h
 intro h;apply SJ h;. exactλN h hi=>AC ru λa ha e=>Ex ha e (g.obj hi ha) (.inr rfl) h
 intro h;apply SM h Ac;exactλN h hi=>AC ru λa ha e=>AC (g.obj hi ha) λBM hu dr=>Ex ha e dr (.inl hu.1) h
end
structure We(Kf:GZ):Prop where
 mS:∀A8,Ra Kf A8 (opaqueClassAbove (.type "tuple"))=G L
 typ:∀A8,Ra Kf A8 (H_ (.type "tuple"))=G (.type "type")b_:Gg Kf (.type "type") "__getattribute__"=G (G (.builtin "type.__getattribute__"))sub:Xz Kf (.type "type") (.type "type")=G M
 new:t7 Kf (.type "tuple") (.type "type") "__new__"=G (.val (.builtin "tuple.__new__"))
structure TZ(B:Bs)(A3:Mine.Ctx):Prop where
 fn:∀a fn,A3.fn a=G fn->∃o fd,FnAt B a fn o fd
 Gm:∃o fd,B.base.get? A3.Gm=G o/\o.data=.func fd
noncomputable def mT:LK->DJ|.append=>"list.append"|.pop=>"list.pop"|.sort=>"list.sort"
theorem ak7{m:Y}{k:LK}(h:Vd m=G k):"list."++m.toString=mT k:=H'.mp (show Vc.map (λp=>"list."++p.1.toString)=Vc.map (λp=>mT p.2)by decide+kernel) _ (FD h)
noncomputable def mU:DK->DJ|.SX=>"dict.setdefault"|.get=>"dict.get"
theorem ak8{m:Y}{k:DK}(h:Vf m=G k):"dict."++m.toString=mU k:=H'.mp (show Ve.map (λp=>"dict."++p.1.toString)=Ve.map (λp=>mU p.2)by decide+kernel) _ (FD h)
section
noncomputable def MS(T p:DJ)(m:Y):Prop:=Lv T m (p++m.toString)/\H_ (.builtin (p++m.toString))=pure (.type "method_descriptor")
theorem ms{T p n id:DJ}{m:Y}(e:(m,p++m.toString)=(Er n,id))(a:Lv T n id)(b:H_ (.builtin id)=pure (.type "method_descriptor")):MS T p m:=by injection e with e1 e2;unfold MS;rw[e2];exact⟨e1▸a,b⟩
theorem ak9:∀x∈Vb,MS "str" "str." x.1:=all_cons (ms (by decide+kernel) PySem.F.slot_str_startswith PySem.F.type_str_startswith)<|all_cons (ms (by decide+kernel) PySem.F.slot_str_endswith PySem.F.type_str_endswith)<|all_cons (ms (by decide+kernel) gT PySem.F.type_str_split)<|all_cons (ms (by decide+kernel) PySem.F.slot_str_rfind PySem.F.type_str_rfind)<|all_cons (ms (by decide+kernel) PySem.F.slot_str_rstrip PySem.F.type_str_rstrip)<|all_cons (ms (by decide+kernel) PySem.F.slot_str_format_m PySem.F.type_str_format_m)<|all_cons (ms (by decide+kernel) PySem.F.slot_str_join PySem.F.type_str_join) EA
theorem al0:∀x∈Vc,MS "list" "list." x.1:=all_cons (ms (by decide+kernel) by2 by3)<|all_cons (ms (by decide+kernel) PySem.F.slot_list_pop PySem.F.type_list_pop)<|all_cons (ms (by decide+kernel) PySem.F.slot_list_sort PySem.F.type_list_sort) EA
theorem al1:∀x∈Ve,MS "dict" "dict." x.1:=all_cons (ms (by decide+kernel) bw1 PySem.F.type_dict_setdefault)<|all_cons (ms (by decide+kernel) tP PySem.F.type_dict_get) EA
theorem al2{m:Y}{k:SK}(hk:SY m=G k){A2:A4×I A4->AR->Prop}(h:A2 (.builtin ("str."++m.toString),[.str x t]) s):AG Au A (Jf (.str x t) m pl) A2 E s:=have z:=ak9 _ (FD hk);gY (PT _ _ _) PySem.F.plainAttrs_str z.1 z.2 (λ_ e=>nomatch e) h
theorem mV{us:BV A4}{m:Y}{k:LK}(hk:Vd m=G k)(hp:s.heap.PlainList a us){A2:A4×I A4->AR->Prop}(h:A2 (.builtin ("list."++m.toString),[.ref a]) s):AG Au A (Jf (.ref a) m pl) A2 E s:=have z:=al0 _ (FD hk);xE hp λ_ ho=>gY ⟨_,ho,rfl⟩ by4 z.1 z.2 (λ_ e=>⟨_,by5 e▸ho,rfl⟩) h
theorem al3{o:Bl}{m:Y}{k:DK}(hk:Vf m=G k)(ho:s.heap.get? a=G o)(hc:o.cls=.type "dict")(hn:o.dict=L){A2:A4×I A4->AR->Prop}(h:A2 (.builtin ("dict."++m.toString),[.ref a]) s):AG Au A (Jf (.ref a) m pl) A2 E s:=have z:=al1 _ (FD hk);gY ⟨_,ho,hc⟩ PySem.F.plainAttrs_dict z.1 z.2 (λ_ e=>⟨_,by5 e▸ho,hn⟩) h
theorem al4(T:We Kf)(AF:Kf.In s.heap){A2:A4×I A4->AR->Prop}(h:∀tk,A2 (.builtin "tuple.__new__",[]) {s with toks:=tk}):AG (AQ prog w) A (Jf (.type "tuple") "__new__" pl) A2 E s:=by
 unfold Jf;refine A5 ((show Gc _ _ (NV (.type "tuple") "__getattribute__") (G (.builtin "type.__getattribute__"))from(NU AF (T.typ _)).andThen (NT AF T.b_)).here ?_);dsimp only;skip;refine A5 ?_;refine cls_open (hook:=L) AF (NU AF (T.mS _)) (NU AF (T.typ _)) T.b_ (looks_hook AF (by rw[CN (by decide+kernel)])) T.sub T.new ?_;exact AW (by show AG _ _ (handedOut (.builtin "tuple.__new__")) _ _ _;rw[handedOut_of rfl];exact AW (AW (h _)))
theorem al5(r:Dm B.prog B.w h C a N):∃o,h.get? a=G o/\o.cls=.type "dict"/\o.dict=L:=by(rcases r with mW|mX;refine AC mW ?_;(try clear mW);intro Ay al6 _;obtain⟨o,BM,e,⟨hc,hn,_⟩,_⟩:=al6;rotate_left;refine AC mX ?_;(try clear mX);intro Ay al7 _;obtain⟨o,BM,e,⟨hc,hn,_⟩,_⟩:=al7;rotate_left)<;>exact⟨o,e,hc,hn⟩
theorem mY(AF:Cx B A3 Kf)(T:We Kf):kK B A3:=λ{F K A H C s v u m kd}g r h pl A2 E k=>by
 have fin:∀{b:AK}{x:MK}{P:Prop},bT b L (G x)=G kd->(b=M->x=kd->P)->P:=λh c=>Cj h AE λq h=>c q (Bk h);have sk:∀{J:Type}{o:AL J}{P:Prop},o.isSome=M->(∀x,o=G x->P)->P:=λ{J o P}h c=>by cases o with
 |none=>exact(B3 h).elim|some x=>exact c x rfl
 revert r;apply Np h
 . intro x h r;refine fin h λq e=>sk q λk' hk=>?_;subst e;refine xE r ?_;(try clear r);intro t Av;subst Av;exact al2 hk (k _ _ s g (Nx.refl ..) ⟨rfl,rfl⟩)
 intro h;apply ZP h
 . intro w h r;cases r;apply SI h AE;intro t h;refine fin h λq e=>?_;subst e;apply IF (B' q);apply Zw (Ak q);exact al4 T (g.AU AF) λtk=>k _ _ _ (g.tok tk) (Nx.refl ..) ⟨rfl,rfl⟩
 intro h;apply EF h AE;intro i h r;refine BH h λo hi h=>?_;revert hi;apply Jx h
 . intro U h hi;refine fin h λq e=>sk q λk' hk=>?_;subst e;refine Bu (g.listAt r hi) ?_;intro a us B5 p _;subst B5;exact mV hk p (k _ _ s g (Nx.refl ..) ⟨rfl,rfl⟩)
 intro h;apply jN h
 . intro n U h hi;refine fin h λq e=>sk q λk' hk=>?_;subst e;refine Bu (g.lQ r hi) ?_;intro a us BI p _;subst BI;exact mV hk p (k _ _ s g (Nx.refl ..) ⟨rfl,rfl⟩)
 intro h;apply SJ h
 . intro N h hi;refine fin h λq e=>sk q λk' hk=>?_;subst e;refine AC r ?_;(try clear r);intro a ha BO;subst BO;have ro:=g.obj hi ha;refine CX (al5 ro) ?_;intro o ho hc hn;exact al3 hk ho hc hn (k _ _ s g (Nx.refl ..) ⟨rfl,rfl⟩)
 intro h;apply jM h AE;intro c d h hi;refine Cj h AE λhc h=>BH h λo hd h=>?_;revert hd;apply ZS h AE;intro N h hd;cases hm:Ai N m with
 |some _=>rw[hm]at h;exact(AE h).elim|none=>
   rw[hm]at h;refine BH h λa ha h=>?_;injection h with h;subst h;exact(yb AF g (CC hc▸hi) hd hm ha r pl).here (k _ _ s g (Nx.refl ..) ⟨rfl,rfl⟩)
theorem CU.Az{vs:BV A4}(e:h.get? a=G {cls:=.type "builtin_function_or_method",data:=.fields vs}):CU Au h (.ref a):=⟨.machine,.inr (.inl rfl),(Kc (part:=L) e).andThen .now⟩
theorem CU.cls{oc:A4}{od:AL A9}{cd:ClassData}{sl:BV (AL A4)}(e:h.get? a=G ⟨oc,od,.cls cd,sl⟩)(c:Gc Au h (NV (.ref a) "__call__") (G (.builtin "type.__call__"))):CU Au h (.ref a):=⟨.machine,.inr (.inl rfl),(Kc (part:=L) e).andThen (c.andThen .now)⟩
open PyProof.Rows(IntsAre)in
theorem Wf(hv:JA v=M)(r:VR h C v u):∃x y z l us n o,v=.tup (G 135) [.int x,.int y,.int z]/\u=.ref l/\h.get? l=G o/\C1 o=M/\o.cls=.ref 135/\o.data=.seq us n/\PY us.toList [x,y,z]/\us.size=3:=by
 revert r;apply IJ hv B3;intro o l hv;apply Nd hv B3;intro c hv;apply FQ hv B3;intro a l hv;apply FQ hv B3;intro b l hv;apply Cs hv B3;intro d hv;apply Cu hv B3;intro x hv;apply Cu hv B3;intro y hv;apply Cu hv B3;intro z _ r;refine Kl r ?_;(try clear r);intro a o us n Bo e tg EG hd vr;subst Bo;have hc:c=135:=by simpa[Vm]using tg.1
 subst hc;refine Yc vr ?_;(try clear vr);intro _ _ h1 Bf _ _ Br C8 _ _ Ck D8 DV;refine xE Bf ?_;(try clear Bf);intro t1 al8;subst al8;subst Br;refine xE C8 ?_;(try clear C8);intro t2 al9;subst al9;subst Ck;refine xE D8 ?_;(try clear D8);intro bR3 am0;subst am0;subst DV;refine⟨x,y,z,a,us,n,o,rfl,rfl,e,by unfold C1;rw[EG,hd];rfl,EG,hd,?_,?_⟩;. rw[h1];exact .cons _ _ (.cons _ _ (.cons _ _ .nil))
 . have :=congrArg Rf h1;simpa using this
theorem am1:Rb "tuple.__len__"=G .slot:=by decide+kernel
theorem am2:fx "tuple.__len__"=G ("tuple","__len__"):=by decide+kernel
theorem am3:Y3 "tuple.__len__"=M:=by decide+kernel
theorem am4(l:A9)(c1:A4)(d1:AL A9)(LF:BV (AL A4))(Ca:BV A4)(n:O):Ux (E8.«tuple.__len__» ⟨[.ref l],[]⟩) (λ_ AV s=>s.heap.get? l=G ⟨c1,d1,.seq Ca n,LF⟩/\AV (.ok (.ret (Uu (Ca.size:AX) s.toks))) {s with heap:=s.heap,toks:=s.toks+1}):=.of_wp λprog w A AV s h=>by obtain⟨hp,g,d,tk,os⟩:=s;refine xA h ?_;(try clear h);intro hl h;wp_walk using YJ hl;exact⟨_,rfl,h⟩
theorem am5(An:HT B A3 Kf)(AU:Kf.In s.heap)(hv:JA v=M)(g:Gd B F K A H C s)(ru:VR s.heap C v u):Ae B F K A H C s (CD (.builtin "len") [u]) (RV (.int 3)):=by
 intro A2 E kk;refine VE (Wf hv ru) ?_;intro x y z l us n o E_ FC e io hc hd i1 s1;subst E_;subst FC;rw[<-An.at_]at hc;have tT:Gc (AQ B.prog B.w) s.heap (H_ (.ref l)) (.ref A3.Bn):=(Kc (part:=L) e).andThen (by rw[hc];exact .now);have sT:Gc (AQ B.prog B.w) s.heap (NV (.ref l) "__len__") (G (.builtin "tuple.__len__")):=tT.andThen (NT AU An.len);obtain⟨c1,d1,da1,LF⟩:=o;simp only at hd hc;subst hd;have WY:((3:O):AX)<2^63:=by decide
 refine call_function_entry kind_len plain_len entry_len (args_len1 _) ?_;unfold E8.«len»;refine A5 (m:=oneArg "len" _) (AW ?_);refine A5 (m:=tA (.ref l) (Er "__len__")) ?_;skip;refine A5 (sT.here ?_);skip;refine C' (A5 (AW (A5 (Fd (Q:=λr s'=>r=.int 3 s.toks/\s'={s with toks:=s.toks+1}) ?_ (λr s' q=>?_) λ_ _ e=>e))))
 . refine HL (Lq am3 PySem.F.entry_tuple_len ?_);refine Y2 (i:="tuple.__len__") (owner:="tuple") (n:="__len__") (self:=.ref l) (rest:=[]) (kw:=[]) am1 am2 (tT.andThen (Uo AU An.tup)) (PySem.F.args_tuple_len_1 _) ?_;refine am4 l c1 d1 LF us n B.prog B.w _ (YL (λv s'=>v=.int 3 s.toks/\s'={s with toks:=s.toks+1}) E) s ⟨e,?_,rfl⟩;rw[s1];rfl
 . refine xA q ?_;(try clear q);intro GB H9;subst GB;subst H9;refine AW ?_;show AG _ _ _ _ _ {s with toks:=s.toks+1};refine A5 (C' (AW ?_));refine A5 (PX ?_);show AG _ _ (if((3:O):AX)<0 then _ else _) _ _ _;rw[CN (by omega)];show AG _ _ (if((3:O):AX)>=2^63 then _ else _) _ _ _;skip;exact A5 (wpAny_mkInt (AW ⟨_,rfl,kk _ C _ (g.tok _) (Nx.refl ..) ⟨_,rfl⟩⟩))
theorem am6(An:HT B A3 Kf)(AU:Kf.In s.heap){id:DJ}(g:Gd B F K A H C s)(rs:Aa s.heap C args us)(h:Zj id args H=.ok (.v v) A7):Ae B F K A A7 C s (CD (.builtin id) us) (RV v):=by
 revert rs;refine Ff h (λe h=>?_) λh=>?_
 . subst e;apply Cs h Ac;intro v' h rs;apply MG rs;intro u r;by_cases hm:JA v'=M
   . refine Fi h (λ_ h=>?_) λq _=>UY (hm.symm.trans q);apply B4 h;exact am5 An AU hm g r
   . exact ah0 (by simpa using hm) g r h
 refine Ff h (λe h=>?_) λh=>?_
 . subst e;apply FQ h Ac;intro a l h;apply Cs h Ac;intro b h;apply Cu h Ac;intro a h;apply Cu h Ac;intro b h rs;apply B4 h;apply Sl rs;intro u u' r r';exact ah1 g r r'
 refine Ff h (λe h=>?_) λh=>?_
 . subst e;apply Cs h Ac;intro v' h rs;apply MG rs;intro u r;exact aj1 g r h
 refine Ff h (λe h=>?_) λh=>?_
 . subst e;apply Cs h Ac;intro v' h;apply EF h Ac;intro i h rs;apply MG rs;intro u r;exact ak6 g r h
 refine Ff h (λe h=>?_) λh=>?_
 . subst e;apply FQ h Ac;intro v' l h;apply Cs h Ac;intro b h;apply Nq h Ac;intro b h;apply SI h Ac;intro t h rs;apply Sl rs;intro u u' r r';cases r';exact ah3 g r h
 refine Ff h (λe h=>?_) λh=>(Ac h).elim;subst e;apply FQ h Ac;intro t l h;apply Cs h Ac;intro p h;apply Nq h Ac;intro t h;apply SI h Ac;intro t h;apply IJ h Ac;intro o l h;apply GQ h Ac;intro h;apply FQ h Ac;intro a l h;apply Cs h Ac;intro b h;apply Nq h Ac;intro a h;apply SI h Ac;intro a h;apply Nq h Ac;intro b h;apply SI h Ac;intro b h rs;refine Cj h Ac λq h=>?_;apply B4 h;revert rs;apply IF (B' q);apply IF (B' (Ak q));apply IF (Ak (Ak q));intro rs;exact ah4 g rs
inductive LI(A3:Mine.Ctx)(K:Kx)(n:O)(f:V)(args:I V)(H:Mine.St)(o:A1):Prop where|ba(id:DJ):f=.top (.builtin id)->Zj id args H=o->LI A3 K n f args H o|typ(t:DJ):f=.top (.type t)->Zk t args H=o->LI A3 K n f args H o|bb(i:O)(x:Tx):f=.Az 0 i->args=[.str x]->AJ H.h i=G .HP->o=.ok (.v (.bool A6)) H->LI A3 K n f args H o|get(i:O):f=.Az 1 i->A1.Ex H.h (.ref i) (λi N=>Nz i N .get args H)=o->LI A3 K n f args H o|sm(d:O)(fn:Fn)(AA:Mine.St):f=.top (.ref A3.Dj)->K.d=d+1->A3.fn A3.Q0=G fn->JB ⟨K.sc,d⟩ (ev A3 n) fn (.ref (H.n+1)::args) ⟨H.env,(H.n+1,.inst A3.Dj H.n)::(H.n,.EV [])::H.h,H.n+2⟩=.ok (.v .none) AA->o=.ok (.v (.ref (H.n+1))) AA->LI A3 K n f args H o|Gm(x y:V)(i j:O)(U ys:I V)(tx ty:I Tx):A3.VY=M->(!B8 i j&&CG U&&CG ys&&Fy 0 K.d)=M->f=.top (.ref A3.Gm)->args=[x,y]->x=.ref i->y=.ref j->AJ H.h i=G (.list U)->AJ H.h j=G (.list ys)->HQ U=G tx->HQ ys=G ty->o=.ok (.v (.tup L [.ref H.n,.ref (H.n+1)])) ((H.new (.list ((D3 (tx.length+ty.length) tx ty).1.map V.str))).2.new (.list ((D3 (tx.length+ty.length) tx ty).2.map V.str))).2->LI A3 K n f args H o|bc(d:O)(fn:Fn)(AA:Mine.St)(a b c:V)(U:I V):f=.top (.ref A3.Bn)->K.d=d+1->A3.fn A3.SQ=G fn->args=[a,b,c]->JB ⟨K.sc,d⟩ (ev A3 n) fn (.top (.ref A3.Bn)::args) H=.ok (.v (.tup (G A3.Bn) U)) AA->o=.ok (.v (.tup (G A3.Bn) U)) AA->LI A3 K n f args H o|fn(a:A9)(fn:Fn):f=.top (.ref a)->A3.fn a=G fn->JB K (ev A3 n) fn args H=o->LI A3 K n f args H o
theorem mZ{f:V}{r:AV}(h:jg A3 K (ev A3 n) f args H=.ok r A7):LI A3 K n f args H (.ok r A7):=by
 apply ZP h
 . intro w h;apply wA h;. intro id h;exact .ba _ rfl h
   intro h;apply jJ h;. intro t h;exact .typ _ rfl h
   intro h;apply Pp h Ac;intro a h;refine Ru h (λha h=>?_) λh=>Ru h (λha h=>?_) λh=>Ru h (λha h=>?_) λh=>?_
   . revert h;have :=CC ha;subst this;intro h;refine Yb h Ac λd hd h=>A1.Ce h λv AA AP h=>?_;revert AP;apply Po h Ac;intro h AP;refine A1.Bw AP ?_;clear AP;intro fn hf AP;exact .sm d fn AA rfl hd hf AP h.symm
   . revert h;have :=CC (B' ha);subst this;intro h;apply Hf h Ac;intro x y h;apply A1.MJ h;intro i U hi h;apply A1.MJ h;intro j ys hj h;refine A1.Bb h λCb h=>A1.Bw h λtx Qb h=>A1.Bw h λty T_ h=>?_;exact .Gm _ _ i j U ys tx ty (Ak ha) Cb rfl rfl rfl rfl hi hj Qb T_ h.symm
   . revert h;have :=CC ha;subst this;intro h;refine Yb h Ac λd hd h=>A1.Ce h λv AA AP h=>?_;refine A1.Bw AP ?_;clear AP;intro fn hf AP;have BC:=AP;revert BC;apply IJ h Ac;intro o U h;cases o with
 |none=>exact(Ac h).elim|some c=>
     have q:∃a b e,args=[a,b,e]/\A1.iff (B8 c A3.Bn) (.ok (.v (.tup (G c) U)) AA)=.ok r A7:=by
      apply FQ h Ac;intro a l h;apply Hf h Ac;intro b e h;exact⟨a,b,e,rfl,h⟩
     intro BC;refine Hh q ?_;(try clear q);intro a b e am7 h;refine A1.Bb h λhc h=>?_;revert h;have :=CC hc;subst this;intro h;exact .bc d fn AA _ _ _ U rfl hd hf am7 BC h.symm
   . refine A1.Bw h ?_;clear h;intro fn hf h;exact .fn a fn rfl hf h
 intro h;apply w8 h Ac;intro k i h;refine Ff h (λe h=>?_) λh=>Ff h (λe h=>?_) λh=>(Ac h).elim
 . revert h;subst e;intro h;have q:∃x,args=[.str x]/\A1.of (AJ H.h i) (λo=>Pq o .bad (.ok (.v (.bool A6)) H))=.ok r A7:=by
     apply Cs h Ac;intro v h;apply Db h Ac;intro x h;exact⟨x,rfl,h⟩
   refine AC q ?_;(try clear q);intro x ha h;refine A1.Bw h λo hi h=>?_;revert hi;apply wC h Ac;intro h hi;exact .bb i x rfl ha hi h.symm
 . revert h;subst e;intro h;exact .get _ rfl h
noncomputable def Ta(B:Bs)(A3:Mine.Ctx):Prop:=A3.VY=M->∀{F:Fm}{K:Kx}{A:CK}{H:Mine.St}{C:I A9}{s:AR}{i j:O}{tx ty:I Tx}{u u':A4},Gd B F K A H C s->i≠j->CG tx=M->CG ty=M->0<K.d->AJ H.h i=G (.list (tx.map .str))->AJ H.h j=G (.list (ty.map .str))->VR s.heap C (.ref i) u->VR s.heap C (.ref j) u'->Ae B F K A ((H.new (.list ((D3 (tx.length+ty.length) tx ty).1.map V.str))).2.new (.list ((D3 (tx.length+ty.length) tx ty).2.map V.str))).2 C s (CD (.ref A3.Gm) [u,u']) (RV (.tup L [.ref H.n,.ref (H.n+1)]))
theorem am8(AF:Cx B A3 Kf)(An:HT B A3 Kf)(Cv:TZ B A3){f:V}(h:step A3 K (ev A3 n) (.call f args) H=.ok (.v v) A7)(g:Gd B F K A H C s)(r:VR s.heap C f fu):CU (AQ B.prog B.w) s.heap fu:=by
 have AU:=g.AU AF;have m_:∀{a o fd},B.base.get? a=G o->o.data=.func fd->CU (AQ B.prog B.w) s.heap (.ref a):=λe d=>CU.func (g.base _ _ e) d;cases mZ h with
 |ba id e=>subst e;cases r;exact CU.builtin|typ t e=>subst e;cases r;exact CU.type|bb i x e=>subst e;refine Bu r ?_;(try clear r);intro a d Hn _ e;subst Hn;exact CU.Az e|get i e=>subst e;refine Bu r ?_;(try clear r);intro a d Kw _ e;subst Kw;exact CU.Az e|sm d fn AA e=>
  subst e;cases r;have mk:=makes_of (M:=AQ B.prog B.w) AU AF.makes;refine Ju mk.obj ?_;intro oc od cd sl e _;exact CU.cls e mk.call|Gm x y i j U ys tx ty _ _ e=>subst e;cases r;refine EU Cv.Gm ?_;intro o fd e d;exact m_ e d|bc d fn AA a b c U e=>
  subst e;cases r;refine Ju An.cls ?_;intro oc od cd sl hC _;exact CU.cls (AU _ _ hC) (bq6 AU An.call)|fn a fn e hf=>subst e;cases r;refine D9 (Cv.fn a fn hf) ?_;intro o fd ok;exact m_ ok.get ok.data
theorem am9(AF:Cx B A3 Kf)(An:HT B A3 Kf)(Cv:TZ B A3)(AM:Ta B A3)(A8:C5 B A3 n){f:V}(h:step A3 K (ev A3 n) (.call f args) H=.ok (.v v) A7)(g:Gd B F K A H C s)(r:VR s.heap C f fu)(rs:Aa s.heap C args us):Ae B F K A A7 C s (CD fu us) (RV v):=by cases mZ h with
 |ba id e h2=>subst e;cases r;exact am6 An (g.AU AF) g rs h2|typ t e h2=>subst e;cases r;exact af4 g rs h2|bb i x e ea hi h2=>subst e;subst ea;refine xA (FE h2) ?_;intro q Ky;subst Ky;injection q with q;subst q;exact ab4 g r rs hi|get i e h2=>subst e;exact ab6 g r rs h2|sm d fn AA e hd hf AP h2=>
  subst e;cases r;refine xA (FE h2) ?_;intro q TG;subst TG;injection q with q;subst q;refine D9 (Cv.fn _ _ hf) ?_;intro o fd ok;exact yg AF A8 g rs hd ok AP|Gm x y i j U ys tx ty hon Cb e ea ex ey hi hj Qb T_ h2=>
  subst e;subst ea;subst ex;subst ey;cases r;refine xA (FE h2) ?_;intro q TH;subst TH;injection q with q;subst q;refine Rx rs ?_;(try clear rs);intro u _ TJ r u' _ ay r' e;subst TJ;subst ay;cases e;simp only[D2,RL]at Cb;refine xA Cb ?_;(try clear Cb);intro QP h3;refine xA QP ?_;(try clear QP);intro an0 h2;obtain⟨Cb,h1⟩:=an0;rw[OI Qb]at hi h1;rw[OI T_]at hj h2;unfold CG at h1 h2;rw[Jk]at h1 h2;exact AM hon g (λz=>by rw[z,Ir]at Cb;(exfalso;cases Cb)) h1 h2 (Di h3) hi hj r r'|bc d fn AA a b c U e hd hf ea AP h2=>
  subst e;subst ea;cases r;refine xA (FE h2) ?_;intro q TK;subst TK;injection q with q;subst q;refine D9 (Cv.fn _ _ hf) ?_;intro o fd ok;exact ym An AF.AU A8 g rs hd ok AP|fn a fn e hf h2=>subst e;cases r;refine D9 (Cv.fn a fn hf) ?_;intro o fd ok;exact kI A8 ok h2 g rs
noncomputable def ma(B:Bs)(A3:Mine.Ctx):Prop:=∀{F:Fm}{K:Kx}{A:CK}{H:Mine.St}{C:I A9}{s:AR}{i:O}{U l:I V}{u:A4},Gd B F K A H C s->AJ H.h i=G (.list U)->VR s.heap C (.ref i) u->U.all JA=M->Zm U=G l->Ae B F K A (H.set i (.list l)) C s (CD (.builtin "list.sort") [u]) (RV .none)
theorem an1(Cv:TZ B A3)(Sc:Sy B A3 n){kd:MK}{o:V}{m:Y}(h:step A3 K (ev A3 n) (.H5 kd o m args) H=.ok (.v v) A7)(g:Gd B F K A H C s)(mv:MV kd m u fv first):CU (AQ B.prog B.w) s.heap fv:=by cases kd with
 |str=>rw[mv.1];exact CU.builtin|lst=>rw[mv.1];exact CU.builtin|Ex=>rw[mv.1];exact CU.builtin|tup=>rw[mv.1];exact CU.builtin|fn a=>rw[mv.1];exact Sc.MO (f:=.top (.ref a)) h g rfl
theorem an2(An:HT B A3 Kf)(AU:Kf.In B.base)(AM:ma B A3)(A8:C5 B A3 n){kd:MK}{o:V}{m:Y}(h:step A3 K (ev A3 n) (.H5 kd o m args) H=.ok (.v v) A7)(g:Gd B F K A H C s)(mv:MV kd m u fv first)(r:VR s.heap C o u)(rs:Aa s.heap C args us):Ae B F K A A7 C s (CD fv (first++us)) (RV v):=by
 change jh A3 K (ev A3 n) kd o m args H=.ok (.v v) A7 at h;revert r rs;cases kd with
 |str=>
  refine xA mv ?_;(try clear mv);intro TL az;subst TL;subst az;apply Db h Ac;intro x h r rs;refine A1.Bw h λk hk h=>?_;exact af3 g hk r rs h|lst=>
  refine xA mv ?_;(try clear mv);intro an3 an4;subst an3;subst an4;apply EF h Ac;intro i h r;refine A1.Bw h λob hi h=>A1.Bw h λk hk h=>?_;rw[ak7 hk];revert hi;apply Jx h
  . intro U h hi;clear hk;cases k with
 |append=>
     apply Cs h Ac;intro v h rs;refine A1.Bb h λhf h=>?_;apply B4 h;apply MG rs;intro u r';exact ah6 g hi r r' hf|pop=>
     apply ET h Ac;intro h rs;refine A1.Bb h λhf h=>A1.Bw h λx hx h=>?_;apply B4 h;apply Zs rs;exact ai0 g hi r hf hx|sort=>
     apply ET h Ac;intro h rs;refine A1.Bb h λhf h=>A1.Bw h λl hl h=>?_;apply B4 h;apply Zs rs;exact AM g hi r hf hl
  intro h;apply jO h Ac;intro n' U h hi;clear hk;cases k with
  |append=>
    apply Cs h Ac;intro v h rs;refine Yb h Ac λn e h=>A1.Bw h λl hl h=>?_;revert h;subst e;intro h;apply B4 h;apply MG rs;intro u r';exact ah7 g hi r r' (lV hl)|pop=>exact(Ac h).elim|sort=>exact(Ac h).elim
 |Ex=>
  refine xA mv ?_;(try clear mv);intro an5 an6;subst an5;subst an6;apply EF h Ac;intro i h r;refine A1.Bw h λk hk h=>?_;refine A1.O4 h ?_;clear h;intro N hi h;rw[ak8 hk];clear hk;have q:∃a b,args=[a,b]:=by apply Hf h Ac;intro a b _;exact⟨a,b,rfl⟩
  refine D9 q ?_;(try clear q);intro a b an7;subst an7;intro rs;apply Sl rs;intro u' u'' r' mc;cases k with
  |SX=>exact ai4 g hi r r' mc h|get=>exact ai5 g hi r r' mc h
 |fn a=>
  refine xA mv ?_;(try clear mv);intro an8 an9;subst an8;subst an9;intro r rs;exact A8.call (f:=.top (.ref a)) h g rfl ⟨_,_,rfl,r,rs⟩|tup=>
  refine xA mv ?_;(try clear mv);intro ao0 ao1;subst ao0;subst ao1;apply Hf h Ac;intro a b h;apply Nq h Ac;intro w h;apply Pp h Ac;intro c h;apply IJ h Ac;intro o' U h;cases o' with
 |some _=>exact(Ac h).elim|none=>
  refine A1.Bb h λhc h=>?_;have :=CC (B' hc);subst this;apply B4 h;intro r rs;apply Sl rs;intro u' u'' q r';cases q;exact yj An AU g r' (Ak hc)
end
section
open PyProof.Rows
noncomputable def be(prog:HY)(w:F4)(A:CK)(s:AR)(x y:A4)(b:AK):Prop:=∀(E:A4->AR->Prop)(AV:AK->AR->Prop),AV b s->AG (AQ prog w) A (oneLt' M x y) AV E s
theorem ao2{lt:O->O->AL AK}{cmp:O->O->(AK->AR->Prop)->AR->Prop}(hc:∀i j b,lt i j=G b->∀A3:AK->AR->Prop,A3 b s->cmp i j A3 s){A2:J->AR->Prop}{t:KasT J}{a:J}:Zl lt t=G a->A2 a s->t.kasWp cmp A2 s:=by induction t with
 |ret x=>intro h q;exact Bk h▸q|ask i j k ih=>exactλh q=>AC (by6.mp h) λb e h=>hc i j b e _ (ih b h q)
noncomputable abbrev st(l:I A4):YM:=by7 oneType' (l.toArray.zip l.toArray) #[] 7 L
noncomputable def Wg(out:I A4)(b:YM):Prop:=(arrOf b).map (·.2)=out.toArray/\failedOf b=L
theorem ao3{vs:I A4}{lt:O->O->AL AK}{p:BV O}(h2:2<=vs.length)(JM:vs.length<64)(e:Zl lt (kas_sort vs.length)=G p)(hc:∀i j b,lt i j=G b->be prog w A s (vs.getD i .none) (vs.getD j .none) b){A2:Et×YM->AR->Prop}(h:∀b,Wg (p.toList.map λi=>vs.getD i .none) b->A2 ((),b) s):AG (AQ prog w) A ((tw).run (st vs)) A2 E s:=kat_run (Q:=λb s'=>A2 ((),b) s') (G:=λq s'=>p=q/\s'=s) (ks:=vs) rfl h2 JM (λq b s' _ ha hf g=>by refine xA g ?_;intro g1 g2;subst g1;subst g2;exact h b ⟨kat_snds rfl ha,hf⟩) (ao2 (λi j b e A3 hC=>hc i j b e _ A3 hC) e ⟨rfl,rfl⟩)
theorem ao4{c:Prop}[s8 c]{x y:Dx J}{f:J->Dx F9}{AV:J->Prop}{A2:F9->AR->Prop}(h1:c->∀Q':J->AR->Prop,(∀a,AV a->Q' a s)->AG Au A x Q' E s)(h2:¬c->∀Q':J->AR->Prop,(∀a,AV a->Q' a s)->AG Au A y Q' E s)(k:∀a,AV a->AG Au A (f a) A2 E s):AG Au A (if c then x>>=f else y>>=f) A2 E s:=if h:c then(D5 h).symm▸A5 (h1 h _ k)else(CN h).symm▸A5 (h2 h _ k)
noncomputable def Tb(h:BJ)(a:A9)(vs:I A4):BJ:=((h.update a (GN λ_=>#[])).push (YN "tuple" vs.toArray 0)).push (YN "list" #[] 0)
theorem ao5{vs out:I A4}{P:Fin->AR->Prop}(ho:s.heap.get? a=G (YN "list" vs.toArray n))(JM:vs.length<64)(bf:out.length<64)(bg:vs.length<2->out=vs)(hr:∀s':AR,(∀b o,b≠a->s.heap.get? b=G o->s'.heap.get? b=G o)->2<=vs.length->(∀(E:A4->AR->Prop)(A2:SortKind->AR->Prop),A2 oneType' s'->AG (AQ prog w) A (keyKind' vs.toArray) A2 E s')/\∀(E:A4->AR->Prop)(A2:Et×YM->AR->Prop),(∀b,Wg out b->A2 ((),b) s')->AG (AQ prog w) A ((tw).run (st vs)) A2 E s')(h:P (.done (.ret .none)) {s with heap:=sortedHeap s.heap a vs out.toArray}):AG (AQ prog w) A (E8.«list.sort» ⟨[.ref a],[]⟩) P E s:=by
 rw[list_sort_plain];have ha:a<s.heap.objs.size:=Df ho;have hz:out.length<=F6:=B2 (Gb bf) (by decide);refine xE (show∃e1,(s.heap.update a (GN λ_=>#[])).get? a=G (YN "list" #[] e1)from⟨_,get?_update_seq ho (λ_=>#[])⟩) ?_;intro e1 Tc;have me:(Tb s.heap a vs).get? a=G (YN "list" #[] e1):=C0 _ (C0 _ Tc);have hv:vs.toArray.size<=F6:=B2 (Gb JM) (show 64<=F6 by decide);refine A5 (listItems_at ho rfl (A5 (by8 ho rfl (A5 (seqEpoch_at Tc rfl (A5 (gR (A5 (tl (C' ?_) (NZ _))) hv)))) hv (NZ _))));have kp:=hr {s with heap:=Tb s.heap a vs} λb o hb e=>C0 _ (C0 _ ((GO _ _ (CV hb)).trans e));refine ao4 (s:={s with heap:=Tb s.heap a vs}) (AV:=λkind=>∀A2:Et×YM->AR->Prop,(∀b,Wg out b->A2 ((),b) {s with heap:=Tb s.heap a vs})->AG (AQ prog w) A ((if vs.toArray.size<2 then pure ()else tw).run (by7 kind (vs.toArray.zip vs.toArray) #[] 7 L)) A2 E {s with heap:=Tb s.heap a vs}) (λh2 Q' k=>?_) (λh2 Q' k=>?_) (λkind q=>A5 (q _ λb hb=>?_))
 . rw[D5 h2]at k;exact AW (k _ λA2 k=>AW (k _ ⟨by rw[bg h2];exact Array.map_snd_zip (DE _),rfl⟩))
 . rw[CN h2]at k;have k2:=kp (eu h2);exact k2.1 _ _ (k _ (k2.2 _))
 . refine A5 (seqEpoch_at me rfl (A5 (by8 me rfl ?_ (NZ _) (by rw[hb.1];exact gZ hz))));rw[hb.1,hb.2,Xx];exact AW h
end
theorem un1{u k:O}(h:u+10*k<9000):u+1<ID:=by unfold ID;(with_reducible exact Mine.yU (by assumption) (by decide))
theorem ao6:Rb "tuple.__lt__"=G .slot:=by decide+kernel
theorem ao7:fx "tuple.__lt__"=G ("tuple","__lt__"):=by decide+kernel
theorem ao8:Y3 "tuple.__lt__"=M:=by decide+kernel
open PyProof.Rows(IntsAre oneLt' oneLt'_eq keyKind' keyKind'_eq oneTypeOnly'_eq firstOfTuple' oneType' seqObj)
section
theorem ao9(An:HT B A3 Kf)(CE:Gg Kf (.ref A3.Bn) "__lt__"=G (G (.builtin "tuple.__lt__")))(AU:Kf.In s.heap)(hu:A.units<ID)(hv:JA v=M)(Bg:JA v'=M)(r:VR h C v u)(r':VR h C v' u')(q:SN v v'=G b)(k:∀c o,h.get? c=G o->C1 o=M->s.heap.get? c=G o):be B.prog B.w A s u u' b:=by
 refine VE (Wf hv r) ?_;intro x y z l us n o Av B5 e io hc hd i1 s1;subst Av;subst B5;refine VE (Wf Bg r') ?_;intro x' y' z' l' Dv n' o' BI BO e' io' GC GS i2 s2;subst BI;subst BO;rw[mC]at q;injection q with q;subst q;have e:=k _ _ e io;have e':=k _ _ e' io';rw[<-An.at_]at hc GC;have tT:Gc (AQ B.prog B.w) s.heap (H_ (.ref l)) (.ref A3.Bn):=(Kc (part:=L) e).andThen (by rw[hc];exact .now);have tT':Gc (AQ B.prog B.w) s.heap (H_ (.ref l')) (.ref A3.Bn):=(Kc (part:=L) e').andThen (by rw[GC];exact .now);have sT:Gc (AQ B.prog B.w) s.heap (NV (.ref l) "__lt__") (G (.builtin "tuple.__lt__")):=tT.andThen (NT AU CE);intro E AV hR;have am:AG (AQ B.prog B.w) A (call (.builtin "tuple.__lt__") [.ref l,.ref l']) (λv s'=>v=.bool (J5 [x,y,z] [x',y',z'])/\s'=s) E s:=by
  refine HL (Lq ao8 PySem.F.entry_tuple_lt ?_);refine Y2 (i:="tuple.__lt__") (owner:="tuple") (n:="__lt__") (self:=.ref l) (rest:=[.ref l']) (kw:=[]) ao6 ao7 (tT.andThen (Uo AU An.tup)) (PySem.F.args_tuple_lt_2 _ _) ?_;obtain⟨c1,d1,da1,LF⟩:=o;obtain⟨c2,d2,da2,TS⟩:=o';simp only at hd GS hc GC;subst hd GS;refine ai6 l l' c1 c2 d1 d2 LF TS us Dv n n' _ _ i1 i2 (s1.trans s2.symm) B.prog B.w A (YL (λv s'=>v=.bool (J5 [x,y,z] [x',y',z'])/\s'=s) E) s ⟨e,e',?_,⟨rfl,rfl⟩⟩;intro prog w A' A2 E hq;have bI0:=AU;have t2:Gc (AQ prog w) s.heap (H_ (.ref l')) (.ref A3.Bn):=(Kc (part:=L) e').andThen (by rw[GC];exact .now);exact(show Gc (AQ prog w) s.heap (Uq (.ref l') (.type "tuple")) M from t2.andThen (Uo AU An.tup)).here hq
 rw[oneLt'_eq];skip;refine A5 (wpAny_cRoomFor hu ?_);refine A5 ?_;simp only[callSpecialIfBound?,br0];refine C' (A5 (A5 (sT.here ?_)));skip;have fin:AG (AQ B.prog B.w) A (call (.builtin "tuple.__lt__") ([.ref l]++[.ref l'])>>=λv=>pure (G v)) (λa s'=>AG (AQ B.prog B.w) A (match a with|some .notImplemented|none=>(Y8 "list.sort.lt-declined">>=λ_=>tb .Lt (.ref l) (.ref l')>>=λr=>by9 r:Dx AK)|some r=>by9 r) AV E s') E s:=by
  refine A5 (Fd am (λv s' hv=>?_) λ_ _ e=>e);refine xA hv ?_;(try clear hv);intro Bo Bf;subst Bo;subst Bf;exact AW (NM hR)
 refine A5 (RS (f_ ?_));split;. exact A5 (AW (AW fin))
 . exact PS (A5 (AW (AW fin)))
theorem Aa.at(r:Aa h C U us):∀i,VR h C (U.getD i .none) (us.getD i .none):=Aa.ind (P:=λU us=>∀i,VR h C (U.getD i .none) (us.getD i .none)) (λ_=>rfl) (λ_ _ _ _ a _ ih i=>Xn a (λn _=>ih n) i) r
theorem Aa.ap0{f:O->V}{g:O->A4}(k:∀i,VR h C (f i) (g i)){l:I O}:Aa h C (l.map f) (l.map g):=by induction l with
 |nil=>exact rfl|cons i l ih=>exact .cons (k i) ih
theorem ap1{l:I V}(hs:Zm U=G l)(r:Aa h C U us):∃out:I A4,Aa h C l out/\out.length<64/\us.length<64/\(us.length<2->out=us)/\∀(prog:HY)(w:F4)(A:CK)(s':AR),(∀i j b,jb U i j=G b->be prog w A s' (us.getD i .none) (us.getD j .none) b)->2<=us.length->∀(E:A4->AR->Prop)(A2:Et×bN7->AR->Prop),(∀b,Wg out b->A2 ((),b) s')->AG (AQ prog w) A ((bN8).run (st us)) A2 E s':=by
 apply Cj hs AE;intro JM hs;rw[r.length]at JM hs;apply Fi hs
 . intro h2 e;exact Bk e▸⟨us,r,Rm.mp JM,Rm.mp JM,λ_=>rfl,λ_ _ _ _ _ z=>absurd (Rm.mp h2) (Uc.mpr z)⟩
 . intro h2 hs;apply BH hs;intro p e hs;apply Cj hs AE;intro hp e';exact Bk e'▸⟨p.toList.map λi=>us.getD i .none,.ap0 r.at,by rw[Jk];exact Rm.mp hp,Rm.mp JM,λz=>absurd (Rm.mpr z) (h2▸nofun),λ_ _ _ _ c h2 _ _ k=>ao3 h2 (Rm.mp JM) e c k⟩
theorem ap2(r:Aa h C U us):u∈us->∃v∈U,VR h C v u:=Aa.ind (P:=λU us=>u∈us->∃v∈U,VR h C v u) (λm=>nomatch m) (λv _ _ _ a _ ih m=>(Ci.mp m).elim (λe=>⟨v,Co,e▸a⟩) λm=>AC (ih m) λv' m' r'=>⟨v',Cp _ m',r'⟩) r
theorem ap3(AF:Cx B A3 Kf)(An:HT B A3 Kf)(CE:Gg Kf (.ref A3.Bn) "__lt__"=G (G (.builtin "tuple.__lt__"))):ma B A3:=λ{F K A H C s i U l u}g hi r O9 hs A2 E kk=>by
 refine AC r ?_;(try clear r);intro a ha FC;subst FC;refine AC (g.obj hi ha) ?_;intro us GB vr;refine xE GB ?_;(try clear GB);intro m ho;have AU:=g.AU AF;refine Rw (ap1 hs vr) ?_;intro out vro bf JM bg srt;refine Gf to ⟨_,ho,rfl⟩ tp (ao5 (vs:=us.toList) ho JM bf bg (λs' ks h2=>?_) ⟨.none,rfl,?_⟩) (tq _)
 . have mf:∀b o,s.heap.get? b=G o->C1 o=M->s'.heap.get? b=G o:=λb o e io=>ks _ _ (λq=>by subst q;rw[ho]at e;injection e with e;subst e;exact(E3 io).elim) e;refine⟨λE A2 hq=>kas_kind (T:=.ref A3.Bn) h2 (λu hu=>?_) rfl (by simp) hq,srt _ _ _ _ (λi j b e=>?_) h2⟩
   . refine AC (ap2 vr hu) ?_;intro v hv rv;refine VE (Wf (Bp.mp O9 v hv) rv) ?_;intro x y z l us n o H9 Hn e io hc hd i1 s1;subst Hn;rw[<-An.at_]at hc;exact(Kc (part:=L) (mf _ _ e io)).andThen (by rw[hc];exact .now)
   . apply Cj e AE;intro hm e;have W_:A.in1.units<ID:=un1 g.units;exact ao9 An CE (λb o e=>ks _ _ (λq=>by subst q;have :=AF.AU _ _ e;rw[g.fresh _ (Es ha)]at this;exact(BB this).elim) (AU _ _ e)) W_ (B' hm) (Ak hm) (vr.at i) (vr.at j) e mf
 . refine xE (tu (vs:=us.toList) (out:=out.toArray) ho) ?_;intro e mh;have eb:Dp a s.heap (bN9 s.heap a us.toList out.toArray):=λb o hb e=>by rw[tv hb (Df e)];exact e
   refine xA (g.set (tk:=s.toks) (o':=.list l) ha hi (λ_ _ e=>by(exfalso;cases e)) eb ⟨_,mh⟩ λim=>⟨_,⟨_,mh⟩,by
     show Aa _ _ _ out;exact vro.Bv im⟩) ?_;intro g' x';exact kk _ C _ g' x' rfl
end
structure Mb(B:Bs)(A3:Mine.Ctx):Prop where
 only:∀{K:Kx}{c:Cd}{H:Mine.St}{o:A1},A3.CQ K c H=G o->(∃f args,c=.call f args)\/(∃x,c=.e x/\JC x=A6)\/(∃x,c=.s x)MO:∀{K:Kx}{f:V}{args:I V}{H A7:Mine.St}{v:V},A3.CQ K (.call f args) H=G (.ok (.v v) A7)->∀{F:Fm}{A:CK}{C:I A9}{s:AR}{fu:A4},Gd B F K A H C s->VR s.heap C f fu->CU (AQ B.prog B.w) s.heap fu
 call:∀{K:Kx}{f:V}{args:I V}{H A7:Mine.St}{v:V},A3.CQ K (.call f args) H=G (.ok (.v v) A7)->∀{F:Fm}{A:CK}{C:I A9}{s:AR}{fu:A4}{us:I A4},Gd B F K A H C s->VR s.heap C f fu->Aa s.heap C args us->Ae B F K A A7 C s (CD fu us) (RV v)e:∀{K:Kx}{x:AB}{H A7:Mine.St}{v:V},A3.CQ K (.e x) H=G (.ok (.v v) A7)->∀{F:Fm}{A:CK}{C:I A9}{s:AR},Gd B F K A H C s->Ae B F K A A7 C s (eval x F.env) (RV v)s:∀{K:Kx}{x:Ar}{H A7:Mine.St}{f:Fl},A3.CQ K (.s x) H=G (.ok (.f f) A7)->∀{F:Fm}{A:CK}{C:I A9}{s:AR},Gd B F K A H C s->CJ B F K A A7 C s (exec x F.env) (FR f)
noncomputable def bh(B:Bs)(A3:Mine.Ctx):Prop:=∀{n:O},C5 B A3 n->∀{K:Kx}{f x:AB}{args:I AB}{pos:BG}{v:V}{F:Fm}{A:CK}{H A7:Mine.St}{C:I A9}{s:AR},args.all CP=M->(∀o m p,f≠.Attribute o m p)->Ze f args=G x->(A1.iff (Dl K.sc Q2&&Dl K.sc Za&&CP x)<|(ev A3 n K (.e x) H).V λv H=>A1.lst H.h v λ_ U=>A1.of (HQ U) λl=>A1.iff (Fy l.length 60) (FU (H.new (.list ((EY (Hk l)).map .str)))))=.ok (.v v) A7->Gd B F K A H C s->Ae B F K A A7 C s (eval (.Call f args [] pos) F.env) (RV v)
noncomputable def bj(B:Bs)(A3:Mine.Ctx):Prop:=∀{n:O},C5 B A3 n->Sy B A3 n->∀{K:Kx}{f x:AB}{args:I AB}{pos:BG}{v:V}{F:Fm}{A:CK}{H A7:Mine.St}{C:I A9}{s:AR},args.all CP=M->(∀o m p,f≠.Attribute o m p)->Zf f args=G x->(A1.iff (Dl K.sc Zc&&Dl K.sc Zd&&Dl K.sc SS&&CP x)<|(ev A3 n K (.e x) H).V λv H=>A1.lst H.h v λi U=>A1.iff (CG U)<|match K.d with
 |d+1=>(Vi A3 ⟨K.sc,d⟩ (ev A3 n) i 60 0 [] H).A0 λl H=>FU (H.new (.list l))|0=>.bad)=.ok (.v v) A7->Gd B F K A H C s->Ae B F K A A7 C s (eval (.Call f args [] pos) F.env) (RV v)
structure Ok(B:Bs)(A3:Mine.Ctx)(Kf:GZ):Prop where
 x:Cx B A3 Kf
 y:HT B A3 Kf
 t:We Kf
 fns:TZ B A3
 g:Gl B A3
 en:Ai A3.glob WU=G (.top (.type "enumerate"))lt:Gg Kf (.ref A3.Bn) "__lt__"=G (G (.builtin "tuple.__lt__"))Gm:Ta B A3
 sset:bh B A3
 lmap:bj B A3
 sm:Mb B A3
structure All(B:Bs)(A3:Mine.Ctx)(n:O):Prop where
 s:C5 B A3 n
 c:Sy B A3 n
 l:O7 B A3 n
 d:a_ B A3 n
 e:bH B A3 n
section
theorem Qc{c:Cd}{o:A1}(h:ev A3 (n+1) K c H=o):A3.CQ K c H=G o\/(A3.CQ K c H=L/\step A3 K (ev A3 n) c H=o):=by
 unfold ev at h;cases e:A3.CQ K c H with
 |none=>rw[e]at h;exact .inr ⟨rfl,h⟩|some o'=>rw[e]at h;exact .inl (congrArg G h)
theorem Mb.step(Au:Mb B A3){c:Cd}{o:A1}(h:ev A3 (n+1) K c H=o)(h1:∀f args,c≠.call f args)(h2:∀x,c≠.e x)(h3:∀x,c≠.s x):step A3 K (ev A3 n) c H=o:=by
 rcases Qc h with h|h
 . rcases Au.only h with BI|BO|Bo;refine D9 BI ?_;(try clear BI);intro f a e;rotate_left;refine AC BO ?_;(try clear BO);intro x e _;rotate_left;refine xE Bo ?_;(try clear Bo);intro x e;rotate_left;. exact absurd e (h1 f a)
   . exact absurd e (h2 x)
   . exact absurd e (h3 x)
 . exact h.2
theorem ap4(BK:Ok B A3 Kf)(AD:All B A3 n){x:AB}(h:Ey A3 K (ev A3 n) x H=.ok (.v v) A7)(g:Gd B F K A H C s):Ae B F K A A7 C s (eval x F.env) (RV v):=by cases x with
 |Constant k a b=>
  refine A1.Bw h ?_;clear h;intro w hw h;refine xA (FE h) ?_;intro q Av;subst Av;injection q with q;subst q;exact Vv g hw|Name id pos=>exact b5 BK.g h g|BinOp l op r pos=>cases hr:Sf l op r with
  |none=>exact wl AD.s OK hr h g|some p=>obtain⟨c,id,y,z⟩:=p;exact af7 hr h g
 |UnaryOp op x pos=>exact ab7 AD.s OK h g|IfExp t a b pos=>exact wg AD.s h g|Tuple U k pos=>exact wo AD.s h g|List U pos=>exact wq AD.s h g|Dict ks vs pos=>
  have cst:∀{ks vs},(A1.of (MB ks vs) λps=>A1.iff (EN ps.length 15) (A1.of (Ks ps []) λN=>FU (H.new (.dict N))))=.ok (.v v) A7->Ae B F K A A7 C s (eval (.Dict ks vs pos) F.env) (RV v):=by
    intro ks vs h;refine A1.Bw h ?_;clear h;intro ps h1 h;refine A1.Bb h ?_;clear h;intro h2 h;refine A1.Bw h ?_;clear h;intro N h3 h;refine xA (FE h) ?_;intro q B5;subst B5;injection q with q;subst q;exact m4 h1 h2 h3 g
  refine Ru h (λhc h=>?_) λh=>Nf h (λp hp h=>?_) λ_ h=>cst h
  . have e1:=YO.mp (B' hc);have e2:=YO.mp (Ak hc);subst e1;subst e2;apply B4 h;exact m4 (ps:=[]) rfl rfl rfl g
  . revert h;apply Hf hp AE;intro a b hp;apply GQ hp AE;intro hp;apply Nd hp AE;intro k hp;apply Hf hp AE;intro v0 v hp;apply Bq hp;intro h;exact aj7 AD.s h g|BoolOp op U pos=>
  refine Cj h Ac λq h=>?_;apply IF q;apply Hf h Ac;intro a b h;exact wn AD.s OK h g|Compare l CT rs pos=>match CT,rs,h with
  |[op],[r],h=>exact wm AD.s OK h g|[],_,h=>exact(Ac h).elim|[_],[],h=>exact(Ac h).elim|[_],_::_::_,h=>exact(Ac h).elim|_::_::_,_,h=>exact(Ac h).elim
 |Attribute o a pos=>exact ab9 BK.x AD.s h g|Subscript o i pos=>
  refine A1.Ce h ?_;clear h;intro w AA AP h;apply uW h
  . intro a b st p h;apply GQ h Ac;intro h;exact zK AD.s AP h g
  . intro q h;exact zI AD.s (λa b p e=>q (by rw[e];rfl)) AP h g|Call f args kws pos=>match kws,h with
  |[],h=>
    refine A1.Bb h λhp h0=>?_;revert h;apply hV h0
    . intro o m p _ h;exact xW AD.s AD.c (mY BK.x BK.t) h g
    intro hf h _;have FH:∀o m p,f≠.Attribute o m p:=λo m p e=>hf (by rw[e];rfl);refine Nf h (λx hx h=>BK.sset AD.s hp FH hx h g) λ_ h=>Nf h (λx hx h=>BK.lmap AD.s AD.c hp FH hx h g) λ_ h=>xZ AD.s AD.c FH hp h g|_::_,h=>exact(Ac h).elim
 |ListComp CZ gens sc pos=>match gens,h with
  |[],h=>exact(Ac h).elim|g'::gens,h=>exact kZ AD.s AD.l h g
 |DictComp k v' gens sc pos=>match gens,h with
  |[],h=>exact(Ac h).elim|[g'],h=>exact yY AD.s AD.d h g|_::_::_,h=>exact(Ac h).elim
 |_=>exact(Ac h).elim
theorem ap5(BK:Ok B A3 Kf)(AD:All B A3 n){t:AB}(h:Kt A3 K (ev A3 n) t v H=.ok (.f f) A7)(g:Gd B F K A H C s)(r:VR s.heap C v u):CJ B F K A A7 C s (Eu t F.env u) RU:=by
 apply gr h;. exactλ_ _ h=>xP (A3:=A3) (n:=n) h g r
 intro h;apply gt h
 . intro ts k p h;revert r;apply IJ h Ac;intro c vs h r;exact z9 (A3:=A3) (K:=K) (n:=n) (kd:=k) (pos:=p) (c:=c) (U:=vs) (H:=H) BK.y BK.x.AU AD.s h g r
 intro h;apply hV h;. exactλo a p h=>zA (A3:=A3) (K:=K) (n:=n) (o:=o) (a:=a) (pos:=p) (v:=v) (H:=H) BK.x AD.s h g r
 intro _ h;apply N_ h Ac;exactλo i p h=>ac2 (A3:=A3) (K:=K) (n:=n) (o:=o) (i:=i) (pos:=p) (v:=v) (H:=H) AD.s h g r
set_option tactic.hygienic true in
theorem ap6(BK:Ok B A3 Kf)(AD:All B A3 n)(E':∀m,n=m+1->All B A3 m){x:Ar}(h:Hm K (ev A3 n) x H=.ok (.f f) A7)(g:Gd B F K A H C s):CJ B F K A A7 C s (exec x F.env) (FR f):=by cases x with
 |Expr e pos=>exact xO AD.s h g|Pass pos=>exact wz h g|Break pos=>exact x7 h g|Continue pos=>exact xB h g|Return e pos=>cases e with
  |none=>exact wy h g|some e=>exact wx AD.s h g
 |Assign ts e pos=>
  have h:bC (MC ts e) _ _=_:=h;revert h;cases ht:MC ts e<;>intro h
  . refine A1.Bb h ?_;clear h;intro hc h;have fin:∀{f'},f'=Fl.next->CJ B F K A A7 C s (exec (.Assign ts e pos) F.env) (FR .next)->CJ B F K A A7 C s (exec (.Assign ts e pos) F.env) (FR f'):=λe d=>e▸d;refine H3 (A1.wc h) ?_;clear h;intro mj f' h;cases bk:JC e with
 |false=>exact fin mj (xR AD.s bk ht h g)|true=>
    simp only[bk,bz0,bp9]at hc;clear bk ht;revert fin h;apply Cs hc B3;intro t hc;apply ES hc B3;intro id p hc;apply YV hc B3;intro CZ gens sc KG _ fin h;. cases n with
 |zero=>refine A1.Ce h ?_;clear h;intro _ _ h _;exact(Ac h).elim|succ m=>
    refine A1.Ce h ?_;intro v AA AP BC;have E':=E' m rfl;rcases Qc AP with q|Bf;rotate_left;refine xA Bf ?_;(try clear Bf);intro _ q;rotate_left
    . (rcases BK.sm.only q with Br|C8|Ck;refine D9 Br ?_;(try clear Br);intro _ _ z;rotate_left;refine AC C8 ?_;(try clear C8);intro _ z z';rotate_left;refine xE Ck ?_;(try clear Ck);intro _ z;rotate_left)<;>(first|(exfalso;cases z)|cases z);(exfalso;cases z')
    . cases gens with
 |nil=>exact(Ac q).elim|cons g' gens=>
      refine fin mj (xq (f:=f') E'.s E'.l AD.s ?_ g);rw[show Ey A3 K (ev A3 m) (.ListComp CZ (g'::gens) sc KG) H=.ok (.v v) AA from q];exact BC
  . have h:A1.of (Vj ts e) _=_:=h;exact ac9 AD.s h g|AugAssign t op e pos=>
  cases t<;>first|(exact(Ac h).elim;done)|skip
  rename_i id p;exact xQ AD.s OK h g|If t a b pos=>exact ww AD.s h g|While t b o pos=>match o,h with
  |[],h=>exact xI AD.s h g|_::_,h=>exact(Ac h).elim
 |For t it b o pos=>match o,h with
  |[],h=>cases he:SR it with
   |none=>exact xN AD.s he h g|some x=>exact ad7 BK.g BK.en AD.s AD.e he h g
  |_::_,h=>exact(Ac h).elim
 |Try body hs o fin pos=>match hs,o,fin,h with
  |_::_,[],[],h=>exact ad4 AD.s h g|[],_,_,h=>exact(Ac h).elim|_::_,_::_,_,h=>exact(Ac h).elim|_::_,[],_::_,h=>exact(Ac h).elim
 |_=>exact(Ac h).elim
theorem ap7:All B A3 0:=⟨⟨λh=>(by exact(Ac h).elim),λh=>(by exact(Ac h).elim),λh=>(by exact(Ac h).elim),λh=>(by exact(Ac h).elim),λh=>(by exact(Ac h).elim),λh=>(by exact(Ac h).elim),λh=>(by exact(Ac h).elim),λh=>(by exact(Ac h).elim),λh=>(by exact(Ac h).elim),λh=>(by exact(Ac h).elim),λh=>(by exact(Ac h).elim),λh=>(by exact(Ac h).elim),λh=>(by exact(Ac h).elim),λh=>(by exact(Ac h).elim)⟩,⟨λh=>(by exact(Ac h).elim),λh=>(by exact(Ac h).elim),λh=>(by exact(Ac h).elim)⟩,⟨λh=>(by exact(Ac h).elim)⟩,⟨λh=>(by exact(Ac h).elim)⟩,λh=>(by exact(Ac h).elim)⟩
theorem ap8(BK:Ok B A3 Kf)(AD:All B A3 n)(E':∀m,n=m+1->All B A3 m):All B A3 (n+1):=by
 have st:∀{K:Kx}{H:Mine.St}{c:Cd}{o:A1},ev A3 (n+1) K c H=o->(∀f args,c≠.call f args)->(∀x,c≠.e x)->(∀x,c≠.s x)->step A3 K (ev A3 n) c H=o:=λh=>BK.sm.step h;refine⟨⟨?_,?_,?_,?_,?_,?_,?_,?_,?_,?_,?_,?_,?_,?_⟩,⟨?_,?_,?_⟩,⟨?_⟩,⟨?_⟩,?_⟩
 . intro K x H A7 v h F A C s g;rcases Qc h with q|D8;rotate_left;refine xA D8 ?_;(try clear D8);intro _ q;rotate_left;. exact BK.sm.e q g
   . exact ap4 BK AD q g
 . intro K l H A7 v h F A C s pos g;exact wh AD.s (st h (λ_ _ e=>by(exfalso;cases e)) (λ_ e=>by(exfalso;cases e)) (λ_ e=>by(exfalso;cases e))) pos g
 . intro K x H A7 v h F A C s g;exact wu AD.s OK (st h (λ_ _ e=>by(exfalso;cases e)) (λ_ e=>by(exfalso;cases e)) (λ_ e=>by(exfalso;cases e))) g
 . intro K a l H A7 v h F A C s g;exact wt AD.s (st h (λ_ _ e=>by(exfalso;cases e)) (λ_ e=>by(exfalso;cases e)) (λ_ e=>by(exfalso;cases e))) g
 . intro K x H A7 f h F A C s g;rcases Qc h with q|DV;rotate_left;refine xA DV ?_;(try clear DV);intro _ q;rotate_left;. exact BK.sm.s q g
   . exact ap6 BK AD E' q g
 . intro K l H A7 f h F A C s g;exact wj AD.s (st h (λ_ _ e=>by(exfalso;cases e)) (λ_ e=>by(exfalso;cases e)) (λ_ e=>by(exfalso;cases e))) g
 . intro K t v H A7 f h F A C s u g r;exact ap5 BK AD (st h (λ_ _ e=>by(exfalso;cases e)) (λ_ e=>by(exfalso;cases e)) (λ_ e=>by(exfalso;cases e))) g r
 . intro K ts vs H A7 f h F A C s us g r;exact xC AD.s (st h (λ_ _ e=>by(exfalso;cases e)) (λ_ e=>by(exfalso;cases e)) (λ_ e=>by(exfalso;cases e))) g r
 . intro K ts v H A7 f h F A C s u g r;exact xF AD.s (st h (λ_ _ e=>by(exfalso;cases e)) (λ_ e=>by(exfalso;cases e)) (λ_ e=>by(exfalso;cases e))) g r
 . intro K v H A7 r h;have :=st h (λ_ _ e=>by(exfalso;cases e)) (λ_ e=>by(exfalso;cases e)) (λ_ e=>by(exfalso;cases e));exact(FE this).2.symm
 . intro K id pos v H A7 f h F A C s u g r;have q:Kt A3 K (ev A3 n) (.Name id pos) v H=.ok (.f f) A7:=st h (λ_ _ e=>by(exfalso;cases e)) (λ_ e=>by(exfalso;cases e)) (λ_ e=>by(exfalso;cases e));exact aC q g r
 . intro K f args H A7 v h F A C s fu us g r rs;rcases Qc h with q|E_;rotate_left;refine xA E_ ?_;(try clear E_);intro _ q;rotate_left;. exact BK.sm.call q g r rs
   . exact am9 BK.x BK.y BK.fns BK.Gm AD.s q g r rs
 . intro K t b H A7 f h F A C s AV g k;exact xH AD.s (st h (λ_ _ e=>by(exfalso;cases e)) (λ_ e=>by(exfalso;cases e)) (λ_ e=>by(exfalso;cases e))) g k
 . intro K t it i b H A7 f h F A C BE s Af I' AV g Cq hI fr r k;exact xM AD.s (st h (λ_ _ e=>by(exfalso;cases e)) (λ_ e=>by(exfalso;cases e)) (λ_ e=>by(exfalso;cases e))) g Cq hI fr r k
 . intro K f args H A7 v h F A C s fu g r;rcases Qc h with q|FC;rotate_left;refine xA FC ?_;(try clear FC);intro _ q;rotate_left;. exact BK.sm.MO q g r
   . exact am8 BK.x BK.y BK.fns q g r
 . intro K kd o m args H A7 v h F A C s u fv first g mv;exact an1 BK.fns AD.c (st h (λ_ _ e=>by(exfalso;cases e)) (λ_ e=>by(exfalso;cases e)) (λ_ e=>by(exfalso;cases e))) g mv
 . intro K kd o m args H A7 v h F A C s u fv first us g mv r rs;exact an2 BK.y BK.x.AU (ap3 BK.x BK.y BK.lt) AD.s (st h (λ_ _ e=>by(exfalso;cases e)) (λ_ e=>by(exfalso;cases e)) (λ_ e=>by(exfalso;cases e))) g mv r rs
 . intro K CZ g gens it i Am l H A7 h GW sc pos depth hd ha F A C BE s Af I' D AV Bj Cq hI fr r ac ne k;exact xa AD.s AD.l (st h (λ_ _ e=>by(exfalso;cases e)) (λ_ e=>by(exfalso;cases e)) (λ_ e=>by(exfalso;cases e))) hd ha Bj Cq hI fr r ac ne k
 . intro K kk v g it i d H A7 f h sc pos ha F A C BE s Af I' D AV Bj hD Cq hI fr r k;exact yN AD.s AD.d (st h (λ_ _ e=>by(exfalso;cases e)) (λ_ e=>by(exfalso;cases e)) (λ_ e=>by(exfalso;cases e))) ha Bj hD Cq hI fr r k
 . intro K ts kd p x i b H A7 f h F A C BE s Af I' bR9 AV g Cq hI hJ fI fJ r k;exact ad3 AD.s AD.e (st h (λ_ _ e=>by(exfalso;cases e)) (λ_ e=>by(exfalso;cases e)) (λ_ e=>by(exfalso;cases e))) g Cq hI hJ fI fJ r k
theorem Wh(BK:Ok B A3 Kf):∀n,∀m,m<=n->All B A3 m
 |0=>λm h=>by
  obtain rfl:m=0:=by(with_reducible exact Nat.eq_zero_of_le_zero (by assumption))
  exact ap7|n+1=>λm h=>by
  by_cases e:m<=n;. exact Wh BK n m e
  . obtain rfl:m=n+1:=by(with_reducible exact Mine.yG (by assumption) (by assumption))
    exact ap8 BK (Wh BK n n (DE _)) λm e=>Wh BK n m (by omega)
theorem Wi(BK:Ok B A3 Kf)(n:O):All B A3 n:=Wh BK n n (DE _)
end
theorem ap9{a b:Y}:(a==b)=M↔a=b:=by simp
theorem Wj{p:Y×J}{l:I (Y×J)}(h:(x==p.1)=A6):(p::l).lookup x=l.lookup x:=(congrArg (λb=>match b with|true=>G p.2|false=>l.lookup x) h:(match x==p.1 with|true=>G p.2|false=>l.lookup x)=_)
theorem Wk{a b:Y}(h:a≠b):(a==b)=A6:=sR.mpr λe=>h (ap9.mp e)
theorem bl(nd:names.Nodup):∀{us:I J}{k:O},names[k]?=G x->(names.zip us).lookup x=us[k]?:=by induction names with
 |nil=>exactλh=>nomatch h|cons n names ih=>
 intro us k h;cases us with
 |nil=>exact tz.symm|cons u us=>cases k with
 |zero=>exact Bk h▸bz1|succ k=>exact(Wj (p:=(n,u)) (Wk λe:x=n=>(ER.mp nd).1 (e▸Es h))).trans (ih (ER.mp nd).2 h)
theorem aq0{l:I (Y×J)}:∀{A8:I (Y×J)},(l.map (·.1)).Nodup->l.foldl (λA8 p=>if(A8.lookup p.1).isNone then A8++[p]else A8) A8=A8++l.filter λp=>(A8.lookup p.1).isNone:=by induction l with
 |nil=>intro A8 _;exact(HJ A8).symm|cons p l ih=>
 intro A8 nd;have n2:=ER.mp nd;rw[tK,ih n2.2,bz2];by_cases h:(A8.lookup p.1).isNone=M
 . rw[D5 h,D5 h,Ua];refine congrArg (A8++p::·) (List.filter_congr λq hq=>congrArg Option.isNone ?_);rw[bz3,Wj (p:=p) (Wk λe:q.1=p.1=>n2.1 (show p.1∈_ from e▸u0 hq))];exact Option.or_none
 . rw[CN h,CN h]
theorem aq1{g:Y->AL J}:∀{full:I J},(∀(k:O)(x:Y),names[k]?=G x->g x=full[k]?)->names.filterMap (λn=>(g n).map (n,·))=names.zip full:=by induction names with
 |nil=>intro full _;rfl|cons n names ih=>
 intro full h;rw[RJ,h 0 n rfl];cases full with
 |nil=>exact(ih (full:=[]) λk x e=>(h (k+1) x e).trans (tz.trans tz.symm)).trans u4|cons u full=>exact congrArg ((n,u)::·) (ih λk x e=>h (k+1) x e)
theorem aq2{f:Y->AK}(hx:f x=M){l:I (Y×J)}:(l.filter λp=>f p.1).lookup x=l.lookup x:=by induction l with
 |nil=>rfl|cons p l ih=>
 rw[bz2];cases h:f p.1 with
 |true=>rw[D5 rfl];exact congrArg (λo=>match x==p.1 with|true=>G p.2|false=>o) ih|false=>rw[CN NO,ih];exact(Wj (p:=p) (Wk λe=>by rw[e,h]at hx;exact(E3 hx).elim)).symm
noncomputable def OT(n:O)(us ds:I J):I J:=us.take n++ds.drop (ds.length-(n-us.length))
theorem ar1{u k:O}(hd:d<=n)(hg:n-d<=u)(hu:u<=k)(hk:k<n):d-(n-u)+(k-u)=k-(n-d):=by rw[bz4 _ hd,bz4 _ (B2 hu (Gb hk)),Lg k d,<-Nat.sub_add_comm (Nat.sub_le_iff_le_add'.mp hg),<-sA hu,Xl,bj5]
theorem ml{l:I J}{k:O}{x:J}(h:l[k]?=G x):k<l.length:=(HH.mp h).1
theorem aq3{us ds:I J}(nd:names.Nodup)(hd:ds.length<=names.length)(hg:names.length-ds.length<=us.length):names.filterMap (λn=>((((names.drop (names.length-ds.length)).zip ds).foldl (λA8 p=>if(A8.lookup p.1).isNone then A8++[p]else A8) (names.zip us)).lookup n).map (n,·))=names.zip (OT names.length us ds):=by
 rw[aq0 (by rw[bz5 (by rw[Ut,u5 hd];exact DE _)];exact nd.drop)];refine aq1 λk x hx=>?_;have hk:=ml hx;have hz:=bl (us:=us) nd hx;rw[bz3,hz];by_cases hu:k<us.length
 . rw[Hd hu];exact(Hd hu).symm.trans ((bz6 hk).symm.trans (Xq (by rw[PV];exact bj9.mpr ⟨hk,hu⟩)).symm)
 . have hu:=Uc.mp hu;have W_:=B2 hu (Gb hk);have hn:=V0 (l:=us) hu;rw[hn,Option.none_or,aq2 (f:=λx=>((names.zip us).lookup x).isNone) (by rw[hz,hn];rfl),bl (k:=k-(names.length-ds.length)) nd.drop (by rw[td,bs4 (B2 hg hu)];exact hx),OT,g7 W_,V1 hu,td,ar1 hd hg hu hk]
theorem aq4{us:I J}(nd:names.Nodup){f:O}(hg:f<=us.length):((names.take f).filter λn=>((names.zip us).lookup n).isNone)=[]:=by
 refine List.filter_eq_nil_iff.mpr λx hx=>?_;refine xE (List.mem_iff_getElem?.mp hx) ?_;intro k e;have hk:=Ip (ml e) (B2 (Eg PV) (Xj ..));rw[bl nd ((bz6 hk).symm.trans e),Hd (Ip hk hg)];exact NO
theorem aq5{l:I (Y×A4)}:∀{A8:I (Y×A4)},(forIn l A8 λx A8=>if(fb x.1 A8).isNone=M then pure (G' (A8++[(x.1,x.2)]))else pure (G' A8):Dx (I (Y×A4)))=pure (l.foldl (λA8 p=>if(A8.lookup p.1).isNone then A8++[p]else A8) A8):=by induction l with
 |nil=>intro A8;rfl|cons p l ih=>
 intro A8;rw[RT,tK];by_cases h:(A8.lookup p.1).isNone=M;. rw[D5 h,D5 h,pure_bind];exact ih
 . rw[CN h,CN h,pure_bind];exact ih
noncomputable def aq6(va:AL Arg)(us:I A4)(l:I (Y×A4)):Dx (I (Y×A4)):=match va with
 |some a=>Y5 us>>=λv=>pure (l++[(a.arg,v)])|none=>pure l
theorem aq7(h1:fd.params.posonlyargs=[])(h2:fd.params.kwonlyargs=[])(h3:fd.params.kwarg=L)(hN:fd.params.args.map (·.arg)=names){AV:Prop}(k:∀(AF An:AL (BV A4)->Dx (I (Y×A4)))(AM:I (Y×A4)->Dx (I (Y×A4))),fX fd ⟨us,[]⟩=(NW fd.defaults>>=λU=>if(decide (us.length>names.length)&&fd.params.vararg.isNone)=M then AF U else if(!((names.take (names.length-((U.getD #[]).toList.drop ((U.getD #[]).toList.length-names.length)).length)).filter λn=>((names.zip us).lookup n).isNone).isEmpty)=M then An U else(forIn ((names.drop (names.length-((U.getD #[]).toList.drop ((U.getD #[]).toList.length-names.length)).length)).zip ((U.getD #[]).toList.drop ((U.getD #[]).toList.length-names.length))) (names.zip us) λx A8=>if(fb x.1 A8).isNone=M then pure (G' (A8++[(x.1,x.2)]))else pure (G' A8))>>=AM)->(∀A8,AM A8=aq6 fd.params.vararg (us.drop names.length) ((names++[]).filterMap (λn=>(A8.lookup n).map (n,·))))->AV):AV:=by
 subst hN;obtain⟨n,q,⟨bS0,bS1,va,bS2,kw,kwa,dfs⟩,b,sc,g,cl,df,kd,d,m,an,co,ct,bS3⟩:=fd;dsimp only at h1 h2 h3;subst h1;subst h2;subst h3;exact k _ _ _ rfl λA8=>by cases va<;>rfl
theorem aq8{ds:I A4}{c:AK}{AF An:Dx (I (Y×A4))}{k:I (Y×A4)->Dx (I (Y×A4))}(nd:names.Nodup)(hd:ds.length<=names.length)(hg:names.length-ds.length<=us.length)(hc:c=A6):(if c=M then AF else if(!((names.take (names.length-(ds.drop (ds.length-names.length)).length)).filter λn=>((names.zip us).lookup n).isNone).isEmpty)=M then An else(forIn ((names.drop (names.length-(ds.drop (ds.length-names.length)).length)).zip (ds.drop (ds.length-names.length))) (names.zip us) λx A8=>if(fb x.1 A8).isNone=M then pure (G' (A8++[(x.1,x.2)]))else pure (G' A8))>>=λA8=>k ((names++[]).filterMap (λn=>(A8.lookup n).map (n,·))))=k (names.zip (OT names.length us ds)):=by
 rw[hc,CN NO,show ds.length-names.length=0 from Nat.sub_eq_zero_of_le hd,Y9,aq4 nd hg];exact(congrArg (·>>=_) aq5).trans (congrArg k ((congrArg (λl=>List.filterMap _ l) (HJ names)).trans (aq3 nd hd hg)))
section
theorem aq9{ds:I A4}{A2:I (Y×A4)->AR->Prop}(h1:fd.params.posonlyargs=[])(h2:fd.params.kwonlyargs=[])(h3:fd.params.kwarg=L)(hN:fd.params.args.map (·.arg)=names)(nd:names.Nodup)(hd:ds.length<=names.length)(hg:names.length-ds.length<=us.length)(hv:us.length<=names.length\/fd.params.vararg.isSome=M)(hs:∀A2:AL (BV A4)->AR->Prop,(∀U,(U.getD #[]).toList=ds->A2 U s)->AG Au A (NW fd.defaults) A2 E s)(h:match fd.params.vararg with
 |none=>A2 (names.zip (OT names.length us ds)) s|some a=>AG Au A (Y5 (us.drop names.length)) (λv s'=>A2 (names.zip (OT names.length us ds)++[(a.arg,v)]) s') E s):AG Au A (fX fd ⟨us,[]⟩) A2 E s:=by
 refine aq7 (us:=us) h1 h2 h3 hN ?_;intro AF An AM e eZ;rw[e,show AM=_ from funext eZ];clear e eZ h1 h2 h3 hN;generalize fd.params.vararg=va at h hv ⊢;refine A5 (hs _ λU bm=>?_);clear hs;subst bm;refine(congrArg (λx=>AG Au A x A2 E s) (aq8 nd hd hg ?_)).mpr ?_;. cases va with
 |none=>
  rcases hv with hv|hv;. rw[RY (Uc.mpr hv)];rfl
  . exact(E3 hv).elim|some a=>exact Bool.and_false _
 . cases va with
 |none=>exact AW h|some a=>exact A5 (Fd h (λ_ _ q=>AW q) λ_ _ q=>q)
end
theorem any_some{o:AL J}{f:J->AK}(h:o.any f=M):∃x,o=G x/\f x=M:=by cases o with
 |none=>exact(B3 h).elim|some x=>exact⟨x,rfl,h⟩
noncomputable def Qd(v:A4)(d k:J):J:=if v.ctorIdx=0 then k else d
theorem ar0{v:A4}{d k:J}{r:J}(h:Qd v d k=r)(hd:d=r->Bh){P:A4->Prop}(c:k=r->P .none):P v:=if q:v.ctorIdx=0 then bz7 (motive:=λv=>Qd v d k=r->P v) v q (λh=>c h) h else(hd ((CN q).symm.trans h)).elim
theorem ar2{v:A4}{d k:J}{r:J}(h:Qd v d k=r){P:A4->Prop}(c:k=r->P .none)(e:d=r->P v):P v:=if q:v.ctorIdx=0 then bz7 (motive:=λv=>Qd v d k=r->P v) v q (λh=>c h) h else e ((CN q).symm.trans h)
noncomputable def bo(v:A4)(d:J)(k:AK->J):J:=if h:v.ctorIdx=3 then bz8 (motive:=λ_=>J) v h k else d
theorem ar3{v:A4}{d:J}{k:AK->J}{r:J}(h:bo v d k=r)(hd:d=r->Bh){P:A4->Prop}(c:∀x,k x=r->P (.bool x)):P v:=if q:v.ctorIdx=3 then bz8 (motive:=λv=>bo v d k=r->P v) v q (λx h=>c x h) h else(hd ((Ch q).symm.trans h)).elim
noncomputable def Td(v:A4)(d:J)(k:Y->EM->J):J:=if h:v.ctorIdx=6 then bz9 (motive:=λ_=>J) v h k else d
theorem bp{v:A4}{d:J}{k:Y->EM->J}{r:J}(h:Td v d k=r)(hd:d=r->Bh){P:A4->Prop}(c:∀x t,k x t=r->P (.str x t)):P v:=if q:v.ctorIdx=6 then bz9 (motive:=λv=>Td v d k=r->P v) v q (λx t h=>c x t h) h else(hd ((Ch q).symm.trans h)).elim
noncomputable def bq(d:NH):AL Ka:=if h:d.ctorIdx=7 then bA0 (motive:=λ_=>AL Ka) d h G else L
theorem mn{d:NH}{f:Ka}(h:bq d=G f):d=.func f:=if q:d.ctorIdx=7 then bA0 (motive:=λd=>bq d=G f->d=.func f) d q (λ_ h=>congrArg Data.func (Bk h)) h else nomatch(Ch q).symm.trans h
noncomputable def br(d:NH):AL (BV A4):=if h:d.ctorIdx=2 then bA1 (motive:=λ_=>AL (BV A4)) d h λus _=>G us else L
theorem ar4{d:NH}{us:BV A4}(h:br d=G us):∃n,d=.seq us n:=if q:d.ctorIdx=2 then bA1 (motive:=λd=>br d=G us->∃n,d=.seq us n) d q (λ_ n h=>⟨n,congrArg (g_ · n) (Bk h)⟩) h else nomatch(Ch q).symm.trans h
noncomputable def bs(d:NH):AL (BV A4):=if h:d.ctorIdx=9 then bA2 (motive:=λ_=>AL (BV A4)) d h G else L
theorem ar5{d:NH}{us:BV A4}(h:bs d=G us):d=.fields us:=if q:d.ctorIdx=9 then bA2 (motive:=λd=>bs d=G us->d=.fields us) d q (λ_ h=>congrArg Data.fields (Bk h)) h else nomatch(Ch q).symm.trans h
noncomputable def bt(d:NH):AL (BV Fx):=if h:d.ctorIdx=3 then bA3 (motive:=λ_=>AL (BV Fx)) d h λN _=>G N else L
theorem ar6{d:NH}{N:BV Fx}(h:bt d=G N):∃n,d=.dict N n:=if q:d.ctorIdx=3 then bA3 (motive:=λd=>bt d=G N->∃n,d=.dict N n) d q (λ_ n h=>⟨n,congrArg (Data.dict · n) (Bk h)⟩) h else nomatch(Ch q).symm.trans h
noncomputable def bu(v:A4)(d:J)(k:AX->J):J:=if h:v.ctorIdx=4 then bA4 (motive:=λ_=>J) v h λi _=>k i else d
theorem ar7{v:A4}{d:J}{k:AX->J}{r:J}(h:bu v d k=r)(hd:d=r->Bh){P:A4->Prop}(c:∀x t,k x=r->P (.int x t)):P v:=if q:v.ctorIdx=4 then bA4 (motive:=λv=>bu v d k=r->P v) v q (λx t h=>c x t h) h else(hd ((Ch q).symm.trans h)).elim
noncomputable def bv(v:V)(u:A4):AK:=IL v (vBool v (vInt v (vStr v A6 λs=>Td u A6 λt _=>CY s t.cps.toList) λi=>bu u A6 λj=>decide (i=j)) λb=>bo u A6 λc=>b==c) (Qd u A6 M)
theorem ar8(e:bv v u=M):VR h C v u:=by
 apply ZQ e;. intro e;apply ar0 e B3;intro _;exact rfl
 intro e;apply jG e;. intro b e;apply ar3 e B3;intro c e;exact eq_of_beq e▸rfl
 intro e;apply Pn e;. intro i e;apply ar7 e B3;intro j k e;exact⟨k,of_decide_eq_true e▸rfl⟩
 intro e;apply Db e B3;intro s e;apply bp e B3;intro t k e;exact⟨k,EZ.mp e▸rfl⟩
theorem ar9(e:all2 bv vs us=M):Aa h C vs us:=VF (P:=Aa h C) rfl (λ_ _ _ _ q ih=>.cons (ar8 q) ih) e
noncomputable def Wl(Kf:GZ)(a:A9):AL Ka:=Az (Kf.lookup a) λo=>bq o.data
noncomputable def Ia(Kf:GZ)(a:A9):Ka:=(Wl Kf a).getD default
noncomputable def mq(Kf:GZ)(v:A4):AL (I A4):=Qd v (Kn v L λt=>Az (Kf.lookup t) λo=>Az (br o.data) λus=>G us.toList) (G [])
noncomputable def codeIn(Kf:GZ)(v:A4):AL Y:=Kn v L λc=>Az (Kf.lookup c) λo=>Az (bs o.data) λvs=>Az vs[1]? λw=>Td w L λt _=>G t
noncomputable def as0(o:AL E1):AK:=o==G .local||o==G .cell
noncomputable def fdA(fd:Ka):AK:=(fd.closure.isEmpty&&!fd.scope.isCoroutine)&&((!fd.scope.isGenerator&&fd.scope.kind==.function)&&(B8 fd.globals 3&&B8 fd.builtins 0))
noncomputable def fdB(fn:Fn):AK:=(Q3 fn.sc&&SV fn.sc.names)&&(fn.sc.names.all (λp=>p.2 !=.free)&&(Q6 (fn.ps++fn.va.toList)&&(fn.ps++fn.va.toList).all λx=>as0 (Ai fn.sc.names x)))
noncomputable def mr(Kf:GZ)(fd:Ka)(fn:Fn):AK:=(fd.params.posonlyargs.isEmpty&&fd.params.kwonlyargs.isEmpty)&&(fd.params.kwarg.isNone&&(EN fn.dflt.length fn.ps.length&&(mq Kf fd.defaults).any (all2 bv fn.dflt)))
noncomputable def mu(Kf:GZ)(fd:Ka)(fn:Fn):AK:=(fdA fd&&fdB fn)&&(mr Kf fd fn&&(codeIn Kf fd.code).any (D7 fd.qualname))
structure bw(Kf:GZ)(a:A9)(fn:Fn):Prop where
 at_:(Wl Kf a).isSome=M
 sc:(Ia Kf a).scope=fn.sc
 body:(Ia Kf a).body=.stmts fn.body
 ps:(Ia Kf a).params.args.map (·.arg)=fn.ps
 va:(Ia Kf a).params.vararg.map (·.arg)=fn.va
 ok:mu Kf (Ia Kf a) fn=M
theorem mw(r:Aa h C vs us):∀{ps:I Y},BR h C (ps.zip vs) (ps.zip us):=Aa.ind (P:=λvs us=>∀{ps:I Y},BR h C (ps.zip vs) (ps.zip us)) (λ{ps}=>by rw[u4,u4];exact rfl) (λv u vs us a _ ih ps=>by cases ps with
 |nil=>exact rfl|cons p ps=>exact .cons a ih) r
theorem BR.snoc{b:I (Y×V)}{l:I (Y×A4)}(r:BR h C b l)(a:VR h C v u):BR h C (b++[(x,v)]) (l++[(x,u)]):=BR.ind (P:=λb l=>BR h C (b++[(x,v)]) (l++[(x,u)])) (.cons a rfl) (λ_ _ _ _ _ a _ ih=>.cons a ih) r
theorem Aa.as1{x:I V}{l:I A4}(r:Aa h C x l):Aa h C (x.take n) (l.take n):=Aa.ind (P:=λx l=>∀n,Aa h C (x.take n) (l.take n)) (λn=>by cases n<;>rfl) (λ_ _ _ _ a _ ih n=>by cases n with|zero=>rfl|succ n=>exact .cons a (ih n)) r n
theorem Aa.mx{x:I V}{l:I A4}(r:Aa h C x l):Aa h C (x.drop n) (l.drop n):=Aa.ind (P:=λx l=>∀n,Aa h C (x.drop n) (l.drop n)) (λn=>by cases n<;>rfl) (λ_ _ _ _ a b ih n=>by cases n with|zero=>exact .cons a b|succ n=>exact ih n) r n
theorem my{C:Type}{l:I (Y×C)}:l.lookup x=Ai l x:=by induction l with
 |nil=>rfl|cons p l ih=>
 rw[Sj];by_cases e:x=p.1;. rw[E0.mpr e.symm];exact e▸bz1
 . rw[show D7 p.1 x=A6 from sR.mpr λq=>e (E0.mp q).symm,Wj (Wk e)];exact ih
theorem nb(h:(!b)=M):b=A6:=by cases b;rfl;exact(B3 h).elim
theorem as2(AU:Kf.In B.base){v:A4}(h:mq Kf v=G us)(st:B.base.StaysIn s.heap){A2:AL (BV A4)->AR->Prop}(k:∀U,(U.getD #[]).toList=us->A2 U s):AG Au A (NW v) A2 E s:=by
 apply ar2 h;. intro h;exact AW (k L (Bk h))
 intro h;apply Pp h AE;intro t h;apply BH h;intro o hl h;apply BH h;intro U hs h;refine A5 (NN (st _ _ (AU _ _ hl)) ?_);refine xE (ar4 hs) ?_;intro n e;rw[e];exact AW (k _ (Bk h))
theorem as3(AU:Kf.In B.base){fn:Fn}(ps:fd.params.args.map (·.arg)=fn.ps)(va:fd.params.vararg.map (·.arg)=fn.va)(hC:mr Kf fd fn=M)(nd:fn.ps.Nodup){b:I (Y×V)}(hb:J9 fn args=G b):b.map (·.1)=fn.ps++fn.va.toList/\∀{s:AR}{C:I A9}{us:I A4},B.base.StaysIn s.heap->Aa s.heap C args us->∀{Au:fH}{A:CK}{A2:I (Y×A4)->AR->Prop}{E:A4->AR->Prop},(∀K7 Q,(∀b o,s.heap.get? b=G o->Q.get? b=G o)->BR Q C b K7->A2 K7 {s with heap:=Q})->AG Au A (fX fd ⟨us,[]⟩) A2 E s:=by
 apply Cj hb AE;intro q hb;have len:=CC (Ak q);have hd:=Di (B' (Ak (Ak hC)));rw[<-Bk hb];refine⟨by rw[NR,bz5 (Eg len),Jn];exact congrArg _ (by1 _),λ{s C us}st rs{Au A A2 E}k=>?_⟩;refine AC (any_some (Ak (Ak (Ak hC)))) ?_;intro ds hds hcv;have cv:=ar9 (h:=s.heap) (C:=C) hcv;have full:Aa s.heap C (SP fn args) (OT fn.ps.length us ds):=by
   unfold SP OT;rw[rs.length,cv.length];exact rs.as1.app cv.mx
 refine aq9 (ds:=ds) (YO.mp (B' (B' hC))) (YO.mp (Ak (B' hC))) (Option.isNone_iff_eq_none.mp (B' (Ak hC))) ps nd (cv.length▸hd) ?_ ?_ (λA2 hQ=>as2 AU hds st hQ) ?_
 . rw[<-cv.length,<-rs.length];refine bj7 (len▸?_);rw[SP,F8,PV,Ut];exact UZ (sG ..) (gF ..)
 . have hl:=Di (B' q);rw[rs.length,<-va]at hl;revert hl;cases fd.params.vararg with
 |none=>exact .inl|some a=>exactλ_=>.inr rfl
 . have hl:=Di (B' q);rw[<-va]at k hl;revert k hl;cases fd.params.vararg with
 |none=>intro k _;exact k _ s.heap (λ_ _ e=>e) (by rw[show(gE _ L).toList.map _=[]from rfl,HJ];exact mw full)|some a=>
   intro k hl;have hl:args.length<=1000:=hl;refine gR ?_ (B2 (by rw[Ut];exact B2 (gF ..) (rs.length▸hl)) (by decide));have kp:∀b o,s.heap.get? b=G o->(s.heap.push {cls:=.type "tuple",data:=.seq (us.drop fn.ps.length).toArray}).get? b=G o:=λb o e=>C0 _ e;exact k _ _ kp ((mw (full.Bv λb o e _=>kp b o e)).snoc ⟨_,_,(us.drop fn.ps.length).toArray,0,rfl,CW _ rfl,⟨rfl,λ_=>⟨rfl,rfl⟩⟩,rfl,rfl,rs.mx.Bv λb o e _=>kp b o e⟩)
theorem as4(AU:Kf.In h){v:A4}{t:Y}(ht:codeIn Kf v=G t):h.CodeRec v t:=by
 apply Pp ht AE;intro c ht;apply BH ht;intro oc hc ht;apply BH ht;intro vs hs ht;apply BH ht;intro w hv ht;revert hv;apply bp ht AE;intro x tk ht hv;exact⟨c,oc,vs,tk,rfl,AU _ _ hc,ar5 hs,Bk ht▸hv⟩
theorem Mc(AU:Kf.In B.base)(lim:B.base.NoLimit){fn:Fn}(AF:bw Kf a fn):∃o fd,FnAt B a fn o fd:=by
 refine xE (u6.mp AF.at_) ?_;intro fd e;have hf:Ia Kf a=fd:=congrArg (·.getD default) e;apply BH e;intro o hl hd;have A:=B' (B' AF.ok);have b:=Ak (B' AF.ok);have nd:=b6 (B' (Ak (Ak b)));refine⟨o,Ia Kf a,AU _ _ hl,hf▸mn hd,AF.sc,AF.body,YO.mp (B' (B' A)),nb (Ak (B' A)),nb (B' (B' (Ak A))),eq_of_beq (Ak (B' (Ak A))),CC (B' (Ak (Ak A))),CC (Ak (Ak (Ak A))),B' (B' b),aO (Ak (B' b)),λx e=>?_,?_,lim,λhb=>?_⟩
 . have :=Bp.mp (B' (Ak b)) _ (FD (my▸e));exact B3 this
 . refine AC (any_some (Ak (Ak AF.ok))) ?_;intro t ht e;rw[E0.mp e];exact as4 AU ht
 . have z:=as3 AU AF.ps AF.va (B' (Ak AF.ok)) (I7.mp nd).1 hb;refine⟨z.1▸nd,λx hx=>?_,z.2⟩;have :=Bp.mp (Ak (Ak (Ak b))) x (z.1▸hx);rw[my];exact(Bool.or_eq_true_iff.mp this).imp eq_of_beq eq_of_beq
noncomputable def mz:I AB->I V
 |.Constant c _ _::r=>(match Nu c with|some v=>[v]|none=>[])++mz r|_=>[]
noncomputable def DC(s:Ar):Fn:={sc:=BU s,ps:=(S0 s).args.map (·.arg),va:=(S0 s).vararg.map (·.arg),body:=Fg s,dflt:=mz (S0 s).defaults}
noncomputable def Ib:I (O×Fn):=[(82,DC (DA 3 4)),(89,DC (DA 3 5)),(160,DC (DA 5 1)),(167,DC (DA 5 2)),(174,DC (DA 5 3)),(181,DC (DA 5 4)),(188,DC (DA 5 5)),(196,DC (DA 5 6)),(203,DC (DA 5 7)),(210,DC (DA 5 8)),(253,DC (B_ 6)),(326,DC (B_ 15)),(340,DC (B_ 19)),(347,DC (B_ 20)),(354,DC (B_ 21)),(361,DC (B_ 22)),(368,DC (B_ 23)),(375,DC (B_ 24)),(387,DC (B_ 28)),(392,DC (B_ 29)),(399,DC (B_ 30)),(404,DC (B_ 31)),(411,DC (B_ 32)),(416,DC (B_ 33)),(423,DC (B_ 34)),(430,DC (B_ 35)),(435,DC (B_ 36)),(442,DC (B_ 37))]
noncomputable def Wm:I (Y×V):=[(⟨⟨[95,119,97,108,108]⟩⟩,V.top (.ref 21)),(⟨⟨[95,116,117,112,108,101,103,101,116,116,101,114]⟩⟩,V.top (.ref 60)),(⟨⟨[77,97,116,99,104]⟩⟩,V.top (.ref 135)),(⟨⟨[95,99,97,108,99,117,108,97,116,101,95,114,97,116,105,111]⟩⟩,V.top (.ref 145)),(⟨⟨[83,101,113,117,101,110,99,101,77,97,116,99,104,101,114]⟩⟩,V.top (.ref 242)),(⟨⟨[95,102,111,114,109,97,116,95,114,97,110,103,101,95,117,110,105,102,105,101,100]⟩⟩,V.top (.ref 253)),(⟨⟨[95,112,108,97,105,110,95,110,97,109,101]⟩⟩,V.top (.ref 260)),(⟨⟨[65,66,67,77,101,116,97]⟩⟩,V.top (.ref 277)),(⟨⟨[95,65,66,67,76,105,107,101]⟩⟩,V.top (.ref 310)),(⟨⟨[95,97,98,99,95,112,108,97,105,110,95,109,101,116,97]⟩⟩,V.top (.ref 319)),(⟨⟨[102,115,112,97,116,104]⟩⟩,V.top (.ref 326)),(⟨⟨[95,99,104,101,99,107,95,97,114,103,95,116,121,112,101,115]⟩⟩,V.top (.ref 333)),(⟨⟨[95,103,101,116,95,115,101,112]⟩⟩,V.top (.ref 340)),(⟨⟨[106,111,105,110]⟩⟩,V.top (.ref 347)),(⟨⟨[115,112,108,105,116,114,111,111,116]⟩⟩,V.top (.ref 354)),(⟨⟨[98,97,115,101,110,97,109,101]⟩⟩,V.top (.ref 361)),(⟨⟨[100,105,114,110,97,109,101]⟩⟩,V.top (.ref 368)),(⟨⟨[110,111,114,109,112,97,116,104]⟩⟩,V.top (.ref 375)),(⟨⟨[115,111,114,116,101,100,95,108,105,115,116,95,100,105,102,102,101,114,101,110,99,101]⟩⟩,V.top (.ref 382)),(⟨⟨[95,108,97,119,95,116,114,101,101,115]⟩⟩,V.top (.ref 387)),(⟨⟨[95,108,97,119,95,115,116,114,97,105,103,104,116]⟩⟩,V.top (.ref 392)),(⟨⟨[95,108,97,119,95,105,110,110,101,114]⟩⟩,V.top (.ref 399)),(⟨⟨[95,108,97,119,95,116,111,108,100]⟩⟩,V.top (.ref 404)),(⟨⟨[95,108,97,119,95,103,114,111,119,110]⟩⟩,V.top (.ref 411)),(⟨⟨[95,108,97,119,95,112,97,105,114,115]⟩⟩,V.top (.ref 416)),(⟨⟨[95,108,97,119,95,114,97,110,103,101]⟩⟩,V.top (.ref 423)),(⟨⟨[95,108,97,119,95,99,104,97,110,103,101,115]⟩⟩,V.top (.ref 430)),(⟨⟨[95,108,97,119,95,119,97,108,107,101,100]⟩⟩,V.top (.ref 435)),(⟨⟨[108,97,119]⟩⟩,V.top (.ref 442)),(⟨⟨[108,101,110]⟩⟩,V.top (.builtin "len")),(⟨⟨[109,105,110]⟩⟩,V.top (.builtin "min")),(⟨⟨[109,97,120]⟩⟩,V.top (.builtin "max")),(⟨⟨[115,111,114,116,101,100]⟩⟩,V.top (.builtin "sorted")),(⟨⟨[105,115,105,110,115,116,97,110,99,101]⟩⟩,V.top (.builtin "isinstance")),(⟨⟨[105,115,115,117,98,99,108,97,115,115]⟩⟩,V.top (.builtin "issubclass")),(⟨⟨[116,121,112,101]⟩⟩,V.top (.type "type")),(⟨⟨[115,116,114]⟩⟩,V.top (.type "str")),(⟨⟨[98,121,116,101,115]⟩⟩,V.top (.type "bytes")),(⟨⟨[114,97,110,103,101]⟩⟩,V.top (.type "range")),(⟨⟨[101,110,117,109,101,114,97,116,101]⟩⟩,V.top (.type "enumerate")),(⟨⟨[115,101,116]⟩⟩,V.top (.type "set")),(⟨⟨[108,105,115,116]⟩⟩,V.top (.type "list")),(⟨⟨[109,97,112]⟩⟩,V.top (.type "map")),(⟨⟨[116,117,112,108,101]⟩⟩,V.top (.type "tuple"))]
noncomputable def bx:I (Y×A9):=[(⟨⟨[95,95,105,110,105,116,95,95]⟩⟩,160),(⟨⟨[115,101,116,95,115,101,113,115]⟩⟩,167),(⟨⟨[115,101,116,95,115,101,113,49]⟩⟩,174),(⟨⟨[115,101,116,95,115,101,113,50]⟩⟩,181),(⟨⟨[95,83,101,113,117,101,110,99,101,77,97,116,99,104,101,114,95,95,99,104,97,105,110,95,98]⟩⟩,188),(⟨⟨[102,105,110,100,95,108,111,110,103,101,115,116,95,109,97,116,99,104]⟩⟩,196),(⟨⟨[103,101,116,95,109,97,116,99,104,105,110,103,95,98,108,111,99,107,115]⟩⟩,203),(⟨⟨[103,101,116,95,111,112,99,111,100,101,115]⟩⟩,210)]
noncomputable def Fq(on:AK)(CQ:Kx->Cd->Mine.St->AL A1):Mine.Ctx:={glob:=Wm,fn:=λa=>AJ Ib a,Bn:=135,SQ:=82,jV:=89,Dj:=242,Q0:=160,Gm:=382,VY:=on,H5:=bx,CQ:=CQ}
noncomputable abbrev Md(CQ:Kx->Cd->Mine.St->AL A1):Mine.Ctx:=Fq M CQ
noncomputable abbrev Hu:Mine.Ctx:=Md λ_ _ _=>L
theorem as5{C:Type}{x:O}{v:C}{l:I (O×C)}(h:AJ l x=G v):(x,v)∈l:=Sk h
theorem OU(P:Dw){fn:Fn}(h:AJ Ib a=G fn):bw (Ba P) a fn:=by
 have e:=H'.mp (show Ib.map (λp=>((Wl (Ba P) p.1).isSome,(Ia (Ba P) p.1).scope,(Ia (Ba P) p.1).body,(Ia (Ba P) p.1).params.args.map (·.arg),(Ia (Ba P) p.1).params.vararg.map (·.arg),mu (Ba P) (Ia (Ba P) p.1) p.2))=Ib.map (λp=>(M,p.2.sc,.stmts p.2.body,p.2.ps,p.2.va,M))by kernel_rfl) _ (as5 h);exact⟨congrArg (·.1) e,congrArg (·.2.1) e,congrArg (·.2.2.1) e,congrArg (·.2.2.2.1) e,congrArg (·.2.2.2.2.1) e,congrArg (·.2.2.2.2.2) e⟩
section
variable{CQ:Kx->Cd->Mine.St->AL A1}
theorem bz(AU:(Ba P).In B.base):Cx B (Fq on CQ) (Ba P)where
 AU:=AU;makes:=by kernel_rfl
 init:=by kernel_rfl
 kz:=by kernel_rfl
 ga:=by kernel_rfl
 l3:=by kernel_rfl
 l4:=by kernel_rfl
 over:=by kernel_rfl
 ae:=by kernel_rfl
 attrs:=λa h=>by
  refine AC (IC.mp h) ?_;intro x hx e;exact E0.mp e▸H'.mp (show Zp.map (Gg (Ba P) (.ref 242))=Zp.map λ_=>G L by kernel_rfl) x hx
 meths:=λm a h=>by
  have e:=H'.mp (show bx.map (λp=>(Gg (Ba P) (.ref 242) p.1,sx (Ba P) (.ref p.2)))=bx.map (λp=>(G (G (.ref p.2)),G (.type "function")))by kernel_rfl) _ (FD h);exact⟨congrArg (·.1) e,congrArg (·.2) e⟩
theorem n4:HT B (Fq on CQ) (Ba P)where
 at_:=rfl;cls:=by
  have :∃o,(Ba P).lookup 135=G o/\(match o.data with|.cls cd=>!cd.hasDel|_=>A6)=M:=⟨j7 P,by kernel_rfl,by kernel_rfl⟩;refine AC this ?_;(try clear this);intro Av e h;obtain⟨oc,od,d,sl⟩:=Av;cases d<;>first|(exact(E3 h).elim;done)|skip
  exact⟨_,_,_,_,e,by simpa using h⟩
 call:=by kernel_rfl
 typ:=by kernel_rfl
 self:=by kernel_rfl
 tup:=by kernel_rfl
 obj:=by kernel_rfl
 init:=by kernel_rfl
 len:=by kernel_rfl
 iter:=by kernel_rfl
 mro:=λA8=>by kernel_rfl
 made:=λA8=>by kernel_rfl
 l9:=λA8=>by kernel_rfl
 here:=λA8=>by kernel_rfl
 lA:=λA8 T=>by kernel_rfl
 reads:=by kernel_rfl
 new:=⟨136,by kernel_rfl,[],by kernel_rfl⟩
theorem c5:We (Ba P)where
 mS:=λA8=>by kernel_rfl
 typ:=λA8=>by kernel_rfl
 b_:=by kernel_rfl
 sub:=by kernel_rfl
 new:=by kernel_rfl
theorem n5:Gg (Ba P) (.ref (Fq on CQ).Bn) "__lt__"=G (G (.builtin "tuple.__lt__")):=by kernel_rfl
theorem n6:Ai (Fq on CQ).glob WU=G (.top (.type "enumerate")):=by kernel_rfl
noncomputable def n7(Kf:GZ)(a:A9):AL (BV Fx):=Az (Kf.lookup a) λo=>bt o.data
noncomputable def Te(Kf:GZ)(a:A9):BV Fx:=(n7 Kf a).getD #[]
noncomputable def as6(Kf:GZ)(a:A9):AK:=(n7 Kf a).any λN=>N.toList.all λe=>Td e.key A6 λ_ _=>M
theorem Tf(AU:Kf.In h)(e:as6 Kf a=M):h.Ns a (NS (Te Kf a)):=by
 refine AC (any_some e) ?_;intro N e1 e2;rw[show Te Kf a=N from congrArg (·.getD #[]) e1];apply BH e1;intro o hl hd;refine xE (ar6 hd) ?_;intro ep he;refine⟨o,N,ep,AU _ _ hl,he,λx hx=>?_,λ_=>rfl⟩;have :=Bp.mp e2 x (fk.mpr hx);revert this;generalize x.key=k;intro q;apply bp q B3;intro n t _;exact⟨n,t,rfl⟩
theorem Me(AU:(Ba P).In h):h.NoLimit:=⟨_,Tf AU (by kernel_rfl),by kernel_rfl⟩
theorem Wn(AU:(Ba P).In B.base):TZ B (Fq on CQ)where
 fn:=λa fn h=>Mc AU (Me AU) (OU P h);Gm:=by
  refine xE (u6.mp (show(Wl (Ba P) 382).isSome=M by kernel_rfl)) ?_;intro fd h;apply BH h;intro o hl hd;exact⟨o,fd,AU _ _ hl,mn hd⟩
theorem GH(AU:(Ba P).In B.base):Gl B (Fq on CQ):=⟨_,_,Tf AU (by kernel_rfl),Tf AU (by kernel_rfl),λx v h=>by
 have e:=H'.mp (show Wm.map (λp=>(match NS (Te (Ba P) 3) p.1 with|some w=>G w|none=>NS (Te (Ba P) 0) p.1).map V.top)=Wm.map (λp=>G p.2)by kernel_rfl) _ (FD h);refine AC (u7.mp e) ?_;clear e;intro w e q;refine⟨w,q.symm,?_⟩;revert e;cases NS (Te (Ba P) 3) x with
 |none=>exactλe=>.inr ⟨rfl,e⟩|some w=>exact .inl⟩
end
mutual
noncomputable def EK(B9:O->O):V->V
 |.ref i=>.ref (B9 i)|.Az k i=>.Az k (B9 i)|.tup c U=>.tup c (Cr B9 U)|v=>v
noncomputable def Cr(B9:O->O):I V->I V
 |[]=>[]|v::l=>EK B9 v::Cr B9 l
end
noncomputable def JN(B9:O->O)(e:V×V):V×V:=(e.1,EK B9 e.2)
noncomputable def Qe(B9:O->O)(e:Y×V):Y×V:=(e.1,EK B9 e.2)
noncomputable def DP(B9:O->O):Ob->Ob
 |.list U=>.list (Cr B9 U)|.dict N=>.dict (N.map (JN B9))|.B1 N=>.B1 (N.map (JN B9))|.EV N=>.EV (N.map (Qe B9))|.rows r U=>.rows r U|.HP=>.HP|.inst c d=>.inst c (B9 d)
theorem c6{f:J->F9}:∀{m:I F9}{l:I J},m.Perm (l.map f)->∃l':I J,l'.Perm l/\m=l'.map f
 |[],l,h=>by
  have :=h.length_eq;cases l with
  |nil=>exact⟨[],.refl _,rfl⟩|cons _ _=>simp at this
 |b::m,l,h=>by
  refine AC (Dz.mp (h.subset (Co ..))) ?_;intro a ha Av;subst Av;refine D9 (List.append_of_mem ha) ?_;intro s t B5;clear ha;subst B5;have h2:(f a::m).Perm (f a::(s++t).map f):=h.trans (by
  rw[NR,I9,NR];exact bA5);refine AC (c6 (bO0 h2)) ?_;intro l' hl BI;clear h h2;subst BI;exact⟨a::l',(hl.cons a).trans bA5.symm,rfl⟩
section
theorem VR.DU(Dh:∀j,AZ[j]?=As[B9 j]?):VR h AZ v u↔VR h As (EK B9 v) u:=V.rec (motive_1:=λv=>∀u,VR h AZ v u↔VR h As (EK B9 v) u) (motive_2:=λU=>∀us,Aa h AZ U us↔Aa h As (Cr B9 U) us) (λ_=>.rfl) (λ_ _=>.rfl) (λ_ _=>.rfl) (λ_ _=>.rfl) (λ_ _ ih _=>HM λ_=>HM λ_=>HM λus=>HM λ_=>He .rfl (He .rfl (He .rfl (He .rfl (He .rfl (ih us.toList)))))) (λ_ _=>.rfl) (λi _=>HM λ_=>He (Dh i▸.rfl) .rfl) (λ_ _ _=>.rfl) (λ_ i _=>HM λ_=>HM λ_=>He .rfl (He (Dh i▸.rfl) .rfl)) (λ_ _ _ _=>.rfl) (λ_ _ _=>.rfl) (λ_ _=>.rfl) (λ_=>.rfl) (λ_=>.rfl) (λ_ _ x y _=>HM λu=>HM λus=>He .rfl (He (x u) (y us))) v u
theorem Aa.DU(Dh:∀j,AZ[j]?=As[B9 j]?){v:I V}:∀{u:I A4},Aa h AZ v u↔Aa h As (Cr B9 v) u:=by induction v with
 |nil=>exact .rfl|cons x l ih=>exact HM λu=>HM λus=>He .rfl (He (VR.DU Dh) ih)
theorem OV:∀{l:I V},Cr B9 l=l.map (EK B9)
 |[]=>rfl|_::l=>by simp[Cr,OV (l:=l)]
theorem LJ(l:I Tx):Cr B9 (l.map V.str)=l.map V.str:=by rw[OV,Jn];rfl
theorem as7{p:Tx}:EK B9 (O' p l)=O' p l:=by cases l with
 |nil=>rfl|cons t r=>
 show V.tup L (Cr B9 (.str t::.str p::r.map .str))=_;simp only[Cr,LJ];rfl
theorem as8{x:Sg}:Cr B9 (IQ x)=IQ x:=by cases x with
 |it l=>
  show[V.tup L (Cr B9 (l.map V.str))]=_;rw[LJ];rfl|tx t=>rfl|run p a b=>
  show Cr B9 ((CI a b).map (O' p))=(CI a b).map (O' p);rw[OV,Jn];exact gb λl _=>as7
theorem as9{l:I Sg}:Cr B9 (DM l)=DM l:=by
 rw[OV];unfold DM;induction l with
 |nil=>rfl|cons x l ih=>rw[YP,NR,ih,<-OV,as8]
theorem DR.DU{key:T->V}(Dh:∀j,AZ[j]?=As[B9 j]?):∀{l:I (T×A4)},DR key h AZ N l↔DR key h As (N.map (JN B9)) l:=by induction N with
 |nil=>exact V2|cons e N ih=>exact HM λk=>HM λu=>HM λr=>He V2 (He V2 (He (VR.DU Dh) ih))
theorem Dm.DU(Dh:∀j,AZ[j]?=As[B9 j]?):Dm prog w h AZ a N↔Dm prog w h As a (N.map (JN B9)):=by
 unfold Dm;simp only[DR.DU Dh]
theorem Tg{N:I (Y×V)}:Ai (N.map (Qe B9)) x=(Ai N x).map (EK B9):=by induction N with
 |nil=>rfl|cons e N ih=>
 simp only[I9,Ai,Qe];cases D7 e.1 x with
 |true=>rfl|false=>exact ih
theorem C_.DU(Dh:∀j,AZ[j]?=As[B9 j]?):C_ prog w h AZ a o↔C_ prog w h As a (DP B9 o):=by cases o with
 |list U=>simp only[C_,DP,Aa.DU Dh]|dict N=>exact Dm.DU Dh|B1 N=>
  simp only[C_,DP,Vq,and_true];constructor;. rintro⟨BM,p,y⟩;exact⟨_,p.map _,(Dm.DU Dh).mp y⟩
  . rintro⟨BM,p,y⟩;refine AC (c6 p) ?_;intro at0 p' BO;clear p;subst BO;exact⟨at0,p',(Dm.DU Dh).mpr y⟩|EV N=>
  simp only[C_,DP];constructor
  . rintro⟨m,ns,r⟩;refine⟨m,ns,λx=>?_⟩;have :=r x;rw[Tg];cases e:Ai N x with
 |none=>rw[e]at this;exact this|some v=>rw[e]at this;refine AC this ?_;(try clear this);intro u q z;exact⟨u,q,(VR.DU Dh).mp z⟩
  . rintro⟨m,ns,r⟩;refine⟨m,ns,λx=>?_⟩;have :=r x;rw[Tg]at this;cases e:Ai N x with
  |none=>rw[e]at this;exact this|some v=>rw[e]at this;refine AC this ?_;(try clear this);intro u q z;exact⟨u,q,(VR.DU Dh).mpr z⟩
 |rows r U=>
  simp only[C_,DP];have :∀{us:I A4},Aa h AZ (DM U) us↔Aa h As (DM U) us:=λ{us}=>by
    have :=Aa.DU (h:=h) (B9:=B9) Dh (v:=DM U) (u:=us);rw[as9]at this;exact this
  simp only[this]|HP=>exact V2|inst c d=>
  show(∃da,AZ[d]?=G da/\_)↔∃da,As[B9 d]?=G da/\_;rw[Dh]
end
noncomputable def DH(n:O)(B6:I O)(j:O):O:=match B6[j]? with|some i=>i|none=>n+(j-B6.length)
structure Sub(H:Mine.St)(DG:Mine.St)(B6:I O):Prop where
 len:B6.length=DG.n
 nodup:B6.Nodup
 lt:∀i∈B6,i<H.n
 obs:∀j o,AJ DG.h j=G o->∃i,B6[j]?=G i/\AJ H.h i=G (DP (DH H.n B6) o)
noncomputable def Bz(C:I A9)(B6:I O):I A9:=B6.map λi=>C.getD i 0
section
variable{J:I A9}
theorem GI(hl:C.length=n)(KI:∀i∈B6,i<n)(j:O):(Bz C B6++J)[j]?=(C++J)[DH n B6 j]?:=by
 have hz:(Bz C B6).length=B6.length:=by simp[Bz]
 unfold DH;cases e:B6[j]? with
 |none=>
  have :B6.length<=j:=by simpa using e
  show _=(C++J)[n+(j-B6.length)]?;rw[V1 (hz▸this),V1 (hl▸Gz _ _),hz,hl,bA6]|some i=>
  have hi:i<C.length:=by rw[hl];exact KI i (Es e)
  refine xE (HH.mp e) ?_;intro hj _;rw[Xq (hz.symm▸hj),Xq hi];unfold Bz;rw[V3,e];simp[Kh,hi]
theorem LL(hl:C.length=n)(KI:∀i∈B6,i<n)(h:a∈Bz C B6):a∈C:=by
 refine AC (Dz.mp h) ?_;intro i hi Av;clear h;subst Av;have :i<C.length:=by rw[hl];exact KI i hi
 simp[Kh,this]
theorem Gd.sub(g:Gd B F K A H C s)(AF:Sub H DG B6)(hd:d<=K.d)(he:Cc F s.heap (Bz C B6) DG.env):Gd B F ⟨K.sc,d⟩ A DG (Bz C B6) s where
 kinds:=⟨g.kinds.fn,g.kinds.sc,g.kinds.kd,g.kinds.g3,g.kinds.b0,g.kinds.cells,g.kinds.IR,g.kinds.MH⟩;len:=by rw[<-AF.len];simp[Bz]
 nodup:=by
  unfold Bz;rw[u8,fc];refine AF.nodup.imp_of_mem λ{a b}ha hb Cb e=>Cb ?_;have h1:a<C.length:=by rw[g.len];exact AF.lt a ha
  have h2:b<C.length:=by rw[g.len];exact AF.lt b hb
  have e':C[a]?=C[b]?:=by simpa[Kh,h1,h2]using e
  exact(RK h1 g.nodup).mp e'
 fresh:=λa m=>g.fresh a (LL g.len AF.lt m);live:=λa m=>g.live a (LL g.len AF.lt m);D4:=λa m=>⟨(g.D4 a m).1,λz=>(g.D4 a m).2.1 (LL g.len AF.lt z),(g.D4 a m).2.2⟩;D0:=λc m=>⟨λz=>(g.D0 c m).1 (LL g.len AF.lt z),(g.D0 c m).2⟩;objs:=λj o e=>by
  refine AC (AF.obs j o e) ?_;intro i hi e';refine AC (g.objs i _ e') ?_;intro a ha r;have En:∀j,(Bz C B6)[j]?=C[DH H.n B6 j]?:=λj=>by
   have :=GI (J:=[]) g.len AF.lt j;simpa using this
  refine⟨a,?_,(C_.DU En).mpr r⟩;rw[En];unfold DH;rw[hi];exact ha
 env:=he;base:=g.base;os:=g.os;gens:=g.gens;frames:=g.frames;DN:=g.DN;Cw:=λA0 m=>⟨λz=>(g.Cw A0 m).1 (LL g.len AF.lt z),(g.Cw A0 m).2⟩;mods:=g.mods;handled:=g.handled;depth:=by have :=g.depth;show A.depth+3*d<900;(with_reducible exact Mine.yW (by assumption) (by assumption))
 units:=by have :=g.units;show A.units+10*d<9000;(with_reducible exact Mine.yW (by assumption) (by assumption))
theorem Cc.nil(g:Gd B F K A H C s):Cc F s.heap BE []:=by
 refine CX g.env ?_;intro m ns ce _;exact⟨m,ns,ce,λx v e=>(AE e).elim⟩
structure n8(H DG AA A7:Mine.St)(B6:I O):Prop where
 env:A7.env=H.env
 le:DG.n<=AA.n
 n:A7.n=H.n+(AA.n-DG.n)obs:∀i o,AJ A7.h i=G o->(∃j LM,AJ AA.h j=G LM/\i=DH H.n B6 j/\o=DP (DH H.n B6) LM)\/(AJ H.h i=G o/\i∉B6)
theorem Gd.out(g:Gd B F K A H C s)(AF:Sub H DG B6)(g':Gd B F K' A' AA AS s')(x:Nx F.D [] s.heap s'.heap (Bz C B6) AS)(BK:n8 H DG AA A7 B6):∃J,AS=Bz C B6++J/\Gd B F K A A7 (C++J) s'/\Nx F.D [] s.heap s'.heap C (C++J):=by
 refine AC x.pre ?_;intro J B5 GA;subst B5;have hz:(Bz C B6).length=B6.length:=by simp[Bz]
 have TX:=g'.len;rw[F8,hz,AF.len]at TX;have hx:Nx F.D [] s.heap s'.heap C (C++J):=⟨⟨J,rfl,GA⟩,x.live,x.Bv,λb o e n m=>x.same b o e (λz=>n (LL g.len AF.lt z)) m⟩;have nd:=g'.nodup;rw[I7]at nd;refine⟨J,rfl,g.back hx (by rw[F8,g.len,BK.n];exact congrArg (H.n+·) (bj6 TX)) ?_ ?_ ?_ ?_ g'.base g'.os g'.gens (by rw[BK.env];exact Cc.Gq g g.env hx),hx⟩
 . refine I7.mpr ⟨g.nodup,nd.2.1,λa ha b hb e=>?_⟩;subst e;refine xE (g.live a ha) ?_;intro o e;rw[GA a hb]at e;exact(BB e).elim
 . intro a m;rcases Do.mp m with m|m;. exact g.fresh a m
   . exact g'.fresh a (PZ _ m)
 . intro a m;rcases Do.mp m with m|m;. refine xE (g.live a m) ?_;intro o e;exact x.live a o e
   . exact g'.live a (PZ _ m)
 . intro i o e;have En:=GI (C:=C) (J:=J) g.len AF.lt;rcases BK.obs i o e with BO|Bo;refine Bu BO ?_;(try clear BO);intro j LM ej Bf Br;subst Bf;subst Br;rotate_left;refine xA Bo ?_;(try clear Bo);intro e hi;rotate_left
   . refine AC (g'.objs j LM ej) ?_;intro a ha r;exact⟨a,by rw[<-En];exact ha,(C_.DU En).mp r⟩
   . refine AC (g.objs i o e) ?_;intro a ha r;refine⟨a,FV ha,r.mono x.Bv λy ey=>x.keep a y ey (λz=>hi ?_) (by simp) (λz=>absurd (Es ha) (g.Cw a z).1)⟩;refine AC (Dz.mp z) ?_;intro j hj e';have h1:j<C.length:=by rw[g.len];exact AF.lt j hj
     have h2:C[j]?=G a:=by rw[<-e'];simp[Kh,h1]
     have :j=i:=(RK h1 g.nodup).mp (h2.trans ha.symm);exact this▸hj
theorem n9{Wo:V}(OW:∀{F:Fm}{A:CK}{C:I A9}{s:AR}{us:I A4},Gd B F ⟨K.sc,d⟩ A DG C s->Aa s.heap C MI us->Ae B F ⟨K.sc,d⟩ A AA C s (CD fu us) (RV Wo))(he:DG.env=[])(hd:d<=K.d)(g:Gd B F K A H C s)(AF:Sub H DG B6)(BK:n8 H DG AA A7 B6)(ha:args=Cr (DH H.n B6) MI)(hv:v=EK (DH H.n B6) Wo)(rs:Aa s.heap C args us):Ae B F K A A7 C s (CD fu us) (RV v):=by
 intro A2 E k;have c7:∀j,(Bz C B6)[j]?=C[DH H.n B6 j]?:=λj=>by
  have :=GI (J:=[]) g.len AF.lt j;simpa using this
 subst ha;subst hv;refine OW (g.sub AF hd (by rw[he];exact Cc.nil g)) ((Aa.DU c7).mpr rs) A2 E λu AS s' g' x' r'=>?_;refine CX (g.out AF g' x' BK) ?_;intro J BI gg xx;clear g' x';subst BI;exact k u _ s' gg xx ((VR.DU (GI g.len AF.lt)).mp r')
end
section
variable{CQ:Kx->Cd->Mine.St->AL A1}
structure De(B:Bs):Prop where
 Gm:∀CQ,Ta B (Md CQ)sset:∀CQ,bh B (Md CQ)lmap:∀CQ,bj B (Md CQ)
theorem c8(AU:(Ba P).In B.base)(AV:De B)(sm:Mb B (Md CQ)):Ok B (Md CQ) (Ba P):=⟨bz AU,n4,c5,Wn AU,GH AU,n6,n5,AV.Gm _,AV.sset _,AV.lmap _,sm⟩
theorem at1:Mb B Hu:=⟨λh=>(by exact(BB h).elim),λh=>(by exact(BB h).elim),λh=>(by exact(BB h).elim),λh=>(by exact(BB h).elim),λh=>(by exact(BB h).elim)⟩
theorem c9(AU:(Ba P).In B.base)(AV:De B)(n:O):All B Hu n:=Wi (c8 AU AV at1) n
end
mutual
noncomputable def Fs:V->AK
 |.ref _=>A6|.Az _ _=>A6|.tup _ U=>JO U|_=>M
noncomputable def JO:I V->AK
 |[]=>M|v::l=>Fs v&&JO l
end
section
theorem nA(h:JO vs=M):∀v∈vs,Fs v=M:=by induction vs with
 |nil=>exactλ_ m=>nomatch m|cons x l ih=>exactλv m=>(Ci.mp m).elim (λe=>e▸B' h) (ih (Ak h) v)
theorem VR.Fs:Mine.Fs v=M->VR h AZ v u->VR h As v u:=V.ind (P:=λv=>∀u,Mine.Fs v=M->VR h AZ v u->VR h As v u) (λ_ k u _ e=>k _ _ _ _ u e) (λ_ _ _ _ e=>e) (λ_ _ c=>(B3 c).elim) (λ_ _ _ c=>(B3 c).elim) (λ_ _ ih _ c e=>Kl e λa o us n e g t k d r=>⟨a,o,us,n,e,g,t,k,d,r.imp λv m u=>ih v m u (nA c v m)⟩) v u
theorem Aa.Fs{v:I V}{u:I A4}(c:JO v=M)(r:Aa h AZ v u):Aa h As v u:=r.imp λv m _=>VR.Fs (nA c v m)
end
section
variable{J:I A9}
theorem call_plain(OW:∀{F:Fm}{A:CK}{C:I A9}{s:AR}{us:I A4},Gd B F ⟨K.sc,d⟩ A ⟨[],[],0⟩ C s->Aa s.heap C args us->Ae B F ⟨K.sc,d⟩ A AA C s (CD fu us) (RV v))(ha:JO args=M)(hv:Fs v=M)(hd:d<=K.d)(g:Gd B F K A H C s)(rs:Aa s.heap C args us):Ae B F K A H C s (CD fu us) (RV v):=by
 intro A2 E k;have AF:Sub H ⟨[],[],0⟩ []:=⟨rfl,HI,λi m=>(by(exfalso;cases m)),λj o e=>(by exact(BB e).elim)⟩;refine OW (g.sub AF hd (Cc.nil g)) (Aa.Fs ha rs) A2 E λu AS s' g' x' r'=>?_;have hx:Nx F.D [] s.heap s'.heap C C:=⟨⟨[],by simp,λb m=>(by(exfalso;cases m))⟩,x'.live,x'.Bv,λb o e n m=>x'.same b o e (λz=>(by(exfalso;cases z))) m⟩;refine k u C s' (g.back hx g.len g.nodup g.fresh (λa m=>?_) (λi o e=>?_) g'.base g'.os g'.gens (Cc.Gq g g.env hx)) hx (VR.Fs hv r');. refine xE (g.live a m) ?_;intro o e;exact x'.live a o e
 . refine AC (g.objs i o e) ?_;intro a ha r;have :=r.mono (J:=[]) x'.Bv λy ey=>x'.keep a y ey (λz=>by(exfalso;cases z)) (by simp) (λz=>absurd (Es ha) (g.Cw a z).1);exact⟨a,ha,by simpa using this⟩
end
noncomputable def Th(a b:V):AK:=vInt a (vStr a (IL a A6 (IL b A6 M)) λx=>vStr b A6 λy=>CY x y) λx=>vInt b A6 λy=>decide (x=y)
theorem nB{a b:V}(h:Th a b=M){P:V->V->Prop}(n:P .none .none)(i:∀x,P (.int x) (.int x))(s:∀x,P (.str x) (.str x)):P a b:=by
 apply Pn h;. intro x h;apply Cu h B3;intro y h;exact of_decide_eq_true h▸i x
 intro h;apply Np h;. intro x h;apply Db h B3;intro y h;exact EZ.mp h▸s x
 intro h;apply Po h B3;intro h;apply Po h B3;intro _;exact n
theorem nC{a b:V}(h:Th a b=M):a=b:=nB (P:=λa b=>a=b) h rfl (λ_=>rfl) λ_=>rfl
theorem nE{a b:V}(h:Th a b=M):Fs b=M:=nB (P:=λ_ b=>Fs b=M) h rfl (λ_=>rfl) λ_=>rfl
noncomputable def Ti(a b:I V):AK:=all2 Th a b
theorem nF{a b:I V}(h:Ti a b=M):a=b:=Ng (λ_ _=>nC) a b h
theorem at2{a b:I V}(h:Ti a b=M):JO b=M:=VF (P:=λ_ b=>JO b=M) rfl (λa b x y q ih=>show(Fs b&&JO y)=M by rw[nE q,ih];rfl) h
noncomputable def LN(o:A1)(v:V):AK:=K0 o A6 λw _=>Th w v
theorem at3{o:A1}(h:LN o v=M):(∃H,o=.ok (.v v) H)/\Fs v=M:=by
 apply Vo h B3;intro w H h;exact⟨⟨H,by rw[nC h]⟩,nE h⟩
noncomputable def Wp:I (I V×V)->I V->AL V
 |[],_=>L|e::l,a=>bC (Ti a e.1) (G e.2) (Wp l a)
theorem nG{a:I V}{l:I (I V×V)}:Wp l a=G v->(a,v)∈l/\JO a=M:=by induction l with
 |nil=>exactλh=>(AE h).elim|cons e l ih=>
 intro h;refine Fi (show bC (Ti a e.1) (G e.2) (Wp l a)=G v from h) (λq h=>?_) λ_ h=>⟨Cp _ (ih h).1,(ih h).2⟩;have :=nF q;exact⟨by rw[this,<-Bk h];exact Co,this▸at2 q⟩
noncomputable def nH:I (I V×V):=[([.str [47]],.str [47]),([.str [47,97]],.str [47]),([.str [47,97,47,98]],.str [47,97]),([.str [47,97,47,98,47,103]],.str [47,97,47,98]),([.str [47,97,47,102]],.str [47,97]),([.str [47,103]],.str [47]),([.str [47,103,47,112]],.str [47,103]),([.str [47,103,47,113]],.str [47,103]),([.str [47,104]],.str [47]),([.str [47,107]],.str [47]),([.str [47,107,47,112]],.str [47,107]),([.str [47,107,47,113]],.str [47,107]),([.str [47,109]],.str [47]),([.str [47,110]],.str [47]),([.str [47,110,47,107]],.str [47,110])]
noncomputable def nI:I (I V×V):=[([.str [47]],.str []),([.str [47,97]],.str [97]),([.str [47,97,47,98]],.str [98]),([.str [47,97,47,98,47,103]],.str [103]),([.str [47,97,47,102]],.str [102]),([.str [47,103]],.str [103]),([.str [47,103,47,112]],.str [112]),([.str [47,103,47,113]],.str [113]),([.str [47,104]],.str [104]),([.str [47,107]],.str [107]),([.str [47,107,47,112]],.str [112]),([.str [47,107,47,113]],.str [113]),([.str [47,109]],.str [109]),([.str [47,110]],.str [110]),([.str [47,110,47,107]],.str [107])]
noncomputable def nJ:I (I V×V):=[([.str [47],.str [97]],.str [47,97]),([.str [47],.str [103]],.str [47,103]),([.str [47],.str [104]],.str [47,104]),([.str [47],.str [107]],.str [47,107]),([.str [47],.str [109]],.str [47,109]),([.str [47],.str [110]],.str [47,110]),([.str [47,97],.str [98]],.str [47,97,47,98]),([.str [47,97],.str [102]],.str [47,97,47,102]),([.str [47,97,47,98],.str [103]],.str [47,97,47,98,47,103]),([.str [47,103],.str [112]],.str [47,103,47,112]),([.str [47,103],.str [113]],.str [47,103,47,113]),([.str [47,107],.str [112]],.str [47,107,47,112]),([.str [47,107],.str [113]],.str [47,107,47,113]),([.str [47,110],.str [107]],.str [47,110,47,107])]
noncomputable def nK:I (I V×V):=[([.str [47,115,47,46,46,47,47,97,47,47,102,47,46]],.str [47,97,47,102]),([.str [47,115,47,46,46,47,47,97,47,47,98,47,47,103,47,46]],.str [47,97,47,98,47,103]),([.str [47,115,47,46,46,47,47,104,47,46]],.str [47,104]),([.str [47,115,47,46,46,47,47,109,47,46]],.str [47,109]),([.str [47,115,47,46,46,47,47,107,47,47,112,47,46]],.str [47,107,47,112]),([.str [47,115,47,46,46,47,47,107,47,47,113,47,46]],.str [47,107,47,113]),([.str [47,115,47,46,46,47,47,97,47,47,98,47,46]],.str [47,97,47,98]),([.str [47,115,47,46,46,47,47,110,47,47,107,47,46]],.str [47,110,47,107]),([.str [47,115,47,46,46,47,47,97,47,46]],.str [47,97]),([.str [47,115,47,46,46,47,47,103,47,47,112,47,46]],.str [47,103,47,112]),([.str [47,115,47,46,46,47,47,103,47,47,113,47,46]],.str [47,103,47,113])]
noncomputable def nL:I (I V×V):=[([.int 0,.int 0],.str [48,44,48]),([.int 0,.int 1],.str [49]),([.int 0,.int 2],.str [49,44,50]),([.int 0,.int 3],.str [49,44,51]),([.int 0,.int 4],.str [49,44,52]),([.int 0,.int 5],.str [49,44,53]),([.int 0,.int 6],.str [49,44,54]),([.int 1,.int 1],.str [49,44,48]),([.int 1,.int 2],.str [50]),([.int 1,.int 3],.str [50,44,50]),([.int 1,.int 4],.str [50,44,51]),([.int 1,.int 5],.str [50,44,52]),([.int 1,.int 6],.str [50,44,53]),([.int 2,.int 2],.str [50,44,48]),([.int 2,.int 3],.str [51]),([.int 2,.int 4],.str [51,44,50]),([.int 2,.int 5],.str [51,44,51]),([.int 2,.int 6],.str [51,44,52]),([.int 3,.int 3],.str [51,44,48]),([.int 3,.int 4],.str [52]),([.int 3,.int 5],.str [52,44,50]),([.int 3,.int 6],.str [52,44,51]),([.int 4,.int 4],.str [52,44,48]),([.int 4,.int 5],.str [53]),([.int 4,.int 6],.str [53,44,50]),([.int 5,.int 5],.str [53,44,48]),([.int 5,.int 6],.str [54]),([.int 6,.int 6],.str [54,44,48])]
noncomputable def nN:I (I V×V):=[([.int 0,.int 0],.str [48,44,48]),([.int 0,.int 1],.str [49]),([.int 0,.int 2],.str [49,44,50]),([.int 0,.int 3],.str [49,44,51]),([.int 0,.int 4],.str [49,44,52]),([.int 0,.int 5],.str [49,44,53]),([.int 0,.int 6],.str [49,44,54]),([.int 1,.int 0],.str [49,44,48]),([.int 1,.int 1],.str [50]),([.int 1,.int 2],.str [50,44,50]),([.int 1,.int 3],.str [50,44,51]),([.int 1,.int 4],.str [50,44,52]),([.int 1,.int 5],.str [50,44,53]),([.int 2,.int 0],.str [50,44,48]),([.int 2,.int 1],.str [51]),([.int 2,.int 2],.str [51,44,50]),([.int 2,.int 3],.str [51,44,51]),([.int 2,.int 4],.str [51,44,52]),([.int 3,.int 0],.str [51,44,48]),([.int 3,.int 1],.str [52]),([.int 3,.int 2],.str [52,44,50]),([.int 3,.int 3],.str [52,44,51]),([.int 4,.int 0],.str [52,44,48]),([.int 4,.int 1],.str [53]),([.int 4,.int 2],.str [53,44,50]),([.int 5,.int 0],.str [53,44,48]),([.int 5,.int 1],.str [54]),([.int 6,.int 0],.str [54,44,48])]
noncomputable def Tj:I (O×I (I V×V)):=[(368,nH),(361,nI),(347,nJ),(375,nK),(253,nL),(423,nN)]
noncomputable def Qf(K:Kx)(c:Cd)(H:Mine.St):AL A1:=match c with
 |.call f args=>IK f L λw=>Kn w L λa=>bT (EN 5 K.d) L<|Az (AJ Tj a) λt=>Az (Wp t args) λv=>G (.ok (.v v) H)|_=>L
noncomputable abbrev C2:Mine.Ctx:=Md Qf
theorem at4(sc:BS):(nH.all λe=>LN (ev Hu 60 ⟨sc,5⟩ (.call (.top (.ref 368)) e.1) ⟨[],[],0⟩) e.2)=M:=by kernel_rfl
theorem at5(sc:BS):(nI.all λe=>LN (ev Hu 60 ⟨sc,5⟩ (.call (.top (.ref 361)) e.1) ⟨[],[],0⟩) e.2)=M:=by kernel_rfl
theorem at6(sc:BS):(nJ.all λe=>LN (ev Hu 60 ⟨sc,5⟩ (.call (.top (.ref 347)) e.1) ⟨[],[],0⟩) e.2)=M:=by kernel_rfl
theorem at7(sc:BS):(nK.all λe=>LN (ev Hu 60 ⟨sc,5⟩ (.call (.top (.ref 375)) e.1) ⟨[],[],0⟩) e.2)=M:=by kernel_rfl
theorem at8(sc:BS):(nL.all λe=>LN (ev Hu 60 ⟨sc,5⟩ (.call (.top (.ref 253)) e.1) ⟨[],[],0⟩) e.2)=M:=by kernel_rfl
theorem at9(sc:BS):(nN.all λe=>LN (ev Hu 60 ⟨sc,5⟩ (.call (.top (.ref 423)) e.1) ⟨[],[],0⟩) e.2)=M:=by kernel_rfl
theorem au0{a:O}{t:I (I V×V)}(h:AJ Tj a=G t)(sc:BS):(t.all λe=>LN (ev Hu 60 ⟨sc,5⟩ (.call (.top (.ref a)) e.1) ⟨[],[],0⟩) e.2)=M:=all_cons (p:=λp:O×I (I V×V)=>(p.2.all λe=>LN (ev Hu 60 ⟨sc,5⟩ (.call (.top (.ref p.1)) e.1) ⟨[],[],0⟩) e.2)=M) (at4 sc) (all_cons (at5 sc) (all_cons (at6 sc) (all_cons (at7 sc) (all_cons (at8 sc) (all_cons (at9 sc) EA))))) (a,t) (Sk h)
theorem au1:(Tj.all λp=>(AJ Ib p.1).isSome)=M:=by kernel_rfl
theorem au2{a:O}{t:I (I V×V)}(h:AJ Tj a=G t):∃fn,AJ Ib a=G fn:=u6.mp (Bp.mp au1 (a,t) (Sk h))
section
theorem nO{f:V}(h:Qf K (.call f args) H=G (.ok (.v v) A7)):∃a t,f=.top (.ref a)/\AJ Tj a=G t/\5<=K.d/\(args,v)∈t/\JO args=M/\A7=H:=by
 apply Nq (v:=f) h AE;intro w h;apply Pp h AE;intro a h;refine Cj h AE λhd h=>BH h λt ht h=>BH h λw hw h=>?_;injection Bk h with h1 h2;injection h1 with h1;subst h1;subst h2;exact⟨a,t,rfl,ht,Di hd,(nG hw).1,(nG hw).2,rfl⟩
theorem cA(AU:(Ba P).In B.base)(AV:De B):Mb B C2 where
 only:=λ{K c H o}h=>by cases c with
 |call f args=>exact .inl ⟨_,_,rfl⟩|_=>exact(AE h).elim
 MO:=λ{K f args H A7 v}h{F A C s fu}g r=>by
  refine M3 (nO h) ?_;intro a t Av ht _ _ _ _;subst Av;cases r;refine xE (au2 ht) ?_;intro fn hf;refine D9 ((Wn (on:=M) (CQ:=Qf) AU).fn a fn hf) ?_;intro o fd ok;exact CU.func (g.base _ _ ok.get) ok.data
 call:=λ{K f args H A7 v}h{F A C s fu us}g r rs=>by
  refine M3 (nO h) ?_;intro a t B5 ht hd hm hc BI;subst B5;subst BI;cases r;refine xA (at3 (Bp.mp (au0 ht K.sc) _ hm)) ?_;intro BO hv;refine xE BO ?_;(try clear BO);intro AA e;exact call_plain (λ{F A C s us}g rs=>(c9 AU AV 60).s.call e g rfl rs) hc hv hd g rs
 e:=λh=>(AE h).elim;s:=λh=>(AE h).elim
theorem all1(AU:(Ba P).In B.base)(AV:De B)(n:O):All B C2 n:=Wi (c8 AU AV (cA AU AV)) n
end
noncomputable def cB(l:I V)(m:I (I Tx)):AK:=all2 (λv r=>FS v A6 λc U=>oN c A6 (Ti U (r.map .str))) l m
theorem nP{l:I V}{m:I (I Tx)}(h:cB l m=M):l=m.map λr=>.tup L (r.map .str):=ui (λv r h=>by apply IJ (v:=v) h B3;intro c U h;apply GQ h B3;intro h;rw[nF h]) h
noncomputable def Ic(o:A1)(m:I (I Tx)):AK:=K0 o A6 λv H=>DL v A6 λi=>oS (AJ H.h i) A6 λob=>EW ob A6 λl=>cB l m
theorem JP{o:A1}{m:I (I Tx)}(h:Ic o m=M):∃i H,o=.ok (.v (.ref i)) H/\AJ H.h i=G (.list (m.map λr=>.tup L (r.map .str))):=by
 apply Vo h B3;intro v H h;apply EF h B3;intro i h;refine VG h B3 λob e h=>?_;revert e;apply IM h B3;intro l h e;exact⟨i,H,rfl,by rw[<-nP h];exact e⟩
noncomputable def runC(sc:BS)(a b:Tx):A1:=ev Hu 300 ⟨sc,20⟩ (.call (.top (.ref 430)) [.str a,.str b]) ⟨[],[],0⟩
theorem au3(sc:BS):((Bm M).all λb=>Ic (runC sc [] b) (CI [] b))=M:=by kernel_rfl
theorem au4(sc:BS):((Bm M).all λb=>Ic (runC sc [120] b) (CI [120] b))=M:=by kernel_rfl
theorem au5(sc:BS):((Bm M).all λb=>Ic (runC sc [120,121] b) (CI [120,121] b))=M:=by kernel_rfl
theorem au6(sc:BS):((Bm M).all λb=>Ic (runC sc [121,120] b) (CI [121,120] b))=M:=by kernel_rfl
theorem au7(sc:BS):((Bm M).all λb=>Ic (runC sc [120,121,122] b) (CI [120,121,122] b))=M:=by kernel_rfl
theorem au8(sc:BS):((Bm M).all λb=>Ic (runC sc [122,120,121] b) (CI [122,120,121] b))=M:=by kernel_rfl
theorem au9(sc:BS):((Bm M).all λb=>Ic (runC sc [121,121] b) (CI [121,121] b))=M:=by kernel_rfl
theorem av0(sc:BS):((Bm M).all λb=>Ic (runC sc [120,122,120,121] b) (CI [120,122,120,121] b))=M:=by kernel_rfl
theorem av1(sc:BS):((Bm M).all λb=>Ic (runC sc [120,118,121,122,117,119] b) (CI [120,118,121,122,117,119] b))=M:=by kernel_rfl
theorem av2(sc:BS):((Bm M).all λb=>Ic (runC sc [118,121,122] b) (CI [118,121,122] b))=M:=by kernel_rfl
theorem av3(sc:BS):((Bm M).all λb=>Ic (runC sc [120,120] b) (CI [120,120] b))=M:=by kernel_rfl
theorem av4{a b:Tx}(ha:a∈Bm A6)(hb:b∈Bm M)(sc:BS):∃i H,runC sc a b=.ok (.v (.ref i)) H/\AJ H.h i=G (.list ((CI a b).map λr=>.tup L (r.map .str))):=by
 simp only[Bm,Ci,Jo,Jp]at ha;rcases ha with rfl|rfl|rfl|rfl|rfl|rfl|rfl|rfl|rfl|rfl|rfl;. exact JP (Bp.mp (au3 sc) b hb)
 . exact JP (Bp.mp (au4 sc) b hb)
 . exact JP (Bp.mp (au5 sc) b hb)
 . exact JP (Bp.mp (au6 sc) b hb)
 . exact JP (Bp.mp (au7 sc) b hb)
 . exact JP (Bp.mp (au8 sc) b hb)
 . exact JP (Bp.mp (au9 sc) b hb)
 . exact JP (Bp.mp (av0 sc) b hb)
 . exact JP (Bp.mp (av1 sc) b hb)
 . exact JP (Bp.mp (av2 sc) b hb)
 . exact JP (Bp.mp (av3 sc) b hb)
structure Op where
 tag:Tx
 i:O
 k:O
 j:O
 m:O
noncomputable def FJ(o:Op):V:=.tup L [.str o.tag,.int o.i,.int o.k,.int o.j,.int o.m]
noncomputable def Tk:AX->AL O|.ofNat n=>G n|_=>L
noncomputable def cC(v:V):AL Op:=FS v L λc l=>oN c L<|lC l L λt l=>lC l L λi l=>lC l L λk l=>l2 l L λj m=>vStr t L λt=>vInt i L λi=>vInt k L λk=>vInt j L λj=>vInt m L λm=>Az (Tk i) λi=>Az (Tk k) λk=>Az (Tk j) λj=>Az (Tk m) λm=>G ⟨t,i,k,j,m⟩
noncomputable def Wq:I V->AL (I Op)
 |[]=>G []|v::l=>Az (cC v) λo=>Az (Wq l) λm=>G (o::m)
theorem Wr{i:AX}(h:Tk i=G n):i=n:=by cases i<;>cases h;rfl
theorem av5{o:Op}(h:cC v=G o):v=FJ o:=by
 apply IJ h AE;intro c l h;apply GQ h AE;intro h;apply FQ h AE;intro t l h;apply FQ h AE;intro i l h;apply FQ h AE;intro k l h;apply Hf h AE;intro j m h;apply Db h AE;intro t h;apply Cu h AE;intro i h;apply Cu h AE;intro k h;apply Cu h AE;intro j h;apply Cu h AE;intro m h;refine BH h λi' h1 h=>BH h λk' h2 h=>BH h λj' h3 h=>BH h λm' h4 h=>?_;rw[<-Bk h,Wr h1,Wr h2,Wr h3,Wr h4];rfl
theorem av6{l:I V}:∀{m:I Op},Wq l=G m->l=m.map FJ:=by induction l with
 |nil=>intro m h;rw[<-Bk h];rfl|cons v l ih=>exactλh=>BH (x:=cC v) h λo h1 h=>BH h λm' h2 h=>by rw[<-Bk h,av5 h1,ih h2];rfl
noncomputable def av7:Tx:=[101,113,117,97,108]
noncomputable def Ie(o:Op):I (I Tx):=match CY o.tag av7 with
 |true=>[]|false=>[[o.tag,Vr o.i (o.k-o.i),Vr o.j (o.m-o.j)]]
noncomputable def cD(a b:I Tx):AK:=all2 CY a b
noncomputable def cE(a b:I (I Tx)):AK:=all2 cD a b
theorem nQ{a b:I Tx}(h:cD a b=M):a=b:=Ng (λ_ _=>EZ.mp) a b h
theorem av8{a b:I (I Tx)}(h:cE a b=M):a=b:=Ng (λ_ _=>nQ) a b h
noncomputable def KJ:I Op:=[⟨[100,101,108,101,116,101],0,1,0,0⟩,⟨[100,101,108,101,116,101],0,2,0,0⟩,⟨[100,101,108,101,116,101],0,3,0,0⟩,⟨[100,101,108,101,116,101],0,4,0,0⟩,⟨[100,101,108,101,116,101],0,6,0,0⟩,⟨[100,101,108,101,116,101],1,2,1,1⟩,⟨[100,101,108,101,116,101],1,2,2,2⟩,⟨[100,101,108,101,116,101],1,2,3,3⟩,⟨[100,101,108,101,116,101],1,2,4,4⟩,⟨[100,101,108,101,116,101],1,3,1,1⟩,⟨[100,101,108,101,116,101],1,3,2,2⟩,⟨[100,101,108,101,116,101],1,4,1,1⟩,⟨[100,101,108,101,116,101],1,4,2,2⟩,⟨[100,101,108,101,116,101],1,6,1,1⟩,⟨[100,101,108,101,116,101],1,6,2,2⟩,⟨[100,101,108,101,116,101],2,3,1,1⟩,⟨[100,101,108,101,116,101],2,3,2,2⟩,⟨[100,101,108,101,116,101],2,3,3,3⟩,⟨[100,101,108,101,116,101],2,3,4,4⟩,⟨[100,101,108,101,116,101],3,6,2,2⟩,⟨[100,101,108,101,116,101],3,6,3,3⟩,⟨[100,101,108,101,116,101],3,6,4,4⟩,⟨[100,101,108,101,116,101],4,6,3,3⟩,⟨[101,113,117,97,108],0,1,0,1⟩,⟨[101,113,117,97,108],0,1,1,2⟩,⟨[101,113,117,97,108],0,1,2,3⟩,⟨[101,113,117,97,108],0,1,3,4⟩,⟨[101,113,117,97,108],0,2,0,2⟩,⟨[101,113,117,97,108],0,2,1,3⟩,⟨[101,113,117,97,108],0,2,2,4⟩,⟨[101,113,117,97,108],0,3,0,3⟩,⟨[101,113,117,97,108],0,3,1,4⟩,⟨[101,113,117,97,108],0,4,0,4⟩,⟨[101,113,117,97,108],1,2,0,1⟩,⟨[101,113,117,97,108],1,2,1,2⟩,⟨[101,113,117,97,108],1,2,2,3⟩,⟨[101,113,117,97,108],1,2,3,4⟩,⟨[101,113,117,97,108],1,3,0,2⟩,⟨[101,113,117,97,108],1,3,1,3⟩,⟨[101,113,117,97,108],1,3,2,4⟩,⟨[101,113,117,97,108],1,4,0,3⟩,⟨[101,113,117,97,108],2,3,0,1⟩,⟨[101,113,117,97,108],2,3,1,2⟩,⟨[101,113,117,97,108],2,3,2,3⟩,⟨[101,113,117,97,108],2,3,3,4⟩,⟨[101,113,117,97,108],2,4,0,2⟩,⟨[101,113,117,97,108],2,4,1,3⟩,⟨[101,113,117,97,108],2,4,2,4⟩,⟨[101,113,117,97,108],3,4,0,1⟩,⟨[101,113,117,97,108],5,6,5,6⟩,⟨[105,110,115,101,114,116],0,0,0,1⟩,⟨[105,110,115,101,114,116],0,0,0,2⟩,⟨[105,110,115,101,114,116],0,0,0,3⟩,⟨[105,110,115,101,114,116],0,0,0,4⟩,⟨[105,110,115,101,114,116],0,0,0,6⟩,⟨[105,110,115,101,114,116],1,1,1,2⟩,⟨[105,110,115,101,114,116],1,1,1,3⟩,⟨[105,110,115,101,114,116],1,1,1,4⟩,⟨[105,110,115,101,114,116],1,1,1,6⟩,⟨[105,110,115,101,114,116],1,1,2,3⟩,⟨[105,110,115,101,114,116],2,2,1,2⟩,⟨[105,110,115,101,114,116],2,2,2,3⟩,⟨[105,110,115,101,114,116],2,2,2,4⟩,⟨[105,110,115,101,114,116],2,2,3,4⟩,⟨[105,110,115,101,114,116],2,2,3,6⟩,⟨[105,110,115,101,114,116],3,3,1,2⟩,⟨[105,110,115,101,114,116],3,3,2,3⟩,⟨[105,110,115,101,114,116],3,3,3,4⟩,⟨[105,110,115,101,114,116],3,3,4,6⟩,⟨[105,110,115,101,114,116],4,4,1,2⟩,⟨[105,110,115,101,114,116],4,4,2,3⟩,⟨[114,101,112,108,97,99,101],0,1,0,1⟩,⟨[114,101,112,108,97,99,101],0,1,0,2⟩,⟨[114,101,112,108,97,99,101],0,1,0,3⟩,⟨[114,101,112,108,97,99,101],0,1,0,4⟩,⟨[114,101,112,108,97,99,101],0,2,0,1⟩,⟨[114,101,112,108,97,99,101],0,2,0,2⟩,⟨[114,101,112,108,97,99,101],0,2,0,4⟩,⟨[114,101,112,108,97,99,101],0,3,0,1⟩,⟨[114,101,112,108,97,99,101],1,2,1,2⟩,⟨[114,101,112,108,97,99,101],1,2,1,3⟩,⟨[114,101,112,108,97,99,101],1,2,1,6⟩,⟨[114,101,112,108,97,99,101],1,2,2,3⟩,⟨[114,101,112,108,97,99,101],1,2,2,4⟩,⟨[114,101,112,108,97,99,101],1,2,3,6⟩,⟨[114,101,112,108,97,99,101],1,3,3,4⟩,⟨[114,101,112,108,97,99,101],1,3,4,6⟩,⟨[114,101,112,108,97,99,101],2,3,1,2⟩,⟨[114,101,112,108,97,99,101],2,4,3,4⟩,⟨[114,101,112,108,97,99,101],2,4,4,6⟩,⟨[114,101,112,108,97,99,101],3,6,1,2⟩,⟨[114,101,112,108,97,99,101],4,5,4,5⟩,⟨[114,101,112,108,97,99,101],4,6,3,4⟩]
noncomputable def cF(a b:Op):AK:=CY a.tag b.tag&&B8 a.i b.i&&B8 a.k b.k&&B8 a.j b.j&&B8 a.m b.m
noncomputable def cG(o:Op)(l:I Op):AK:=l.any (cF o)
theorem av9{a b:Op}(h:cF a b=M):a=b:=by
 obtain⟨a1,a2,a3,a4,bS4⟩:=a;obtain⟨b1,b2,b3,bS5,bS6⟩:=b;simp only[cF,D2]at h;rw[EZ.mp h.1.1.1.1,CC h.1.1.1.2,CC h.1.1.2,CC h.1.2,CC h.2]
theorem aw0{o:Op}{l:I Op}(h:cG o l=M):o∈l:=AC (IC.mp h) λ_ m e=>av9 e▸m
noncomputable def nR(sc:BS)(a b:Tx):A1:=ev Hu 300 ⟨sc,20⟩ (.call (.top (.ref 242)) [.none,.str a,.str b]) ⟨[],[],0⟩
noncomputable def Mf:Y:=⟨⟨[103,101,116,95,111,112,99,111,100,101,115]⟩⟩
noncomputable def nU(sc:BS)(i:O)(H:Mine.St):A1:=ev Hu 300 ⟨sc,20⟩ (.H5 (.fn 210) (.ref i) Mf []) H
noncomputable def cH(k:MK)(d:J)(f:O->J):J:=match k with|.fn a=>f a|.str=>d|.lst=>d|.Ex=>d|.tup=>d
theorem aw1{k:MK}{d:J}{f:O->J}{r:J}(h:cH k d f=r)(hd:d=r->Bh){P:MK->Prop}(c:∀a,f a=r->P (.fn a)):P k:=by cases k with
 |fn a=>exact c a h|_=>exact(hd h).elim
noncomputable def nV(o:A1)(ro:O->Mine.St->A1)(a b:Tx):AK:=K0 o A6 λv H=>DL v A6 λi=>l0 H.env A6<|oS (Q5 C2 (.ref i) Mf H.h) A6 λk=>cH k A6 λm=>bT (B8 m 210) A6<|K0 (ro i H) A6 λv Bc=>DL v A6 λj=>oS (AJ Bc.h j) A6 λob=>EW ob A6 λl=>oS (Wq l) A6 λCT=>CT.all (λo=>cG o KJ)&&(cE (CT.flatMap Ie) (CI a b)&&EN CT.length 15)
noncomputable def Ig(sc:BS)(a b:Tx):AK:=nV (nR sc a b) (nU sc) a b
theorem aw2(sc:BS):((Bm M).all λb=>Ig sc [] b)=M:=by kernel_rfl
theorem aw3(sc:BS):((Bm M).all λb=>Ig sc [120] b)=M:=by kernel_rfl
theorem aw4(sc:BS):((Bm M).all λb=>Ig sc [120,121] b)=M:=by kernel_rfl
theorem aw5(sc:BS):((Bm M).all λb=>Ig sc [121,120] b)=M:=by kernel_rfl
theorem aw6(sc:BS):((Bm M).all λb=>Ig sc [120,121,122] b)=M:=by kernel_rfl
theorem aw7(sc:BS):((Bm M).all λb=>Ig sc [122,120,121] b)=M:=by kernel_rfl
theorem aw8(sc:BS):((Bm M).all λb=>Ig sc [121,121] b)=M:=by kernel_rfl
theorem aw9(sc:BS):((Bm M).all λb=>Ig sc [120,122,120,121] b)=M:=by kernel_rfl
theorem ax0(sc:BS):((Bm M).all λb=>Ig sc [120,118,121,122,117,119] b)=M:=by kernel_rfl
theorem ax1(sc:BS):((Bm M).all λb=>Ig sc [118,121,122] b)=M:=by kernel_rfl
theorem ax2(sc:BS):((Bm M).all λb=>Ig sc [120,120] b)=M:=by kernel_rfl
theorem ax3{a b:Tx}(ha:a∈Bm A6)(hb:b∈Bm M)(sc:BS):Ig sc a b=M:=by
 simp only[Bm,Ci,Jo,Jp]at ha;rcases ha with rfl|rfl|rfl|rfl|rfl|rfl|rfl|rfl|rfl|rfl|rfl;. exact Bp.mp (aw2 sc) b hb
 . exact Bp.mp (aw3 sc) b hb
 . exact Bp.mp (aw4 sc) b hb
 . exact Bp.mp (aw5 sc) b hb
 . exact Bp.mp (aw6 sc) b hb
 . exact Bp.mp (aw7 sc) b hb
 . exact Bp.mp (aw8 sc) b hb
 . exact Bp.mp (aw9 sc) b hb
 . exact Bp.mp (ax0 sc) b hb
 . exact Bp.mp (ax1 sc) b hb
 . exact Bp.mp (ax2 sc) b hb
theorem ax4{o:A1}{ro:O->Mine.St->A1}{a b:Tx}(h:nV o ro a b=M):∃(i:O)(AA:Mine.St)(j:O)(Bc:Mine.St)(CT:I Op),o=.ok (.v (.ref i)) AA/\AA.env=[]/\Q5 C2 (.ref i) Mf AA.h=G (.fn 210)/\ro i AA=.ok (.v (.ref j)) Bc/\AJ Bc.h j=G (.list (CT.map FJ))/\(∀o∈CT,o∈KJ)/\CT.flatMap Ie=CI a b/\CT.length<=15:=by
 refine Vp h B3 λv H hM h=>?_;revert hM;apply EF h B3;intro i h hM;obtain⟨env,hp,n⟩:=H;cases env with
 |cons _ _=>exact(B3 h).elim|nil=>
 have h:oS (Q5 C2 (.ref i) Mf hp) A6 (λk=>cH k A6 λm=>bT (B8 m 210) A6<|K0 (ro i ⟨[],hp,n⟩) A6 λv Bc=>DL v A6 λj=>oS (AJ Bc.h j) A6 λob=>EW ob A6 λl=>oS (Wq l) A6 λCT=>CT.all (λo=>cG o KJ)&&(cE (CT.flatMap Ie) (CI a b)&&EN CT.length 15))=M:=h;refine VG h B3 λk hk h=>?_;revert hk;apply aw1 h B3;intro m h hk;refine Cj h B3 λh2 h=>?_;have :=CC h2;clear h2;subst this;refine Vp h B3 λv Bc hO h=>?_;revert hO;apply EF h B3;intro j h hO;refine VG h B3 λob hl h=>?_;revert hl;apply IM h B3;intro l h hl;refine VG h B3 λCT ho h=>?_;rw[av6 ho]at hl;exact⟨i,_,j,Bc,CT,hM,rfl,hk,hO,hl,(λo m=>aw0 (Bp.mp (B' h) o m)),av8 (B' (Ak h)),Di (Ak (Ak h))⟩
theorem nY{a b:Tx}(ha:a∈Bm A6)(hb:b∈Bm M)(sc:BS):∃(i:O)(AA:Mine.St)(j:O)(Bc:Mine.St)(CT:I Op),nR sc a b=.ok (.v (.ref i)) AA/\AA.env=[]/\Q5 C2 (.ref i) Mf AA.h=G (.fn 210)/\nU sc i AA=.ok (.v (.ref j)) Bc/\AJ Bc.h j=G (.list (CT.map FJ))/\(∀o∈CT,o∈KJ)/\CT.flatMap Ie=CI a b/\CT.length<=15:=by exact ax4 (ax3 ha hb sc)
theorem Cg{p:J->Prop}{x y:I J}(h:∀o∈x,p o)(t:∀o∈y,p o):∀o∈x++y,p o:=λo m=>(Do.mp m).elim (h o) (t o)
@[irreducible]noncomputable def Ft:Ar:=B_ 28
@[irreducible]noncomputable def Ws:I Ar:=lC (Fg Ft) [] λ_ z1=>lC z1 [] λ_ z2=>lC z2 [] λ_ z3=>lC z3 [] λz4 z5=>G1 z4 [] λ_ _ b _ _=>l1 z5 [] λ_=>b
noncomputable def JQ:Y:=⟨⟨[110,117,109,98,101,114,115]⟩⟩
noncomputable def Mg:Y:=⟨⟨[112,108,97,99,101,115]⟩⟩
noncomputable def OX:Y:=⟨⟨[116,101,120,116,115]⟩⟩
noncomputable def Qg:Y:=⟨⟨[116,114,101,101,115]⟩⟩
noncomputable def nmX:Y:=⟨⟨[120]⟩⟩
noncomputable def EL:I Tx:=[[47,97,47,102],[47,97,47,98,47,103],[47,104],[47,97,47,98],[47,110,47,107],[47,97]]
noncomputable def KL:AK->I Tx
 |false=>[[47,97,47,102],[47,97,47,98,47,103],[47,104],[47,109],[47,107,47,112],[47,107,47,113]]|true=>[[47,97,47,102],[47,97,47,98],[47,104],[47,109],[47,110,47,107],[47,103,47,112],[47,103,47,113]]
noncomputable def OY(A0:I Tx)(p:Tx):I Tx:=A0.filter (λq=>!Jz (p++[47]) (q++[47])&&!Jz (q++[47]) (p++[47]))++[p]
noncomputable def BL(w:Tx->V)(A0:I Tx):I (V×V):=A0.map λp=>(.str p,w p)
noncomputable def KN(w:Tx->V)(p:Tx)(v:V)(q:Tx):V:=match CY q p with|true=>v|false=>w q
noncomputable def Gu(rs:I V)(e0 e1:I (V×V)):Mine.St:=⟨[(JQ,.ref 0),(Mg,.ref 1),(OX,.ref 2),(Qg,.ref 3)],[(0,.list rs),(1,.list (EL.map .str)),(2,.list (IH.map .str)),(3,.list [.ref 4,.ref 5]),(4,.dict e0),(5,.dict e1)],6⟩
noncomputable def cI(r:O)(H:Mine.St):Mine.St:=⟨EB H.env nmX (.II 12 r),H.h,H.n⟩
noncomputable def Wt(o:A1):AL Mine.St:=Zr o L λr H=>rF r L λf=>jk f L<|Az (AJ H.h 0) λo0=>Az (AJ H.h 1) λo1=>Az (AJ H.h 2) λo2=>Az (AJ H.h 3) λo3=>EW o0 L λrs=>EW o1 L λps=>EW o2 L λts=>EW o3 L λij=>l2 ij L λvi vj=>DL vi L λi=>DL vj L λj=>bC (B8 i j) L<|Az (AJ H.h i) λoi=>Az (AJ H.h j) λoj=>G4 oi L λe0=>G4 oj L λe1=>Az (Ai H.env JQ) λa=>Az (Ai H.env Mg) λb=>Az (Ai H.env OX) λc=>Az (Ai H.env Qg) λd=>G ⟨[(JQ,a),(Mg,b),(OX,c),(Qg,d)],[(0,.list rs),(1,.list ps),(2,.list ts),(3,.list [.ref 4,.ref 5]),(4,.dict e0),(5,.dict e1)],6⟩
noncomputable def Wu(r:O)(rs:I V)(e0 e1:I (V×V)):AL Mine.St:=Wt (ev C2 60 ⟨BU Ft,3⟩ (.ss Ws) (cI r (Gu rs e0 e1)))
noncomputable def JR(A0:I Tx)(r:O):Prop:=∀(w:Tx->V)(rs:I V)(e:I (V×V)),Wu (2*r) rs (BL w A0) e=G (Gu rs (BL (KN w (EL.getD r []) .any) (OY A0 (EL.getD r []))) e)
noncomputable def JS(A0:I Tx)(r:O):Prop:=∀(w:Tx->V)(rs:I V)(e:I (V×V)),Wu (2*r+1) rs e (BL w A0)=G (Gu rs e (BL (KN w (EL.getD r []) .any) (OY A0 (EL.getD r []))))
noncomputable abbrev q0:Tx:=[47,97]
noncomputable abbrev q1:Tx:=[47,97,47,98]
noncomputable abbrev q2:Tx:=[47,97,47,98,47,103]
noncomputable abbrev q3:Tx:=[47,97,47,102]
noncomputable abbrev q4:Tx:=[47,103,47,112]
noncomputable abbrev q5:Tx:=[47,103,47,113]
noncomputable abbrev q6:Tx:=[47,104]
noncomputable abbrev q7:Tx:=[47,107,47,112]
noncomputable abbrev q8:Tx:=[47,107,47,113]
noncomputable abbrev q9:Tx:=[47,109]
noncomputable abbrev AY:Tx:=[47,110,47,107]
theorem Mh{l:I (I Tx)}(h:∀(w:Tx->V)(rs:I V)(e:I (V×V)),l.map (λA0=>(DQ 6).map λr=>Wu (2*r) rs (BL w A0) e)=l.map (λA0=>(DQ 6).map λr=>G (Gu rs (BL (KN w (EL.getD r []) .any) (OY A0 (EL.getD r []))) e))):∀A0∈l,∀r∈DQ 6,JR A0 r:=λA0 m r m' w rs e=>H'.mp (H'.mp (h w rs e) A0 m) r m'
theorem Mi{l:I (I Tx)}(h:∀(w:Tx->V)(rs:I V)(e:I (V×V)),l.map (λA0=>(DQ 6).map λr=>Wu (2*r+1) rs e (BL w A0))=l.map (λA0=>(DQ 6).map λr=>G (Gu rs e (BL (KN w (EL.getD r []) .any) (OY A0 (EL.getD r [])))))):∀A0∈l,∀r∈DQ 6,JS A0 r:=λA0 m r m' w rs e=>H'.mp (H'.mp (h w rs e) A0 m) r m'
noncomputable def nZ:I (I Tx):=[[q2,q6,q9,q7,q8,q3],[q2,q6,q9,q7,q8,q3,AY],[q2,q6,q9,q7,q8,AY,q3],[q2,q9,q7,q8,q3,q6]]
theorem ax5:∀A0∈nZ,∀r∈DQ 6,JR A0 r:=Mh λw rs e=>by kernel_rfl
noncomputable def n_:I (I Tx):=[[q2,q9,q7,q8,q6,q3],[q3,q2,q6,q9,q7,q8],[q3,q2,q6,q9,q7,q8,AY],[q3,q2,q9,q7,q8,q6]]
theorem ax6:∀A0∈n_,∀r∈DQ 6,JR A0 r:=Mh λw rs e=>by kernel_rfl
noncomputable def nc:I (I Tx):=[[q3,q2,q9,q7,q8,q6,AY],[q3,q2,q9,q7,q8,AY,q6],[q3,q6,q9,q7,q8,q1],[q3,q6,q9,q7,q8,q1,AY]]
theorem ax7:∀A0∈nc,∀r∈DQ 6,JR A0 r:=Mh λw rs e=>by kernel_rfl
noncomputable def nf:I (I Tx):=[[q3,q6,q9,q7,q8,q2],[q3,q6,q9,q7,q8,q2,AY],[q3,q6,q9,q7,q8,AY,q1],[q3,q6,q9,q7,q8,AY,q2]]
theorem ax8:∀A0∈nf,∀r∈DQ 6,JR A0 r:=Mh λw rs e=>by kernel_rfl
noncomputable def ng:I (I Tx):=[[q3,q9,q7,q8,q1,q6],[q3,q9,q7,q8,q2,q6],[q3,q9,q7,q8,q6,q1],[q3,q9,q7,q8,q6,q2]]
theorem ax9:∀A0∈ng,∀r∈DQ 6,JR A0 r:=Mh λw rs e=>by kernel_rfl
noncomputable def nh:I (I Tx):=[[q6,q9,q7,q8,q0],[q6,q9,q7,q8,q0,AY],[q6,q9,q7,q8,q1],[q6,q9,q7,q8,q1,q3]]
theorem ay0:∀A0∈nh,∀r∈DQ 6,JR A0 r:=Mh λw rs e=>by kernel_rfl
noncomputable def nk:I (I Tx):=[[q6,q9,q7,q8,q2],[q6,q9,q7,q8,q2,q3],[q6,q9,q7,q8,q3],[q6,q9,q7,q8,q3,q1]]
theorem ay1:∀A0∈nk,∀r∈DQ 6,JR A0 r:=Mh λw rs e=>by kernel_rfl
noncomputable def nn:I (I Tx):=[[q6,q9,q7,q8,q3,q2],[q6,q9,q7,q8,AY,q0],[q9,q7,q8,q0,q6],[q9,q7,q8,q6,q0]]
theorem ay2:∀A0∈nn,∀r∈DQ 6,JR A0 r:=Mh λw rs e=>by kernel_rfl
noncomputable def no:I (I Tx):=[[q1,q6,q9,q4,q5,q3,AY],[q1,q6,q9,q4,q5,AY,q3],[q1,q6,q9,AY,q4,q5,q3],[q1,q9,AY,q4,q5,q3,q6]]
theorem ay3:∀A0∈no,∀r∈DQ 6,JS A0 r:=Mi λw rs e=>by kernel_rfl
noncomputable def np:I (I Tx):=[[q1,q9,AY,q4,q5,q6,q3],[q3,q1,q6,q9,q4,q5,AY],[q3,q1,q6,q9,AY,q4,q5],[q3,q1,q9,q4,q5,q6,AY]]
theorem ay4:∀A0∈np,∀r∈DQ 6,JS A0 r:=Mi λw rs e=>by kernel_rfl
noncomputable def nq:I (I Tx):=[[q3,q1,q9,q4,q5,AY,q6],[q3,q1,q9,AY,q4,q5,q6],[q3,q6,q9,q4,q5,q1,AY],[q3,q6,q9,q4,q5,q2,AY]]
theorem ay5:∀A0∈nq,∀r∈DQ 6,JS A0 r:=Mi λw rs e=>by kernel_rfl
noncomputable def nr:I (I Tx):=[[q3,q6,q9,q4,q5,AY,q1],[q3,q6,q9,q4,q5,AY,q2],[q3,q6,q9,AY,q4,q5,q1],[q3,q6,q9,AY,q4,q5,q2]]
theorem ay6:∀A0∈nr,∀r∈DQ 6,JS A0 r:=Mi λw rs e=>by kernel_rfl
noncomputable def nt:I (I Tx):=[[q3,q9,AY,q4,q5,q1,q6],[q3,q9,AY,q4,q5,q2,q6],[q3,q9,AY,q4,q5,q6,q1],[q3,q9,AY,q4,q5,q6,q2]]
theorem ay7:∀A0∈nt,∀r∈DQ 6,JS A0 r:=Mi λw rs e=>by kernel_rfl
noncomputable def nu:I (I Tx):=[[q6,q9,q4,q5,q0,AY],[q6,q9,q4,q5,AY,q0],[q6,q9,AY,q4,q5,q0],[q6,q9,AY,q4,q5,q1]]
theorem ay8:∀A0∈nu,∀r∈DQ 6,JS A0 r:=Mi λw rs e=>by kernel_rfl
noncomputable def nw:I (I Tx):=[[q6,q9,AY,q4,q5,q1,q3],[q6,q9,AY,q4,q5,q2],[q6,q9,AY,q4,q5,q2,q3],[q6,q9,AY,q4,q5,q3]]
theorem ay9:∀A0∈nw,∀r∈DQ 6,JS A0 r:=Mi λw rs e=>by kernel_rfl
noncomputable def ny:I (I Tx):=[[q6,q9,AY,q4,q5,q3,q1],[q6,q9,AY,q4,q5,q3,q2],[q9,AY,q4,q5,q0,q6],[q9,AY,q4,q5,q6,q0]]
theorem az0:∀A0∈ny,∀r∈DQ 6,JS A0 r:=Mi λw rs e=>by kernel_rfl
section
variable{J:I A9}
theorem az1{fn:Fn}{o:Bl}(ok:FnAt B a fn o fd){b:I (Y×V)}(hb:J9 fn args=G b)(hd:K.d=d+1)(hf:f=.next/\v=.none\/f=.ret v)(D:∀{F:Fm}{A:CK}{C:I A9}{s:AR}{C4:I G_},F.outs=F.env::C4->F.env.frame=G F.env.locals->Gd B F ⟨fn.sc,d⟩ A ⟨b,H.h,H.n⟩ C s->CJ B F ⟨fn.sc,d⟩ A AA C s (Iu fn.body F.env) (FR f))(g:Gd B F K A H C s)(rs:Aa s.heap C args us):Ae B F K A ⟨H.env,AA.h,AA.n⟩ C s (CD (.ref a) us) (RV v):=λA2 E k=>HL (aJ ok hb hd hf D g rs λu AS s' g' x' r'=>k u AS s' g' x' r')
theorem o4{fn:Fn}{o:Bl}(ok:FnAt B a fn o fd){b:I (Y×V)}(hb:J9 fn args=G b)(hd:K.d=d+1)(hf:f=.next/\v=.none\/f=.ret v)(D:∀{F:Fm}{A:CK}{C:I A9}{s:AR},Gd B F ⟨fn.sc,d⟩ A ⟨b,H.h,H.n⟩ C s->CJ B F ⟨fn.sc,d⟩ A AA C s (Iu fn.body F.env) (FR f))(g:Gd B F K A H C s)(rs:Aa s.heap C args us):Ae B F K A ⟨H.env,AA.h,AA.n⟩ C s (CD (.ref a) us) (RV v):=λA2 E k=>HL (aJ ok hb hd hf (λ_ _ g=>D g) g rs λu AS s' g' x' r'=>k u AS s' g' x' r')
structure cK(H DG AA A7:Mine.St)(B6:I O):Prop where
 env:A7.env=AA.env.map (Qe (DH H.n B6))le:DG.n<=AA.n
 n:A7.n=H.n+(AA.n-DG.n)obs:∀i o,AJ A7.h i=G o->(∃j LM,AJ AA.h j=G LM/\i=DH H.n B6 j/\o=DP (DH H.n B6) LM)\/(AJ H.h i=G o/\i∉B6)
theorem Cc.DU(Dh:∀j,AZ[j]?=As[B9 j]?){env:I (Y×V)}:Cc F h AZ env↔Cc F h As (env.map (Qe B9)):=by
 refine HM λm=>u9 λ_=>u9 λ_=>?_;have key:∀x v,(∃u,Sn F h m x u/\VR h AZ v u)↔∃u,Sn F h m x u/\VR h As (EK B9 v) u:=λx v=>HM λu=>u9 λ_=>VR.DU Dh;constructor
 . intro q x v e f;rw[Tg]at e;refine AC (u7.mp e) ?_;intro w e' BI;exact BI▸(key x w).mp (q x w e' f)
 . intro q x v e f;exact(key x v).mpr (q x _ (by rw[Tg,e];rfl) f)
theorem Gd.o5(g:Gd B F K A H C s)(AF:Sub H DG B6)(g':Gd B F K' A AA AS s')(x:Nx F.D F.A_ s.heap s'.heap (Bz C B6) AS)(BK:cK H DG AA A7 B6):∃J,AS=Bz C B6++J/\Gd B F K A A7 (C++J) s'/\Nx F.D F.A_ s.heap s'.heap C (C++J):=by
 refine AC x.pre ?_;intro J BO GA;subst BO;have hz:(Bz C B6).length=B6.length:=by simp[Bz]
 have TX:=g'.len;rw[F8,hz,AF.len]at TX;have hx:Nx F.D F.A_ s.heap s'.heap C (C++J):=⟨⟨J,rfl,GA⟩,x.live,x.Bv,λb o e n m=>x.same b o e (λz=>n (LL g.len AF.lt z)) m⟩;have En:=GI (C:=C) (J:=J) g.len AF.lt;have nd:=g'.nodup;rw[I7]at nd;refine⟨J,rfl,⟨g.kinds,by rw[F8,g.len,BK.n];(with_reducible exact Mine.uk (by assumption)),?_,?_,?_,?_,?_,?_,?_,g'.base,g'.os,g'.gens,g.frames,g'.DN,?_,g.mods,g.handled,g.depth,g.units⟩,hx⟩
 . refine I7.mpr ⟨g.nodup,nd.2.1,λa ha b hb e=>?_⟩;subst e;refine xE (g.live a ha) ?_;intro o e;rw[GA a hb]at e;exact(BB e).elim
 . intro a m;rcases Do.mp m with m|m;. exact g.fresh a m
   . exact g'.fresh a (PZ _ m)
 . intro a m;rcases Do.mp m with m|m;. refine xE (g.live a m) ?_;intro o e;exact x.live a o e
   . exact g'.live a (PZ _ m)
 . intro a m;refine IG (g.D4 a m) ?_;intro h1 h2 o h3;refine⟨h1,λz=>?_,x.live a o h3⟩;rcases Do.mp z with z|z;. exact h2 z
   . rw[GA a z]at h3;exact(BB h3).elim
 . intro c m;refine H3 (g.D0 c m) ?_;intro h2 o h3;refine⟨λz=>?_,x.live _ o h3⟩;rcases Do.mp z with z|z;. exact h2 z
   . rw[GA _ z]at h3;exact(BB h3).elim
 . intro i o e;rcases BK.obs i o e with Bf|Br;refine Bu Bf ?_;(try clear Bf);intro j LM ej C8 Ck;subst C8;subst Ck;rotate_left;refine xA Br ?_;(try clear Br);intro e hi;rotate_left
   . refine AC (g'.objs j LM ej) ?_;intro a ha r;exact⟨a,by rw[<-En];exact ha,(C_.DU En).mp r⟩
   . refine AC (g.objs i o e) ?_;intro a ha r;refine⟨a,FV ha,r.mono x.Bv λy ey=>x.keep a y ey (λz=>hi ?_) (λz=>(g.D4 a z).2.1 (Es ha)) (λz=>absurd (Es ha) (g.Cw a z).1)⟩;refine AC (Dz.mp z) ?_;intro j hj e';have h1:j<C.length:=by rw[g.len];exact AF.lt j hj
     have h2:C[j]?=G a:=by rw[<-e'];simp[Kh,h1]
     have :j=i:=(RK h1 g.nodup).mp (h2.trans ha.symm);exact this▸hj
 . rw[BK.env];exact(Cc.DU En).mp g'.env
 . intro A0 m;refine G2 (g.Cw A0 m) ?_;intro h1 h2 _;refine⟨λz=>?_,h2,(g'.Cw A0 m).2.2⟩;rcases Do.mp z with z|z;. exact h1 z
   . exact(g'.Cw A0 m).1 (PZ _ z)
theorem az2{t:Dx HK}(hf:∀{h:BJ}{C:I A9}{u:HK},FR f h C u->∀Q AS,FR f Q AS u)(OW:∀{C:I A9}{s:AR},Gd B F ⟨K.sc,d⟩ A DG C s->CJ B F ⟨K.sc,d⟩ A AA C s t (FR f))(hd:d<=K.d)(g:Gd B F K A H C s)(AF:Sub H DG B6)(he:Cc F s.heap (Bz C B6) DG.env)(BK:cK H DG AA A7 B6):CJ B F K A A7 C s t (FR f):=by
 intro A2 E k;refine OW (g.sub AF hd he) A2 E λu AS s' g' x' r'=>?_;refine CX (g.o5 AF g' x' BK) ?_;intro J Bo gg xx;clear g' x';subst Bo;exact k u _ s' gg xx (hf r' _ _)
end
section
variable{J:I A9}
theorem Cc.pick(Dh:∀j,AZ[j]?=As[B9 j]?){env:I (Y×V)}(x:Cc F h As env)(hs:∀x v,Ai K3 x=G v->Ai env x=G (EK B9 v)):Cc F h AZ K3:=by
 refine(Cc.DU Dh).mpr ?_;refine CX x ?_;(try clear x);intro m ns ce r;refine⟨m,ns,ce,λy v e f=>?_⟩;rw[Tg]at e;refine AC (u7.mp e) ?_;intro w e' Av;clear e;subst Av;exact r y _ (hs y w e') f
theorem Gd.pick(g:Gd B F K A H C s)(AF:Sub H DG B6)(hs:∀x v,Ai DG.env x=G v->Ai H.env x=G (EK (DH H.n B6) v)):Gd B F K A DG (Bz C B6) s:=by
 have c7:∀j,(Bz C B6)[j]?=C[DH H.n B6 j]?:=λj=>by
  have :=GI (J:=[]) g.len AF.lt j;simpa using this
 exact g.sub AF (DE _) (Cc.pick c7 g.env hs)
theorem o6{o:A1}{rs:I V}{e0 e1:I (V×V)}(h:Wt o=G (Gu rs e0 e1)){P:Prop}(c:∀(H:Mine.St)(i j:O),o=.ok (.f .next) H->i≠j->AJ H.h 0=G (.list rs)->AJ H.h 1=G (.list (EL.map .str))->AJ H.h 2=G (.list (IH.map .str))->AJ H.h 3=G (.list [.ref i,.ref j])->AJ H.h i=G (.dict e0)->AJ H.h j=G (.dict e1)->Ai H.env JQ=G (.ref 0)->Ai H.env Mg=G (.ref 1)->Ai H.env OX=G (.ref 2)->Ai H.env Qg=G (.ref 3)->P):P:=by
 revert c;apply jl h AE;intro r H h;apply wY h AE;intro f h;apply wZ h AE;intro h;refine BH h λo0 h0 h=>BH h λo1 h1 h=>BH h λo2 h2 h=>BH h λo3 h3 h=>?_;revert h0 h1 h2 h3;apply IM h AE;intro Fo h;apply IM h AE;intro ps h;apply IM h AE;intro ts h;apply IM h AE;intro ij h;apply Hf h AE;intro vi vj h;apply EF h AE;intro i h;apply EF h AE;intro j h h0 h1 h2 h3;refine Fi h (λ_ h=>(AE h).elim) λQ_ h=>BH h λoi hi h=>BH h λoj hj h=>?_;revert hi hj;apply J4 h AE;intro e0' h;apply J4 h AE;intro bM h hi hj;refine BH h λa ha h=>BH h λb hb h=>BH h λc hc h=>BH h λd hd h=>?_;have q:=Bk h;intro k;exact k H i j rfl (λe=>by rw[e,Ir]at Q_;(exfalso;cases Q_)) (h0.trans (congrArg (λs:Mine.St=>AJ s.h 0) q:G (Ob.list Fo)=G (.list rs))) (h1.trans (congrArg (λs:Mine.St=>AJ s.h 1) q:G (Ob.list ps)=G (.list (EL.map .str)))) (h2.trans (congrArg (λs:Mine.St=>AJ s.h 2) q:G (Ob.list ts)=G (.list (IH.map .str)))) h3 (hi.trans (congrArg (λs:Mine.St=>AJ s.h 4) q:G (Ob.dict e0')=G (.dict e0))) (hj.trans (congrArg (λs:Mine.St=>AJ s.h 5) q:G (Ob.dict bM)=G (.dict e1))) (ha.trans (congrArg (λs:Mine.St=>Ai s.env JQ) q:G a=G (.ref 0))) (hb.trans (congrArg (λs:Mine.St=>Ai s.env Mg) q:G b=G (.ref 1))) (hc.trans (congrArg (λs:Mine.St=>Ai s.env OX) q:G c=G (.ref 2))) (hd.trans (congrArg (λs:Mine.St=>Ai s.env Qg) q:G d=G (.ref 3)))
noncomputable def Cl(v:V):Prop:=∀B9,EK B9 v=v
theorem Ih(g:Gd B F K A H C s)(e:AJ H.h i=G o):i<H.n:=by
 refine AC (g.objs i o e) ?_;intro a ha _;refine xE (HH.mp ha) ?_;intro h _;rw[<-g.len];exact h
theorem cL:∀{l:I V},(∀v∈l,Cl v)->Cr B9 l=l
 |[],_=>rfl|v::l,h=>by
  simp only[Cr];rw[h v (Co ..) B9,cL λw m=>h w (Cp _ m)]
theorem KO{l:I (V×V)}(h:∀e∈l,Cl e.2):l.map (JN B9)=l:=by induction l with
 |nil=>rfl|cons e l ih=>
 rw[I9,ih λx m=>h x (Cp _ m)];unfold JN;rw[h e (Co ..) B9]
theorem az3{rs:I V}{e0 e1:I (V×V)}(hr:∀v∈rs,Cl v)(h0:∀e∈e0,Cl e.2)(h1:∀e∈e1,Cl e.2)(g:Gd B F K A H C s)(h:Wt (.ok (.f .next) H)=G (Gu rs e0 e1)):∃i j,Gd B F K A (Gu rs e0 e1) (Bz C [0,1,2,3,i,j]) s/\(∀k∈[0,1,2,3,i,j],k<H.n)/\[0,1,2,3,i,j].Nodup:=by
 refine o6 h ?_;intro Bc i j q Q_ a0 a1 a2 a3 ai aj b0 b1 b2 b3;injection q with _ q;subst q;have ni:i≠0/\i≠1/\i≠2/\i≠3:=by refine⟨?_,?_,?_,?_⟩<;>(rintro rfl;simp_all)
 have nj:j≠0/\j≠1/\j≠2/\j≠3:=by refine⟨?_,?_,?_,?_⟩<;>(rintro rfl;simp_all)
 have lt:∀k∈[0,1,2,3,i,j],k<H.n:=by
  intro k hk;simp only[Ci,Jo,Jp]at hk;rcases hk with rfl|rfl|rfl|rfl|rfl|rfl;. exact Ih g a0
  . exact Ih g a1
  . exact Ih g a2
  . exact Ih g a3
  . exact Ih g ai
  . exact Ih g aj
 have nd:[0,1,2,3,i,j].Nodup:=by
  refine M2 ni ?_;(try clear ni);intro p0 p1 p2 p3;refine M2 nj ?_;(try clear nj);intro bS7 r1 r2 r3;simp[ER,CV p0,CV p1,CV p2,CV p3,CV bS7,CV r1,CV r2,CV r3,Q_]
 refine⟨i,j,g.pick ⟨rfl,nd,lt,λk o e=>?_⟩ λx v e=>?_,lt,nd⟩;. match k,e with
 |0,e=>injection e with e;subst e;exact⟨0,rfl,by rw[a0];show _=G (Ob.list (Cr _ rs));rw[cL hr]⟩|1,e=>injection e with e;subst e;exact⟨1,rfl,by rw[a1];show _=G (Ob.list (Cr _ (EL.map .str)));rw[LJ]⟩|2,e=>injection e with e;subst e;exact⟨2,rfl,by rw[a2];show _=G (Ob.list (Cr _ (IH.map .str)));rw[LJ]⟩|3,e=>injection e with e;subst e;exact⟨3,rfl,a3⟩|4,e=>injection e with e;subst e;exact⟨i,rfl,by rw[ai];show _=G (Ob.dict (e0.map _));rw[KO h0]⟩|5,e=>injection e with e;subst e;exact⟨j,rfl,by rw[aj];show _=G (Ob.dict (e1.map _));rw[KO h1]⟩|k+6,e=>exact(BB e).elim
 . exact(show∀p∈(Gu rs e0 e1).env,Ai H.env p.1=G (EK (DH H.n [0,1,2,3,i,j]) p.2)from all_cons b0 (all_cons b1 (all_cons b2 (all_cons b3 EA)))) _ (FD e)
noncomputable def E5(rs:I O):I V:=rs.map (V.II 12)
theorem o7:∀v∈E5 rs,Cl v:=λv m=>by
 refine AC (Dz.mp m) ?_;intro r _ DV;clear m;subst DV;exactλ_=>rfl
structure Tr where
 L0:I Tx
 w0:Tx->V
 L1:I Tx
 w1:Tx->V
noncomputable def Tr.st(T:Tr)(rs:I V):Mine.St:=Gu rs (BL T.w0 T.L0) (BL T.w1 T.L1)
noncomputable def Tr.turn(T:Tr)(r:O):Tr:=match B8 (r%2) 0 with
 |true=>⟨OY T.L0 (EL.getD (r/2) []),KN T.w0 (EL.getD (r/2) []) .any,T.L1,T.w1⟩|false=>⟨T.L0,T.w0,OY T.L1 (EL.getD (r/2) []),KN T.w1 (EL.getD (r/2) []) .any⟩
structure Tr.Cl(T:Tr):Prop where
 c0:∀p,Mine.Cl (T.w0 p)c1:∀p,Mine.Cl (T.w1 p)
theorem o8{w:Tx->V}{p:Tx}(h:∀p,Cl (w p)):∀q,Cl (KN w p .any q):=λq=>by
 unfold KN;split;. exactλ_=>rfl
 . exact h q
theorem Tr.Cl.turn{T:Tr}(h:T.Cl)(r:O):(T.turn r).Cl:=by
 unfold Tr.turn;split;. exact⟨o8 h.c0,h.c1⟩
 . exact⟨h.c0,o8 h.c1⟩
theorem Mj{w:Tx->V}(h:∀p,Cl (w p)):∀e∈BL w A0,Cl e.2:=λe m=>by
 refine AC (Dz.mp m) ?_;intro p _ E_;clear m;subst E_;exact h p
noncomputable def Tr.Known(T:Tr):Prop:=(∀r,r<6->JR T.L0 r)/\∀r,r<6->JS T.L1 r
theorem az4{T:Tr}(h:T.Known)(hr:r<12)(rs:I V):Wt (ev C2 60 ⟨BU Ft,3⟩ (.ss Ws) (cI r (T.st rs)))=G ((T.turn r).st rs):=by
 unfold Tr.turn;cases e:B8 (r%2) 0 with
 |true=>
  have e:=CC e;have :=h.1 (r/2) (gG hr) T.w0 rs (BL T.w1 T.L1);rw[Nat.mul_div_cancel' (bs6 e)]at this;exact this|false=>
  have e:r%2=1:=by exact(Nat.mod_two_eq_zero_or_one r).resolve_left λz=>by rw[z]at e;(exfalso;cases e)
  have :=h.2 (r/2) (gG hr) T.w1 rs (BL T.w0 T.L0);rw[(congrArg (2*(r/2)+·) e.symm).trans (Nat.div_add_mod r 2)]at this;exact this
end
@[irreducible]noncomputable def cM:AB:=lC (Fg Ft) (.Constant .none 0 ⟨0,0,0,0⟩) λ_ z1=>lC z1 (.Constant .none 0 ⟨0,0,0,0⟩) λ_ z2=>lC z2 (.Constant .none 0 ⟨0,0,0,0⟩) λ_ z3=>lC z3 (.Constant .none 0 ⟨0,0,0,0⟩) λz4 z5=>G1 z4 (.Constant .none 0 ⟨0,0,0,0⟩) λt _ _ _ _=>l1 z5 (.Constant .none 0 ⟨0,0,0,0⟩) λ_=>t
theorem az5(d r:O)(rs:I V)(e0 e1:I (V×V)):ev C2 60 ⟨BU Ft,d⟩ (.asg cM (.II 12 r)) (Gu rs e0 e1)=.ok (.f .next) (cI r (Gu rs e0 e1)):=by kernel_rfl
section
variable{J:I A9}
theorem Gd.low(g:Gd B F K A H C s)(hd:d<=K.d):Gd B F ⟨K.sc,d⟩ A H C s:=⟨⟨g.kinds.fn,g.kinds.sc,g.kinds.kd,g.kinds.g3,g.kinds.b0,g.kinds.cells,g.kinds.IR,g.kinds.MH⟩,g.len,g.nodup,g.fresh,g.live,g.D4,g.D0,g.objs,g.env,g.base,g.os,g.gens,g.frames,g.DN,g.Cw,g.mods,g.handled,by have :=g.depth;show A.depth+3*d<900;(with_reducible exact Mine.yW (by assumption) (by assumption)),by have :=g.units;show A.units+10*d<9000;(with_reducible exact Mine.yW (by assumption) (by assumption))⟩
theorem Gd.lift(g:Gd B F K A H C s)(g':Gd B F ⟨K.sc,d⟩ A A7 AS s'):Gd B F K A A7 AS s':=⟨g.kinds,g'.len,g'.nodup,g'.fresh,g'.live,g'.D4,g'.D0,g'.objs,g'.env,g'.base,g'.os,g'.gens,g'.frames,g'.DN,g'.Cw,g'.mods,g'.handled,g.depth,g.units⟩
theorem o9(x:Nx AM A_ h Q [a0] C)(nd:C.Nodup)(hp:∀k∈0::B6,k<C.length)(hn:(0::B6).Nodup):Nx AM A_ h Q [a0] (Bz C (0::B6)):=by
 refine AC x.pre ?_;intro J Av GA;clear nd;subst Av;refine⟨⟨Bz ([a0]++J) B6,rfl,λb m=>?_⟩,x.live,x.Bv,x.same⟩;refine AC (Dz.mp m) ?_;intro k hk B5;clear m;subst B5;have h0:k≠0:=λz=>(ER.mp hn).1 (z▸hk);have hl:=hp k (Cp _ hk);refine GA _ ?_;obtain⟨j,rfl⟩:∃j,k=j+1:=⟨k-1,by(with_reducible exact Mine.yI (es (by assumption)))⟩;have hj:j<J.length:=by simpa using hl
 simp[Kh,hj]
theorem CM.pick(f:CM B F C h AD)(hl:C.length=n)(KI:∀i∈B6,i<n):CM B F (Bz C B6) h AD:=⟨λz=>f.C (LL hl KI z),f.w,f.cells,f.base,f.outs,f.live⟩
theorem az6(AU:(Ba P).In B.base)(AM:De B)(hd:3<=d){AV:Dq->AR->Prop}(hI:Af.get? AD=L)(post:I O):∀(pre:I O)(T:Tr){C:I A9}{s:AR},(∀r∈post,r<12)->T.Cl->(∀Ii Hv,post=Ii++Hv->Hv≠[]->(Ii.foldl Tr.turn T).Known)->Gd B F ⟨BU Ft,d⟩ A (T.st (E5 (pre++post))) C s->Nx F.D F.A_ Af s.heap [a0] C->CM B F C s.heap AD->E4 s.heap C (.lst 0) pre.length AD->(∀AS s',Gd B F ⟨BU Ft,d⟩ A ((post.foldl Tr.turn T).st (E5 (pre++post))) AS s'->Nx F.D F.A_ Af s'.heap [a0] AS->AV (.ok .next) s')->D6 (AQ B.prog B.w) A (.forLoop cM (.ref AD) Ws [] F.env) AV s:=by induction post with
 |nil=>
  intro pre T C s _ _ _ g Cq fr it k;have AP:J8 (.lst 0) pre.length (T.st (E5 (pre++[]))).h=G L:=by
    show G (Gk (E5 (pre++[])) pre.length)=_;rw[HR];simp[E5]
  refine MM (K5 g fr it AP (λx hx=>by exact(BB hx).elim) λhx Q tk AN DO=>?_);exact k C _ AN (Cq.Ez DO hI)|cons r post ih=>
  intro pre T C s hr hc hk g Cq fr it k;have AP:J8 (.lst 0) pre.length (T.st (E5 (pre++r::post))).h=G (G (.II 12 r)):=by
    show G (Gk (E5 (pre++r::post)) pre.length)=_;rw[HR];simp[E5]
  have A8:=(all1 AU AM 60).s;refine MM (K5 g fr it AP (λx hx u Q tk AN DO Ek Ap Hp=>?_) λhx=>by(exfalso;cases hx));injection hx with hx;subst hx;have L3:=Cq.Ez DO hI;have ht:=az4 (hk [] (r::post) rfl (by simp)) (hr r (Co ..)) (E5 (pre++r::post));simp only[List.foldl_nil]at ht;refine o6 ht λBc i j C3 _ _ _ _ _ _ _ _ _ _ _=>?_;rw[C3]at ht;refine QD Ap (A8.asg (az5 d r _ _ _) AN Hp _ _ λ_ As Ah AT Al _=>A8.ss C3 (AT.low hd) _ _ λMN BQ Aw Ao B7 BP=>?_);cases BP;have xx:=Al.trans B7;have EC:=Ek.nx xx;have Gp:=Ap.nx xx Ek.C Ek.w;have El:=L3.trans xx;have GC:=hc.turn r;refine Bu (az3 o7 (Mj GC.c0) (Mj GC.c1) (AT.lift Ao) ht) ?_;intro i j C9 lt nd;have e:pre++r::post=(pre++[r])++post:=by simp
  refine ih (pre++[r]) (T.turn r) (C:=Bz BQ [0,1,2,3,i,j]) (λq m=>hr q (Cp _ m)) GC (λIi Hv q z=>?_) (by rw[<-e];exact C9) (o9 El Ao.nodup (by rw[Ao.len];exact lt) nd) (EC.pick Ao.len lt) ?_ (by rw[<-e];exact k);. exact hk (r::Ii) Hv (by rw[q];rfl) z
  . refine AC Gp ?_;(try clear Gp);intro a ha hi;refine⟨a,?_,by rw[F8];exact hi⟩;have :=GI (J:=[]) Ao.len lt 0;simp only[HJ]at this;rw[this];exact ha
end
@[irreducible]noncomputable def Ij(k:O):Ar:=(Fg Ft)[k]?.getD (.Pass ⟨0,0,0,0⟩)
@[irreducible]noncomputable def Wv:AB:=G1 (Ij 3) (.Constant .none 0 ⟨0,0,0,0⟩) λ_ it _ _ _=>it
@[irreducible]noncomputable def az7:BG:=G1 (Ij 3) ⟨0,0,0,0⟩ λ_ _ _ _ p=>p
theorem az8:Fg Ft=[Ij 0,Ij 1,Ij 2,Ij 3,Ij 4]:=by kernel_rfl
theorem az9:Ij 3=.For cM Wv Ws [] az7:=by kernel_rfl
noncomputable def cN:AK->I Tx
 |false=>[[120,118,121,122,117,119],[120,120],[120,121],[118,121,122],[],[]]|true=>[[120,119,121,122,116,119],[],[121,120],[119,121,122,118],[120],[],[]]
noncomputable def Qh:I Tx->I Tx->Tx->V
 |p::A0,t::l,q=>match CY q p with|true=>.str t|false=>Qh A0 l q
 |_,_,_=>.any
noncomputable def KP(k:AK):Tx->V:=Qh (KL k) (cN k)
noncomputable def T0:Tr:=⟨KL A6,KP A6,KL M,KP M⟩
noncomputable def oA(rs:I V):Mine.St:=⟨[(JQ,.ref 0),(Mg,.ref 1),(OX,.ref 2),(Qg,.ref 5)],[(5,.list [.ref 3,.ref 4]),(4,.dict (BL (KP M) (KL M))),(3,.dict (BL (KP A6) (KL A6))),(2,.list (IH.map .str)),(1,.list (EL.map .str)),(0,.list rs)],6⟩
noncomputable def oB(rs:I V):Mine.St:=⟨[(JQ,.ref 0)],[(0,.list rs)],1⟩
noncomputable def oC(rs:I V):Mine.St:=⟨[(JQ,.ref 0),(Mg,.ref 1)],[(1,.list (EL.map .str)),(0,.list rs)],2⟩
noncomputable def oE(rs:I V):Mine.St:=⟨[(JQ,.ref 0),(Mg,.ref 1),(OX,.ref 2)],[(2,.list (IH.map .str)),(1,.list (EL.map .str)),(0,.list rs)],3⟩
theorem aA0(d:O)(rs:I V):ev C2 60 ⟨BU Ft,d⟩ (.s (Ij 0)) (oB rs)=.ok (.f .next) (oC rs):=by kernel_rfl
theorem aA1(d:O)(rs:I V):ev C2 60 ⟨BU Ft,d⟩ (.s (Ij 1)) (oC rs)=.ok (.f .next) (oE rs):=by kernel_rfl
theorem aA2(d:O)(rs:I V):ev C2 60 ⟨BU Ft,d⟩ (.s (Ij 2)) (oE rs)=.ok (.f .next) (oA rs):=by kernel_rfl
theorem aA3(d:O)(rs:I V)(e0 e1:I (V×V)):ev C2 60 ⟨BU Ft,d⟩ (.e Wv) (Gu rs e0 e1)=.ok (.v (.ref 0)) (Gu rs e0 e1):=by kernel_rfl
theorem aA4(d:O)(rs:I V)(e0 e1:I (V×V)):ev C2 60 ⟨BU Ft,d⟩ (.s (Ij 4)) (Gu rs e0 e1)=.ok (.f (.ret (.ref 3))) (Gu rs e0 e1):=by kernel_rfl
@[irreducible]noncomputable def aA5:BG:=DS Wv ⟨0,0,0,0⟩ λ_ p=>p
theorem aA6:Wv=.Name JQ aA5:=by kernel_rfl
theorem Tl:∀{A0 l:I Tx}(p:Tx),Cl (Qh A0 l p)
 |[],_,_=>λ_=>rfl|_::_,[],_=>λ_=>rfl|q::A0,t::l,p=>by
  unfold Qh;split;. exactλ_=>rfl
  . exact Tl p
theorem oF:T0.Cl:=⟨λp=>Tl p,λp=>Tl p⟩
section
variable{J:I A9}
theorem aA7{rs:I V}(hr:∀v∈rs,Cl v)(g:Gd B F K A (oA rs) C s):Gd B F K A (T0.st rs) (Bz C [0,1,2,5,3,4]) s:=by
 refine g.pick (DG:=T0.st rs) (B6:=[0,1,2,5,3,4]) ⟨rfl,by decide,by show∀i∈_,i<6;decide,λk o e=>?_⟩ λx v e=>?_;. match k,e with
 |0,e=>injection e with e;subst e;exact⟨0,rfl,by show G (Ob.list rs)=G (Ob.list (Cr _ rs));rw[cL hr]⟩|1,e=>injection e with e;subst e;exact⟨1,rfl,by show G (Ob.list (EL.map .str))=G (Ob.list (Cr _ (EL.map .str)));rw[LJ]⟩|2,e=>injection e with e;subst e;exact⟨2,rfl,by show G (Ob.list (IH.map .str))=G (Ob.list (Cr _ (IH.map .str)));rw[LJ]⟩|3,e=>injection e with e;subst e;exact⟨5,rfl,rfl⟩|4,e=>injection e with e;subst e;exact⟨3,rfl,by show G (Ob.dict (BL (KP A6) (KL A6)))=G (Ob.dict (bA7 _ (BL (KP A6) (KL A6))));rw[KO (Mj (w:=KP A6) λp=>Tl p)]⟩|5,e=>injection e with e;subst e;exact⟨4,rfl,by show G (Ob.dict (BL (KP M) (KL M)))=G (Ob.dict (bA7 _ (BL (KP M) (KL M))));rw[KO (Mj (w:=KP M) λp=>Tl p)]⟩|k+6,e=>exact(BB e).elim
 . exact Ss (f:=EK _) (by rfl) e
theorem aA8(AU:(Ba P).In B.base)(AM:De B)(hd:3<=d)(hr:∀r∈rs,r<12)(hk:∀Ii Hv,rs=Ii++Hv->Hv≠[]->(Ii.foldl Tr.turn T0).Known)(g:Gd B F ⟨BU Ft,d⟩ A (oB (E5 rs)) C s):CJ B F ⟨BU Ft,d⟩ A ((rs.foldl Tr.turn T0).st (E5 rs)) C s (Iu (Fg Ft) F.env) (FR (.ret (.ref 3))):=by
 intro A2 E k;have A8:=(all1 AU AM 60).s;rw[az8];refine DF (A8.s (aA0 d _) g _ _ λu AZ AI AN Ab Ap=>?_);cases Ap;refine DF (A8.s (aA1 d _) AN _ _ λu As Ah AT Al BA=>?_);cases BA;refine DF (A8.s (aA2 d _) AT _ _ λu BQ Aw Ao B7 BP=>?_);cases BP;obtain⟨a0,rfl⟩:∃a0,C=[a0]:=by
   have :=g.len;match C,this with|[a],_=>exact⟨a,rfl⟩
 have C9:=aA7 o7 Ao;have nd:[0,1,2,5,3,4].Nodup:=by decide
 have Cy:=o9 (Ab.trans (Al.trans B7)) Ao.nodup (B6:=[1,2,5,3,4]) (by rw[Ao.len];show∀k∈_,k<6;decide) nd;refine DF ?_;rw[az9];refine Xu (A8.eW (aA3 d _ _ _) C9 _ _ λu QK Ec Cn EH IY=>O5 Cn IY (it:=.lst 0) rfl λAD Q tk GX GF hI cO cP=>?_) ?_
 . have W4:s.heap.get? AD=L:=H8 (Cy.trans EH).live hI;refine az6 AU AM hd W4 rs [] T0 hr oF hk GX ((Cy.trans EH).trans GF.FW) cO cP λbV bW TY Qa=>?_;refine DF (A8.s (aA4 d _ _ _) TY _ _ λu aA9 aB0 cQ aB1 Ww=>?_);refine AC Ww ?_;(try clear Ww);intro y Av Ww;subst Av;exact k _ aA9 aB0 cQ (Qa.trans aB1) ⟨y,rfl,Ww⟩
 . intro x;rw[aA6];kernel_rfl
end
noncomputable def oG:I (I Tx):=nZ++n_++nc++nf++ng++nh++nk++nn
theorem aB2(h:A0∈oG):∀r,r<6->JR A0 r:=λr hr=>((Cg (Cg (Cg (Cg (Cg (Cg (Cg ax5 ax6) ax7) ax8) ax9) ay0) ay1) ay2) A0 h) r (P_.mpr hr)
noncomputable def oH:I (I Tx):=no++np++nq++nr++nt++nu++nw++ny
theorem aB3(h:A0∈oH):∀r,r<6->JS A0 r:=λr hr=>((Cg (Cg (Cg (Cg (Cg (Cg (Cg ay3 ay4) ay5) ay6) ay7) ay8) ay9) az0) A0 h) r (P_.mpr hr)
noncomputable def lv(k:AK):O->I (I Tx)
 |0=>[KL k]|a+1=>(lv k a).flatMap λA0=>EL.map (OY A0)
noncomputable def Tm(A0:I Tx)(l:I (I Tx)):AK:=l.any (cD A0)
theorem Wx{l:I (I Tx)}(h:Tm A0 l=M):A0∈l:=AC (IC.mp h) λ_ m e=>nQ e▸m
theorem aB4:((lv A6 0++lv A6 1++lv A6 2).all λA0=>Tm A0 oG)=M:=by kernel_rfl
theorem aB5:((lv M 0++lv M 1++lv M 2).all λA0=>Tm A0 oH)=M:=by kernel_rfl
theorem cR{k:AK}{a:O}(ha:a<=2)(h:A0∈lv k a):A0∈lv k 0++lv k 1++lv k 2:=by
 simp only[Do];exact(show∀a∈[0,1,2],A0∈lv k a->(A0∈lv k 0\/A0∈lv k 1)\/A0∈lv k 2 from all_cons (λh=>.inl (.inl h)) (all_cons (λh=>.inl (.inr h)) (all_cons .inr EA))) a (P_.mpr (fA ha):a∈DQ 3) h
structure Tr.At(T:Tr)(a b:O):Prop where
 l0:T.L0∈lv A6 a
 l1:T.L1∈lv M b
theorem Tr.At.known{T:Tr}{a b:O}(h:T.At a b)(ha:a<=2)(hb:b<=2):T.Known:=⟨aB2 (Wx (Bp.mp aB4 _ (cR ha h.l0))),aB3 (Wx (Bp.mp aB5 _ (cR hb h.l1)))⟩
theorem oI(h:r<12):EL.getD (r/2) []∈EL:=by
 have h6:r/2<EL.length:=gG h;rw[Kh,Hd h6];exact gC h6
theorem Tr.At.turn{T:Tr}{a b:O}(h:T.At a b)(hr:r<12):(T.turn r).At (a+1) b\/(T.turn r).At a (b+1):=by
 unfold Tr.turn;split;. exact .inl ⟨uA.mpr ⟨_,h.l0,u0 (oI hr)⟩,h.l1⟩
 . exact .inr ⟨h.l0,uA.mpr ⟨_,h.l1,u0 (oI hr)⟩⟩
theorem Wy:∀(l:I O){T:Tr}{a b:O},T.At a b->(∀r∈l,r<12)->∃a' b',a'+b'=a+b+l.length/\(l.foldl Tr.turn T).At a' b'
 |[],T,a,b,h,_=>⟨a,b,by simp,h⟩|r::l,T,a,b,h,hr=>by
  rcases h.turn (hr r (Co ..))with h|h
  . refine EU (Wy l h λx m=>hr x (Cp _ m)) ?_;intro a' b' e q;exact⟨a',b',by rw[e,R_];(with_reducible exact Mine.vF),q⟩
  . refine EU (Wy l h λx m=>hr x (Cp _ m)) ?_;intro a' b' e q;exact⟨a',b',by rw[e,R_];omega,q⟩
theorem oJ:T0.At 0 0:=⟨CH.mpr rfl,CH.mpr rfl⟩
theorem aB6(h3:rs.length<=3)(hr:∀r∈rs,r<12):∀Ii Hv,rs=Ii++Hv->Hv≠[]->(Ii.foldl Tr.turn T0).Known:=λIi Hv e Cb=>by
 subst e;refine EU (Wy Ii oJ λr m=>hr r (bA8 _ m)) ?_;intro a b q h;have :1<=Hv.length:=by cases Hv with|nil=>exact absurd rfl Cb|cons _ _=>simp
 rw[F8]at h3;exact h.known (by omega) (by(with_reducible exact Mine.vA (by assumption) (by assumption) (by assumption)))
section
variable{env:I (Y×V)}
theorem aB7(AU:(Ba P).In B.base)(AM:De B)(hd:K.d=d+1)(h3:3<=d)(hl:rs.length<=3)(hr:∀r∈rs,r<12)(g:Gd B F K A ⟨env,[(0,.list (E5 rs))],1⟩ C s)(ru:VR s.heap C (.ref 0) u):Ae B F K A ⟨env,((rs.foldl Tr.turn T0).st (E5 rs)).h,6⟩ C s (CD (.ref 387) [u]) (RV (.ref 3)):=by
 have hf:AJ Ib 387=G (DC (B_ 28)):=by kernel_rfl
 refine D9 (Mc AU (Me AU) (OU P hf)) ?_;intro o fd ok;exact o4 (H:=⟨env,[(0,.list (E5 rs))],1⟩) ok (AA:=(rs.foldl Tr.turn T0).st (E5 rs)) (b:=[(JQ,.ref 0)]) (args:=[.ref 0]) (by kernel_rfl) hd (.inr rfl) (λg'=>(by have q:=@aA8;rw[show Ft=B_ 28 by unfold Ft;rfl]at q;exact q AU AM h3 hr (aB6 hl hr) g')) g ⟨u,[],rfl,ru,rfl⟩
end
noncomputable def oK(o:A1):AL (I (V×V)×I (V×V)):=K0 o L λv H=>DL v L λi=>bT (EN 1 i) L<|Az (AJ H.h i) λa=>G4 a L λN=>Az (AJ H.h 0) λb=>G4 b L λcS=>G (N,cS)
noncomputable def F_(A0:I Tx):Prop:=∀(sc:BS)(w:Tx->V),oK (ev C2 100 ⟨sc,8⟩ (.call (.top (.ref 392)) [.ref 0]) ⟨[],[(0,.dict (BL w A0))],1⟩)=G (BL w A0,BL w A0)
theorem Gv{l:I (I Tx)}(h:∀(sc:BS)(w:Tx->V),l.map (λA0=>oK (ev C2 100 ⟨sc,8⟩ (.call (.top (.ref 392)) [.ref 0]) ⟨[],[(0,.dict (BL w A0))],1⟩))=l.map λA0=>G (BL w A0,BL w A0)):∀A0∈l,F_ A0:=λA0 m sc w=>H'.mp (h sc w) A0 m
noncomputable def cU:I (I Tx):=[[q2,q6,q9,q7,q8,q3],[q2,q6,q9,q7,q8,q3,AY],[q2,q6,q9,q7,q8,AY,q3],[q2,q9,q7,q8,q3,q6],[q2,q9,q7,q8,q3,q6,AY],[q2,q9,q7,q8,q3,AY,q6],[q2,q9,q7,q8,q6,q3],[q2,q9,q7,q8,q6,q3,AY],[q2,q9,q7,q8,q6,AY,q3],[q2,q9,q7,q8,AY,q3,q6],[q2,q9,q7,q8,AY,q6,q3],[q3,q2,q6,q9,q7,q8]]
theorem aB8:∀A0∈cU,F_ A0:=Gv λsc w=>by kernel_rfl
noncomputable def cV:I (I Tx):=[[q3,q2,q6,q9,q7,q8,AY],[q3,q2,q9,q7,q8,q6],[q3,q2,q9,q7,q8,q6,AY],[q3,q2,q9,q7,q8,AY,q6],[q3,q6,q9,q7,q8,q1],[q3,q6,q9,q7,q8,q1,AY],[q3,q6,q9,q7,q8,q2],[q3,q6,q9,q7,q8,q2,AY],[q3,q6,q9,q7,q8,AY,q1],[q3,q6,q9,q7,q8,AY,q2],[q3,q9,q7,q8,q1,q6],[q3,q9,q7,q8,q1,q6,AY]]
theorem aB9:∀A0∈cV,F_ A0:=Gv λsc w=>by kernel_rfl
noncomputable def cW:I (I Tx):=[[q3,q9,q7,q8,q1,AY,q6],[q3,q9,q7,q8,q2,q6],[q3,q9,q7,q8,q2,q6,AY],[q3,q9,q7,q8,q2,AY,q6],[q3,q9,q7,q8,q6,q1],[q3,q9,q7,q8,q6,q1,AY],[q3,q9,q7,q8,q6,q2],[q3,q9,q7,q8,q6,q2,AY],[q3,q9,q7,q8,q6,AY,q1],[q3,q9,q7,q8,q6,AY,q2],[q3,q9,q7,q8,AY,q1,q6],[q3,q9,q7,q8,AY,q2,q6]]
theorem aC0:∀A0∈cW,F_ A0:=Gv λsc w=>by kernel_rfl
noncomputable def cX:I (I Tx):=[[q3,q9,q7,q8,AY,q6,q1],[q3,q9,q7,q8,AY,q6,q2],[q6,q9,q7,q8,q0],[q6,q9,q7,q8,q0,AY],[q6,q9,q7,q8,q1],[q6,q9,q7,q8,q1,q3],[q6,q9,q7,q8,q1,q3,AY],[q6,q9,q7,q8,q1,AY],[q6,q9,q7,q8,q1,AY,q3],[q6,q9,q7,q8,q2],[q6,q9,q7,q8,q2,q3],[q6,q9,q7,q8,q2,q3,AY]]
theorem aC1:∀A0∈cX,F_ A0:=Gv λsc w=>by kernel_rfl
noncomputable def cY:I (I Tx):=[[q6,q9,q7,q8,q2,AY],[q6,q9,q7,q8,q2,AY,q3],[q6,q9,q7,q8,q3],[q6,q9,q7,q8,q3,q1],[q6,q9,q7,q8,q3,q1,AY],[q6,q9,q7,q8,q3,q2],[q6,q9,q7,q8,q3,q2,AY],[q6,q9,q7,q8,q3,AY],[q6,q9,q7,q8,q3,AY,q1],[q6,q9,q7,q8,q3,AY,q2],[q6,q9,q7,q8,AY,q0],[q6,q9,q7,q8,AY,q1]]
theorem aC2:∀A0∈cY,F_ A0:=Gv λsc w=>by kernel_rfl
noncomputable def cZ:I (I Tx):=[[q6,q9,q7,q8,AY,q1,q3],[q6,q9,q7,q8,AY,q2],[q6,q9,q7,q8,AY,q2,q3],[q6,q9,q7,q8,AY,q3],[q6,q9,q7,q8,AY,q3,q1],[q6,q9,q7,q8,AY,q3,q2],[q9,q7,q8,q0,q6],[q9,q7,q8,q0,q6,AY],[q9,q7,q8,q0,AY,q6],[q9,q7,q8,q1,q3,q6],[q9,q7,q8,q1,q6],[q9,q7,q8,q1,q6,q3]]
theorem aC3:∀A0∈cZ,F_ A0:=Gv λsc w=>by kernel_rfl
noncomputable def c_:I (I Tx):=[[q9,q7,q8,q2,q3,q6],[q9,q7,q8,q2,q6],[q9,q7,q8,q2,q6,q3],[q9,q7,q8,q3,q1,q6],[q9,q7,q8,q3,q2,q6],[q9,q7,q8,q3,q6],[q9,q7,q8,q3,q6,q1],[q9,q7,q8,q3,q6,q2],[q9,q7,q8,q6,q0],[q9,q7,q8,q6,q0,AY],[q9,q7,q8,q6,q1],[q9,q7,q8,q6,q1,q3]]
theorem aC4:∀A0∈c_,F_ A0:=Gv λsc w=>by kernel_rfl
noncomputable def ca:I (I Tx):=[[q9,q7,q8,q6,q2],[q9,q7,q8,q6,q2,q3],[q9,q7,q8,q6,q3],[q9,q7,q8,q6,q3,q1],[q9,q7,q8,q6,q3,q2],[q9,q7,q8,q6,AY,q0],[q9,q7,q8,AY,q0,q6],[q9,q7,q8,AY,q6,q0]]
theorem aC5:∀A0∈ca,F_ A0:=Gv λsc w=>by kernel_rfl
noncomputable def OZ:I (I Tx):=cU++cV++cW++cX++cY++cZ++c_++ca
theorem aC6(h:A0∈OZ):F_ A0:=(Cg (Cg (Cg (Cg (Cg (Cg (Cg aB8 aB9) aC0) aC1) aC2) aC3) aC4) aC5) A0 h
theorem aC7:((lv A6 0++lv A6 1++lv A6 2++lv A6 3).all λA0=>Tm A0 OZ)=M:=by kernel_rfl
noncomputable def cb:I (I Tx):=[[q1,q6,q9,q4,q5,q3,AY],[q1,q6,q9,q4,q5,AY,q3],[q1,q6,q9,AY,q4,q5,q3],[q1,q9,q4,q5,q3,q6,AY],[q1,q9,q4,q5,q3,AY,q6],[q1,q9,q4,q5,q6,q3,AY],[q1,q9,q4,q5,q6,AY,q3],[q1,q9,q4,q5,AY,q3,q6],[q1,q9,q4,q5,AY,q6,q3],[q1,q9,AY,q4,q5,q3,q6],[q1,q9,AY,q4,q5,q6,q3],[q3,q1,q6,q9,q4,q5,AY]]
theorem aC8:∀A0∈cb,F_ A0:=Gv λsc w=>by kernel_rfl
noncomputable def cc:I (I Tx):=[[q3,q1,q6,q9,AY,q4,q5],[q3,q1,q9,q4,q5,q6,AY],[q3,q1,q9,q4,q5,AY,q6],[q3,q1,q9,AY,q4,q5,q6],[q3,q6,q9,q4,q5,q1,AY],[q3,q6,q9,q4,q5,q2,AY],[q3,q6,q9,q4,q5,AY,q1],[q3,q6,q9,q4,q5,AY,q2],[q3,q6,q9,AY,q4,q5,q1],[q3,q6,q9,AY,q4,q5,q2],[q3,q9,q4,q5,q1,q6,AY],[q3,q9,q4,q5,q1,AY,q6]]
theorem aC9:∀A0∈cc,F_ A0:=Gv λsc w=>by kernel_rfl
noncomputable def cg:I (I Tx):=[[q3,q9,q4,q5,q2,q6,AY],[q3,q9,q4,q5,q2,AY,q6],[q3,q9,q4,q5,q6,q1,AY],[q3,q9,q4,q5,q6,q2,AY],[q3,q9,q4,q5,q6,AY,q1],[q3,q9,q4,q5,q6,AY,q2],[q3,q9,q4,q5,AY,q1,q6],[q3,q9,q4,q5,AY,q2,q6],[q3,q9,q4,q5,AY,q6,q1],[q3,q9,q4,q5,AY,q6,q2],[q3,q9,AY,q4,q5,q1,q6],[q3,q9,AY,q4,q5,q2,q6]]
theorem aD0:∀A0∈cg,F_ A0:=Gv λsc w=>by kernel_rfl
noncomputable def ch:I (I Tx):=[[q3,q9,AY,q4,q5,q6,q1],[q3,q9,AY,q4,q5,q6,q2],[q6,q9,q4,q5,q0,AY],[q6,q9,q4,q5,q1,q3,AY],[q6,q9,q4,q5,q1,AY],[q6,q9,q4,q5,q1,AY,q3],[q6,q9,q4,q5,q2,q3,AY],[q6,q9,q4,q5,q2,AY],[q6,q9,q4,q5,q2,AY,q3],[q6,q9,q4,q5,q3,q1,AY],[q6,q9,q4,q5,q3,q2,AY],[q6,q9,q4,q5,q3,AY]]
theorem aD1:∀A0∈ch,F_ A0:=Gv λsc w=>by kernel_rfl
noncomputable def ci:I (I Tx):=[[q6,q9,q4,q5,q3,AY,q1],[q6,q9,q4,q5,q3,AY,q2],[q6,q9,q4,q5,AY,q0],[q6,q9,q4,q5,AY,q1],[q6,q9,q4,q5,AY,q1,q3],[q6,q9,q4,q5,AY,q2],[q6,q9,q4,q5,AY,q2,q3],[q6,q9,q4,q5,AY,q3],[q6,q9,q4,q5,AY,q3,q1],[q6,q9,q4,q5,AY,q3,q2],[q6,q9,AY,q4,q5,q0],[q6,q9,AY,q4,q5,q1]]
theorem aD2:∀A0∈ci,F_ A0:=Gv λsc w=>by kernel_rfl
noncomputable def cj:I (I Tx):=[[q6,q9,AY,q4,q5,q1,q3],[q6,q9,AY,q4,q5,q2],[q6,q9,AY,q4,q5,q2,q3],[q6,q9,AY,q4,q5,q3],[q6,q9,AY,q4,q5,q3,q1],[q6,q9,AY,q4,q5,q3,q2],[q9,q4,q5,q0,q6,AY],[q9,q4,q5,q0,AY,q6],[q9,q4,q5,q6,q0,AY],[q9,q4,q5,q6,AY,q0],[q9,q4,q5,AY,q0,q6],[q9,q4,q5,AY,q6,q0]]
theorem aD3:∀A0∈cj,F_ A0:=Gv λsc w=>by kernel_rfl
noncomputable def ck:I (I Tx):=[[q9,AY,q4,q5,q0,q6],[q9,AY,q4,q5,q1,q3,q6],[q9,AY,q4,q5,q1,q6],[q9,AY,q4,q5,q1,q6,q3],[q9,AY,q4,q5,q2,q3,q6],[q9,AY,q4,q5,q2,q6],[q9,AY,q4,q5,q2,q6,q3],[q9,AY,q4,q5,q3,q1,q6],[q9,AY,q4,q5,q3,q2,q6],[q9,AY,q4,q5,q3,q6],[q9,AY,q4,q5,q3,q6,q1],[q9,AY,q4,q5,q3,q6,q2]]
theorem aD4:∀A0∈ck,F_ A0:=Gv λsc w=>by kernel_rfl
noncomputable def cm:I (I Tx):=[[q9,AY,q4,q5,q6,q0],[q9,AY,q4,q5,q6,q1],[q9,AY,q4,q5,q6,q1,q3],[q9,AY,q4,q5,q6,q2],[q9,AY,q4,q5,q6,q2,q3],[q9,AY,q4,q5,q6,q3],[q9,AY,q4,q5,q6,q3,q1],[q9,AY,q4,q5,q6,q3,q2]]
theorem aD5:∀A0∈cm,F_ A0:=Gv λsc w=>by kernel_rfl
noncomputable def O_:I (I Tx):=cb++cc++cg++ch++ci++cj++ck++cm
theorem aD6(h:A0∈O_):F_ A0:=(Cg (Cg (Cg (Cg (Cg (Cg (Cg aC8 aC9) aD0) aD1) aD2) aD3) aD4) aD5) A0 h
theorem aD7:((lv M 0++lv M 1++lv M 2++lv M 3).all λA0=>Tm A0 O_)=M:=by kernel_rfl
noncomputable def Mk(k:AK)(v:V):Prop:=v=.any\/∃t,t∈Bm k/\v=.str t
theorem aD8(k:AK):∀t∈IH,t∈Bm k:=by
 have h:(IH.all λt=>(Bm k).any (CY t))=M:=by cases k<;>kernel_rfl
 intro t m;refine AC (IC.mp (Bp.mp h t m)) ?_;intro x hx e;rw[EZ.mp e];exact hx
theorem oM(k:AK):∀t∈cN k,t∈Bm k:=by
 have h:((cN k).all λt=>(Bm k).any (CY t))=M:=by cases k<;>kernel_rfl
 intro t m;refine AC (IC.mp (Bp.mp h t m)) ?_;intro x hx e;rw[EZ.mp e];exact hx
theorem cp{k:AK}:∀{A0 l:I Tx}(p:Tx),(∀t∈l,t∈Bm k)->Mk k (Qh A0 l p)
 |[],_,_,_=>.inl rfl|_::_,[],_,_=>.inl rfl|q::A0,t::l,p,h=>by
  unfold Qh;split;. exact .inr ⟨t,h t (Co ..),rfl⟩
  . exact cp p λx m=>h x (Cp _ m)
structure Tr.Ok(T:Tr):Prop where
 w0:∀p,Mk A6 (T.w0 p)w1:∀p,Mk M (T.w1 p)
theorem oO{k:AK}{w:Tx->V}{p:Tx}(h:∀p,Mk k (w p)):∀q,Mk k (KN w p .any q):=λq=>by
 unfold KN;split;. exact .inl rfl
 . exact h q
theorem aD9:T0.Ok:=⟨λp=>cp p (oM A6),λp=>cp p (oM M)⟩
theorem Tr.Ok.turn{T:Tr}(h:T.Ok)(r:O):(T.turn r).Ok:=by
 unfold Tr.turn;split;. exact⟨oO h.w0,h.w1⟩
 . exact⟨h.w0,oO h.w1⟩
theorem oP:∀(l:I O){T:Tr},T.Ok->(l.foldl Tr.turn T).Ok
 |[],_,h=>h|r::l,_,h=>oP l (h.turn r)
noncomputable def LO:I Tx->AK
 |[]=>M|x::l=>!l.any (CY x)&&LO l
theorem Ml:∀{l:I Tx},LO l=M->l.Nodup
 |[],_=>by simp|x::l,h=>by
  simp only[LO,D2,RL,Xw]at h;exact ER.mpr ⟨λm=>h.1 x m (EZ.mpr rfl),Ml h.2⟩
theorem oQ(k:AK):((lv k 0++lv k 1++lv k 2++lv k 3).all LO)=M:=by cases k<;>kernel_rfl
theorem Wz{k:AK}{a:O}(ha:a<=3)(h:A0∈lv k a):A0∈lv k 0++lv k 1++lv k 2++lv k 3:=by
 by_cases h2:a<=2;. exact bA8 _ (cR h2 h)
 . obtain rfl:a=3:=by(with_reducible exact Mine.yG (by assumption) (by assumption))
   exact PZ _ h
noncomputable abbrev CA(k:AK):Type:=Tx->{t:Tx//t∈Bm k}
noncomputable def Ax{k:AK}(AO:CA k)(p:Tx):V:=.sym k (AO p).1 (AO p).2
section
variable{k:AK}
theorem aE0(hw:Mk k v)(r:VR h C v u):∃t,∃hm:t∈Bm k,VR h C (.sym k t hm) u:=by
 rcases hw with rfl|Av;rotate_left;refine AC Av ?_;(try clear Av);intro t hm Bf;subst Bf;rotate_left
 . refine EU r ?_;(try clear r);intro t tk e hm;exact⟨t,aD8 k t hm,tk,e⟩
 . exact⟨t,hm,r⟩
theorem aE1(k:AK):[]∈Bm k:=by cases k<;>exact Co ..
theorem cq{key:T->V}{w:Tx->V}(hw:∀p,Mk k (w p)):∀{A0:I Tx}{l:I (T×A4)},A0.Nodup->DR key h C (BL w A0) l->∃AO:CA k,DR key h C (BL (Ax AO) A0) l
 |[],_,_,e=>⟨λ_=>⟨[],aE1 k⟩,e⟩|p::A0,_,nd,⟨k',u,r,e,a,b,c⟩=>by
  refine xE (cq hw (ER.mp nd).2 c) ?_;intro AO d;obtain⟨t,hm,b'⟩:=aE0 (hw p) b;refine⟨λq=>if q=p then⟨t,hm⟩else AO q,k',u,r,e,a,?_,?_⟩
  . show VR h C (Ax (k:=k) (λq=>if q=p then⟨t,hm⟩else AO q) p) u;simp only[Ax,Jj];exact b'
  . have :BL (Ax λq=>if q=p then(⟨t,hm⟩:{t:Tx//t∈Bm k})else AO q) A0=BL (Ax AO) A0:=by
     refine gb λq hq=>?_;have Cb:q≠p:=λz=>(ER.mp nd).1 (z▸hq);simp only[Ax,CN Cb]
    show DR key h C (BL _ A0) r;rw[this];exact d
theorem Gd.KQ(g:Gd B F K A H C s)(hi:AJ H.h i=G o)(ho:∀a,C[i]?=G a->C_ B.prog B.w s.heap C a o->C_ B.prog B.w s.heap C a o'):Gd B F K A (H.set i o') C s:=⟨g.kinds,g.len,g.nodup,g.fresh,g.live,g.D4,g.D0,λj p e=>by
 rcases Zx e with B5|BI;refine xA B5 ?_;(try clear B5);intro Br C8;subst Br;subst C8;rotate_left;refine xA BI ?_;(try clear BI);intro _ e;rotate_left;. refine AC (g.objs _ _ hi) ?_;intro a ha r;exact⟨a,ha,ho a ha r⟩
 . exact g.objs j p e,g.env,g.base,g.os,g.gens,g.frames,g.DN,g.Cw,g.mods,g.handled,g.depth,g.units⟩
theorem Gd.syms(g:Gd B F K A H C s){w:Tx->V}(hi:AJ H.h i=G (.dict (BL w A0)))(nd:A0.Nodup)(hw:∀p,Mk k (w p)):∃AO:CA k,Gd B F K A (H.set i (.dict (BL (Ax AO) A0))) C s:=by
 refine AC (g.objs i _ hi) ?_;intro a ha r;have key:∃AO:CA k,Dm B.prog B.w s.heap C a (BL (Ax AO) A0):=by
  rcases r with BO|Bo;refine AC BO ?_;(try clear BO);intro Ay d r;rotate_left;refine AC Bo ?_;(try clear Bo);intro Ay d r;rotate_left;. refine xE (cq hw nd r) ?_;(try clear r);intro AO r;exact⟨AO,.inl ⟨Ay,d,r⟩⟩
  . refine xE (cq hw nd r) ?_;(try clear r);intro AO r;exact⟨AO,.inr ⟨Ay,d,r⟩⟩
 refine xE key ?_;(try clear key);intro AO q;refine⟨AO,g.KQ hi λa' Fj _=>?_⟩;rw[ha]at Fj;injection Fj with Fj;subst Fj;exact q
end
noncomputable def Tn(p:Tx)(l:I Tx):AK:=l.any (CY p)
theorem X'{p:Tx}(h:Tn p l=M):p∈l:=AC (IC.mp h) λ_ m e=>EZ.mp e▸m
noncomputable def keyLt(a b:V):AK:=vStr a A6 λx=>vStr b A6 λy=>EX x y
noncomputable def X0(e:V×V):I (V×V)->I (V×V)
 |[]=>[e]|x::l=>bC (keyLt e.1 x.1) (e::x::l) (x::X0 e l)
noncomputable def X1:I (V×V)->I (V×V)
 |[]=>[]|e::l=>X0 e (X1 l)
theorem aE2{e:V×V}{l:I (V×V)}:(X0 e l).Perm (e::l):=by induction l with
 |nil=>exact .refl _|cons x l ih=>
 refine(?_:(bC (keyLt e.1 x.1) (e::x::l) (x::X0 e l)).Perm _);cases keyLt e.1 x.1 with
 |true=>exact .refl _|false=>exact(ih.cons x).trans (.swap ..)
theorem aE3{l:I (V×V)}:(X1 l).Perm l:=by induction l with
 |nil=>exact .refl _|cons e l ih=>exact aE2.trans (ih.cons e)
noncomputable def X2(h:I (O×Ob)):O->V->AL (I O)
 |0,_=>L|n+1,v=>DL v (G []) λi=>Az (AJ h i) λo=>G4 o L λN=>Az ((X1 N).foldr (λe r=>Az (X2 h n e.2) λa=>Az r λb=>G (a++b)) (G [])) λl=>G (i::l)
theorem aE4{h:I (O×Ob)}(e:X2 h n (.ref i)=G B6):B6[0]?=G i:=by cases n with
 |zero=>exact(BB e).elim|succ n=>
 refine BH (show Az (AJ h i) _=G B6 from e) λo _ e=>?_;apply J4 e AE;intro N e;exact BH e λl _ e=>Bk e▸rfl
noncomputable def X3:I O->O->AL O
 |[],_=>L|a::l,i=>bC (B8 a i) (G 0) (Az (X3 l i) λk=>G (k+1))
theorem aE5{l:I O}:∀{k:O},X3 l i=G k->l[k]?=G i:=by induction l with
 |nil=>exactλh=>(AE h).elim|cons a l ih=>
 intro k h;refine Fi (show bC (B8 a i) (G 0) (Az (X3 l i) λk=>G (k+1))=G k from h) (λe h=>?_) λ_ h=>BH h λk' hk h=>?_;. rw[<-Bk h,CC e];rfl
 . rw[<-Bk h];exact ih hk
noncomputable def cr(B6:I O)(v:V):AL V:=DL v (bT (Va v) L (G v)) λi=>Az (X3 B6 i) λk=>G (.ref k)
theorem aE6(h:Va v=M):EK B9 v=v:=by cases v<;>first|rfl|exact(B3 h).elim
theorem aE7(h:cr B6 v=G v'):EK (DH n B6) v'=v:=by
 apply VS h
 . intro i h;refine BH h λk hk h=>?_;rw[<-Bk h];refine congrArg V.ref ?_;unfold DH;rw[aE5 hk]
 . intro h;exact Cj h AE λq h=>Bk h▸aE6 q
noncomputable def cw(B6:I O):I (V×V)->AL (I (V×V))
 |[]=>G []|e::l=>Az (cr B6 e.2) λv=>Az (cw B6 l) λm=>G ((e.1,v)::m)
theorem aE8{l:I (V×V)}:∀{m:I (V×V)},cw B6 l=G m->m.map (JN (DH n B6))=l:=by induction l with
 |nil=>exactλh=>Bk h▸rfl|cons e l ih=>
 intro m h;refine BH (show Az (cr B6 e.2) _=G m from h) λv hv h=>BH h λr hm h=>?_;rw[<-Bk h,I9,ih hm];exact congrArg (·::l) (NI rfl (aE7 hv))
noncomputable def X4(h:I (O×Ob))(B6:I O):I O->O->AL (I (O×Ob))
 |[],_=>G []|i::l,j=>Az (AJ h i) λo=>G4 o L λN=>Az (cw B6 (X1 N)) λm=>Az (X4 h B6 l (j+1)) λr=>G ((j,.B1 m)::r)
noncomputable def oR(o:A1):AL (I O×I (O×Ob)):=K0 o L λv H=>DL v L λi=>Az (X2 H.h 20 (.ref i)) λB6=>Az (X4 H.h B6 B6 0) λBD=>G (B6,BD)
theorem oU{o:A1}{p:I O×I (O×Ob)}(e:oR o=G p){P:Prop}(c:∀i H,o=.ok (.v (.ref i)) H->X2 H.h 20 (.ref i)=G p.1->X4 H.h p.1 p.1 0=G p.2->P):P:=by
 apply Vp e AE;intro v H ho e;revert ho;apply EF e AE;intro i e ho;refine BH e λB6 h1 e=>BH e λBD h2 e=>?_;exact c i H ho (Bk e▸h1) (Bk e▸h2)
theorem oV{h:I (O×Ob)}{l:I O}:∀{j:O}{BD:I (O×Ob)},X4 h B6 l j=G BD->BD.length=l.length/\(∀i∈l,∃N,AJ h i=G (.dict N))/\∀j' o,AJ BD j'=G o->∃k i N BM,j'=j+k/\l[k]?=G i/\AJ h i=G (.dict BM)/\o=.B1 N/\∀n,BM.Perm (N.map (JN (DH n B6))):=by induction l with
 |nil=>exactλe=>Bk e▸⟨rfl,λ_ m=>(nomatch m),λ_ _ q=>(AE q).elim⟩|cons i l ih=>
 intro j BD e;refine BH (show Az (AJ h i) _=G BD from e) λob hi e=>?_;revert hi;apply J4 e AE;intro N e hi;refine BH e λm hm e=>BH e λr hr e=>?_;rw[<-Bk e];have z:=ih hr;refine⟨congrArg (·+1) z.1,λi' m=>(Ci.mp m).elim (λe=>⟨N,e▸hi⟩) (z.2.1 i'),λj' o q=>?_⟩;refine Zq (P:=λj' o=>∃k i' N BM,j'=j+k/\(i::l)[k]?=G i'/\AJ h i'=G (.dict BM)/\o=.B1 N/\∀n,BM.Perm (N.map (JN (DH n B6)))) q ?_ λ_ q=>?_;. exact⟨0,i,m,N,rfl,rfl,hi,rfl,λn=>by rw[aE8 hm];exact aE3.symm⟩
 . refine VD (z.2.2 j' o q) ?_;intro k i' F0 es2 e1 e2 e3 e4 e5;exact⟨k+1,i',F0,es2,by rw[e1,NG,Lg 1 k],e2,e3,e4,e5⟩
noncomputable def grown(sc:BS)(k:AK)(AO:CA k)(A0:I Tx):A1:=ev C2 100 ⟨sc,8⟩ (.call (.top (.ref 411)) [.ref 0]) ⟨[],[(0,.dict (BL (Ax AO) A0))],1⟩
noncomputable def cx:I O->AK
 |[]=>M|x::l=>!l.any (B8 x)&&cx l
noncomputable def Eo(sc:BS)(k:AK)(AO:CA k)(A0:I Tx):AL (I (O×Ob)):=Az (oR (grown sc k AO A0)) λp=>bT (cx p.1&&p.1.all (EN 1)) L (G p.2)
noncomputable def To(A0 Au:I Tx):AK:=A0.all (λp=>Tn p Au)&&Au.all (λp=>Tn p A0)
noncomputable def CB(A0:I Tx):I (I Tx)->O
 |[]=>0|Au::l=>match To A0 Au with|true=>0|false=>CB A0 l+1
noncomputable def DW:I (I Tx):=[[q0,q6,q7,q8,q9],[q0,q6,q7,q8,q9,AY],[q1,q3,q6,q7,q8,q9],[q1,q3,q6,q7,q8,q9,AY],[q1,q6,q7,q8,q9],[q1,q6,q7,q8,q9,AY],[q2,q3,q6,q7,q8,q9],[q2,q3,q6,q7,q8,q9,AY],[q2,q6,q7,q8,q9],[q2,q6,q7,q8,q9,AY],[q3,q6,q7,q8,q9],[q3,q6,q7,q8,q9,AY]]
noncomputable def F1:O->CA A6->I (O×Ob)
 |0,AO=>[(0,.B1 [(.str [97],Ax AO q0),(.str [104],Ax AO q6),(.str [107],.ref 1),(.str [109],Ax AO q9)]),(1,.B1 [(.str [112],Ax AO q7),(.str [113],Ax AO q8)])]|1,AO=>[(0,.B1 [(.str [97],Ax AO q0),(.str [104],Ax AO q6),(.str [107],.ref 1),(.str [109],Ax AO q9),(.str [110],.ref 2)]),(1,.B1 [(.str [112],Ax AO q7),(.str [113],Ax AO q8)]),(2,.B1 [(.str [107],Ax AO AY)])]|2,AO=>[(0,.B1 [(.str [97],.ref 1),(.str [104],Ax AO q6),(.str [107],.ref 2),(.str [109],Ax AO q9)]),(1,.B1 [(.str [98],Ax AO q1),(.str [102],Ax AO q3)]),(2,.B1 [(.str [112],Ax AO q7),(.str [113],Ax AO q8)])]|3,AO=>[(0,.B1 [(.str [97],.ref 1),(.str [104],Ax AO q6),(.str [107],.ref 2),(.str [109],Ax AO q9),(.str [110],.ref 3)]),(1,.B1 [(.str [98],Ax AO q1),(.str [102],Ax AO q3)]),(2,.B1 [(.str [112],Ax AO q7),(.str [113],Ax AO q8)]),(3,.B1 [(.str [107],Ax AO AY)])]|4,AO=>[(0,.B1 [(.str [97],.ref 1),(.str [104],Ax AO q6),(.str [107],.ref 2),(.str [109],Ax AO q9)]),(1,.B1 [(.str [98],Ax AO q1)]),(2,.B1 [(.str [112],Ax AO q7),(.str [113],Ax AO q8)])]|5,AO=>[(0,.B1 [(.str [97],.ref 1),(.str [104],Ax AO q6),(.str [107],.ref 2),(.str [109],Ax AO q9),(.str [110],.ref 3)]),(1,.B1 [(.str [98],Ax AO q1)]),(2,.B1 [(.str [112],Ax AO q7),(.str [113],Ax AO q8)]),(3,.B1 [(.str [107],Ax AO AY)])]|6,AO=>[(0,.B1 [(.str [97],.ref 1),(.str [104],Ax AO q6),(.str [107],.ref 3),(.str [109],Ax AO q9)]),(1,.B1 [(.str [98],.ref 2),(.str [102],Ax AO q3)]),(2,.B1 [(.str [103],Ax AO q2)]),(3,.B1 [(.str [112],Ax AO q7),(.str [113],Ax AO q8)])]|7,AO=>[(0,.B1 [(.str [97],.ref 1),(.str [104],Ax AO q6),(.str [107],.ref 3),(.str [109],Ax AO q9),(.str [110],.ref 4)]),(1,.B1 [(.str [98],.ref 2),(.str [102],Ax AO q3)]),(2,.B1 [(.str [103],Ax AO q2)]),(3,.B1 [(.str [112],Ax AO q7),(.str [113],Ax AO q8)]),(4,.B1 [(.str [107],Ax AO AY)])]|8,AO=>[(0,.B1 [(.str [97],.ref 1),(.str [104],Ax AO q6),(.str [107],.ref 3),(.str [109],Ax AO q9)]),(1,.B1 [(.str [98],.ref 2)]),(2,.B1 [(.str [103],Ax AO q2)]),(3,.B1 [(.str [112],Ax AO q7),(.str [113],Ax AO q8)])]|9,AO=>[(0,.B1 [(.str [97],.ref 1),(.str [104],Ax AO q6),(.str [107],.ref 3),(.str [109],Ax AO q9),(.str [110],.ref 4)]),(1,.B1 [(.str [98],.ref 2)]),(2,.B1 [(.str [103],Ax AO q2)]),(3,.B1 [(.str [112],Ax AO q7),(.str [113],Ax AO q8)]),(4,.B1 [(.str [107],Ax AO AY)])]|10,AO=>[(0,.B1 [(.str [97],.ref 1),(.str [104],Ax AO q6),(.str [107],.ref 2),(.str [109],Ax AO q9)]),(1,.B1 [(.str [102],Ax AO q3)]),(2,.B1 [(.str [112],Ax AO q7),(.str [113],Ax AO q8)])]|_,AO=>[(0,.B1 [(.str [97],.ref 1),(.str [104],Ax AO q6),(.str [107],.ref 2),(.str [109],Ax AO q9),(.str [110],.ref 3)]),(1,.B1 [(.str [102],Ax AO q3)]),(2,.B1 [(.str [112],Ax AO q7),(.str [113],Ax AO q8)]),(3,.B1 [(.str [107],Ax AO AY)])]
theorem Gw{k:AK}{f:I Tx->CA k->I (O×Ob)}{l:I (I Tx)}(h:∀(sc:BS)(AO:CA k),l.map (Eo sc k AO)=l.map λA0=>G (f A0 AO)):∀A0∈l,∀(sc:BS)(AO:CA k),Eo sc k AO A0=G (f A0 AO):=λA0 m sc AO=>H'.mp (h sc AO) A0 m
theorem aE9:∀A0∈cU,∀(sc:BS)(AO:CA A6),Eo sc A6 AO A0=G (F1 (CB A0 DW) AO):=Gw (f:=λA0=>F1 (CB A0 DW)) λsc AO=>by kernel_rfl
theorem aF0:∀A0∈cV,∀(sc:BS)(AO:CA A6),Eo sc A6 AO A0=G (F1 (CB A0 DW) AO):=Gw (f:=λA0=>F1 (CB A0 DW)) λsc AO=>by kernel_rfl
theorem aF1:∀A0∈cW,∀(sc:BS)(AO:CA A6),Eo sc A6 AO A0=G (F1 (CB A0 DW) AO):=Gw (f:=λA0=>F1 (CB A0 DW)) λsc AO=>by kernel_rfl
theorem aF2:∀A0∈cX,∀(sc:BS)(AO:CA A6),Eo sc A6 AO A0=G (F1 (CB A0 DW) AO):=Gw (f:=λA0=>F1 (CB A0 DW)) λsc AO=>by kernel_rfl
theorem aF3:∀A0∈cY,∀(sc:BS)(AO:CA A6),Eo sc A6 AO A0=G (F1 (CB A0 DW) AO):=Gw (f:=λA0=>F1 (CB A0 DW)) λsc AO=>by kernel_rfl
theorem aF4:∀A0∈cZ,∀(sc:BS)(AO:CA A6),Eo sc A6 AO A0=G (F1 (CB A0 DW) AO):=Gw (f:=λA0=>F1 (CB A0 DW)) λsc AO=>by kernel_rfl
theorem aF5:∀A0∈c_,∀(sc:BS)(AO:CA A6),Eo sc A6 AO A0=G (F1 (CB A0 DW) AO):=Gw (f:=λA0=>F1 (CB A0 DW)) λsc AO=>by kernel_rfl
theorem aF6:∀A0∈ca,∀(sc:BS)(AO:CA A6),Eo sc A6 AO A0=G (F1 (CB A0 DW) AO):=Gw (f:=λA0=>F1 (CB A0 DW)) λsc AO=>by kernel_rfl
theorem aF7(h:A0∈OZ):∀(sc:BS)(AO:CA A6),Eo sc A6 AO A0=G (F1 (CB A0 DW) AO):=(Cg (Cg (Cg (Cg (Cg (Cg (Cg aE9 aF0) aF1) aF2) aF3) aF4) aF5) aF6) A0 h
noncomputable def DX:I (I Tx):=[[q0,q4,q5,q6,q9,AY],[q1,q3,q4,q5,q6,q9,AY],[q1,q4,q5,q6,q9,AY],[q2,q3,q4,q5,q6,q9,AY],[q2,q4,q5,q6,q9,AY],[q3,q4,q5,q6,q9,AY]]
noncomputable def F2:O->CA M->I (O×Ob)
 |0,AO=>[(0,.B1 [(.str [97],Ax AO q0),(.str [103],.ref 1),(.str [104],Ax AO q6),(.str [109],Ax AO q9),(.str [110],.ref 2)]),(1,.B1 [(.str [112],Ax AO q4),(.str [113],Ax AO q5)]),(2,.B1 [(.str [107],Ax AO AY)])]|1,AO=>[(0,.B1 [(.str [97],.ref 1),(.str [103],.ref 2),(.str [104],Ax AO q6),(.str [109],Ax AO q9),(.str [110],.ref 3)]),(1,.B1 [(.str [98],Ax AO q1),(.str [102],Ax AO q3)]),(2,.B1 [(.str [112],Ax AO q4),(.str [113],Ax AO q5)]),(3,.B1 [(.str [107],Ax AO AY)])]|2,AO=>[(0,.B1 [(.str [97],.ref 1),(.str [103],.ref 2),(.str [104],Ax AO q6),(.str [109],Ax AO q9),(.str [110],.ref 3)]),(1,.B1 [(.str [98],Ax AO q1)]),(2,.B1 [(.str [112],Ax AO q4),(.str [113],Ax AO q5)]),(3,.B1 [(.str [107],Ax AO AY)])]|3,AO=>[(0,.B1 [(.str [97],.ref 1),(.str [103],.ref 3),(.str [104],Ax AO q6),(.str [109],Ax AO q9),(.str [110],.ref 4)]),(1,.B1 [(.str [98],.ref 2),(.str [102],Ax AO q3)]),(2,.B1 [(.str [103],Ax AO q2)]),(3,.B1 [(.str [112],Ax AO q4),(.str [113],Ax AO q5)]),(4,.B1 [(.str [107],Ax AO AY)])]|4,AO=>[(0,.B1 [(.str [97],.ref 1),(.str [103],.ref 3),(.str [104],Ax AO q6),(.str [109],Ax AO q9),(.str [110],.ref 4)]),(1,.B1 [(.str [98],.ref 2)]),(2,.B1 [(.str [103],Ax AO q2)]),(3,.B1 [(.str [112],Ax AO q4),(.str [113],Ax AO q5)]),(4,.B1 [(.str [107],Ax AO AY)])]|_,AO=>[(0,.B1 [(.str [97],.ref 1),(.str [103],.ref 2),(.str [104],Ax AO q6),(.str [109],Ax AO q9),(.str [110],.ref 3)]),(1,.B1 [(.str [102],Ax AO q3)]),(2,.B1 [(.str [112],Ax AO q4),(.str [113],Ax AO q5)]),(3,.B1 [(.str [107],Ax AO AY)])]
theorem aF8:∀A0∈cb,∀(sc:BS)(AO:CA M),Eo sc M AO A0=G (F2 (CB A0 DX) AO):=Gw (f:=λA0=>F2 (CB A0 DX)) λsc AO=>by kernel_rfl
theorem aF9:∀A0∈cc,∀(sc:BS)(AO:CA M),Eo sc M AO A0=G (F2 (CB A0 DX) AO):=Gw (f:=λA0=>F2 (CB A0 DX)) λsc AO=>by kernel_rfl
theorem aG0:∀A0∈cg,∀(sc:BS)(AO:CA M),Eo sc M AO A0=G (F2 (CB A0 DX) AO):=Gw (f:=λA0=>F2 (CB A0 DX)) λsc AO=>by kernel_rfl
theorem aG1:∀A0∈ch,∀(sc:BS)(AO:CA M),Eo sc M AO A0=G (F2 (CB A0 DX) AO):=Gw (f:=λA0=>F2 (CB A0 DX)) λsc AO=>by kernel_rfl
theorem aG2:∀A0∈ci,∀(sc:BS)(AO:CA M),Eo sc M AO A0=G (F2 (CB A0 DX) AO):=Gw (f:=λA0=>F2 (CB A0 DX)) λsc AO=>by kernel_rfl
theorem aG3:∀A0∈cj,∀(sc:BS)(AO:CA M),Eo sc M AO A0=G (F2 (CB A0 DX) AO):=Gw (f:=λA0=>F2 (CB A0 DX)) λsc AO=>by kernel_rfl
theorem aG4:∀A0∈ck,∀(sc:BS)(AO:CA M),Eo sc M AO A0=G (F2 (CB A0 DX) AO):=Gw (f:=λA0=>F2 (CB A0 DX)) λsc AO=>by kernel_rfl
theorem aG5:∀A0∈cm,∀(sc:BS)(AO:CA M),Eo sc M AO A0=G (F2 (CB A0 DX) AO):=Gw (f:=λA0=>F2 (CB A0 DX)) λsc AO=>by kernel_rfl
theorem aG6(h:A0∈O_):∀(sc:BS)(AO:CA M),Eo sc M AO A0=G (F2 (CB A0 DX) AO):=(Cg (Cg (Cg (Cg (Cg (Cg (Cg aF8 aF9) aG0) aG1) aG2) aG3) aG4) aG5) A0 h
@[irreducible]noncomputable def Ep:Ar:=B_ 30
@[irreducible]noncomputable def Ik(k:O):Ar:=(Fg Ep)[k]?.getD (.Pass ⟨0,0,0,0⟩)
@[irreducible]noncomputable def cy:AB:=G1 (Ik 1) (.Constant .none 0 ⟨0,0,0,0⟩) λt _ _ _ _=>t
@[irreducible]noncomputable def X5:AB:=G1 (Ik 1) (.Constant .none 0 ⟨0,0,0,0⟩) λ_ t _ _ _=>t
@[irreducible]noncomputable def KR:I Ar:=G1 (Ik 1) [] λ_ _ b _ _=>b
@[irreducible]noncomputable def aG7:BG:=G1 (Ik 1) ⟨0,0,0,0⟩ λ_ _ _ _ p=>p
noncomputable def Mm:Y:=⟨⟨[116,114,101,101]⟩⟩
noncomputable def HV:Y:=⟨⟨[112,108,97,99,101]⟩⟩
noncomputable def HW:Y:=⟨⟨[105,110,110,101,114]⟩⟩
noncomputable def Mn:Y:=⟨⟨[112,97,116,104]⟩⟩
noncomputable def cz:Tx->Tx
 |[]=>[]|c::l=>match B8 c 47 with|true=>[]|false=>c::cz l
noncomputable def Qi(q p:Tx):AL Tx:=match q with
 |[47]=>G (cz (p.drop 1))|q=>match Jz (q++[47]) p with|true=>G (cz (p.drop (q.length+1)))|false=>L
noncomputable def Oa(r:O)(U:I Sg)(N:I (V×V))(q p:Tx):Mine.St:=⟨[(Mm,.ref 1),(HV,.str q),(HW,.ref 0),(Mn,.str p)],[(0,.rows r U),(1,.dict N)],2⟩
noncomputable def X6(r:O)(U:I Sg)(N:I (V×V))(q p:Tx):Mine.St:=match Qi q p with
 |some t=>Oa r (U++[.tx t]) N q [47]|none=>Oa (r+1) U N q [47]
noncomputable def oW(q p:Tx):Prop:=∀(r:O)(U:I Sg)(N:I (V×V)),ev C2 60 ⟨BU Ep,6⟩ (.ss KR) (Oa (r+1) U N q p)=.ok (.f .next) (X6 r U N q p)
noncomputable def KS:I Tx:=[q0,q1,q2,q3,q4,q5,q6,q7,q8,q9,AY]
noncomputable def KU:I Tx:=[[47],[47,97],[47,97,47,98],[47,107],[47,110],[47,103]]
theorem in_tab:∀q∈KU,∀p∈KS,oW q p:=λq m p m' r U N=>H'.mp (H'.mp (show KU.map (λq=>KS.map λp=>ev C2 60 ⟨BU Ep,6⟩ (.ss KR) (Oa (r+1) U N q p))=KU.map (λq=>KS.map λp=>.ok (.f .next) (X6 r U N q p))by kernel_rfl) q m) p m'
theorem aG8{p:Tx}(hq:q∈KU)(hp:p∈KS):oW q p:=in_tab q hq p hp
noncomputable def LP(r:O)(U:I Sg)(N:I (V×V))(q:Tx):Mine.St:=⟨[(Mm,.ref 0),(HV,.str q),(HW,.ref 1)],[(1,.rows r U),(0,.dict N)],2⟩
noncomputable def Oc(r:O)(U:I Sg)(N:I (V×V))(q p:Tx):Mine.St:=⟨[(Mm,.ref 0),(HV,.str q),(HW,.ref 1),(Mn,.str p)],[(1,.rows r U),(0,.dict N)],2⟩
theorem aG9(d r:O)(U:I Sg)(N:I (V×V))(q p:Tx):ev C2 60 ⟨BU Ep,d⟩ (.asg cy (.str p)) (LP r U N q)=.ok (.f .next) (Oc r U N q p):=by kernel_rfl
noncomputable def E6(q:Tx)(l:I Tx):I Tx:=l.filterMap (Qi q)
section
variable{J:I A9}
theorem Gd.drop{env:I (Y×V)}{h:I (O×Ob)}(g:Gd B F K A ⟨env,h,n⟩ C s)(hs:∀x v,Ai K3 x=G v->Ai env x=G v):Gd B F K A ⟨K3,h,n⟩ C s:=⟨g.kinds,g.len,g.nodup,g.fresh,g.live,g.D4,g.D0,g.objs,by
 refine CX g.env ?_;intro m ns ce r;exact⟨m,ns,ce,λx v e=>r x v (hs x v e)⟩,g.base,g.os,g.gens,g.frames,g.DN,g.Cw,g.mods,g.handled,g.depth,g.units⟩
theorem aH0(AU:(Ba P).In B.base)(AM:De B)(hd:6<=d){p:Tx}(hq:q∈KU)(hp:p∈KS){U:I Sg}(hc:∀e∈N,Cl e.2)(g:Gd B F ⟨BU Ep,d⟩ A (Oc (r+1) U N q p) C s):CJ B F ⟨BU Ep,d⟩ A (match Qi q p with|some t=>Oc r (U++[.tx t]) N q [47]|none=>Oc (r+1) U N q [47]) C s (Iu KR F.env) (FR .next):=by
 have A8:=(all1 AU AM 60).s;have run:=aG8 hq hp r U N;have En:∀j,(Bz C [1,0])[j]?=C[DH 2 [1,0] j]?:=λj=>by
   have :=GI (J:=[]) (n:=2) g.len (B6:=[1,0]) (by decide) j;rw[HJ,HJ]at this;exact this
 refine az2 (K:=⟨BU Ep,d⟩) (d:=6) (DG:=Oa (r+1) U N q p) (AA:=X6 r U N q p) (B6:=[1,0]) (λ{h C u}e Q AS=>e) (λg'=>A8.ss run g') hd g ⟨rfl,by decide,by show∀i∈_,i<2;decide,λj o e=>?_⟩ (Cc.pick En g.env λx v e=>?_) ?_;. match j,e with
 |0,e=>injection e with e;subst e;exact⟨1,rfl,rfl⟩|1,e=>injection e with e;subst e;exact⟨0,rfl,by show G (Ob.dict N)=G (Ob.dict (N.map _));rw[KO hc]⟩|j+2,e=>exact(BB e).elim
 . exact Ss (f:=EK _) (by rfl) e
 . have fin:∀(r':O)(ys:I Sg),cK (Oc (r+1) U N q p) (Oa (r+1) U N q p) (Oa r' ys N q [47]) (Oc r' ys N q [47]) [1,0]:=λr' ys=>by
    refine⟨rfl,DE _,rfl,λi o e=>?_⟩;match i,e with
 |0,e=>injection e with e;subst e;exact .inl ⟨1,_,rfl,rfl,by show Ob.dict N=Ob.dict (N.map _);rw[KO hc]⟩|1,e=>injection e with e;subst e;exact .inl ⟨0,_,rfl,rfl,rfl⟩|i+2,e=>exact(BB e).elim
   unfold X6;cases Qi q p with
 |some t=>exact fin _ _|none=>exact fin _ _
theorem aH1(AU:(Ba P).In B.base)(AM:De B)(hd:6<=d)(hq:q∈KU)(hc:∀e∈N,Cl e.2){AV:Dq->AR->Prop}(hI:Af.get? AD=L)(post:I Tx):∀(pre:I Tx)(r:O)(U:I Sg){C:I A9}{s:AR},(∀p∈post,p∈KS)->post.length<=r->N.map (·.1)=(pre++post).map .str->Gd B F ⟨BU Ep,d⟩ A (LP r U N q) C s->Nx F.D F.A_ Af s.heap BE C->CM B F C s.heap AD->E4 s.heap C (.keys 0 N.length) pre.length AD->(∀r' AS s',Gd B F ⟨BU Ep,d⟩ A (LP r' (U++(E6 q post).map .tx) N q) AS s'->Nx F.D F.A_ Af s'.heap BE AS->AV (.ok .next) s')->D6 (AQ B.prog B.w) A (.forLoop cy (.ref AD) KR [] F.env) AV s:=by induction post with
 |nil=>
  intro pre r U C s _ _ Tq g Cq fr it k;have hn:(Gk N pre.length).map (·.1)=L:=by rw[HR,<-V3,Tq];simp
  have AP:J8 (.keys 0 N.length) pre.length (LP r U N q).h=G L:=by
   show bT (B8 N.length N.length) L (G ((Gk N pre.length).map (·.1)))=_;rw[Ir,hn];rfl
  refine MM (K5 g fr it AP (λx hx=>by exact(BB hx).elim) λhx Q tk AN DO=>?_);refine k r C _ ?_ (Cq.Ez DO hI);simpa[E6]using AN|cons p post ih=>
  intro pre r U C s hp hr Tq g Cq fr it k;have hn:(Gk N pre.length).map (·.1)=G (.str p):=by rw[HR,<-V3,Tq];simp
  have AP:J8 (.keys 0 N.length) pre.length (LP r U N q).h=G (G (.str p)):=by
   show bT (B8 N.length N.length) L (G ((Gk N pre.length).map (·.1)))=_;rw[Ir,hn];rfl
  have A8:=(all1 AU AM 60).s;obtain⟨r,rfl⟩:∃r',r=r'+1:=⟨r-1,by simp at hr;(with_reducible exact Mine.yH (by assumption))⟩;refine MM (K5 g fr it AP (λx hx u Q tk AN DO Ek Ap Hp=>?_) λhx=>by(exfalso;cases hx));injection hx with hx;subst hx;have L3:=Cq.Ez DO hI;refine QD Ap (A8.asg (aG9 d _ _ _ _ p) AN Hp _ _ λ_ As Ah AT Al _=>aH0 AU AM hd hq (hp p (Co ..)) hc AT _ _ λMN BQ Aw Ao B7 BP=>?_);cases BP;have xx:=Al.trans B7;have EC:=Ek.nx xx;have Gp:=Ap.nx xx Ek.C Ek.w;have El:=L3.trans xx;have e:pre++p::post=(pre++[p])++post:=by simp
  have drop:∀{r':O}{ys:I Sg}{a:I A9}{s:AR},Gd B F ⟨BU Ep,d⟩ A (Oc r' ys N q [47]) a s->Gd B F ⟨BU Ep,d⟩ A (LP r' ys N q) a s:=λg=>g.drop λx v e=>Ss (f:=id) (by rfl) e;have HS:E4 Aw.heap BQ (.keys 0 N.length) (pre++[p]).length AD:=by rw[F8];exact Gp
  cases JT:Qi q p with
 |some t=>
   rw[JT]at Ao;refine ih (pre++[p]) r (U++[.tx t]) (λq m=>hp q (Cp _ m)) (by simp at hr;(with_reducible assumption)) (by rw[<-e];exact Tq) (drop Ao) El EC HS λr' AS s' g' x'=>k r' AS s' ?_ x';simpa[E6,JT]using g'|none=>
   rw[JT]at Ao;refine ih (pre++[p]) (r+1) U (λq m=>hp q (Cp _ m)) (by simp at hr;(with_reducible exact gZ (by assumption))) (by rw[<-e];exact Tq) (drop Ao) El EC HS λr' AS s' g' x'=>k r' AS s' ?_ x';simpa[E6,JT]using g'
end
@[irreducible]noncomputable def d3:AB:=Rt (Ik 2) (.Constant .none 0 ⟨0,0,0,0⟩) λz1 _=>oS z1 (.Constant .none 0 ⟨0,0,0,0⟩) λe=>e
@[irreducible]noncomputable def aH2:BG:=(Ik 2).pos
@[irreducible]noncomputable def aH3:BG:=E9 d3 ⟨0,0,0,0⟩ λz1 _ _ _=>DS z1 ⟨0,0,0,0⟩ λ_ p=>p
@[irreducible]noncomputable def aH4:BG:=E9 d3 ⟨0,0,0,0⟩ λ_ _ _ p=>p
@[irreducible]noncomputable def oX:BG:=E9 d3 ⟨0,0,0,0⟩ λ_ z1 _ _=>l1 z1 ⟨0,0,0,0⟩ λz2=>DS z2 ⟨0,0,0,0⟩ λ_ p=>p
@[irreducible]noncomputable def aH5:BG:=DS X5 ⟨0,0,0,0⟩ λ_ p=>p
theorem aH6:Fg Ep=[Ik 0,Ik 1,Ik 2]:=by kernel_rfl
theorem aH7:Ik 1=.For cy X5 KR [] aG7:=by kernel_rfl
theorem aH8:X5=.Name Mm aH5:=by kernel_rfl
theorem aH9:Ik 2=.Return (G (.Call (.Name Q2 aH3) [.Name HW oX] [] aH4)) aH2:=by kernel_rfl
noncomputable def oY(N:I (V×V))(q:Tx):Mine.St:=⟨[(Mm,.ref 0),(HV,.str q)],[(0,.B1 N)],1⟩
noncomputable def d4(N:I (V×V))(q:Tx):Mine.St:=⟨[(Mm,.ref 0),(HV,.str q),(HW,.ref 1)],[(1,.list []),(0,.B1 N)],2⟩
theorem aI0(d:O)(N:I (V×V))(q:Tx):ev C2 60 ⟨BU Ep,d⟩ (.s (Ik 0)) (oY N q)=.ok (.f .next) (d4 N q):=by kernel_rfl
theorem aI1(d r:O)(U:I Sg)(N:I (V×V))(q:Tx):ev C2 60 ⟨BU Ep,d⟩ (.e X5) (LP r U N q)=.ok (.v (.ref 0)) (LP r U N q):=by kernel_rfl
noncomputable def Qj(l:I Tx)(N:I (V×V))(q:Tx):Mine.St:=⟨[(Mm,.ref 0),(HV,.str q),(HW,.ref 1)],[(1,.list (l.map .str)),(0,.B1 N)],2⟩
theorem aI2(d:O)(l:I Tx)(N:I (V×V))(q:Tx):ev C2 60 ⟨BU Ep,d⟩ (.e (.Name HW oX)) (Qj l N q)=.ok (.v (.ref 1)) (Qj l N q):=by kernel_rfl
theorem aI3:Dl (BU Ep) Q2=M:=by kernel_rfl
theorem aI4:Ai C2.glob Q2=G (.top (.builtin "sorted")):=by kernel_rfl
theorem oZ:∀{l:I Tx},DM (l.map .tx)=l.map .str
 |[]=>rfl|t::l=>by
  show IQ (.tx t)++DM (l.map .tx)=_;rw[oZ];rfl
section
variable{J:I A9}
theorem o_:HQ (l.map .str)=G l:=by induction l with
 |nil=>rfl|cons t l ih=>exact congrArg (λo=>Az o λr=>G (t::r)) ih
theorem aI5{m:I Tx}(p:l.Perm m):EY l=EY m:=bw9 (le:=(·<=·)) (λa b _ _ h1 h2=>bx0 h1 h2) (Wd l) (Wd m) ((Wc l).trans (p.trans (Wc m).symm))
theorem Gd.forget{env:I (Y×V)}{h Q:I (O×Ob)}(g:Gd B F K A ⟨env,h,n⟩ C s)(hs:∀i o,AJ Q i=G o->AJ h i=G o):Gd B F K A ⟨env,Q,n⟩ C s:=⟨g.kinds,g.len,g.nodup,g.fresh,g.live,g.D4,g.D0,λi o e=>g.objs i o (hs i o e),g.env,g.base,g.os,g.gens,g.frames,g.DN,g.Cw,g.mods,g.handled,g.depth,g.units⟩
theorem aI6(AU:(Ba P).In B.base)(AM:De B)(hd:6<=d)(hq:q∈KU){w:Tx->V}(hw:∀p,Cl (w p))(hL:∀p∈A0,p∈KS)(Cf:A0.length<=20)(g:Gd B F ⟨BU Ep,d⟩ A (oY (BL w A0) q) C s):CJ B F ⟨BU Ep,d⟩ A ⟨(d4 (BL w A0) q).env,[(2,.list ((EY (E6 q A0)).map .str)),(0,.B1 (BL w A0))],3⟩ C s (Iu (Fg Ep) F.env) (FR (.ret (.ref 2))):=by
 intro A2 E k;have A8:=(all1 AU AM 60).s;rw[aH6];refine DF (A8.s (aI0 d _ _) g _ _ λu AZ AI AN Ab Ap=>?_);cases Ap;refine Rw (AN.open (i:=0) (N:=BL w A0) rfl) ?_;intro BM hp AT _ _ _;have JU:BM.Perm (BL w A0):=hp.1;have hc:∀e∈BM,Cl e.2:=λe m=>Mj hw e (JU.subset m);refine AC (by
   refine AC (c6 (f:=λp=>((V.str p,w p):V×V)) JU) ?_;intro L' a b;exact⟨L',a,b⟩) ?_;intro L' Qk BI;subst BI;have Ao:Gd B F ⟨BU Ep,d⟩ A (LP Dk [] (BL w L') q) AZ AI:=AT.KQ (i:=1) (o:=.list []) (o':=.rows Dk []) rfl λa _ r=>by
   refine AC r ?_;(try clear r);intro us p v;exact⟨us,p,v,by show 0+Dk<=Dk;omega⟩
 refine DF ?_;rw[aH7];refine Xu (A8.eW (aI1 d _ _ _ _) Ao _ _ λu QK Ec Cn EH IY=>O5 Cn IY (it:=.keys 0 (BL w L').length) rfl λAD Q tk GX GF hI cO cP=>?_) ?_
 . refine aH1 AU AM hd hq hc hI L' [] Dk [] (λp m=>hL p (Qk.subset m)) ?_ ?_ GX GF.FW cO cP λr' bV bW TY Qa=>?_;. rw[Qk.length_eq];exact B2 Cf (by decide)
   . show(L'.map λp=>((V.str p,w p):V×V)).map (·.1)=(L':I Tx).map .str;rw[Jn];rfl
   . have cQ:Gd B F ⟨BU Ep,d⟩ A (Qj (E6 q L') (BL w A0) q) bV bW:=by
      have a1:=TY.KQ (i:=1) (o:=.rows r' ([]++(E6 q L').map .tx)) (o':=.list ((E6 q L').map .str)) rfl λa _ r=>by
       refine CX r ?_;(try clear r);intro us p v _;rw[ti,oZ]at v;exact⟨us,p,v⟩
      exact a1.KQ (i:=0) (o:=.dict (BL w L')) (o':=.B1 (BL w A0)) rfl λa _ r=>⟨BL w L',⟨JU,trivial⟩,r⟩
     refine DF ?_;rw[aH9];have aI7:(E6 q L').length<60:=by
      have :(E6 q L').length<=L'.length:=bu4 ..;have :=Qk.length_eq;(with_reducible exact Mine.vV (by assumption) (by assumption) (by assumption))
     have hs:Nw ((E6 q L').map .str) (Qj (E6 q L') (BL w A0) q)=.ok (.v (.ref 2)) ((Qj (E6 q L') (BL w A0) q).new (.list ((EY (E6 q L')).map .str))).2:=by
      unfold Nw;rw[o_];show A1.iff (Fy (E6 q L').length 60) _=_;rw[show Fy (E6 q L').length 60=M from uB aI7];rfl
     refine s_ (bL (Bj:=GH AU) (AA:=Qj (E6 q L') (BL w A0) q) aI3 aI4 (λh=>CU.builtin) rfl cQ (λBE EJ p FY Cq=>WV rfl (A8.e (aI2 d _ _ _) FY) p) λus bI1 bI2 aI8 aI9 og=>?_);refine Bu og ?_;(try clear og);intro u1 us1 B5 ru e1;subst B5;cases e1;refine mR aI8 (i:=1) rfl ru hs _ _ λy aJ0 aJ1 oh aJ2 aJ3=>?_;have hm:(E6 q L').Perm (E6 q A0):=Qk.filterMap (Qi q);rw[aI5 hm]at oh;refine k _ aJ0 aJ1 (oh.forget (Q:=[(2,.list ((EY (E6 q A0)).map .str)),(0,.B1 (BL w A0))]) λi o e=>?_) ?_ ⟨y,rfl,aJ3⟩;. match i,e with
 |0,e=>injection e with e;subst e;rfl|2,e=>injection e with e;subst e;rfl|1,e=>exact(BB e).elim|i+3,e=>exact(BB e).elim
     . exact Ab.trans (EH.trans (Qa.trans ((aI9.trans aJ2).FW)))
 . intro x;rw[aH8];kernel_rfl
end
noncomputable def Il:I (V×V)->Tx->V
 |[],_=>.none|e::l,p=>match e.1 with
 |.str q=>(match CY q p with|true=>e.2|false=>Il l p)|_=>Il l p
noncomputable def Ts:I (V×V)->AL (I Tx)
 |[]=>G []|e::l=>match e.1,Ts l with|.str q,G m=>G (q::m)|_,_=>L
noncomputable def Od:I (V×V)->AK
 |[]=>M|e::l=>match e.2 with|.str _=>Od l|.sym _ _ _=>Od l|_=>A6
set_option tactic.hygienic true in
theorem om:∀{N:I (V×V)}{A0:I Tx},Ts N=G A0->A0.Nodup->N=BL (Il N) A0
 |[],A0,h,_=>by injection h with h;subst h;rfl|e::l,A0,h,nd=>by
  simp only[Ts]at h;split at h
  . rename_i q m he hm;injection h with h;subst h;obtain⟨e1,e2⟩:=e;simp only at he;subst he;have ih:=om hm (ER.mp nd).2;show _=(V.str q,Il ((V.str q,e2)::l) q)::BL (Il ((V.str q,e2)::l)) m;have h1:Il ((V.str q,e2)::l) q=e2:=by simp only[Il];rw[EZ.mpr rfl]
    have h2:BL (Il ((V.str q,e2)::l)) m=BL (Il l) m:=by
     refine gb λp hp=>?_;have Cb:CY q p=A6:=by cases z:CY q p with
 |false=>rfl|true=>exact absurd (EZ.mp z▸hp) (ER.mp nd).1
     simp only[Il,Cb]
    rw[h1,h2,<-ih]
  . exact(BB h).elim
set_option tactic.hygienic true in
theorem d5:∀{N:I (V×V)},Od N=M->∀p,Cl (Il N p)
 |[],_,p=>λ_=>rfl|e::l,h,p=>by
  have hl:Od l=M/\Cl e.2:=by
    simp only[Od]at h;split at h;. rename_i q;exact⟨h,by rw[q];exactλ_=>rfl⟩
    . rename_i q;exact⟨h,by rw[q];exactλ_=>rfl⟩
    . exact(E3 h).elim
  simp only[Il];split
  . split;. exact hl.2
    . exact d5 hl.1 p
  . exact d5 hl.1 p
section
variable{J:I A9}
theorem aJ4(AU:(Ba P).In B.base)(AM:De B)(hq:q∈KU){w:Tx->V}(hw:∀p,Cl (w p))(hL:∀p∈A0,p∈KS)(Cf:A0.length<=20)(g:Gd B F ⟨sc,7⟩ A ⟨[],[(0,.B1 (BL w A0))],1⟩ C s)(rs:Aa s.heap C [.ref 0,.str q] us):Ae B F ⟨sc,7⟩ A ⟨[],[(2,.list ((EY (E6 q A0)).map .str)),(0,.B1 (BL w A0))],3⟩ C s (CD (.ref 399) us) (RV (.ref 2)):=by
 have hf:AJ Ib 399=G (DC (B_ 30)):=by kernel_rfl
 refine D9 (Mc AU (Me AU) (OU P hf)) ?_;intro o fd ok;have hb:J9 (DC (B_ 30)) [.ref 0,.str q]=G [(Mm,.ref 0),(HV,.str q)]:=by kernel_rfl
 exact o4 (H:=⟨[],[(0,.B1 (BL w A0))],1⟩) (K:=⟨sc,7⟩) (d:=6) ok (AA:=⟨(d4 (BL w A0) q).env,[(2,.list ((EY (E6 q A0)).map .str)),(0,.B1 (BL w A0))],3⟩) hb rfl (.inr rfl) (λg'=>(by have q:=@aI6;rw[show Ep=B_ 30 by unfold Ep;rfl]at q;exact q AU AM (DE _) hq hw hL Cf g')) g rs
set_option tactic.hygienic true in
theorem aJ5(AU:(Ba P).In B.base)(AM:De B)(hq:q∈KU)(hk:Ts N=G A0)(nd:A0.Nodup)(hc:Od N=M)(hL:∀p∈A0,p∈KS)(Cf:A0.length<=20)(hd:7<=K.d)(hi:AJ H.h i=G (.B1 N))(g:Gd B F K A H C s)(rs:Aa s.heap C [.ref i,.str q] us):Ae B F K A ⟨H.env,(H.n+1,.list ((EY (E6 q A0)).map .str))::H.h,H.n+2⟩ C s (CD (.ref 399) us) (RV (.ref (H.n+1))):=by
 have he:=om hk nd;have hw:=d5 hc;have oo:∀e∈N,Cl e.2:=by rw[he];exact Mj hw
 refine n9 (A7:=⟨H.env,(H.n+1,.list ((EY (E6 q A0)).map .str))::H.h,H.n+2⟩) (B6:=[i]) (DG:=⟨[],[(0,.B1 N)],1⟩) (AA:=⟨[],[(2,.list ((EY (E6 q A0)).map .str)),(0,.B1 N)],3⟩) (d:=7) (MI:=[.ref 0,.str q]) (Wo:=.ref 2) (λ{F A C s us}g' Fo=>?_) rfl hd g ⟨rfl,ER.mpr ⟨(by simp),HI⟩,λj m=>?_,λj o e=>?_⟩ ⟨rfl,by show 1<=3;(with_reducible exact f0 _ _),rfl,λj o e=>?_⟩ rfl rfl rs
 . rw[he]at g' ⊢;have :=aJ4 AU AM hq hw hL Cf g' Fo;exact this
 . rw[CH.mp m];exact Ih g hi
 . match j,e with
 |0,e=>injection e with e;subst e;exact⟨i,rfl,by rw[hi];show _=G (Ob.B1 (N.map _));rw[KO oo]⟩|j+1,e=>exact(BB e).elim
 . simp only[AJ]at e;split at e
   . rename_i hj;injection e with e;subst e;have :=CC hj;clear hj;subst this;refine .inl ⟨2,_,rfl,rfl,?_⟩;show _=Ob.list (Cr _ ((EY (E6 q A0)).map .str));rw[LJ]
   . by_cases oq:j=i
     . clear rs;subst oq;rw[hi]at e;injection e with e;subst e;exact .inl ⟨0,_,rfl,rfl,by show _=Ob.B1 (N.map _);rw[KO oo]⟩
     . exact .inr ⟨e,by simpa using oq⟩
end
noncomputable def Hw(a b:BG):AK:=B8 a.line b.line&&(B8 a.col b.col&&(B8 a.endLine b.endLine&&B8 a.endCol b.endCol))
theorem Im{a b:BG}(h:Hw a b=M):a=b:=by
 cases a;cases b;have n:=λ{x y:O}(e:B8 x y=M)=>CC e;exact congr (congr (congr (congrArg Pos.mk (n (B' h))) (n (B' (Ak h)))) (n (B' (Ak (Ak h))))) (n (Ak (Ak (Ak h))))
noncomputable def ot(f:AB->AB->AK)(g g':FO):AK:=f g.target g'.target&&(f g.iter g'.iter&&(all2 f g.ifs g'.ifs&&decide (g.is_async=g'.is_async)))
noncomputable def ou(f:AB->AB->AK)(a b:AB):AK:=DS a A6 (λx p=>DS b A6 λy q=>D7 x y&&Hw p q)||(HN a A6 (λc k p=>HN b A6 λc' l q=>decide (c=c')&&(B8 k l&&Hw p q))||(Jr a A6 (λU k p=>Jr b A6 λys l q=>all2 f U ys&&(B8 k l&&Hw p q))||(E9 a A6 (λg U kw p=>E9 b A6 λg' ys ow q=>f g g'&&(all2 f U ys&&l0 kw A6 (l0 ow A6 (Hw p q))))||(H2 a A6 (λv i p=>H2 b A6 λw j q=>f v w&&(D7 i j&&Hw p q))||(J' a A6 (λv i p=>J' b A6 λw j q=>f v w&&(f i j&&Hw p q))||(Kk a A6 (λl o r p=>Kk b A6 λl' o' r' q=>f l l'&&(decide (o=o')&&(all2 f r r'&&Hw p q)))||(Na a A6 (λl o r p=>Na b A6 λl' o' r' q=>f l l'&&(decide (o=o')&&(f r r'&&Hw p q)))||IE a A6 λe gs sc p=>IE b A6 λe' gs' IN q=>f e e'&&(all2 (ot f) gs gs'&&(decide (sc=IN)&&Hw p q)))))))))
theorem aJ6{f:AB->AB->AK}(hf:∀a b,f a b=M->a=b)(a b:FO)(h:ot f a b=M):a=b:=by
 cases a;cases b;exact congr (congr (congr (congrArg bO1 (hf _ _ (B' h))) (hf _ _ (B' (Ak h)))) (Ng hf _ _ (B' (Ak (Ak h))))) (of_decide_eq_true (Ak (Ak (Ak h))))
theorem aJ7{f:AB->AB->AK}(hf:∀a b,f a b=M->a=b)(a b:AB)(h:ou f a b=M):a=b:=by
 have F:=λ{a b:AB}(e:f a b=M)=>hf a b e;have n:=λ{x y:O}(e:B8 x y=M)=>CC e;have A:=Ng hf;refine Jt h (λh=>?_) λh=>?_
 . apply ES h B3;intro x p h;apply ES h B3;intro y q h;exact congr (congrArg Expr.Name (E0.mp (B' h))) (Im (Ak h))
 refine Jt h (λh=>?_) λh=>?_
 . apply Iz h B3;intro c k p h;apply Iz h B3;intro c' l q h;exact congr (congr (congrArg Expr.Constant (of_decide_eq_true (B' h))) (n (B' (Ak h)))) (Im (Ak (Ak h)))
 refine Jt h (λh=>?_) λh=>?_
 . apply Rp h B3;intro x k p h;apply Rp h B3;intro y l q h;exact congr (congr (congrArg Expr.Tuple (A _ _ (B' h))) (n (B' (Ak h)))) (Im (Ak (Ak h)))
 refine Jt h (λh=>?_) λh=>?_
 . apply M0 h B3;intro g U kw p h;apply M0 h B3;intro g' ys ow q h;apply ET (Ak (Ak h)) B3;intro h1;apply ET h1 B3;intro h2;exact congr (congr (congr (congrArg Expr.Call (F (B' h))) (A _ _ (B' (Ak h)))) rfl) (Im h2)
 refine Jt h (λh=>?_) λh=>?_
 . apply Rq h B3;intro v i p h;apply Rq h B3;intro w j q h;exact congr (congr (congrArg Expr.Attribute (F (B' h))) (E0.mp (B' (Ak h)))) (Im (Ak (Ak h)))
 refine Jt h (λh=>?_) λh=>?_
 . apply N_ h B3;intro v i p h;apply N_ h B3;intro w j q h;exact congr (congr (congrArg Expr.Subscript (F (B' h))) (F (B' (Ak h)))) (Im (Ak (Ak h)))
 refine Jt h (λh=>?_) λh=>?_
 . apply Rr h B3;intro v i r p h;apply Rr h B3;intro w j s q h;exact congr (congr (congr (congrArg Expr.Compare (F (B' h))) (of_decide_eq_true (B' (Ak h)))) (A _ _ (B' (Ak (Ak h))))) (Im (Ak (Ak (Ak h))))
 refine Jt h (λh=>?_) λh=>?_
 . apply gu h B3;intro v i r p h;apply gu h B3;intro w j s q h;exact congr (congr (congr (congrArg Expr.BinOp (F (B' h))) (of_decide_eq_true (B' (Ak h)))) (F (B' (Ak (Ak h))))) (Im (Ak (Ak (Ak h))))
 apply YV h B3;intro v i r p h;apply YV h B3;intro w j s q h;exact congr (congr (congr (congrArg Expr.ListComp (F (B' h))) (Ng (aJ6 hf) _ _ (B' (Ak h)))) (of_decide_eq_true (B' (Ak (Ak h))))) (Im (Ak (Ak (Ak h))))
noncomputable def ox(n:O):AB->AB->AK:=Xn (λ_ _=>A6) (λ_ f=>ou f) n
theorem aJ8(n:O):∀a b,ox n a b=M->a=b:=Xn (λ_ _ h=>(B3 h).elim) (λ_ ih=>aJ7 ih) n
noncomputable def Ql(a b:AB):AK:=ox 12 a b
theorem Qm{a b:AB}(h:Ql a b=M):a=b:=aJ8 12 a b h
noncomputable def oy(a b:Ar):AK:=Js a A6 λc s o p=>Js b A6 λc' s' o' q=>Ql c c'&&(Hw p q&&l0 o A6 (l0 o' A6 (l1 s A6 λx=>l1 s' A6 λy=>Pb x A6 λe p=>Pb y A6 λe' q=>Ql e e'&&Hw p q)))
theorem aJ9{a b:Ar}(h:oy a b=M):a=b:=by
 apply YW h B3;intro c s o p h;apply YW h B3;intro c' s' o' q h;apply ET (Ak (Ak h)) B3;intro h1;apply ET h1 B3;intro h1;apply Cs h1 B3;intro x h1;apply Cs h1 B3;intro y h1;apply YX h1 B3;intro e p1 h1;apply YX h1 B3;intro e' q1 h1;rw[Qm (B' h),Im (B' (Ak h)),Qm (B' h1),Im (Ak h1)]
noncomputable def oz(a b:Ar):AK:=G1 a A6 λt i s o p=>G1 b A6 λt' i' s' o' q=>Ql t t'&&(Ql i i'&&(Hw p q&&l0 o A6 (l0 o' A6 (l1 s A6 λx=>l1 s' A6 λy=>oy x y))))
theorem aK0{a b:Ar}(h:oz a b=M):a=b:=by
 apply gw h B3;intro c i s o p h;apply gw h B3;intro c' i' s' o' q h;apply ET (Ak (Ak (Ak h))) B3;intro h1;apply ET h1 B3;intro h1;apply Cs h1 B3;intro x h1;apply Cs h1 B3;intro y h1;rw[Qm (B' h),Qm (B' (Ak h)),Im (B' (Ak (Ak h))),aJ9 h1]
noncomputable def HC:Ar:=B_ 31
noncomputable def Mo:Ar:=B_ 36
noncomputable def Qn(l:I Ar)(k:O):Ar:=l[k]?.getD (.Pass ⟨0,0,0,0⟩)
noncomputable def Mp:Ar:=G1 (Qn (Fg HC) 3) (.Pass ⟨0,0,0,0⟩) λ_ _ b _ _=>Js (Qn b 1) (.Pass ⟨0,0,0,0⟩) λ_ s _ _=>Qn s 0
noncomputable def Mq:AB:=G1 (Qn (Fg Mo) 1) (.Constant .none 0 ⟨0,0,0,0⟩) λ_ _ b _ _=>Js (Qn b 1) (.Constant .none 0 ⟨0,0,0,0⟩) λ_ s _ _=>Pc (Qn s 0) (.Constant .none 0 ⟨0,0,0,0⟩) λ_ e _=>e
section
variable{J:I A9}
theorem C_.Fs(hc:∀B9,DP B9 o=o)(r:C_ prog w h AZ a o):C_ prog w h As a o:=by
 have h1:C_ prog w h [] a o:=by
  refine(C_.DU (B9:=λj=>AZ.length+j) (As:=AZ) λj=>?_).mpr (by rw[hc];exact r);rw[V0 (Gz ..)];rfl
 have :=(C_.DU (h:=h) (prog:=prog) (w:=w) (a:=a) (o:=o) (B9:=λj=>As.length+j) (AZ:=[]) (As:=As) λj=>(by rw[V0 (Gz ..)];rfl)).mp h1;rw[hc]at this;exact this
set_option tactic.hygienic true in
theorem pA(g:Gd B F K A H C s)(g':Gd B F K' A' AA AS s')(x':Nx F.D [] s.heap s'.heap [] AS)(hj:AJ AA.h j=G o)(hc:∀B9,DP B9 o=o)(r:VR s'.heap AS (.ref j) u):∃a,u=.ref a/\Gd B F K A ⟨H.env,(H.n,o)::H.h,H.n+1⟩ (C++[a]) s'/\Nx F.D [] s.heap s'.heap C (C++[a]):=by
 refine AC r ?_;(try clear r);intro a ha Av;subst Av;have hm:=Es ha;refine AC (x'.pre) ?_;intro J e GA;rw[ti]at e;subst e;have hn:=GA a hm;have hx:Nx F.D [] s.heap s'.heap C (C++[a]):=⟨⟨[a],rfl,λb m=>by rw[CH.mp m];exact hn⟩,x'.live,x'.Bv,λb o e _ m=>x'.same b o e (by simp) m⟩;refine⟨a,rfl,g.back hx (by rw[F8,g.len];rfl) ?_ ?_ ?_ ?_ g'.base g'.os g'.gens (Cc.Gq g g.env hx),hx⟩
 . refine I7.mpr ⟨g.nodup,by simp,λb hb c hc e=>?_⟩;rw[CH.mp hc]at e;clear ha hc hm hx;subst e;refine xE (g.live b hb) ?_;intro o q;rw[hn]at q;exact(BB q).elim
 . intro b m;rcases Do.mp m with m|m;. exact g.fresh b m
   . rw[CH.mp m];exact g'.fresh a hm
 . intro b m;rcases Do.mp m with m|m;. refine xE (g.live b m) ?_;intro o e;exact x'.live b o e
   . rw[CH.mp m];exact g'.live a hm
 . intro i p e;simp only[AJ]at e;split at e
   . rename_i q;injection e with e;subst e;have q:=CC q;subst q;have ro:=g'.obj hj ha;exact⟨a,by rw[<-g.len];simp,ro.Fs hc⟩
   . refine AC (g.objs i p e) ?_;intro b hb rb;exact⟨b,FV hb,rb.mono x'.Bv λy ey=>x'.keep b y ey (by simp) (by simp) (λz=>absurd (Es hb) (g.Cw b z).1)⟩
theorem pB(g:Gd B F K A H C s)(hd:d<=K.d):Gd B F ⟨K.sc,d⟩ A ⟨[],[],0⟩ [] s:=g.sub (B6:=[]) ⟨rfl,HI,λi m=>(by(exfalso;cases m)),λj o e=>(by exact(BB e).elim)⟩ hd (Cc.nil g)
theorem aK1(OW:∀{F:Fm}{A:CK}{C:I A9}{s:AR}{us:I A4},Gd B F ⟨K.sc,d⟩ A ⟨[],[],0⟩ C s->Aa s.heap C args us->Ae B F ⟨K.sc,d⟩ A AA C s (CD fu us) (RV (.ref i)))(hi:AJ AA.h i=G o)(hc:∀B9,DP B9 o=o)(ha:JO args=M)(hd:d<=K.d)(g:Gd B F K A H C s)(rs:Aa s.heap C args us):Ae B F K A ⟨H.env,(H.n,o)::H.h,H.n+1⟩ C s (CD fu us) (RV (.ref H.n)):=by
 intro A2 E k;refine OW (pB g hd) (Aa.Fs ha rs) A2 E λu AS s' g' x' r'=>?_;refine CX (pA g g' x' hi hc r') ?_;intro a B5 gg xx;clear r';subst B5;exact k _ _ s' gg xx ⟨a,by rw[<-g.len];simp,rfl⟩
theorem pC{l:I (I Tx)}:DP B9 (.list (l.map λr=>.tup L (r.map .str)))=.list (l.map λr=>.tup L (r.map .str)):=by
 show Ob.list (Cr B9 _)=_;rw[OV,Jn];refine congrArg Ob.list (gb λr _=>?_);show V.tup L (Cr B9 (r.map .str))=_;rw[LJ]
theorem Qo{v:A4}:VR h C (.top v) v:=rfl
theorem aK2(AU:(Ba P).In B.base)(AM:De B){a b:Tx}(ha:a∈Bm A6)(hb:b∈Bm M)(hd:20<=K.d)(g:Gd B F K A H C s)(rs:Aa s.heap C [.str a,.str b] us):Ae B F K A ⟨H.env,(H.n,.list ((CI a b).map λr=>.tup L (r.map .str)))::H.h,H.n+1⟩ C s (CD (.ref 430) us) (RV (.ref H.n)):=by
 refine EU (av4 ha hb K.sc) ?_;intro i AA h1 h2;exact aK1 (λ{F A C s us}g' Fo=>(c9 AU AM 300).s.call h1 g' Qo Fo) h2 (λB9=>pC) rfl hd g rs
end
@[irreducible]noncomputable def d6:AB:=G1 Mp (.Constant .none 0 ⟨0,0,0,0⟩) λt _ _ _ _=>t
@[irreducible]noncomputable def Mr:AB:=G1 Mp (.Constant .none 0 ⟨0,0,0,0⟩) λ_ t _ _ _=>t
@[irreducible]noncomputable def X7:I Ar:=G1 Mp [] λ_ _ b _ _=>b
@[irreducible]noncomputable def aK3:BG:=G1 Mp ⟨0,0,0,0⟩ λ_ _ _ _ p=>p
theorem aK4:Mp=.For d6 Mr X7 [] aK3:=by kernel_rfl
noncomputable def Qp:Y:=⟨⟨[83,101,113,117,101,110,99,101,77,97,116,99,104,101,114]⟩⟩
@[irreducible]noncomputable def Oe:I AB:=E9 Mr [] λz1 _ _ _=>H2 z1 [] λz2 _ _=>E9 z2 [] λ_ a _ _=>a
@[irreducible]noncomputable def d7:BG:=E9 Mr ⟨0,0,0,0⟩ λz1 _ _ _=>H2 z1 ⟨0,0,0,0⟩ λz2 _ _=>E9 z2 ⟨0,0,0,0⟩ λz3 _ _ _=>DS z3 ⟨0,0,0,0⟩ λ_ p=>p
@[irreducible]noncomputable def d8:BG:=E9 Mr ⟨0,0,0,0⟩ λz1 _ _ _=>H2 z1 ⟨0,0,0,0⟩ λz2 _ _=>E9 z2 ⟨0,0,0,0⟩ λ_ _ _ p=>p
@[irreducible]noncomputable def Qq:BG:=E9 Mr ⟨0,0,0,0⟩ λz1 _ _ _=>H2 z1 ⟨0,0,0,0⟩ λ_ _ p=>p
@[irreducible]noncomputable def Hx:BG:=E9 Mr ⟨0,0,0,0⟩ λ_ _ _ p=>p
theorem pE:Mr=.Call (.Attribute (.Call (.Name Qp d7) Oe [] d8) Mf Qq) [] [] Hx:=by kernel_rfl
theorem aK5:B8 Qq.endLine Hx.line=M:=by kernel_rfl
theorem aK6:Oe.all CP=M:=by kernel_rfl
theorem aK7:V_ (.Call (.Name Qp d7) Oe [] d8)=M:=by kernel_rfl
theorem aK8:Ai C2.glob Qp=G (.top (.ref 242)):=by kernel_rfl
section
variable{J:I A9}
theorem LQ{Bj:Gl B A3}{args:I AB}{w:A4}(hg:Dl K.sc id=M)(hw:Ai A3.glob id=G (.top w))(hp:args.all CP=M)(g:Gd B F K A H C s)(h:∀BE EJ p,Gd B F K A H BE EJ->Nx F.D [] s.heap EJ.heap C BE->Ae B F K A AA BE EJ (Lj (F5 p (Dy args F.env))) (O1 vs))(hk:∀us AZ AI,Gd B F K A AA AZ AI->Nx F.D [] s.heap AI.heap C AZ->Aa AI.heap AZ vs us->CU (AQ B.prog B.w) AI.heap w/\AG (AQ B.prog B.w) A (CD w us) A2 E AI):AG (AQ B.prog B.w) A (eval (.Call (.Name id p) args [] pos) F.env) A2 E s:=by exact WW (Bj:=Bj) hg hw hp g λAZ AI AN Ab=>h AZ AI pos AN Ab _ E λus As Ah AT Al BA=>hk us As Ah AT (Ab.trans Al) BA
theorem pF{l:I Op}:DP B9 (.list (l.map FJ))=.list (l.map FJ):=by
 show Ob.list (Cr B9 _)=_;rw[OV,Jn];rfl
theorem aK9(AU:(Ba P).In B.base)(AM:De B){a b:Tx}(ha:a∈Bm A6)(hb:b∈Bm M)(hd:20<=K.d)(hg:Dl K.sc Qp=M)(hv:ev C2 60 K (.N Oe) H=.ok (.vs [.none,.sym A6 a ha,.sym M b hb]) AA)(g:Gd B F K A H C s)(k:∀(CT:I Op)u AS s',(∀o∈CT,o∈KJ)->CT.flatMap Ie=CI a b->CT.length<=15->Gd B F K A ⟨AA.env,(AA.n,.list (CT.map FJ))::AA.h,AA.n+1⟩ AS s'->Nx F.D [] s.heap s'.heap C AS->VR s'.heap AS (.ref AA.n) u->A2 u s'):AG (AQ B.prog B.w) A (eval Mr F.env) A2 E s:=by
 rw[pE];have A8:=(all1 AU AM 60).s;refine iA (nY ha hb K.sc) ?_;intro i σM j σO CT hM pG hk hO hj d9 Qr Cf;obtain⟨bI3,pH,nM⟩:=σM;dsimp only at pG;subst pG;have T:=c9 AU AM 300;rw[bm8,aM aK7];refine A5 (LQ (Bj:=GH AU) (A3:=C2) hg aK8 aK6 g (λBE EJ p FY Cq=>A8.N hv p FY) λus AZ AI AN Ab Ap=>?_);have gs:=pB (d:=20) AN hd;have ru:Aa AI.heap [] [.none,.str a,.str b] us:=Aa.Fs (v:=[.none,.str a,.str b]) rfl (show Aa AI.heap AZ [.none,.str a,.str b] us from Ap);refine⟨T.c.MO hM gs Qo,T.s.call hM gs Qo ru _ _ λum As Ah AT Al BA=>A5 (Eh ?_)⟩;show AG _ A (PP _ Mf Qq Hx F.env um (([]:I AB).length+0) (F5 Hx (Dy [] F.env)) (Ud Hx (Ue [] F.env))) A2 E Ah;unfold PP;rw[show bm9 (([]:I AB).length+0) (F5 Hx (Dy [] F.env)) (Ud Hx (Ue [] F.env))=M from rfl];refine A5 (C' ?_);show AG _ A (Jf um Mf _) _ E Ah;refine mY (bz AU) c5 AT BA hk _ _ _ λfv first Aw Ao B7 mv=>?_;show AG _ A (Jg M _ F.env Qq Hx>>=λp=>PO p fv first (F5 Hx (Dy [] F.env)) []) A2 E Aw;have O6:Jg M (.Call (.Name Qp d7) Oe [] d8) F.env Qq Hx=pure Hx:=by
  unfold Jg;have :(Qq.endLine==Hx.line)=M:=by simpa using aK5
  rw[this];rfl
 rw[O6];refine A5 (AW ?_);refine fY (P:=λh=>CU (AQ B.prog B.w) h fv) (by rfl) (λh c=>c) ?_;refine aL ?_;refine(T.s.N (l:=[]) (v:=[]) (K:=⟨K.sc,20⟩) (H:=⟨[],pH,nM⟩) (A7:=⟨[],pH,nM⟩) rfl Hx Ao) _ _ λus IU ED C9 Cy JI=>?_;cases JI;refine⟨T.c.kJ hO C9 mv,T.c.H5 hO C9 mv (VR.nx Cy (VR.nx B7 BA)) rfl _ _ λbS8 QK Ec Cn EH IY=>?_⟩;refine CX (pA AN Cn (Al.trans (B7.trans (Cy.trans EH))) hj (λB9=>pF) IY) ?_;intro ad Av gg xx;clear IY;subst Av;exact k CT _ _ Ec d9 Qr Cf gg (Ab.trans xx) ⟨ad,by rw[<-AN.len];simp,rfl⟩
end
noncomputable def Of:Y:=⟨⟨[111,110,101]⟩⟩
noncomputable def Og:Y:=⟨⟨[116,119,111]⟩⟩
noncomputable def Oh:Y:=⟨⟨[103,111,110,101]⟩⟩
noncomputable def Oi:Y:=⟨⟨[99,111,109,101]⟩⟩
noncomputable def JV:Y:=⟨⟨[114,111,119,115]⟩⟩
noncomputable def KV:Y:=⟨⟨[110,97,109,101]⟩⟩
noncomputable def aL0:Y:=⟨⟨[116,97,103]⟩⟩
noncomputable def nmI:Y:=⟨⟨[105]⟩⟩
noncomputable def nmK:Y:=⟨⟨[107]⟩⟩
noncomputable def nmJ:Y:=⟨⟨[106]⟩⟩
noncomputable def nmM:Y:=⟨⟨[109]⟩⟩
noncomputable def Qs(f:Y->A4)(p:Tx):I (Y×V):=[(Of,.top (f Of)),(Og,.top (f Og)),(HV,.top (f HV)),(HW,.top (f HW)),(Oh,.top (f Oh)),(Oi,.top (f Oi)),(JV,.ref 0),(KV,.top (f KV)),(Mn,.str p)]
noncomputable def Ms(f:Y->A4)(p:Tx)(r:O)(U:I Sg)(l:I V):Mine.St:=⟨Qs f p,[(0,.rows r U),(1,.list l)],2⟩
noncomputable def Mt(f:Y->A4)(p:Tx)(o:Op)(r:O)(U:I Sg)(l:I V):Mine.St:=⟨Qs f p++[(aL0,.str o.tag),(nmI,.int o.i),(nmK,.int o.k),(nmJ,.int o.j),(nmM,.int o.m)],[(0,.rows r U),(1,.list l)],2⟩
theorem aL1(d:O)(f:Y->A4)(p:Tx)(o:Op)(r:O)(U:I Sg)(l:I V):ev C2 60 ⟨BU HC,d⟩ (.asg d6 (FJ o)) (Ms f p r U l)=.ok (.f .next) (Mt f p o r U l):=by kernel_rfl
noncomputable def Hy(p:Tx):I Tx->Sg
 |t::r=>.it (t::p::r)|[]=>.it [p]
noncomputable def Hz(p:Tx)(o:Op):I Sg:=(Ie o).map (Hy p)
noncomputable def pI(o:Op):Prop:=∀(f:Y->A4)(p:Tx)(r:O)(U:I Sg)(l:I V),ev C2 60 ⟨BU HC,6⟩ (.ss X7) (Mt f p o (r+1) U l)=.ok (.f .next) (match Hz p o with|[]=>Mt f p o (r+1) U l|x::_=>Mt f p o r (U++[x]) l)
theorem dA(o:Op):(∃x,Ie o=[x])\/Ie o=[]:=by
 unfold Ie;split;. exact .inr rfl
 . exact .inl ⟨_,rfl⟩
section
variable{J:I A9}
theorem Gd.aL2{env:I (Y×V)}{h:I (O×Ob)}{U:I Sg}(g:Gd B F K A ⟨env,h,m⟩ C s)(hi:AJ h i=G (.rows (r+1) U)):Gd B F K A ⟨env,putN h i (.rows r U),m⟩ C s:=g.KQ (H:=⟨env,h,m⟩) hi λa _ q=>by
 refine CX q ?_;(try clear q);intro us p v l;exact⟨us,p,v,by omega⟩
theorem aL3(AU:(Ba P).In B.base)(AM:De B)(hd:6<=d)(tt:∀o∈KJ,pI o){f:Y->A4}{p:Tx}{AV:Dq->AR->Prop}(hI:Af.get? AD=L)(post:I Op):∀(pre:I Op)(r:O)(U:I Sg){C:I A9}{s:AR},(∀o∈post,o∈KJ)->post.length<=r->Gd B F ⟨BU HC,d⟩ A (Ms f p r U ((pre++post).map FJ)) C s->Nx F.D F.A_ Af s.heap BE C->CM B F C s.heap AD->E4 s.heap C (.lst 1) pre.length AD->(∀AS s',Gd B F ⟨BU HC,d⟩ A (Ms f p (r-post.length) (U++post.flatMap (Hz p)) ((pre++post).map FJ)) AS s'->Nx F.D F.A_ Af s'.heap BE AS->AV (.ok .next) s')->D6 (AQ B.prog B.w) A (.forLoop d6 (.ref AD) X7 [] F.env) AV s:=by induction post with
 |nil=>
  intro pre r U C s _ _ g Cq fr it k;have AP:J8 (.lst 1) pre.length (Ms f p r U ((pre++[]).map FJ)).h=G L:=by
   show G (Gk ((pre++[]).map FJ) pre.length)=_;rw[HR];simp
  refine MM (K5 g fr it AP (λx hx=>by exact(BB hx).elim) λhx Q tk AN DO=>?_);refine k C _ ?_ (Cq.Ez DO hI);simpa using AN|cons o post ih=>
  intro pre r U C s hp hr g Cq fr it k;have AP:J8 (.lst 1) pre.length (Ms f p r U ((pre++o::post).map FJ)).h=G (G (FJ o)):=by
   show G (Gk ((pre++o::post).map FJ) pre.length)=_;rw[HR];simp
  have A8:=(all1 AU AM 60).s;obtain⟨r,rfl⟩:∃r',r=r'+1:=⟨r-1,by simp at hr;(with_reducible exact Mine.yH (by assumption))⟩;refine MM (K5 g fr it AP (λx hx u Q tk AN DO Ek Ap Hp=>?_) λhx=>by(exfalso;cases hx));injection hx with hx;subst hx;have L3:=Cq.Ez DO hI;refine QD Ap (A8.asg (aL1 d f p o _ _ _) AN Hp _ _ λ_ As Ah AT Al _=>A8.ss (tt o (hp o (Co ..)) f p r U _) (AT.low hd) _ _ λMN BQ Aw Ao B7 BP=>?_);cases BP;have Ao:=AT.lift Ao;have xx:=Al.trans B7;have EC:=Ek.nx xx;have Gp:=Ap.nx xx Ek.C Ek.w;have El:=L3.trans xx;have e:pre++o::post=(pre++[o])++post:=by simp
  have drop:∀{r':O}{ys:I Sg}{l:I V}{a:I A9}{s:AR},Gd B F ⟨BU HC,d⟩ A (Mt f p o r' ys l) a s->Gd B F ⟨BU HC,d⟩ A (Ms f p r' ys l) a s:=λg=>g.drop λx v e=>Ss (l:=Qs f p) (f:=id) rfl e;have HS:E4 Aw.heap BQ (.lst 1) (pre++[o]).length AD:=by rw[F8];exact Gp
  have C9:Gd B F ⟨BU HC,d⟩ A (Ms f p r (U++Hz p o) ((pre++o::post).map FJ)) BQ Aw:=by
   rcases dA o with D8|hx;refine xE D8 ?_;(try clear D8);intro x hx;rotate_left;rotate_left
   . have hs:Hz p o=[Hy p x]:=by unfold Hz;rw[hx];rfl
     rw[hs]at Ao ⊢;exact drop Ao
   . have hs:Hz p o=[]:=by unfold Hz;rw[hx];rfl
     rw[hs]at Ao ⊢;rw[HJ];exact Gd.aL2 (drop Ao) (i:=0) rfl
  refine ih (pre++[o]) r (U++Hz p o) (λq m=>hp q (Cp _ m)) (by simp at hr;(with_reducible assumption)) (by rw[<-e];exact C9) El EC HS λAS s' g' x'=>k AS s' ?_ x';rw[<-e]at g';have hl:r+1-(o::post).length=r-post.length:=by simp
  rw[hl,YP,<-Ua];exact g'
end
theorem aL4:∀o∈KJ,pI o:=λo m f p r U l=>H'.mp (show KJ.map (λo=>ev C2 60 ⟨BU HC,6⟩ (.ss X7) (Mt f p o (r+1) U l))=KJ.map λo=>.ok (.f .next) (match Hz p o with|[]=>Mt f p o (r+1) U l|x::_=>Mt f p o r (U++[x]) l)by kernel_rfl) o m
section
variable{J:I A9}
theorem Cc.pJ{env:I (Y×V)}(e:Cc F h C env):∃f:Y->A4,(∀x v,Ai env x=G v->K1 F x->VR h C v (f x))/\∀(AS:I A9)(CS:I (Y×V)),(∀x v',Ai CS x=G v'->K1 F x->(∃v,Ai env x=G v)/\VR h AS v' (f x))->Cc F h AS CS:=by
 refine CX e ?_;intro m ns ce r;have key:∀x,∃u,∀v,Ai env x=G v->K1 F x->Sn F h m x u/\VR h C v u:=λx=>by cases hv:Ai env x with
 |none=>exact⟨.none,λv e=>(AE e).elim⟩|some v=>
  by_cases hf:K1 F x;. exact xE (r x v hv hf) λu q=>⟨u,λv' e _=>Bk e▸q⟩
  . exact⟨.none,λ_ _ q=>absurd q hf⟩
 have hf:=λx=>(key x).choose_spec;exact⟨λx=>(key x).choose,λx v e q=>(hf x v e q).2,λAS CS he=>⟨m,ns,ce,λx v' e q=>⟨_,xE (he x v' e q).1 λv hv=>(hf x v hv q).1,(he x v' e q).2⟩⟩⟩
theorem Gd.aL5{env:I (Y×V)}{h:I (O×Ob)}(g:Gd B F K A ⟨env,h,m⟩ C s)(he:Cc F s.heap C CS):Gd B F K A ⟨CS,h,m⟩ C s:=⟨g.kinds,g.len,g.nodup,g.fresh,g.live,g.D4,g.D0,g.objs,he,g.base,g.os,g.gens,g.frames,g.DN,g.Cw,g.mods,g.handled,g.depth,g.units⟩
theorem aL6{p:Tx}{CT:I Op}{a b:Tx}(h:CT.flatMap Ie=CI a b):DM (CT.flatMap (Hz p))=(CI a b).map (O' p):=by
 rw[<-h];clear h;induction CT with
 |nil=>rfl|cons o CT ih=>
 rw[YP,YP,NR,<-ih];show(Hz p o++_).flatMap IQ=_;rw[bs3];congr 1;unfold Hz;rcases dA o with Bo|hx;refine xE Bo ?_;(try clear Bo);intro x hx;rotate_left;rotate_left
 . rw[hx];cases x<;>rfl
 . rw[hx];rfl
noncomputable def Qt(v:O->V)(k:O)(p:Tx):I (Y×V):=[(Of,v 0),(Og,v 1),(HV,v 2),(HW,v 3),(Oh,v 4),(Oi,v 5),(JV,.ref k),(KV,v 6),(Mn,.str p)]
noncomputable def aL7(env:I (Y×V))(v:O->V)(k:O)(p:Tx):Prop:=∀x w,Ai (Qt v k p) x=G w->Ai env x=G w
theorem aL8:Dl (BU HC) Qp=M:=by kernel_rfl
set_option tactic.hygienic true in
theorem aL9(AU:(Ba P).In B.base)(AM:De B)(hd:20<=d){a b p:Tx}(ha:a∈Bm A6)(hb:b∈Bm M){v:O->V}{k:O}{U:I Sg}(hv:ev C2 60 ⟨BU HC,d⟩ (.N Oe) H=.ok (.vs [.none,.sym A6 a ha,.sym M b hb]) AA)(he:aL7 AA.env v k p)(pK:k<AA.n)(Tt:AJ AA.h AA.n=L)(hk:AJ AA.h k=G ob)(hr:FT ob=G (r,U))(pL:15<=r)(g:Gd B F ⟨BU HC,d⟩ A H C s):CJ B F ⟨BU HC,d⟩ A ⟨Qt v k p,(k,.rows (r-15) (U++[.run p a b]))::AA.h,AA.n+1⟩ C s (exec Mp F.env) (FR .next):=by
 intro A2 E kk;rw[aK4];refine Xu (aK9 AU AM ha hb (K:=⟨BU HC,d⟩) hd aL8 hv g λCT u AZ AI d9 Qr Cf AN Ab Ap=>?_) ?_
 . have Mu:AJ ((AA.n,Ob.list (CT.map FJ))::AA.h) k=G ob:=by
    have :B8 AA.n k=A6:=by cases q:B8 AA.n k with
 |false=>rfl|true=>exact absurd (CC q) (by(with_reducible exact PN (by assumption)))
    simp only[AJ,this];exact hk
   have AT:=AN.KQ (i:=k) (o:=ob) (o':=.rows r U) Mu λa ha _=>by
    refine HO (WM AN ⟨a,ha,rfl⟩ Mu hr) ?_;intro a' us e p v l;injection e with e;subst e;exact⟨us,p,v,l⟩
   refine AC AT.env.pJ ?_;intro f hf mk;generalize LR:Mine.St.set ⟨AA.env,(AA.n,Ob.list (CT.map FJ))::AA.h,AA.n+1⟩ k (.rows r U)=Bc at AT;have X8:Bc.n=AA.n+1:=by rw[<-LR];rfl
   have OA:AJ Bc.h k=G (.rows r U):=by rw[<-LR];exact ME Mu
   have I0:∀i,i≠k->AJ Bc.h i=AJ ((AA.n,Ob.list (CT.map FJ))::AA.h) i:=λi hi=>by rw[<-LR];exact MF hi
   have Ed:AJ Bc.h AA.n=G (.list (CT.map FJ)):=by rw[I0 _ (by(with_reducible exact PN (by assumption)))];exact JD
   have AF:Sub Bc (Ms f p r U (CT.map FJ)) [k,AA.n]:=⟨rfl,by simp;(with_reducible exact EO (by assumption)),λi m=>by rw[X8];simp at m;(with_reducible exact Mine.vB (by assumption) (by assumption)),λj o e=>by match j,e with
 |0,e=>injection e with e;subst e;exact⟨k,rfl,OA⟩|1,e=>injection e with e;subst e;exact⟨AA.n,rfl,by rw[Ed,pF]⟩|j+2,e=>exact(BB e).elim⟩;have En:∀j,(Bz AZ [k,AA.n])[j]?=AZ[DH Bc.n [k,AA.n] j]?:=λj=>by
    have :=GI (J:=[]) AT.len AF.lt j;simpa using this
   have gS:=AT.sub AF (DE d) (mk _ _ λx v' e q=>by
    have rows:VR AI.heap (Bz AZ [k,AA.n]) (.ref 0) (f JV)↔VR AI.heap AZ (.ref k) (f JV):=VR.DU En;exact(show∀z∈Qs f p,K1 F z.1->(∃v,Ai AA.env z.1=G v)/\VR AI.heap (Bz AZ [k,AA.n]) z.2 (f z.1)from all_cons (λq=>⟨⟨_,he Of _ rfl⟩,rfl⟩) (all_cons (λq=>⟨⟨_,he Og _ rfl⟩,rfl⟩) (all_cons (λq=>⟨⟨_,he HV _ rfl⟩,rfl⟩) (all_cons (λq=>⟨⟨_,he HW _ rfl⟩,rfl⟩) (all_cons (λq=>⟨⟨_,he Oh _ rfl⟩,rfl⟩) (all_cons (λq=>⟨⟨_,he Oi _ rfl⟩,rfl⟩) (all_cons (λq=>⟨⟨_,he JV _ rfl⟩,rows.mpr (hf _ _ (he JV _ rfl) q)⟩) (all_cons (λq=>⟨⟨_,he KV _ rfl⟩,rfl⟩) (all_cons (λq=>⟨⟨_,he Mn _ rfl⟩,hf _ _ (he Mn _ rfl) q⟩) EA))))))))) _ (FD e) q);have rS:VR AI.heap (Bz AZ [k,AA.n]) (.ref 1) u:=(VR.DU En).mpr Ap;refine O5 gS rS (it:=.lst 1) rfl λAD Q tk Ao B7 hI EC Gp=>?_;refine aL3 AU AM (by omega) aL4 (Af:=AI.heap) hI CT [] r U d9 (by(with_reducible exact B2 (by assumption) (by assumption))) Ao B7.FW EC Gp λAS s' g' x'=>?_;have C9:=g'.KQ (i:=0) (o':=.rows (r-15) (U++[.run p a b])) rfl λa' _ q=>by
    refine CX q ?_;(try clear q);intro us pl vr l;have N:DM (U++CT.flatMap (Hz p))=DM (U++[.run p a b]):=by
      rw[OJ,OJ,aL6 Qr];show _=_++(IQ (.run p a b)++[]);rw[HJ];rfl
    rw[N]at vr l;exact⟨us,pl,vr,by(with_reducible exact Mine.uj (by assumption) (by assumption))⟩
   have Cn:=Gd.drop (K3:=[]) C9 λx v e=>by exact(BB e).elim
   refine CX (AT.o5 AF Cn x' (A7:=⟨[],(k,.rows (r-15) (U++[.run p a b]))::AA.h,AA.n+1⟩) ⟨rfl,DE _,by rw[X8];rfl,λi o e=>by
    change(match B8 k i with|true=>G (Ob.rows (r-15) (U++[.run p a b]))|false=>AJ AA.h i)=G o at e;split at e
    . rename_i q;injection e with e;subst e;rw[<-CC q];exact .inl ⟨0,_,rfl,rfl,rfl⟩
    . rename_i q;have h1:i≠k:=λz=>by rw[z,Ir]at q;(exfalso;cases q)
      have h2:i≠AA.n:=λz=>by rw[z,Tt]at e;exact(BB e).elim
      refine .inr ⟨?_,by simp;exact⟨h1,h2⟩⟩;rw[I0 i h1];have :B8 AA.n i=A6:=by cases q:B8 AA.n i with
 |false=>rfl|true=>exact absurd (CC q).symm h2
      simp only[AJ,this];exact e⟩) ?_;intro J BO gg xx;clear C9 Cn x';subst BO;refine AC (g'.env.pJ) ?_;intro f' FH mk';refine kk _ _ s' (gg.aL5 (mk' _ (Qt v k p) λx w e q=>?_)) (Ab.FW.trans xx) rfl;have same:∀(y:Y)(z:V),K1 F y->Ai (Qs f p) y=G (.top (f y))->Ai AA.env y=G z->VR s'.heap (AZ++J) z (f' y):=λy z q h1 h2=>by
    have e1:=FH y _ h1 q;have e1:f' y=f y:=e1;rw[e1];exact(hf y z h2 q).nx xx
   exact(show∀z∈Qt v k p,K1 F z.1->(∃v,Ai (Qs f p) z.1=G v)/\VR s'.heap (AZ++J) z.2 (f' z.1)from all_cons (λq=>⟨⟨_,rfl⟩,same Of _ q rfl (he Of _ rfl)⟩) (all_cons (λq=>⟨⟨_,rfl⟩,same Og _ q rfl (he Og _ rfl)⟩) (all_cons (λq=>⟨⟨_,rfl⟩,same HV _ q rfl (he HV _ rfl)⟩) (all_cons (λq=>⟨⟨_,rfl⟩,same HW _ q rfl (he HW _ rfl)⟩) (all_cons (λq=>⟨⟨_,rfl⟩,same Oh _ q rfl (he Oh _ rfl)⟩) (all_cons (λq=>⟨⟨_,rfl⟩,same Oi _ q rfl (he Oi _ rfl)⟩) (all_cons (λq=>⟨⟨_,rfl⟩,(VR.DU (GI AT.len AF.lt)).mp (FH JV (.ref 0) rfl q)⟩) (all_cons (λq=>⟨⟨_,rfl⟩,same KV _ q rfl (he KV _ rfl)⟩) (all_cons (λq=>⟨⟨_,rfl⟩,FH Mn (.str p) rfl q⟩) EA))))))))) _ (FD e) q
 . intro x;rw[pE];kernel_rfl
end
@[irreducible]noncomputable def LS:AB:=Na Mq (.Constant .none 0 ⟨0,0,0,0⟩) λ_ _ r _=>r
@[irreducible]noncomputable def aM0:BG:=Na Mq ⟨0,0,0,0⟩ λz1 _ _ _=>DS z1 ⟨0,0,0,0⟩ λ_ p=>p
@[irreducible]noncomputable def aM1:BG:=Na Mq ⟨0,0,0,0⟩ λ_ _ _ p=>p
@[irreducible]noncomputable def dB:AB:=IE LS (.Constant .none 0 ⟨0,0,0,0⟩) λe _ _ _=>e
@[irreducible]noncomputable def waT:AB:=IE LS (.Constant .none 0 ⟨0,0,0,0⟩) λ_ z1 _ _=>l1 z1 (.Constant .none 0 ⟨0,0,0,0⟩) λz2=>z2.target
@[irreducible]noncomputable def Tu:I AB:=IE LS [] λ_ z1 _ _=>l1 z1 [] λz2=>E9 z2.iter [] λ_ a _ _=>a
@[irreducible]noncomputable def pM:BG:=IE LS ⟨0,0,0,0⟩ λ_ z1 _ _=>l1 z1 ⟨0,0,0,0⟩ λz2=>E9 z2.iter ⟨0,0,0,0⟩ λz3 _ _ _=>DS z3 ⟨0,0,0,0⟩ λ_ p=>p
@[irreducible]noncomputable def pN:BG:=IE LS ⟨0,0,0,0⟩ λ_ z1 _ _=>l1 z1 ⟨0,0,0,0⟩ λz2=>E9 z2.iter ⟨0,0,0,0⟩ λ_ _ _ p=>p
noncomputable def Tv:BS:=IE LS ⟨.function,[],A6,A6,[]⟩ λ_ _ sc _=>sc
@[irreducible]noncomputable def aM2:BG:=IE LS ⟨0,0,0,0⟩ λ_ _ _ p=>p
noncomputable def X9:Y:=⟨⟨[95,108,97,119,95,99,104,97,110,103,101,115]⟩⟩
noncomputable def dC:Y:=⟨⟨[119,97,121]⟩⟩
noncomputable def Qu:FO:=⟨waT,.Call (.Name X9 pM) Tu [] pN,[],0⟩
theorem aM3:Mq=.BinOp (.Name JV aM0) .Add LS aM1:=by kernel_rfl
theorem aM4:LS=.ListComp dB [Qu] Tv aM2:=by kernel_rfl
theorem aM5:MA Qu=M:=by kernel_rfl
theorem aM6:Tu.all CP=M:=by kernel_rfl
theorem aM7:Dl (BU Mo) X9=M:=by kernel_rfl
theorem aM8:Ai C2.glob X9=G (.top (.ref 430)):=by kernel_rfl
noncomputable def Tw:I (Tx×Tx):=[([47,97,47],[102]),([47,97,47,98,47],[103]),([47],[104]),([47],[109]),([47,97,47],[98]),([47,110,47],[107]),([47],[97])]
noncomputable def Tz(p:Tx×Tx):I (Y×V):=[(dC,.str p.1),(KV,.str p.2)]
noncomputable def Gx(p:Tx):I Tx->I Tx
 |t::r=>t::p::r|[]=>[p]
noncomputable def FK(m:I (I Tx)):I V:=m.map λr=>.tup L (r.map .str)
noncomputable def pO(a b:Tx)(p:Tx×Tx):AK:=match ev C2 60 ⟨Tv,6⟩ (.G7 dB Qu [] (.lst 0) 0 []) ⟨Tz p,[(0,.list (FK (CI a b)))],1⟩with
 |.ok (.vs l) H=>B8 H.n 1&&cB l ((CI a b).map (Gx (p.1++p.2)))|_=>A6
theorem aM9:(Tw.all λp=>Kr (BU Mo) Tv (Tz p))=M:=by kernel_rfl
theorem aN0:∀a∈Bm A6,((Bm M).all λb=>Tw.all (pO a b))=M:=by
 unfold Bm;repeat(refine all_cons (by kernel_rfl) ?_)
 exact EA
set_option tactic.hygienic true in
theorem aN1{a b:Tx}(ha:a∈Bm A6)(hb:b∈Bm M){p:Tx×Tx}(hp:p∈Tw):∃H,ev C2 60 ⟨Tv,6⟩ (.G7 dB Qu [] (.lst 0) 0 []) ⟨Tz p,[(0,.list (FK (CI a b)))],1⟩=.ok (.vs (FK ((CI a b).map (Gx (p.1++p.2))))) H/\H.n=1:=by
 have h:=Bp.mp (Bp.mp (aN0 a ha) b hb) p hp;unfold pO at h;split at h
 . rename_i l H e;simp only[D2]at h;refine⟨H,?_,CC h.1⟩;rw[e,nP h.2];rfl
 . exact(E3 h).elim
theorem pP{m:I (I Tx)}:Cr B9 (FK m)=FK m:=by
 have :=pC (B9:=B9) (l:=m);injection this
theorem aN2{p:Tx}{x:I Tx}:VZ (.tup L ((Gx p x).map .str))=G (Hy p x):=(congrArg (λo=>Az o λl=>G (Sg.it l)) o_).trans (by cases x<;>rfl)
theorem aN3{p:Tx}{m:I (I Tx)}:Q1 (FK (m.map (Gx p)))=G (m.map (Hy p)):=by induction m with
 |nil=>rfl|cons x m ih=>exact(congrArg (λo=>Az o λt=>Az (Q1 (FK (m.map (Gx p)))) λr=>G (t::r)) aN2).trans (congrArg (λo=>Az o λr=>G (Hy p x::r)) ih)
theorem aN4{p:Tx}{m:I (I Tx)}:DM (m.map (Hy p))=m.map (O' p):=by induction m with
 |nil=>rfl|cons x m ih=>exact(congrArg (IQ (Hy p x)++·) ih).trans (by cases x<;>rfl)
theorem aN5(o:Op):(Ie o).length<=1:=by
 rcases dA o with⟨x,e⟩|e<;>rw[e];. exact DE _
 . exact NZ _
theorem aN6{CT:I Op}:(CT.flatMap Ie).length<=CT.length:=by induction CT with
 |nil=>exact DE _|cons o CT ih=>rw[YP,F8];exact B2 (UZ (aN5 o) ih) (Eg (Lg 1 _))
theorem aN7{a b:Tx}(ha:a∈Bm A6)(hb:b∈Bm M):(CI a b).length<=15:=by
 refine iA (nY ha hb Tv) ?_;intro _ _ _ _ CT _ _ _ _ _ _ h l;rw[<-h];exact B2 aN6 l
section
variable{J:I A9}
set_option tactic.hygienic true in
theorem aN8(SL:O7 B A3 n){A0 l:I V}(IW:MA g=M)(Bj:Gd B F K A H C s)(hs:Kr K.sc sc K3=M)(hd:d<=K.d)(hi:Ae B F K A ⟨AA.env,(AA.n,.list A0)::AA.h,AA.n+1⟩ C s (eval g.iter F.env) (RV (.ref AA.n)))(Tt:AJ AA.h AA.n=L)(hL:∀B9,Cr B9 A0=A0)(hl:∀B9,Cr B9 l=l)(he:∀x v,Ai K3 x=G v->Ai AA.env x=G v/\Cl v)(h:ev A3 n ⟨sc,d⟩ (.G7 CZ g gens (.lst 0) 0 []) ⟨K3,[(0,.list A0)],1⟩=.ok (.vs l) Bc)(hn:Bc.n=1):Ae B F K A ⟨AA.env,(AA.n+1,.list l)::AA.h,AA.n+2⟩ C s (eval (.ListComp CZ (g::gens) sc pos) F.env) (RV (.ref (AA.n+1))):=by
 refine xA (QE IW) ?_;intro hp ha;intro A2 E kk;refine Rv (Bj.kinds.comp hs (A0:=s.heap.objs.size) rfl λc m z=>by refine H3 (Bj.D0 c m) ?_;intro _ o e;rw[z,GD]at e;exact(BB e).elim) ?_;intro _ hk MR D1 MT _;rw[bn8];have OC:Ui (g::gens)=A6:=by obtain⟨_,_,_,k⟩:=g;show(k !=0)=A6;simp only at ha;rw[ha];rfl
 have OD:Uj (g::gens) F.env=eval g.iter F.env:=by obtain⟨_,_,_,_⟩:=g;rfl
 rw[OC,OD];refine ff (use:=L) (g:=g) (gs:=gens) rfl (λx=>QB hp x) (W8 D1) hk MT ?_;refine hi _ _ λu AZ AI AN Ab Ap=>?_;have Ed:AJ ((AA.n,Ob.list A0)::AA.h) AA.n=G (.list A0):=JD;have AF:Sub ⟨AA.env,(AA.n,.list A0)::AA.h,AA.n+1⟩ ⟨K3,[(0,.list A0)],1⟩ [AA.n]:=⟨rfl,by simp,λi m=>by simp at m;show i<AA.n+1;omega,λj o e=>by match j,e with
 |0,e=>injection e with e;subst e;exact⟨AA.n,rfl,by show AJ ((AA.n,Ob.list A0)::AA.h) AA.n=G (Ob.list (Cr _ A0));rw[Ed,hL]⟩|j+1,e=>exact(BB e).elim⟩;have En:∀j,(Bz AZ [AA.n])[j]?=AZ[DH (AA.n+1) [AA.n] j]?:=λj=>by
  have :=GI (J:=[]) AN.len AF.lt j;simpa using this
 have gS:=AN.sub AF hd (Cc.pick En AN.env λx v e=>by rw[(he x v e).2];exact(he x v e).1);have rS:VR AI.heap (Bz AZ [AA.n]) (.ref 0) u:=(VR.DU En).mpr Ap;refine aU (K:=⟨K.sc,d⟩) (RR:=λAm A0=>sn (AQ B.prog B.w) A E L A2 Am A0) SL IW gS hs rS (it:=.lst 0) rfl h λLf D AS s' g' Qk hD x' a'=>?_;refine AC (id g'.env) ?_;intro m ns _;refine⟨m,ns,λQ Dd=>?_⟩;refine Hg a' ?_;(try clear a');intro fD us FX vr;have Hr:∀o,s'.heap.get? Lf=G o->C1 o=A6:=λo e=>by
  refine Gi ns ?_;(try clear ns);intro o' N ep e' d _;have e':s'.heap.get? Lf=G o':=e';rw[e']at e;injection e with e;subst e;unfold C1;rw[d];simp
 have KA:D≠Lf:=λz=>fD.w (by rw[z];exact CH.mpr rfl);have im:=Go Dd.extBut Hr;refine xA (gS.leave (F':=Hs F sc Lf) rfl g' Qk hD x' fD Dd Hr (o:=.list l) ⟨us,FX.extBut Dd.extBut KA,vr.mono im⟩) ?_;intro gg xx;have I0:=g'.len;rw[hn]at I0;refine CX (AN.out AF gg xx (A7:=⟨AA.env,(AA.n+1,.list l)::AA.h,AA.n+2⟩) ⟨rfl,by show 1<=Bc.n+1;(with_reducible exact f0 _ _),by show AA.n+2=AA.n+1+(Bc.n+1-1);(with_reducible exact Mine.ul (by assumption)),λi o e=>by
  change(match B8 (AA.n+1) i with|true=>G (Ob.list l)|false=>AJ AA.h i)=G o at e;split at e
  . rename_i q;injection e with e;subst e;rw[<-CC q];refine .inl ⟨Bc.n,.list l,(by show AJ ((Bc.n,Ob.list l)::Bc.h) Bc.n=_;exact JD),?_,?_⟩;. rw[hn];rfl
    . show _=Ob.list (Cr _ l);rw[hl]
  . have h2:i≠AA.n:=λz=>by rw[z,Tt]at e;exact(BB e).elim
    refine .inr ⟨?_,by simpa using h2⟩;have :B8 AA.n i=A6:=by cases q:B8 AA.n i with
 |false=>rfl|true=>exact absurd (CC q).symm h2
    show AJ ((AA.n,_)::AA.h) i=G o;simp only[AJ,this];exact e⟩) ?_;intro J eα bS9 xb;refine kk _ _ _ bS9 (Ab.trans xb) ⟨D,?_,rfl⟩;have GA:(Bz AZ [AA.n]++J)[1]?=G D:=by
  rw[<-eα];have :(AS++[D])[AS.length]?=G D:=by simp
  rw[I0]at this;exact this
 have :=GI (J:=J) AN.len AF.lt 1;rw[GA]at this;exact this.symm
end
section
variable{J:I A9}
theorem U0{a b:O}(h:a≠b):B8 a b=A6:=by cases q:B8 a b with
 |false=>rfl|true=>exact absurd (CC q) h
theorem aN9{U:I Sg}(hr:FT ob=G (r,U))(q:C_ prog w h C a (.rows r U)):C_ prog w h C a ob:=by
 refine CX (id q) ?_;intro us p v _;revert q;apply ax hr;. exactλ_ _ _=>⟨us,p,v⟩
 . exact id
theorem aO0(AU:(Ba P).In B.base)(AM:De B)(hd:20<=d){a b:Tx}(ha:a∈Bm A6)(hb:b∈Bm M){p:Tx×Tx}(hp:p∈Tw){k:O}{U:I Sg}(Qr:Ai H.env JV=G (.ref k))(hv:ev C2 60 ⟨BU Mo,d⟩ (.N Tu) H=.ok (.vs [.sym A6 a ha,.sym M b hb]) AA)(hw:Ai AA.env dC=G (.str p.1))(hnm:Ai AA.env KV=G (.str p.2))(pK:k<AA.n)(Tt:AJ AA.h AA.n=L)(hn2:AJ AA.h (AA.n+1)=L)(hk:AJ AA.h k=G ob)(hr:FT ob=G (r,U))(pL:15<=r)(hrc:r<=Dk)(g:Gd B F ⟨BU Mo,d⟩ A H C s):Ae B F ⟨BU Mo,d⟩ A ⟨AA.env,(AA.n+2,.rows (r-15) (U++[.run (p.1++p.2) a b]))::AA.h,AA.n+3⟩ C s (eval Mq F.env) (RV (.ref (AA.n+2))):=by
 intro A2 E kk;rw[aM3];have A8:=(all1 AU AM 60).s;refine AC (aN1 ha hb hp) ?_;intro σw LU hn;refine sX (a9 (v:=.ref k) g (by kernel_rfl) Qr _ _ λu AZ AI AN Ab Ap=>?_);rw[aM4];have hi:Ae B F ⟨BU Mo,d⟩ A ⟨AA.env,(AA.n,.list (FK (CI a b)))::AA.h,AA.n+1⟩ AZ AI (eval Qu.iter F.env) (RV (.ref AA.n)):=by
   intro A2 E k;show AG _ A (eval (.Call (.Name X9 pM) Tu [] pN) F.env) A2 E AI;refine LQ (Bj:=GH AU) (A3:=C2) aM7 aM8 aM6 AN (λBE EJ p FY Cq=>A8.N hv p FY) λus As Ah AT Al BA=>?_;have hf:AJ Ib 430=G (DC (B_ 35)):=by kernel_rfl
   refine D9 (Mc AU (Me AU) (OU P hf)) ?_;intro o fd ok;refine⟨CU.func (AT.base _ _ ok.get) ok.data,aK2 AU AM ha hb hd AT (show Aa Ah.heap As [.str a,.str b] us from BA) _ _ λu BQ Aw Ao B7 BP=>k u BQ Aw Ao (Al.trans B7) BP⟩
 refine aN8 (all1 AU AM 60).l (g:=Qu) (gens:=[]) (K3:=Tz p) (A0:=FK (CI a b)) aM5 AN (Bp.mp aM9 p hp) (d:=6) (by show 6<=d;omega) hi Tt (λB9=>pP) (λB9=>pP) (λx v e=>?_) LU hn _ _ λu' As Ah AT Al BA=>?_
 . have :=FD e;simp only[Tz,Ci,bA9,Jo,Jp]at this;rcases this with Av|B5;refine xA Av ?_;(try clear Av);intro BI BO;subst BI;subst BO;rotate_left;refine xA B5 ?_;(try clear B5);intro Bo Bf;subst Bo;subst Bf;rotate_left;. exact⟨hw,λ_=>rfl⟩
   . exact⟨hnm,λ_=>rfl⟩
 . have Mu:AJ ((AA.n+1,Ob.list (FK ((CI a b).map (Gx (p.1++p.2)))))::AA.h) k=G ob:=by rw[JE (show AA.n+1≠k by omega)];exact hk
   have Ao:=AT.KQ (i:=k) (o:=ob) (o':=.rows r U) Mu λa' Fj _=>by
     refine HO (WM AT ⟨a',Fj,rfl⟩ Mu hr) ?_;intro a'' us e p v l;injection e with e;subst e;exact⟨us,p,v,l⟩
   generalize LR:Mine.St.set ⟨AA.env,(AA.n+1,Ob.list (FK ((CI a b).map (Gx (p.1++p.2)))))::AA.h,AA.n+2⟩ k (.rows r U)=Bc at Ao;have X8:Bc.n=AA.n+2:=by rw[<-LR];rfl
   have IZ:Bc.env=AA.env:=by rw[<-LR];rfl
   have OA:AJ Bc.h k=G (.rows r U):=by rw[<-LR];exact ME Mu
   have I0:∀i,i≠k->AJ Bc.h i=AJ ((AA.n+1,Ob.list (FK ((CI a b).map (Gx (p.1++p.2)))))::AA.h) i:=λi hi=>by rw[<-LR];exact MF hi
   have Ed:AJ Bc.h (AA.n+1)=G (.list (FK ((CI a b).map (Gx (p.1++p.2))))):=by rw[I0 _ (by omega)];exact JD
   have Cf:=aN7 ha hb;have hL:(FK ((CI a b).map (Gx (p.1++p.2)))).length=(CI a b).length:=by simp[FK]
   have pQ:CG (FK ((CI a b).map (Gx (p.1++p.2))))=M:=by unfold CG;rw[hL];exact uB (by(with_reducible exact B2 (by assumption) (by decide)))
   have Ht:Vg .Add (.ref k) (.ref (AA.n+1)) Bc=.ok (.v (.ref (AA.n+2))) ⟨AA.env,(AA.n+2,.rows (r-(CI a b).length) (U++(CI a b).map (Hy (p.1++p.2))))::Bc.h,AA.n+3⟩:=by
     have e0:Sb k (AA.n+1) Bc=A1.of (FT (.rows r U)) λx=>A1.of (FT (.list (FK ((CI a b).map (Gx (p.1++p.2)))))) λy=>A1.iff (EN Dk (x.1+y.1)) (FU (Bc.new (.rows (x.1+y.1-Dk) (x.2++y.2)))):=by unfold Sb;rw[OA,Ed];rfl
     show Sb k (AA.n+1) Bc=_;rw[e0,show FT (.rows r U)=G (r,U)from rfl,show FT (.list (FK ((CI a b).map (Gx (p.1++p.2)))))=bT (CG (FK ((CI a b).map (Gx (p.1++p.2))))) L (Az (Q1 (FK ((CI a b).map (Gx (p.1++p.2))))) λl=>G (Dk-(FK ((CI a b).map (Gx (p.1++p.2)))).length,l))from rfl,pQ,aN3,hL];simp only[bT,Az,A1.of];have h1:r+(Dk-(CI a b).length)-Dk=r-(CI a b).length:=yC (B2 Cf (by decide));rw[show EN Dk (r+(Dk-(CI a b).length))=M from uB (yD (B2 Cf (by decide)) (B2 Cf pL))];simp only[A1.iff,FU,St.new,X8,IZ,h1]
   refine OK.bin Ao (Ap.nx Al) BA Ht _ _ λy BQ Aw C9 B7 BP=>?_;have QT:AJ ((AA.n+2,Ob.rows (r-(CI a b).length) (U++(CI a b).map (Hy (p.1++p.2))))::Bc.h) k=G (.rows r U):=by rw[JE (show AA.n+2≠k by omega)];exact OA
   have Cn:=(C9.KQ (i:=k) (o':=ob) QT λa' _ q=>aN9 hr q).KQ (i:=AA.n+2) (o:=.rows (r-(CI a b).length) (U++(CI a b).map (Hy (p.1++p.2)))) (o':=.rows (r-15) (U++[.run (p.1++p.2) a b])) (by
     show AJ (putN _ k ob) (AA.n+2)=_;rw[MF (by omega)];exact JD) λa' _ q=>by
     refine CX q ?_;(try clear q);intro us pl vr l;have N:DM (U++(CI a b).map (Hy (p.1++p.2)))=DM (U++[.run (p.1++p.2) a b]):=by
       rw[OJ,OJ,aN4];show _=_++(IQ (.run (p.1++p.2) a b)++[]);rw[HJ];rfl
     rw[N]at vr l;exact⟨us,pl,vr,B2 (HG (eq Cf r) _) l⟩
   refine kk y BQ Aw (Gd.forget (env:=AA.env) (n:=AA.n+3) Cn λi o e=>?_) (Ab.trans (Al.trans B7)) BP;show AJ (putN (putN ((AA.n+2,Ob.rows (r-(CI a b).length) (U++(CI a b).map (Hy (p.1++p.2))))::Bc.h) k ob) (AA.n+2) (.rows (r-15) (U++[.run (p.1++p.2) a b]))) i=G o;by_cases h2:i=AA.n+2
   . subst h2;rw[JD]at e;replace e:=Bk e;rw[<-e];refine ME (w:=.rows (r-(CI a b).length) (U++(CI a b).map (Hy (p.1++p.2)))) ?_;rw[MF (by omega)];exact JD
   . rw[JE (CV h2)]at e;rw[MF h2];by_cases h3:i=k
     . clear Cn Ht pK Mu OA I0 Qr LR Ap;subst h3;rw[hk]at e;injection e with e;subst e;exact ME QT
     . rw[MF h3];have h4:i≠AA.n+1:=λz=>by rw[z,hn2]at e;exact(BB e).elim
       rw[JE (CV h2)];rw[I0 i h3];rw[JE (CV h4)];exact e
end
noncomputable def pR(a b:I (Y×E1)):AK:=all2 (λa b=>D7 a.1 b.1&&decide (a.2=b.2)) a b
theorem aO1{a b:I (Y×E1)}(h:pR a b=M):a=b:=Ng (λa b e=>NI (E0.mp (B' e)) (of_decide_eq_true (Ak e))) a b h
noncomputable def dD(a b:BS):AK:=decide (a.kind=b.kind)&&(pR a.names b.names&&(decide (a.isGenerator=b.isGenerator)&&(decide (a.isCoroutine=b.isCoroutine)&&decide (a.more=b.more))))
theorem pS{a b:BS}(h:dD a b=M):a=b:=by
 cases a;cases b;exact congr (congr (congr (congr (congrArg Scope.mk (of_decide_eq_true (B' h))) (aO1 (B' (Ak h)))) (of_decide_eq_true (B' (Ak (Ak h))))) (of_decide_eq_true (B' (Ak (Ak (Ak h)))))) (of_decide_eq_true (Ak (Ak (Ak (Ak h)))))
noncomputable def dE(v:V)(d:J)(k:(b:AK)->(t:Tx)->t∈Bm b->J):J:=if h:v.ctorIdx=9 then V.sym.elim (motive_1:=λ_=>J) v h k else d
theorem aO2{d:J}{k:(b:AK)->(t:Tx)->t∈Bm b->J}{r:J}(h:dE v d k=r)(hd:d=r->Bh){P:V->Prop}(c:∀b t ok,k b t ok=r->P (.sym b t ok)):P v:=if q:v.ctorIdx=9 then V.sym.elim (motive_1:=λv=>dE v d k=r->P v) v q (λb t ok h=>c b t ok h) h else(hd ((Ch q).symm.trans h)).elim
noncomputable def U1(b:AK)(v:V):AL {t:Tx//t∈Bm b}:=dE v L λb' t ok=>if h:b'=b then G ⟨t,h▸ok⟩else L
theorem XA{a:{t:Tx//t∈Bm b}}(h:U1 b v=G a){P:V->Prop}(c:P (.sym b a.1 a.2)):P v:=by
 apply aO2 h AE;intro b' t ok h;cases bO2 (b'=b)with
 |inr n=>rw[Ch n]at h;exact(AE h).elim|inl e=>
 subst e;rw[dif_pos rfl]at h;have :=Bk h;clear h;subst this;exact c
noncomputable def dF(o:A1)(k:I V->Mine.St->AL J):AL J:=match o with|.bad=>L|.ok r H=>match r with|.vs l=>k l H|.v _=>L|.b _=>L|.f _=>L|.ps _=>L
theorem pT{o:A1}{k:I V->Mine.St->AL J}{r:J}(h:dF o k=G r){P:A1->Prop}(c:∀l H,k l H=G r->P (.ok (.vs l) H)):P o:=by cases o with
 |bad=>exact(AE h).elim|ok x H=>cases x with
 |vs l=>exact c l H h|_=>exact(AE h).elim
noncomputable def pU(o:A1):AL ({t:Tx//t∈Bm A6}×{t:Tx//t∈Bm M}×Mine.St):=dF o λl H=>lC l L λz l=>IL z L (l2 l L λa b=>Az (U1 A6 a) λa=>Az (U1 M b) λb=>G (a,b,H))
theorem aO3{o:A1}{a:{t:Tx//t∈Bm A6}}{b:{t:Tx//t∈Bm M}}(h:pU o=G (a,b,H)):o=.ok (.vs [.none,.sym A6 a.1 a.2,.sym M b.1 b.2]) H:=by
 apply pT h;intro l A7 h;apply FQ h AE;intro z l h;apply Po h AE;intro h;apply Hf h AE;intro x y h;refine BH h λa' ha h=>BH h λb' hb h=>?_;apply XA ha;apply XA hb;apply M1 h;rfl
noncomputable def pV(o:A1):AL ({t:Tx//t∈Bm A6}×{t:Tx//t∈Bm M}×Mine.St):=dF o λl H=>l2 l L λa b=>Az (U1 A6 a) λa=>Az (U1 M b) λb=>G (a,b,H)
theorem aO4{o:A1}{a:{t:Tx//t∈Bm A6}}{b:{t:Tx//t∈Bm M}}(h:pV o=G (a,b,H)):o=.ok (.vs [.sym A6 a.1 a.2,.sym M b.1 b.2]) H:=by
 apply pT h;intro l A7 h;apply Hf h AE;intro x y h;refine BH h λa' ha h=>BH h λb' hb h=>?_;apply XA ha;apply XA hb;apply M1 h;rfl
noncomputable def dG(v:V):AL O:=DL v L G
noncomputable def isStr(v:V):AL Tx:=vStr v L G
theorem pW{k:O}(h:dG v=G k):v=.ref k:=by apply EF h AE;intro i h;apply Bq h;rfl
theorem dH{k:Tx}(h:isStr v=G k):v=.str k:=by apply Db h AE;intro i h;apply Bq h;rfl
noncomputable def pX(a b c d e f g:V):O->V|0=>a|1=>b|2=>c|3=>d|4=>e|5=>f|_=>g
noncomputable def XB(h:I (O×Ob))(i:O):AK:=oN (AJ h i) A6 M
theorem dI{h:I (O×Ob)}(e:XB h i=M):AJ h i=L:=by exact GQ (P:=λo=>o=L) e B3 λ_=>rfl
noncomputable def U2(b:AK)(x:AL J):AL J:=bT b L x
noncomputable def pY(K:Kx)(H:Mine.St):AL A1:=U2 (EN 20 K.d&&dD K.sc (BU HC))<|Az (pU (ev C2 60 K (.N Oe) H)) λt=>Az (Ai t.2.2.env Of) λv0=>Az (Ai t.2.2.env Og) λv1=>Az (Ai t.2.2.env HV) λv2=>Az (Ai t.2.2.env HW) λv3=>Az (Ai t.2.2.env Oh) λv4=>Az (Ai t.2.2.env Oi) λv5=>Az (Ai t.2.2.env KV) λv6=>Az (Ai t.2.2.env JV) λrv=>Az (dG rv) λk=>Az (Ai t.2.2.env Mn) λpv=>Az (isStr pv) λp=>Az (AJ t.2.2.h k) λob=>Az (FT ob) λrx=>U2 (Fy k t.2.2.n&&(XB t.2.2.h t.2.2.n&&EN 15 rx.1)) (G (.ok (.f .next) ⟨Qt (pX v0 v1 v2 v3 v4 v5 v6) k p,(k,.rows (rx.1-15) (rx.2++[.run p t.1.1 t.2.1.1]))::t.2.2.h,t.2.2.n+1⟩))
noncomputable def pZ(p:Tx×Tx)(l:I (Tx×Tx)):AK:=l.any λx=>CY p.1 x.1&&CY p.2 x.2
theorem aO5{p:Tx×Tx}{l:I (Tx×Tx)}(h:pZ p l=M):p∈l:=by
 refine AC (IC.mp h) ?_;intro x m e;rw[show p=x from NI (EZ.mp (B' e)) (EZ.mp (Ak e))];exact m
noncomputable def p_(K:Kx)(H:Mine.St):AL A1:=U2 (EN 20 K.d&&dD K.sc (BU Mo))<|Az (Ai H.env JV) λrv=>Az (dG rv) λk=>Az (pV (ev C2 60 K (.N Tu) H)) λt=>Az (Ai t.2.2.env dC) λwv=>Az (isStr wv) λw=>Az (Ai t.2.2.env KV) λnv=>Az (isStr nv) λnm=>Az (AJ t.2.2.h k) λob=>Az (FT ob) λrx=>U2 (pZ (w,nm) Tw&&(Fy k t.2.2.n&&(XB t.2.2.h t.2.2.n&&(XB t.2.2.h (t.2.2.n+1)&&(EN 15 rx.1&&EN rx.1 Dk))))) (G (.ok (.v (.ref (t.2.2.n+2))) ⟨t.2.2.env,(t.2.2.n+2,.rows (rx.1-15) (rx.2++[.run (w++nm) t.1.1 t.2.1.1]))::t.2.2.h,t.2.2.n+3⟩))
noncomputable def dJ(K:Kx)(args:I V)(H:Mine.St):AL A1:=l2 args L λa b=>DL a L λi=>vStr b L λq=>Az (AJ H.h i) λo=>M9 o L λN=>Az (Ts N) λA0=>U2 (EN 7 K.d&&(Tn q KU&&(LO A0&&(Od N&&(A0.all (Tn · KS)&&EN A0.length 20))))) (G (.ok (.v (.ref (H.n+1))) ⟨H.env,(H.n+1,.list ((EY (E6 q A0)).map .str))::H.h,H.n+2⟩))
noncomputable def dK(K:Kx)(c:Cd)(H:Mine.St):AL A1:=match c with
 |.call f args=>IK f L λw=>Kn w L λa=>bC (B8 a 399) (dJ K args H) (Qf K (.call (.top (.ref a)) args) H)|.s x=>bT (oz x Mp) L (pY K H)|.e x=>bT (Ql x Mq) L (p_ K H)|_=>L
noncomputable abbrev U3:Mine.Ctx:=Md dK
theorem aO6:JC Mq=A6:=by kernel_rfl
section
theorem aO7(AU:(Ba P).In B.base)(AM:De B)(h:dJ K args H=G (.ok (.v v) A7))(g:Gd B F K A H C s)(rs:Aa s.heap C args us):Ae B F K A A7 C s (CD (.ref 399) us) (RV v):=by
 revert rs;apply Hf h AE;intro a b h;apply EF h AE;intro i h;apply Db h AE;intro q h rs;refine BH h λo hi h=>?_;revert hi;apply SM h AE;intro N h hi;refine BH h λA0 hk h=>Cj h AE λhc h=>?_;apply B4 (Bk h);have c1:=Ak hc;have c2:=Ak c1;have c3:=Ak c2;have c4:=Ak c3;exact aJ5 AU AM (X' (B' c1)) hk (Ml (B' c2)) (B' c3) (λp m=>X' (Bp.mp (B' c4) p m)) (Di (Ak c4)) (Di (B' hc)) hi g rs
theorem pa{f:V}{o:A1}(h:dK K (.call f args) H=G o){AV:V->Prop}(i:dJ K args H=G o->AV (.top (.ref 399)))(e:Qf K (.call f args) H=G o->AV f):AV f:=by
 revert e;apply Nq h AE;intro w h;apply Pp h AE;intro a h e;refine Ru h (λq h=>?_) e;rw[CC q];exact i h
theorem aO8(AU:(Ba P).In B.base)(AM:De B)(h:p_ K H=G (.ok (.v v) A7))(g:Gd B F K A H C s):Ae B F K A A7 C s (eval Mq F.env) (RV v):=by
 refine Cj h AE λh0 h=>?_;obtain⟨sc,d⟩:=K;obtain rfl:=pS (Ak h0);refine BH h λrv e1 h=>BH h λk e2 h=>BH h λt e3 h=>BH h λwv e4 h=>BH h λw e5 h=>BH h λnv e6 h=>BH h λnm bT0 h=>BH h λob e8 h=>BH h λrx e9 h=>Cj h AE λhc h=>?_;apply B4 (Bk h);rw[pW e2]at e1;rw[dH e5]at e4;rw[dH bT0]at e6;have c1:=Ak hc;have c2:=Ak c1;have c3:=Ak c2;have c4:=Ak c3;exact aO0 AU AM (Di (B' h0)) t.1.2 t.2.1.2 (p:=(w,nm)) (aO5 (B' hc)) e1 (aO4 e3) e4 e6 (gH (Di (B' c1))) (dI (B' c2)) (dI (B' c3)) e8 e9 (Di (B' c4)) (Di (Ak c4)) g
theorem aO9(AU:(Ba P).In B.base)(AM:De B)(h:pY K H=G (.ok (.f f) A7))(g:Gd B F K A H C s):CJ B F K A A7 C s (exec Mp F.env) (FR f):=by
 refine Cj h AE λh0 h=>?_;obtain⟨sc,d⟩:=K;obtain rfl:=pS (Ak h0);refine BH h λt e3 h=>BH h λv0 e10 h=>BH h λv1 e11 h=>BH h λv2 e12 h=>BH h λv3 e13 h=>BH h λv4 e14 h=>BH h λv5 e15 h=>BH h λv6 e16 h=>BH h λrv e1 h=>BH h λk e2 h=>BH h λpv e4 h=>BH h λp e5 h=>BH h λob e8 h=>BH h λrx e9 h=>Cj h AE λhc h=>?_;apply BW (Bk h);rw[pW e2]at e1;rw[dH e5]at e4;have all:∀q∈Qt (pX v0 v1 v2 v3 v4 v5 v6) k p,Ai t.2.2.env q.1=G q.2:=all_cons e10 (all_cons e11 (all_cons e12 (all_cons e13 (all_cons e14 (all_cons e15 (all_cons e1 (all_cons e16 (all_cons e4 EA))))))));exact aL9 AU AM (Di (B' h0)) t.1.2 t.2.1.2 (aO3 e3) (λx w e=>all _ (FD e)) (gH (Di (B' hc))) (dI (B' (Ak hc))) e8 e9 (Di (Ak (Ak hc))) g
theorem sm3(AU:(Ba P).In B.base)(AM:De B):Mb B U3 where
 only:=λ{K c H o}h=>by
  change dK K c H=G o at h;cases c with
 |call f args=>exact .inl ⟨_,_,rfl⟩|s x=>exact .inr (.inr ⟨_,rfl⟩)|e x=>exact Cj h AE λq _=>.inr (.inl ⟨_,rfl,by rw[Qm q];exact aO6⟩)|_=>exact(AE h).elim
 MO:=λ{K f args H A7 v}h{F A C s fu}g r=>by
  revert r;refine pa (AV:=λf=>VR s.heap C f fu->CU (AQ B.prog B.w) s.heap fu) h ?_ ?_;rotate_left;. exactλh r=>(cA AU AM).MO h g r
  intro _ r;cases r;have hf:AJ Ib 399=G (DC (B_ 30)):=by kernel_rfl
  refine D9 (Mc AU (Me AU) (OU P hf)) ?_;intro o fd ok;exact CU.func (g.base _ _ ok.get) ok.data
 call:=λ{K f args H A7 v}h{F A C s fu us}g r rs=>by
  revert r;refine pa (AV:=λf=>VR s.heap C f fu->Ae B F K A A7 C s (call fu us) (RV v)) h ?_ ?_;rotate_left;. exactλh r=>(cA AU AM).call h g r rs
  intro h r;cases r;exact aO7 AU AM h g rs
 e:=λ{K x H A7 v}h{F A C s}g=>Cj h AE λq h=>by rw[Qm q];exact aO8 AU AM h g
 s:=λ{K x H A7 f}h{F A C s}g=>Cj h AE λq h=>by rw[aK0 q];exact aO9 AU AM h g
theorem aP0(AU:(Ba P).In B.base)(AM:De B)(n:O):All B U3 n:=Wi (c8 AU AM (sm3 AU AM)) n
end
noncomputable def XC(k:O)(o:A1):AL (I Sg):=K0 o L λv H=>DL v L λi=>bT (EN k i) L<|Az (AJ H.h i) λo=>Az (FT o) λr=>G r.2
noncomputable def pb(CF:CA A6)(C7:CA M)(L0 L1:I Tx):Mine.St:=⟨[],[(0,.B1 (BL (Ax CF) L0)),(1,.B1 (BL (Ax C7) L1))],2⟩
noncomputable def U4(sc:BS)(CF:CA A6)(C7:CA M)(L0 L1:I Tx):AL (I Sg):=XC 2 (ev U3 200 ⟨sc,40⟩ (.call (.top (.ref 404)) [.ref 0,.ref 1,.str [47]]) (pb CF C7 L0 L1))
noncomputable def GJ(n:O)(BD:I (O×Ob)):I (O×Ob):=BD.map λp=>(n+p.1,DP (n+·) p.2)
noncomputable def pc(H0 H1:I (O×Ob)):Mine.St:=⟨[],H0++GJ H0.length H1,H0.length+H1.length⟩
noncomputable def dL(sc:BS)(H0 H1:I (O×Ob)):AL (I Sg):=XC (H0.length+H1.length) (ev U3 200 ⟨sc,40⟩ (.call (.top (.ref 435)) [.ref 0,.ref H0.length,.str [47]]) (pc H0 H1))
noncomputable def Agree(L0 L1:I Tx)(H0:CA A6->I (O×Ob))(H1:CA M->I (O×Ob)):Prop:=∀(sc:BS)(CF:CA A6)(C7:CA M),∃l,U4 sc CF C7 L0 L1=G l/\dL sc (H0 CF) (H1 C7)=G l
theorem Oj{H0:CA A6->I (O×Ob)}{H1:CA M->I (O×Ob)}(h:∀(sc:BS)(CF:CA A6)(C7:CA M),(U4 sc CF C7 L0 L1,dL sc (H0 CF) (H1 C7))=(G ((U4 sc CF C7 L0 L1).getD []),G ((U4 sc CF C7 L0 L1).getD []))):Agree L0 L1 H0 H1:=λsc CF C7=>⟨_,congrArg br9 (h sc CF C7),congrArg Prod.snd (h sc CF C7)⟩
noncomputable def Ag(p:O×O):Prop:=Agree (DW.getD p.1 []) (DX.getD p.2 []) (F1 p.1) (F2 p.2)
theorem ag0:∀p∈[((0,0):O×O),(0,1),(0,2),(0,3),(0,4),(0,5)],Ag p:=by
 repeat(refine all_cons (Oj λsc CF C7=>by kernel_rfl) ?_)
 exact EA
theorem ag1:∀p∈[((1,0):O×O),(1,1),(1,3),(2,0),(2,1),(2,2)],Ag p:=by
 repeat(refine all_cons (Oj λsc CF C7=>by kernel_rfl) ?_)
 exact EA
theorem ag2:∀p∈[((2,3):O×O),(2,4),(2,5),(3,0),(3,1),(3,3)],Ag p:=by
 repeat(refine all_cons (Oj λsc CF C7=>by kernel_rfl) ?_)
 exact EA
theorem ag3:∀p∈[((4,0):O×O),(4,1),(4,3),(5,1),(6,0),(6,1)],Ag p:=by
 repeat(refine all_cons (Oj λsc CF C7=>by kernel_rfl) ?_)
 exact EA
theorem ag4:∀p∈[((6,2):O×O),(6,3),(6,4),(6,5),(7,0),(7,1)],Ag p:=by
 repeat(refine all_cons (Oj λsc CF C7=>by kernel_rfl) ?_)
 exact EA
theorem ag5:∀p∈[((7,2):O×O),(7,3),(7,4),(7,5),(8,0),(8,1)],Ag p:=by
 repeat(refine all_cons (Oj λsc CF C7=>by kernel_rfl) ?_)
 exact EA
theorem ag6:∀p∈[((8,3):O×O),(9,1),(10,0),(10,1),(10,3),(11,1)],Ag p:=by
 repeat(refine all_cons (Oj λsc CF C7=>by kernel_rfl) ?_)
 exact EA
noncomputable def pd:I (O×O):=[(0,0),(0,1),(0,2),(0,3),(0,4),(0,5)]++[(1,0),(1,1),(1,3),(2,0),(2,1),(2,2)]++[(2,3),(2,4),(2,5),(3,0),(3,1),(3,3)]++[(4,0),(4,1),(4,3),(5,1),(6,0),(6,1)]++[(6,2),(6,3),(6,4),(6,5),(7,0),(7,1)]++[(7,2),(7,3),(7,4),(7,5),(8,0),(8,1)]++[(8,3),(9,1),(10,0),(10,1),(10,3),(11,1)]
theorem aP1:∀p∈pd,Ag p:=(Cg (Cg (Cg (Cg (Cg (Cg ag0 ag1) ag2) ag3) ag4) ag5) ag6)
noncomputable def HX(k:AK)(a:O):I O:=match k,a with
 |false,0=>[6]|false,1=>[0,2,6,7]|false,2=>[0,1,2,3,4,6,7,8,10]|false,_=>[0,1,2,3,4,5,6,7,8,9,10,11]|true,0=>[1]|true,1=>[0,1,3]|true,2=>[0,1,2,3,4,5]|true,_=>[0,1,2,3,4,5]
noncomputable def JW(a:O):I O->AK
 |[]=>A6|x::l=>match B8 a x with|true=>M|false=>JW a l
set_option tactic.hygienic true in
theorem LV{a:O}:∀{l:I O},JW a l=M->a∈l
 |[],h=>by exact(E3 h).elim|x::l,h=>by
  simp only[JW]at h;split at h;. rename_i e;rw[CC e];exact Co ..
  . exact Cp _ (LV h)
noncomputable def XD(a:O×O):I (O×O)->AK
 |[]=>A6|x::l=>match B8 a.1 x.1&&B8 a.2 x.2 with|true=>M|false=>XD a l
set_option tactic.hygienic true in
theorem pe{a:O×O}:∀{l:I (O×O)},XD a l=M->a∈l
 |[],h=>by exact(E3 h).elim|x::l,h=>by
  simp only[XD]at h;split at h
  . rename_i e;simp only[D2]at e;rw[show a=x from NI (CC e.1) (CC e.2)];exact Co ..
  . exact Cp _ (pe h)
theorem aP2:((lv A6 0).all λA0=>JW (CB A0 DW) (HX A6 0))=M:=by kernel_rfl
theorem aP3:((lv M 0).all λA0=>JW (CB A0 DX) (HX M 0))=M:=by kernel_rfl
theorem aP4:((lv A6 1).all λA0=>JW (CB A0 DW) (HX A6 1))=M:=by kernel_rfl
theorem aP5:((lv M 1).all λA0=>JW (CB A0 DX) (HX M 1))=M:=by kernel_rfl
theorem aP6:((lv A6 2).all λA0=>JW (CB A0 DW) (HX A6 2))=M:=by kernel_rfl
theorem aP7:((lv M 2).all λA0=>JW (CB A0 DX) (HX M 2))=M:=by kernel_rfl
theorem aP8:((lv A6 3).all λA0=>JW (CB A0 DW) (HX A6 3))=M:=by kernel_rfl
theorem aP9:((lv M 3).all λA0=>JW (CB A0 DX) (HX M 3))=M:=by kernel_rfl
theorem li0{a:O}(ha:a<=3)(h:A0∈lv A6 a):CB A0 DW∈HX A6 a:=by exact(show∀a∈[0,1,2,3],A0∈lv A6 a->CB A0 DW∈HX A6 a from all_cons (λh=>LV (Bp.mp aP2 A0 h)) (all_cons (λh=>LV (Bp.mp aP4 A0 h)) (all_cons (λh=>LV (Bp.mp aP6 A0 h)) (all_cons (λh=>LV (Bp.mp aP8 A0 h)) EA)))) a (P_.mpr (fA ha):a∈DQ 4) h
theorem li1{a:O}(ha:a<=3)(h:A0∈lv M a):CB A0 DX∈HX M a:=by exact(show∀a∈[0,1,2,3],A0∈lv M a->CB A0 DX∈HX M a from all_cons (λh=>LV (Bp.mp aP3 A0 h)) (all_cons (λh=>LV (Bp.mp aP5 A0 h)) (all_cons (λh=>LV (Bp.mp aP7 A0 h)) (all_cons (λh=>LV (Bp.mp aP9 A0 h)) EA)))) a (P_.mpr (fA ha):a∈DQ 4) h
theorem aQ0:((DQ 4).all λa=>(DQ (4-a)).all λb=>(HX A6 a).all λi=>(HX M b).all λj=>XD (i,j) pd)=M:=by kernel_rfl
theorem aQ1(h:Ag (i,j)):Agree (DW.getD i []) (DX.getD j []) (F1 i) (F2 j):=by unfold Ag at h;exact h
theorem aQ2{a b:O}(GY:a+b<=3){Au:I Tx}(h:A0∈lv A6 a)(Q:Au∈lv M b):Agree (DW.getD (CB A0 DW) []) (DX.getD (CB Au DX) []) (F1 (CB A0 DW)) (F2 (CB Au DX)):=by
 have h1:=li0 (by omega) h;have h2:=li1 (by omega) Q;have :=Bp.mp (Bp.mp (Bp.mp (Bp.mp aQ0 a (P_.mpr (by omega))) b (P_.mpr (by(with_reducible exact Mine.vS (by assumption))))) _ h1) _ h2;exact aQ1 (aP1 (CB A0 DW,CB Au DX) (pe this))
theorem dM{J:Type}{o:J}{x y:I (O×J)}:AJ (x++y) i=G o->AJ x i=G o\/(AJ x i=L/\AJ y i=G o):=by induction x with
 |nil=>exactλh=>.inr ⟨rfl,h⟩|cons p x ih=>
 intro h;rw[IP];refine Fi (show bC (B8 p.1 i) (G p.2) (AJ (x++y) i)=G o from h) (λq h=>?_) λq h=>?_;. rw[q];exact .inl h
 . rw[q];exact ih h
theorem XE:AJ (GJ n BD) i=G o->∃j o',i=n+j/\AJ BD j=G o'/\o=DP (n+·) o':=by induction BD with
 |nil=>exactλh=>(AE h).elim|cons p BD ih=>
 intro h;refine Fi (show bC (B8 (n+p.1) i) (G (DP (n+·) p.2)) (AJ (GJ n BD) i)=G o from h) (λq h=>?_) λq h=>?_;. exact⟨p.1,p.2,(CC q).symm,JD,(Bk h).symm⟩
 . refine Bu (ih h) ?_;intro j o' e l r;exact⟨j,o',e,(JE λz=>by rw[z,<-e,Ir]at q;(exfalso;cases q)).trans l,r⟩
theorem pf(hc:∀B9,DP B9 o=o):GJ n [(0,o)]=[(n,o)]:=by
 show[(n+0,DP (n+·) o)]=_;rw[hc];rfl
section
variable{J:I A9}
theorem dN(g:Gd B F K A H C s)(AF:Sub H DG Du)(g':Gd B F K' A' AA AS s')(x':Nx F.D [] s.heap s'.heap (Bz C Du) AS)(nd:B6.Nodup)(KI:∀i∈B6,Du.length<=i/\i<AA.n){Q:I (O×Ob)}(hH:∀j o,AJ BD j=G o->∃i o',B6[j]?=G i/\AJ AA.h i=G o'/\∀a,C_ B.prog B.w s'.heap AS a o'->C_ B.prog B.w s'.heap AS a (DP (DH AA.n B6) o))(hh:∀i o,AJ Q i=G o->(AJ H.h i=G o/\i∉Du)\/∃j,Du[j]?=G i/\AJ AA.h j=G o/\∀B9,DP B9 o=o):Gd B F K A ⟨H.env,GJ H.n BD++Q,H.n+B6.length⟩ (C++Bz AS B6) s'/\Nx F.D [] s.heap s'.heap C (C++Bz AS B6):=by
 refine AC (x'.pre) ?_;intro J Av GA;subst Av;have hz:(Bz C Du).length=Du.length:=by simp[Bz]
 have CE:∀i∈B6,i<AA.n:=λi m=>(KI i m).2;have KR:∀a∈Bz (Bz C Du++J) B6,a∈J:=λa m=>by
   refine AC (Dz.mp m) ?_;intro i hi B5;clear m;subst B5;have h1:=KI i hi;have hl:i<(Bz C Du++J).length:=by rw[g'.len];exact h1.2
   have hb:i-Du.length<J.length:=by rw[F8,hz]at hl;(with_reducible exact Mine.vK (by assumption) (by assumption))
   have :(Bz C Du++J)[i]?=G J[i-Du.length]:=by rw[V1 (by omega),hz,Hd hb]
   rw[Kh,this];exact gC hb
 have hx:Nx F.D [] s.heap s'.heap C (C++Bz (Bz C Du++J) B6):=⟨⟨_,rfl,λb m=>GA b (KR b m)⟩,x'.live,x'.Bv,λb o e n m=>x'.same b o e (λz=>n (LL g.len AF.lt z)) m⟩;have U5:∀j,(Bz (Bz C Du++J) B6)[j]?=(Bz C Du++J)[DH AA.n B6 j]?:=λj=>by
   have :=GI (J:=[]) g'.len CE j;simpa using this
 have pg:∀j,(Bz (Bz C Du++J) B6)[j]?=(C++Bz (Bz C Du++J) B6)[H.n+j]?:=λj=>by rw[V1 (by rw[g.len];(with_reducible exact Gz _ _)),g.len,bA6]
 refine⟨g.back hx (by rw[F8,g.len];simp[Bz]) ?_ ?_ ?_ ?_ g'.base g'.os g'.gens (Cc.Gq g g.env hx),hx⟩
 . refine I7.mpr ⟨g.nodup,?_,λa ha b hb e=>?_⟩
   . unfold Bz;rw[u8,fc];refine nd.imp_of_mem λ{a b}ha hb Cb e=>Cb ?_;have h1:a<(Bz C Du++J).length:=by rw[g'.len];exact CE a ha
     have h2:b<(Bz C Du++J).length:=by rw[g'.len];exact CE b hb
     have e':(Bz C Du++J)[a]?=(Bz C Du++J)[b]?:=by
       change(Bz C Du++J).getD a 0=(Bz C Du++J).getD b 0 at e;rw[Kh,Kh,Hd h1,Hd h2]at e;rw[Hd h1,Hd h2];exact congrArg G e
     exact(RK h1 g'.nodup).mp e'
   . subst e;refine xE (g.live a ha) ?_;intro o e;rw[GA a (KR a hb)]at e;exact(BB e).elim
 . intro a m;rcases Do.mp m with m|m;. exact g.fresh a m
   . exact g'.fresh a (PZ _ (KR a m))
 . intro a m;rcases Do.mp m with m|m;. refine xE (g.live a m) ?_;intro o e;exact x'.live a o e
   . exact g'.live a (PZ _ (KR a m))
 . intro i o e;rcases dM e with e|Bf;rotate_left;refine xA Bf ?_;(try clear Bf);intro _ e;rotate_left
   . refine Bu (XE e) ?_;intro j o' BI hj BO;clear e;subst BI;clear e;subst BO;refine Bu (hH j o' hj) ?_;intro i' o'' hp hl conv;refine AC (g'.objs i' o'' hl) ?_;intro a ha r;refine⟨a,?_,(C_.DU pg).mp ((C_.DU U5).mpr (conv a r))⟩;rw[<-pg,U5];unfold DH;rw[hp];exact ha
   . rcases hh i o e with Br|C8;refine xA Br ?_;(try clear Br);intro e hi;rotate_left;refine CX C8 ?_;(try clear C8);intro j hj hl hc;rotate_left
     . refine AC (g.objs i o e) ?_;intro a ha r;refine⟨a,FV ha,r.mono x'.Bv λy ey=>x'.keep a y ey (λz=>hi ?_) (by simp) (λz=>absurd (Es ha) (g.Cw a z).1)⟩;refine AC (Dz.mp z) ?_;intro j hj e';have h1:j<C.length:=by rw[g.len];exact AF.lt j hj
       have h2:C[j]?=G a:=by rw[<-e'];simp[Kh,h1]
       have :j=i:=(RK h1 g.nodup).mp (h2.trans ha.symm);exact this▸hj
     . refine AC (g'.objs j o hl) ?_;intro a ha r;refine⟨a,?_,r.Fs hc⟩;have :=GI (J:=J) g.len AF.lt j;rw[ha]at this;have h3:DH H.n Du j=i:=by unfold DH;rw[hj]
       rw[h3]at this;have hi:i<C.length:=by rw[g.len];exact AF.lt i (Es hj)
       rw[Xq hi]at this;exact FV this.symm
theorem dO(g:Gd B F K A H C s)(g':Gd B F K' A' AA AS s')(KI:∀i∈B6,i<AA.n)(hi:B6[0]?=G i)(r:VR h AS (.ref i) u):VR h (C++Bz AS B6) (.ref H.n) u:=by
 refine AC r ?_;(try clear r);intro a ha Bo;subst Bo;refine⟨a,?_,rfl⟩;have U5:=GI (J:=[]) g'.len KI 0;simp only[HJ]at U5;rw[V1 (by rw[g.len];exact DE _),g.len,Nat.sub_self,U5];unfold DH;rw[hi];exact ha
theorem ph(hl:AJ AA.h j=G ob)(c:∀a,C_ B.prog B.w s'.heap AS a ob->C_ B.prog B.w s'.heap AS a (DP B9 o)):∀q U6,AJ [(0,o)] q=G U6->∃i o',[j][q]?=G i/\AJ AA.h i=G o'/\∀a,C_ B.prog B.w s'.heap AS a o'->C_ B.prog B.w s'.heap AS a (DP B9 U6):=λq U6 e=>Zq (P:=λq U6=>∃i o',[j][q]?=G i/\AJ AA.h i=G o'/\∀a,C_ B.prog B.w s'.heap AS a o'->C_ B.prog B.w s'.heap AS a (DP B9 U6)) e ⟨j,ob,rfl,hl,c⟩ λ_ e=>(AE e).elim
theorem LW{w:Tx->V}(hw:∀p,Cl (w p)):DP B9 (.dict (BL w A0))=.dict (BL w A0)/\DP B9 (.B1 (BL w A0))=.B1 (BL w A0):=by
 constructor;. show Ob.dict ((BL w A0).map _)=_;rw[KO (Mj hw)]
 . show Ob.B1 ((BL w A0).map _)=_;rw[KO (Mj hw)]
theorem pi(g:Gd B F K A H C s)(hi:AJ H.h i=G o)(hc:∀B9,DP B9 o=o):Sub H ⟨[],[(0,o)],1⟩ [i]:=⟨rfl,ER.mpr ⟨(by simp),HI⟩,λj m=>by rw[CH.mp m];exact Ih g hi,λj p e=>by match j,e with
 |0,e=>injection e with e;subst e;exact⟨i,rfl,by rw[hi,hc]⟩|j+1,e=>exact(BB e).elim⟩
theorem pj(AU:(Ba P).In B.base)(AM:De B){A8:I Tx}{w:Tx->V}(hw:∀p,Cl (w p))(hS:F_ A0)(hp:A0.Perm A8)(hd:8<=K.d)(hi:AJ H.h i=G (.dict (BL w A0)))(g:Gd B F K A H C s)(rs:Aa s.heap C [.ref i] us):Ae B F K A ⟨H.env,(H.n,.B1 (BL w A8))::H.h,H.n+1⟩ C s (CD (.ref 392) us) (RV (.ref H.n)):=by
 refine Vp (hS K.sc w) AE λv AA LU hs=>?_;revert LU;apply EF hs AE;intro j hs LU;refine Cj hs AE λhj hs=>BH hs λob hl hs=>?_;revert hl;apply J4 hs AE;intro N hs hl;refine BH hs λob0 h0 hs=>?_;revert h0;apply J4 hs AE;intro cS hs h0;have hs:=Bk hs;have hl:AJ AA.h j=G (.dict (BL w A0)):=(congrArg (·.1) hs:N=BL w A0)▸hl;have h0:AJ AA.h 0=G (.dict (BL w A0)):=(congrArg (·.2) hs:cS=BL w A0)▸h0;have AF:=pi g hi λB9=>(LW hw).1;intro A2 E k;refine(all1 AU AM 100).s.call LU (g.sub AF hd (Cc.nil g)) Qo ((Aa.DU λj=>?_).mpr (show Aa s.heap C (Cr (DH H.n [i]) [.ref 0]) us from rs)) A2 E λu AS s' g' x' r'=>?_
 . have :=GI (J:=[]) g.len AF.lt j;rwa[HJ,HJ]at this
 . have U7:=Ih g' hl;refine xA (dN (B6:=[j]) (BD:=[(0,.B1 (BL w A8))]) (Q:=H.h) g AF g' x' ((gX _ _)) (λk m=>by rw[CH.mp m];exact⟨Di hj,U7⟩) (ph hl λa r=>by
     rw[(LW hw).2];exact⟨_,⟨hp.map _,trivial⟩,r⟩) (λk o e=>?_)) ?_
   . by_cases hk:k=i
     . rw[hk,hi]at e;exact .inr ⟨0,congrArg G hk.symm,Bk e▸h0,λB9=>Bk e▸(LW hw).1⟩
     . exact .inl ⟨e,λm=>hk (CH.mp m)⟩
   intro gg xx;rw[pf λB9=>(LW hw).2]at gg;exact k u _ s' gg xx (dO g g' (λi m=>by rw[CH.mp m];exact U7) rfl r')
theorem aQ3{l:I O}:cx l=M->l.Nodup:=by induction l with
 |nil=>exactλ_=>HI|cons x l ih=>exactλh=>ER.mpr ⟨λm=>UY ((nb (B' h)).symm.trans (IC.mpr ⟨x,m,Ir x⟩)),ih (Ak h)⟩
theorem U8{k:AK}{AO:CA k}:∀p,Cl (Ax AO p):=λ_ _=>rfl
theorem aQ4(AU:(Ba P).In B.base)(AM:De B){k:AK}{AO:CA k}{Q:I (O×Ob)}(hS:Eo K.sc k AO A0=G BD)(hd:8<=K.d)(hi:AJ H.h i=G (.dict (BL (Ax AO) A0)))(hh:∀j o,AJ Q j=G o->AJ H.h j=G o/\j≠i)(g:Gd B F K A H C s)(rs:Aa s.heap C [.ref i] us):Ae B F K A ⟨H.env,GJ H.n BD++Q,H.n+BD.length⟩ C s (CD (.ref 411) us) (RV (.ref H.n)):=by
 refine BH hS λp hp hS=>Cj hS AE λhc hS=>oU hp λj AA LU dP aQ5=>?_;rw[<-Bk hS];have z:=oV aQ5;have AF:=pi g hi λB9=>(LW U8).1;intro A2 E kk;refine(all1 AU AM 100).s.call (show ev C2 100 ⟨K.sc,8⟩ _ _=_ from LU) (g.sub AF hd (Cc.nil g)) Qo ((Aa.DU λj=>?_).mpr (show Aa s.heap C (Cr (DH H.n [i]) [.ref 0]) us from rs)) A2 E λu AS s' g' x' r'=>?_
 . have :=GI (J:=[]) g.len AF.lt j;rwa[HJ,HJ]at this
 . have CE:∀i∈p.1,i<AA.n:=λi m=>xE (z.2.1 i m) λN he=>Ih g' he;refine xA (dN (B6:=p.1) (BD:=p.2) (Q:=Q) g AF g' x' (aQ3 (B' hc)) (λi m=>⟨Di (Bp.mp (Ak hc) i m),CE i m⟩) (λq o e=>by
   refine VD (z.2.2 q o e) ?_;intro q' i' N BM e1 e2 e3 e4 e5;rw[e4];exact⟨i',_,e1▸(U_ q').symm▸e2,e3,λa r=>⟨_,⟨e5 _,trivial⟩,r⟩⟩) (λq o e=>.inl ⟨(hh q o e).1,λm=>(hh q o e).2 (CH.mp m)⟩)) ?_;intro gg xx;rw[<-z.1]at gg;exact kk u _ s' gg xx (dO g g' CE (aE4 dP) r')
theorem aQ6{k:O}{o:A1}{l:I Sg}(h:XC k o=G l):∃i H ob r,o=.ok (.v (.ref i)) H/\k<=i/\AJ H.h i=G ob/\FT ob=G (r,l):=by
 apply Vo h AE;intro v H h;apply EF h AE;intro i h;refine Cj h AE λhk h=>BH h λob hb h=>BH h λr hr h=>?_;exact⟨i,H,ob,r.1,rfl,Di hk,hb,Bk h▸hr⟩
theorem aQ7{U:I Sg}(hr:FT ob=G (r,U))(q:C_ prog w h C a ob):C_ prog w h C a (.rows 0 U):=by
 revert q;apply ax hr;. exactλhf _ q=>AC q λus p v=>⟨us,p,v,B2 (Eb hf) (show 100000<=Dk by decide)⟩
 . exactλq=>CX q λus p v l=>⟨us,p,v,B2 (HG (NZ r) _) l⟩
theorem pk(AU:(Ba P).In B.base)(AM:De B){f:O}{l:I Sg}{Q:I (O×Ob)}(hR:XC DG.n (ev U3 200 ⟨K.sc,40⟩ (.call (.top (.ref f)) MI) DG)=G l)(he:DG.env=[])(AF:Sub H DG Du)(hd:40<=K.d)(ha:args=Cr (DH H.n Du) MI)(hh:∀j o,AJ Q j=G o->AJ H.h j=G o/\j∉Du)(g:Gd B F K A H C s)(rs:Aa s.heap C args us):Ae B F K A ⟨H.env,(H.n,.rows 0 l)::Q,H.n+1⟩ C s (CD (.ref f) us) (RV (.ref H.n)):=by
 refine VC (aQ6 hR) ?_;intro i AA ob r LU hi hl hr;subst ha;intro A2 E kk;refine(aP0 AU AM 200).s.call LU (g.sub AF hd (by rw[he];exact Cc.nil g)) Qo ((Aa.DU λj=>?_).mpr rs) A2 E λu AS s' g' x' r'=>?_
 . have :=GI (J:=[]) g.len AF.lt j;simpa using this
 . have U7:=Ih g' hl;refine xA (dN (B6:=[i]) (BD:=[(0,.rows 0 l)]) (Q:=Q) g AF g' x' ((gX _ _)) (λk m=>by rw[CH.mp m,AF.len];exact⟨hi,U7⟩) (ph hl λa r=>aQ7 hr r) (λk o e=>.inl (hh k o e))) ?_;intro gg xx;rw[pf λB9=>rfl]at gg;exact kk u _ s' gg xx (dO g g' (λi m=>by rw[CH.mp m];exact U7) rfl r')
end
section
theorem aQ8{fn:Fn}{o:Bl}(ok:FnAt B a fn o fd){b:I (Y×V)}(hb:J9 fn args=G b)(hd:K.d=d+1)(g:Ga B F K A ⟨[],[],0⟩ [] s)(rs:Aa s.heap [] args us)(D:∀{F:Fm}{A:CK}{AI:AR},Gd B F ⟨fn.sc,d⟩ A ⟨b,[],0⟩ [] AI->(∀b o,s.heap.get? b=G o->AI.heap.get? b=G o)->AG (AQ B.prog B.w) A (Iu fn.body F.env) (λf s'=>∃v,f=.ret v/\A2 v s') (λ_ _=>Bh) AI):AG (AQ B.prog B.w) A (CD (.ref a) us) A2 E s:=by
 refine HL (g.into hd ok hb rs λAN keep _ _=>codeAny_func (Fd (D AN keep) (λf s' q=>?_) λ_ _ q=>q.elim));refine AC q ?_;(try clear q);intro v BO q;subst BO;exact q
end
noncomputable def Mv(nm:Y)(x:AB):AK:=E9 x A6 λf _ k _=>DS f A6 λid _=>l0 k A6 (D7 id nm)
noncomputable def I1(x:AB):I AB:=E9 x [] λ_ a _ _=>a
theorem Ol{nm:Y}{x:AB}(h:Mv nm x=M):∃p p',x=.Call (.Name nm p) (I1 x) [] p':=by
 apply M0 h B3;intro f a k p h;apply ES h B3;intro id p' h;apply ET h B3;intro h;rw[E0.mp h];exact⟨_,_,rfl⟩
noncomputable def dQ(x:AB)(i:O):AB:=(I1 x).getD i (.Constant .none 0 ⟨0,0,0,0⟩)
noncomputable def dR(nm:Y)(x:Ar):AK:=Pc x A6 λl _ _=>l1 l A6 λy=>DS y A6 λid _=>D7 id nm
noncomputable def JX(x:Ar):AB:=Pc x (Rt x (.Constant .none 0 ⟨0,0,0,0⟩) λe _=>oS e (.Constant .none 0 ⟨0,0,0,0⟩) λe=>e) λ_ e _=>e
theorem pn{nm:Y}{x:Ar}(h:dR nm x=M):∃p p',x=.Assign [.Name nm p] (JX x) p':=by
 apply gy h B3;intro l e p h;apply Cs h B3;intro y h;apply ES h B3;intro id p' h;rw[E0.mp h];exact⟨_,_,rfl⟩
noncomputable def po(x:Ar):AK:=Rt x A6 λe _=>oS e A6 λ_=>M
theorem aQ9{x:Ar}(h:po x=M):∃p,x=.Return (G (JX x)) p:=by
 apply uV h B3;intro e p h;apply Nd h B3;intro e _;exact⟨_,rfl⟩
noncomputable def pp(x:AB):AK:=Kk x A6 λ_ o r _=>l1 o A6 λo=>l1 r A6 λ_=>decide (o=.Eq)
noncomputable def U9(x:AB):AB:=Kk x (J' x x λv _ _=>v) λl _ _ _=>l
noncomputable def dS(x:AB):AB:=Kk x x λ_ _ r _=>l1 r x λr=>r
theorem aR0{x:AB}(h:pp x=M):∃p,x=.Compare (U9 x) [.Eq] [dS x] p:=by
 apply Rr h B3;intro l o r p h;apply Cs h B3;intro o h;apply Cs h B3;intro r h;rw[of_decide_eq_true h];exact⟨_,rfl⟩
noncomputable def pq(x:AB):AK:=J' x A6 λ_ s _=>Nb s A6 λa b c _=>oN a A6 (oN c A6 (oS b A6 λb=>HN b A6 λk _ _=>decide (k=.int 3)))
theorem aR1{x:AB}(h:pq x=M):∃k p p' XG,x=.Subscript (U9 x) (.Slice L (G (.Constant (.int 3) k p)) L p') XG:=by
 apply N_ h B3;intro v s XG h;apply gv h B3;intro a b c p' h;apply GQ h B3;intro h;apply GQ h B3;intro h;apply Nd h B3;intro b h;apply Iz h B3;intro k n p h;rw[of_decide_eq_true h];exact⟨n,p,p',XG,rfl⟩
noncomputable def DY:Ar:=B_ 37
@[irreducible]noncomputable def FL(k:O):Ar:=(Fg DY)[k]?.getD (.Pass ⟨0,0,0,0⟩)
@[irreducible]noncomputable def Om:AB:=JX (FL 0)
@[irreducible]noncomputable def Qv:AB:=JX (FL 1)
@[irreducible]noncomputable def UA:AB:=dS (JX (FL 2))
@[irreducible]noncomputable def UB:AB:=dQ Om 0
@[irreducible]noncomputable def I2(k:O):AB:=dQ Qv k
@[irreducible]noncomputable def I3(k:O):AB:=dQ UA k
@[irreducible]noncomputable def pr:AB:=U9 (JX (FL 2))
noncomputable def LX:Y:=⟨⟨[115,99,114,105,112,116]⟩⟩
noncomputable def Ef:Y:=⟨⟨[100,114,97,119,110]⟩⟩
noncomputable def HD:Y:=⟨⟨[116,111,108,100,95,115,111]⟩⟩
noncomputable def XH:Y:=⟨⟨[95,108,97,119,95,116,114,101,101,115]⟩⟩
noncomputable def UC:Y:=⟨⟨[95,108,97,119,95,115,116,114,97,105,103,104,116]⟩⟩
noncomputable def XI:Y:=⟨⟨[95,108,97,119,95,116,111,108,100]⟩⟩
noncomputable def UD:Y:=⟨⟨[95,108,97,119,95,103,114,111,119,110]⟩⟩
noncomputable def XJ:Y:=⟨⟨[95,108,97,119,95,119,97,108,107,101,100]⟩⟩
theorem aR2:Fg DY=[FL 0,FL 1,FL 2]:=by kernel_rfl
theorem dU:dR Ef (FL 0)=M/\JX (FL 0)=Om/\Mv XH Om=M/\I1 Om=[UB]/\pq UB=M/\JC Om=A6/\MC [] Om=A6/\CP UB=M:=⟨by kernel_rfl,by kernel_rfl,by kernel_rfl,by kernel_rfl,by kernel_rfl,by kernel_rfl,by kernel_rfl,by kernel_rfl⟩
theorem pt:dR HD (FL 1)=M/\JX (FL 1)=Qv/\Mv XI Qv=M/\I1 Qv=[I2 0,I2 1,I2 2]/\Mv UC (I2 0)=M/\Mv UC (I2 1)=M/\JC Qv=A6:=⟨by kernel_rfl,by kernel_rfl,by kernel_rfl,by kernel_rfl,by kernel_rfl,by kernel_rfl,by kernel_rfl⟩
theorem pu:po (FL 2)=M/\pp (JX (FL 2))=M/\U9 (JX (FL 2))=pr/\dS (JX (FL 2))=UA/\Mv XJ UA=M/\I1 UA=[I3 0,I3 1,I3 2]/\Mv UD (I3 0)=M/\Mv UD (I3 1)=M:=⟨by kernel_rfl,by kernel_rfl,by kernel_rfl,by kernel_rfl,by kernel_rfl,by kernel_rfl,by kernel_rfl,by kernel_rfl⟩
theorem aR3:([XH,UC,XI,UD,XJ].all (Dl (BU DY)))=M:=by kernel_rfl
theorem On:Ai C2.glob XH=G (.top (.ref 387))/\Ai C2.glob UC=G (.top (.ref 392))/\Ai C2.glob XI=G (.top (.ref 404))/\Ai C2.glob UD=G (.top (.ref 411))/\Ai C2.glob XJ=G (.top (.ref 435)):=⟨by kernel_rfl,by kernel_rfl,by kernel_rfl,by kernel_rfl,by kernel_rfl⟩
noncomputable def XK(CF:CA A6)(C7:CA M)(L0 L1:I Tx):Mine.St:=⟨[(Ef,.ref 0)],[(0,.list [.ref 1,.ref 2]),(1,.dict (BL (Ax CF) L0)),(2,.dict (BL (Ax C7) L1))],3⟩
theorem aR4(d:O)(l:A9):ev C2 60 ⟨BU DY,d⟩ (.e (U9 UB)) ⟨[(LX,.top (.ref l))],[],0⟩=.ok (.v (.top (.ref l))) ⟨[(LX,.top (.ref l))],[],0⟩:=by kernel_rfl
theorem aR5(d:O)(p:BG)(l:A9)(BD:I (O×Ob)):ev C2 60 ⟨BU DY,d⟩ (.G6 [.Name Ef p] (.ref 3)) ⟨[(LX,.top (.ref l))],BD,6⟩=.ok (.f .next) ⟨[(LX,.top (.ref l)),(Ef,.ref 3)],BD,6⟩:=by kernel_rfl
theorem Oo{nm:Y}(h:nm∈[XH,UC,XI,UD,XJ]):Dl (BU DY) nm=M:=Bp.mp aR3 nm h
section
variable{J:I A9}
theorem Oq(AU:(Ba P).In B.base)(g:Gd B F K A H C s){k:O}(hf:AJ Ib a=G (DC (B_ k))):CU (AQ B.prog B.w) s.heap (.ref a):=by
 refine D9 (Mc AU (Me AU) (OU P hf)) ?_;intro o fd ok;exact CU.func (g.base _ _ ok.get) ok.data
theorem aR6:Hl (E5 rs) L (G 3)=E5 (rs.take 3):=by
 rw[WK];show((E5 rs).take (Hb (E5 rs).length 3)).drop 0=_;rw[Y9];unfold E5;rw[List.map_take];have :Hb (rs.map (V.II 12)).length 3=min 3 rs.length:=by rw[Jk];exact clipAt_nat rs.length 3
 rw[this];by_cases h:rs.length<=3;. rw[bB0 h,g7 (by simp),g7 (by simpa using h)]
 . rw[bB1 (by(with_reducible exact uC (by assumption)))]
theorem aR7(AU:(Ba P).In B.base)(AM:De B){l:A9}{us:BV A4}(hl:B.base.IsList l us)(hv:Aa B.base [] (E5 rs) us.toList)(UE:us.size<=100)(g:Gd B F ⟨BU DY,d⟩ A ⟨[(LX,.top (.ref l))],[],0⟩ [] s):Ae B F ⟨BU DY,d⟩ A ⟨[(LX,.top (.ref l))],[(0,.list (E5 (rs.take 3)))],1⟩ [] s (eval UB F.env) (RV (.ref 0)):=by
 intro A2 E kk;refine uc (aR1 dU.2.2.2.2.1) ?_;intro k p p' XG e;rw[e];have A8:=(all1 AU AM 60).s;refine YA (A8.e (aR4 d l) g _ _ λu AZ AI AN Ab Ap=>tH (CJ.pure (A_:=[]) (IS:=RV .none) AN rfl _ _ λa As Ah AT Al BA=>Vv (Kz:=k) (pos:=p) (v:=.int 3) AT rfl _ _ λb BQ Aw Ao B7 BP=>?_));rw[evalPart_none];refine AW ?_;cases Ap;cases BA;refine xE BP ?_;(try clear BP);intro t Av;subst Av;have h0:BQ=[]:=gc Ao.len;subst h0;refine Pf hl ?_;(try clear hl);intro o ho hc n hd;have kp:∀b o,Aw.heap.get? b=G o->(Aw.heap.push {cls:=.type "slice",data:=.fields #[.none,.int 3 t,.none]}).get? b=G o:=λb o e=>C0 _ e;have C9:=Ao.ext (tk:=Aw.toks) kp;have pw:(Aw.heap.push {cls:=.type "slice",data:=.fields #[.none,.int 3 t,.none]}).IsList l us:=⟨o,C9.base _ _ ho,hc,n,hd⟩;have hs:(Aw.heap.push {cls:=.type "slice",data:=.fields #[.none,.int 3 t,.none]}).IsSlice Aw.heap.objs.size L (G (3,t)) L:=⟨_,CW _ rfl,rfl,rfl⟩;refine Kg pw.typeIs PU.lookup (tG pw hs (WL L) (WL (G (3,t))) gD (by simp) ?_ (B2 UE (by decide))) rfl;have dV:∀b o,(Aw.heap.push {cls:=.type "slice",data:=.fields #[.none,.int 3 t,.none]}).get? b=G o->((Aw.heap.push {cls:=.type "slice",data:=.fields #[.none,.int 3 t,.none]}).push {cls:=.type "list",data:=.seq (Hc us L (G 3) L)}).get? b=G o:=λb o e=>C0 _ e;have hg:=CW (Aw.heap.push {cls:=.type "slice",data:=.fields #[.none,.int 3 t,.none]}) (o:={cls:=.type "list",data:=.seq (Hc us L (G 3) L)}) rfl;have EH:Nx F.D ([]:I A9) Aw.heap (Aw.heap.push {cls:=.type "slice",data:=.fields #[.none,.int 3 t,.none]}) [] []:=Nx.ext kp;have hn:=GD (Aw.heap.push {cls:=.type "slice",data:=.fields #[.none,.int 3 t,.none]});refine kk _ [_] _ (C9.new (tk:=Aw.toks) dV hn ⟨_,hg⟩ (o:=.list (E5 (rs.take 3))) ⟨_,⟨_,hg⟩,?_⟩) ((Ab.trans (Al.trans (B7.trans EH))).trans (Nx.add [_] dV λb hb=>by rw[CH.mp hb];exact hn)) ⟨_,rfl,rfl⟩;have :=aq (Aa.mono (Q:=(Aw.heap.push {cls:=.type "slice",data:=.fields #[.none,.int 3 t,.none]}).push {cls:=.type "list",data:=.seq (Hc us L (G 3) L)}) (J:=[(Aw.heap.push {cls:=.type "slice",data:=.fields #[.none,.int 3 t,.none]}).objs.size]) (λb o e _=>dV _ _ (C9.base b o e)) hv) L (G 3);rw[aR6]at this;exact this
theorem aR8(h:∀r∈rs,r<12):∀r∈rs.take 3,r<12:=λr m=>h r (List.mem_of_mem_take m)
theorem py{t:AB}{l:O}(h:JC e=A6):bv0 [t] e l env=pure A6:=Sv h
theorem aR9(AU:(Ba P).In B.base)(AM:De B)(hd:40<=d){l:A9}{us:BV A4}(hl:B.base.IsList l us)(hv:Aa B.base [] (E5 rs) us.toList)(UE:us.size<=100)(hr:∀r∈rs,r<12)(g:Gd B F ⟨BU DY,d⟩ A ⟨[(LX,.top (.ref l))],[],0⟩ [] s){A2:HK->AR->Prop}(k:∀(a b:O)(L0 L1:I Tx)(CF:CA A6)(C7:CA M)(AS:I A9)(s':AR),a+b<=3->L0∈lv A6 a->L1∈lv M b->Gd B F ⟨BU DY,d⟩ A (XK CF C7 L0 L1) AS s'->A2 .next s'):AG (AQ B.prog B.w) A (exec (FL 0) F.env) A2 E s:=by
 refine i5 dU ?_;(try clear dU);intro h1 h2 h3 h4 h5 h6 h7 h8;refine D9 (pn h1) ?_;intro p p' e;rw[e,h2];have A8:=(all1 AU AM 60).s;refine D9 (Ol h3) ?_;intro q q' e2;refine fW ?_ (py h6) (aD (by show MC [.Name Ef p] Om=A6;rw[e2];rfl));rw[e2,h4];refine LQ (Bj:=GH AU) (A3:=C2) (Oo (by simp)) On.1 (by simp[h8]) g (λBE EJ p FY Cq=>WV h8 (by
  have h0:BE=[]:=gc FY.len;clear Cq;subst h0;exact aR7 AU AM hl hv UE FY) p) λDv AZ AI AN Ab Ap=>⟨Oq AU (k:=28) AN (by kernel_rfl),?_⟩;refine Bu Ap ?_;(try clear Ap);intro u Dv B5 ru e3;subst B5;cases e3;have pz:=aR8 hr;obtain⟨d',rfl⟩:∃d',d=d'+1:=⟨d-1,by(with_reducible exact Mine.yH (by assumption))⟩;refine aB7 AU AM (K:=⟨BU DY,d'+1⟩) (rs:=rs.take 3) rfl (by omega) (by simp;(with_reducible exact Xj _ _)) pz AN ru _ _ λu As Ah AT Al BA=>?_;refine A8.G6 (aR5 _ p l _) AT BA _ _ λ_ BQ Aw Ao B7 _=>?_;refine EU (Wy (rs.take 3) oJ pz) ?_;intro a b GY En;have L5:=oP (rs.take 3) aD9;have EG:((rs.take 3).foldl Tr.turn T0).Cl:=by
  have :∀(l:I O){T:Tr},T.Cl->(l.foldl Tr.turn T).Cl:=λl=>by induction l with
 |nil=>exactλh=>h|cons r l ih=>exactλh=>ih (h.turn r)
  exact this _ oF
 generalize(rs.take 3).foldl Tr.turn T0=T at Ao En L5 EG;have C9:Gd B F ⟨BU DY,d'+1⟩ A ⟨[(Ef,.ref 0)],[(0,.list [.ref 1,.ref 2]),(1,.dict (BL T.w0 T.L0)),(2,.dict (BL T.w1 T.L1))],3⟩ (Bz BQ [3,4,5]) Aw:=by
  refine Ao.pick (B6:=[3,4,5]) ⟨rfl,by decide,by show∀i∈_,i<6;decide,λk o e=>?_⟩ λx v e=>?_;. match k,e with
 |0,e=>injection e with e;subst e;exact⟨3,rfl,rfl⟩|1,e=>injection e with e;subst e;exact⟨4,rfl,by show G (Ob.dict (BL T.w0 T.L0))=G (DP _ (Ob.dict (BL T.w0 T.L0)));rw[(LW EG.c0).1]⟩|2,e=>injection e with e;subst e;exact⟨5,rfl,by show G (Ob.dict (BL T.w1 T.L1))=G (DP _ (Ob.dict (BL T.w1 T.L1)));rw[(LW EG.c1).1]⟩|k+3,e=>exact(BB e).elim
  . exact Ss (f:=EK _) (by rfl) e
 have nd0:T.L0.Nodup:=Ml (Bp.mp (oQ A6) _ (Wz (by have :=PV (i:=3) (l:=rs);omega) En.l0));have nd1:T.L1.Nodup:=Ml (Bp.mp (oQ M) _ (Wz (by have :=PV (i:=3) (l:=rs);omega) En.l1));refine xE (C9.syms (k:=A6) (i:=1) (w:=T.w0) (A0:=T.L0) rfl nd0 L5.w0) ?_;intro CF Cn;refine xE (Cn.syms (k:=M) (i:=2) (w:=T.w1) (A0:=T.L1) rfl nd1 L5.w1) ?_;intro C7 GX;refine k a b T.L0 T.L1 CF C7 _ Aw ?_ En.l0 En.l1 GX;have :=PV (i:=3) (l:=rs);(with_reducible exact Mine.uw (by assumption) (by assumption))
end
theorem qA{A8:I Tx}(h:To A0 A8=M)(nd:A0.Nodup)(nd':A8.Nodup):A0.Perm A8:=by
 simp only[To,D2]at h;exact(bB2 nd nd').mpr λp=>⟨λm=>X' (Bp.mp h.1 p m),λm=>X' (Bp.mp h.2 p m)⟩
noncomputable def KW(A0:I Tx):I Tx:=DW.getD (CB A0 DW) []
noncomputable def LY(A0:I Tx):I Tx:=DX.getD (CB A0 DX) []
theorem pm0:(OZ.all λA0=>To A0 (KW A0)&&LO A0&&LO (KW A0))=M:=by kernel_rfl
theorem pm1:(O_.all λA0=>To A0 (LY A0)&&LO A0&&LO (LY A0))=M:=by kernel_rfl
theorem aS0(h:A0∈OZ):A0.Perm (KW A0):=by
 have :=Bp.mp pm0 A0 h;simp only[D2]at this;exact qA this.1.1 (Ml this.1.2) (Ml this.2)
theorem aS1(h:A0∈O_):A0.Perm (LY A0):=by
 have :=Bp.mp pm1 A0 h;simp only[D2]at this;exact qA this.1.1 (Ml this.1.2) (Ml this.2)
noncomputable def Mw(CF:CA A6)(C7:CA M)(L0 L1:I Tx):I (O×Ob):=[(0,.list [.ref 1,.ref 2]),(1,.dict (BL (Ax CF) L0)),(2,.dict (BL (Ax C7) L1))]
theorem aS2(d:O)(CF:CA A6)(C7:CA M)(L0 L1:I Tx):ev C2 60 ⟨BU DY,d⟩ (.N (I1 (I2 0))) (XK CF C7 L0 L1)=.ok (.vs [.ref 1]) (XK CF C7 L0 L1):=by kernel_rfl
theorem aS3(d:O)(CF:CA A6)(C7:CA M)(L0 L1:I Tx)(o:Ob):ev C2 60 ⟨BU DY,d⟩ (.N (I1 (I2 1))) ⟨[(Ef,.ref 0)],(3,o)::Mw CF C7 L0 L1,4⟩=.ok (.vs [.ref 2]) ⟨[(Ef,.ref 0)],(3,o)::Mw CF C7 L0 L1,4⟩:=by kernel_rfl
theorem aS4(d:O)(H:Mine.St):ev C2 60 ⟨BU DY,d⟩ (.e (I2 2)) H=.ok (.v (.str [47])) H:=by kernel_rfl
theorem qB:(I1 (I2 0)).all CP=M/\(I1 (I2 1)).all CP=M/\CP (I2 0)=M/\CP (I2 1)=M/\CP (I2 2)=M:=⟨by kernel_rfl,by kernel_rfl,by kernel_rfl,by kernel_rfl,by kernel_rfl⟩
theorem aS5(d:O)(p:BG)(BD:I (O×Ob)):ev C2 60 ⟨BU DY,d⟩ (.G6 [.Name HD p] (.ref 5)) ⟨[(Ef,.ref 0)],BD,6⟩=.ok (.f .next) ⟨[(Ef,.ref 0),(HD,.ref 5)],BD,6⟩:=by kernel_rfl
section
variable{GU:Mine.St}{J:I A9}
theorem qC{x y z:AB}{a b c:V}(hx:CP x=M)(hy:CP y=M)(hz:CP z=M)(bT1:Ae B F K A AA C s (eval x F.env) (RV a))(bT2:∀{AZ:I A9}{AI:AR},Gd B F K A AA AZ AI->Ae B F K A Bc AZ AI (eval y F.env) (RV b))(bT3:∀{As:I A9}{Ah:AR},Gd B F K A Bc As Ah->Ae B F K A GU As Ah (eval z F.env) (RV c))(pos:BG):Ae B F K A GU C s (Lj (F5 pos (Dy [x,y,z] F.env))) (O1 [a,b,c]):=by
 intro A2 E k;have cn:∀{x:AB}{l:I AB},CP x=M->Dy (x::l) F.env=(A6,eval x F.env)::Dy l F.env:=λh=>K4 h;refine Lk (bT1 _ _ λu AZ AI AN Ab Ap=>Lk (bT2 AN _ _ λv As Ah AT Al BA=>Lk (bT3 AT _ _ λw BQ Aw Ao B7 BP=>Ub (k _ BQ Aw Ao (Ab.trans (Al.trans B7)) ⟨u,_,rfl,(Ap.nx Al).nx B7,v,_,rfl,BA.nx B7,w,_,rfl,BP,rfl⟩)) (cn hz)) (cn hy)) (cn hx)
theorem aS6(AU:(Ba P).In B.base)(AM:De B)(hd:42<=d){CF:CA A6}{C7:CA M}(h0:L0∈OZ)(h1:L1∈O_){l:I Sg}(hR:U4 (BU DY) CF C7 (KW L0) (LY L1)=G l)(g:Gd B F ⟨BU DY,d⟩ A (XK CF C7 L0 L1) C s){A2:HK->AR->Prop}(k:∀(AS:I A9)(s':AR),Gd B F ⟨BU DY,d⟩ A ⟨[(Ef,.ref 0),(HD,.ref 5)],(5,.rows 0 l)::Mw CF C7 L0 L1,6⟩ AS s'->A2 .next s'):AG (AQ B.prog B.w) A (exec (FL 1) F.env) A2 E s:=by
 refine i3 pt ?_;(try clear pt);intro h2 h3 h4 h5 h6 h7 h8;refine VA qB ?_;(try clear qB);intro dW Qw UF UG UH;refine D9 (pn h2) ?_;intro p p' e;rw[e,h3];have A8:=(all1 AU AM 60).s;refine D9 (Ol h4) ?_;intro q q' e2;refine D9 (Ol h6) ?_;intro p0 p0' e0;refine D9 (Ol h7) ?_;intro p1 p1' e1;refine fW ?_ (py h8) (aD (by show MC [.Name HD p] Qv=A6;rw[e2];rfl));rw[e2,h5];refine LQ (Bj:=GH AU) (A3:=C2) (Oo (by simp)) On.2.2.1 (by simp[UF,UG,UH]) g (AA:=⟨[(Ef,.ref 0)],(4,.B1 (BL (Ax C7) (LY L1)))::(3,.B1 (BL (Ax CF) (KW L0)))::Mw CF C7 L0 L1,5⟩) (vs:=[.ref 3,.ref 4,.str [47]]) (λBE EJ pos FY Cq=>qC UF UG UH (AA:=⟨[(Ef,.ref 0)],(3,.B1 (BL (Ax CF) (KW L0)))::Mw CF C7 L0 L1,4⟩) (Bc:=⟨[(Ef,.ref 0)],(4,.B1 (BL (Ax C7) (LY L1)))::(3,.B1 (BL (Ax CF) (KW L0)))::Mw CF C7 L0 L1,5⟩) ?_ ?_ ?_ pos) λus AZ AI AN Ab Ap=>⟨Oq AU (k:=31) AN (by kernel_rfl),?_⟩
 . intro A2 E kk;rw[e0];refine LQ (Bj:=GH AU) (A3:=C2) (Oo (by simp)) On.2.1 dW FY (λAZ AI pos AN Ab=>A8.N (aS2 d CF C7 L0 L1) pos AN) λus As Ah AT Al BA=>⟨Oq AU (k:=29) AT (by kernel_rfl),?_⟩;exact pj AU AM U8 (aC6 h0) (aS0 h0) (by show 8<=d;omega) (i:=1) rfl AT BA _ _ λu BQ Aw Ao B7 BP=>kk u BQ Aw Ao (Al.trans B7) BP
 . intro AZ AI AN A2 E kk;rw[e1];refine LQ (Bj:=GH AU) (A3:=C2) (Oo (by simp)) On.2.1 Qw AN (λAZ AI pos AN Ab=>A8.N (aS3 d CF C7 L0 L1 _) pos AN) λus As Ah AT Al BA=>⟨Oq AU (k:=29) AT (by kernel_rfl),?_⟩;exact pj AU AM U8 (aD6 h1) (aS1 h1) (by show 8<=d;omega) (i:=2) rfl AT BA _ _ λu BQ Aw Ao B7 BP=>kk u BQ Aw Ao (Al.trans B7) BP
 . intro As Ah AT;exact A8.e (aS4 d _) AT
 . have cl0:∀B9,DP B9 (.B1 (BL (Ax CF) (KW L0)))=.B1 (BL (Ax CF) (KW L0)):=λB9=>(LW U8).2;have cl1:∀B9,DP B9 (.B1 (BL (Ax C7) (LY L1)))=.B1 (BL (Ax C7) (LY L1)):=λB9=>(LW U8).2;refine pk AU AM (K:=⟨BU DY,d⟩) (f:=404) (l:=l) (DG:=pb CF C7 (KW L0) (LY L1)) (Du:=[3,4]) (MI:=[.ref 0,.ref 1,.str [47]]) (Q:=Mw CF C7 L0 L1) hR rfl ⟨rfl,by decide,by show∀i∈_,i<5;decide,λj o e=>?_⟩ (by show 40<=d;omega) rfl (λj o e=>?_) AN Ap _ _ λu As Ah AT Al BA=>?_;. match j,e with
 |0,e=>injection e with e;subst e;exact⟨3,rfl,by rw[cl0];rfl⟩|1,e=>injection e with e;subst e;exact⟨4,rfl,by rw[cl1];rfl⟩|j+2,e=>exact(BB e).elim
   . match j,e with
 |0,e=>exact⟨e,by decide⟩|1,e=>exact⟨e,by decide⟩|2,e=>exact⟨e,by decide⟩|j+3,e=>exact(BB e).elim
   . exact A8.G6 (aS5 d p _) AT BA _ _ λ_ BQ Aw Ao B7 _=>k BQ Aw Ao
end
mutual
theorem XM{AO:O->O}:∀v:V,EK B9 (EK AO v)=EK (λj=>B9 (AO j)) v
 |.none=>rfl|.bool _=>rfl|.int _=>rfl|.str _=>rfl|.sym _ _ _=>rfl|.II _ _=>rfl|.No _=>rfl|.any=>rfl|.top _=>rfl|.ref _=>rfl|.H4 _ _=>rfl|.Az _ _=>rfl|.tup c U=>by
  show V.tup c (Cr B9 (Cr AO U))=V.tup c (Cr _ U);rw[dZ U]
theorem dZ{AO:O->O}:∀l:I V,Cr B9 (Cr AO l)=Cr (λj=>B9 (AO j)) l
 |[]=>rfl|v::l=>by
  show EK B9 (EK AO v)::Cr B9 (Cr AO l)=EK _ v::Cr _ l;rw[XM v,dZ l]
end
theorem aS7{AO:O->O}(o:Ob):DP B9 (DP AO o)=DP (λj=>B9 (AO j)) o:=by cases o with
 |list U=>show Ob.list _=Ob.list _;rw[dZ]|dict N=>show Ob.dict _=Ob.dict _;rw[Jn];congr 2;funext e;simp[JN,XM]|B1 N=>show Ob.B1 _=Ob.B1 _;rw[Jn];congr 2;funext e;simp[JN,XM]|EV N=>show Ob.EV _=Ob.EV _;rw[Jn];congr 2;funext e;simp[Qe,XM]|rows r U=>rfl|HP=>rfl|inst c d=>rfl
theorem qD{J:Type}{o:J}{x y:I (O×J)}:AJ x i=G o->AJ (x++y) i=G o:=by induction x with
 |nil=>exactλh=>(AE h).elim|cons p x ih=>exactλh=>(IP (l:=x++y)).trans (Fi (IP.symm.trans h) (λq h=>by rw[q];exact h) λq h=>by rw[q];exact ih h)
theorem d_{J:Type}{x y:I (O×J)}:AJ x i=L->AJ (x++y) i=AJ y i:=by induction x with
 |nil=>exactλ_=>rfl|cons p x ih=>exactλh=>(IP (l:=x++y)).trans (Fi (IP.symm.trans h) (λ_ h=>nomatch h) λq h=>by rw[q];exact ih h)
theorem qE:AJ BD j=G o->AJ (GJ n BD) (n+j)=G (DP (n+·) o):=by induction BD with
 |nil=>exactλh=>(AE h).elim|cons p BD ih=>
 intro h;refine Fi (IP.symm.trans h) (λq h=>?_) λq h=>?_;. rw[<-CC q,<-Bk h];exact JD
 . exact(JE λz=>by rw[Nat.add_left_cancel z,Ir]at q;(exfalso;cases q)).trans (ih h)
theorem qF(h:∀j o,AJ BD j=G o->i≠n+j):AJ (GJ n BD) i=L:=by cases e:AJ (GJ n BD) i with
 |none=>rfl|some o=>
 refine Bu (XE e) ?_;intro j o' q l _;exact absurd q (h j o' l)
theorem qG{k:AK}{AO:CA k}(hS:Eo sc k AO A0=G BD):∀j o,AJ BD j=G o->j<BD.length:=by
 refine BH hS λp hp hS=>Cj hS AE λ_ hS=>oU hp λi H _ _ hc=>?_;rw[<-Bk hS];intro j o e;have z:=oV hc;refine ue (z.2.2 j o e) ?_;intro q' i' N BM e1 e2 _;rw[z.1,e1,U_];exact(HH.mp e2).1
theorem qH{f:V->V->AL AK}(h:∀v∈U,f v v=G M):Jy f U U=G M:=by induction U with
 |nil=>rfl|cons v U ih=>
 show Az (f v v) (λp=>Az (Jy f U U) λq=>G (p&&q))=_;rw[h v Co,ih λw m=>h w (Cp _ m)];rfl
theorem aS8{x:Sg}:∀v∈IQ x,G5 v v=G M:=by
 have t0:∀t:Tx,CY t t=M:=λt=>EZ.mpr rfl;have HA:∀l:I Tx,Jy Pu (l.map .str) (l.map .str)=G M:=λl=>qH λv m=>AC (Dz.mp m) λt _ e=>e▸congrArg G (t0 t);intro v m;cases x with
 |it l=>rw[CH.mp m];exact HA l|tx t=>rw[CH.mp m];show G (CY t t)=_;rw[t0]|run p a b=>
 refine AC (Dz.mp m) ?_;intro r _ Av;subst Av;cases r with
 |nil=>exact HA [p]|cons t r=>exact HA (t::p::r)
theorem aS9{l:I Sg}:ZT (DM l) (DM l)=G M:=qH λv m=>AC (uA.mp m) λ_ _ m=>aS8 v m
theorem aT0(j:O):DH (6+m) (gd 6 m) j=6+j:=by
 unfold DH;by_cases h:j<m;. rw[uD h];simp
 . rw[V0 (by rw[uE];(with_reducible exact eu (by assumption)))];rw[uE];show 6+m+(j-m)=6+j;(with_reducible exact Mine.v7 (by assumption))
theorem aT1(d:O)(BD:I (O×Ob))(m:O):ev C2 60 ⟨BU DY,d⟩ (.e pr) ⟨[(Ef,.ref 0),(HD,.ref 5)],BD,m⟩=.ok (.v (.ref 5)) ⟨[(Ef,.ref 0),(HD,.ref 5)],BD,m⟩:=by kernel_rfl
theorem aT2(d m:O)(o o1 o2:Ob):ev C2 60 ⟨BU DY,d⟩ (.N (I1 (I3 0))) ⟨[(Ef,.ref 0),(HD,.ref 5)],[(5,o),(0,.list [.ref 1,.ref 2]),(1,o1),(2,o2)],m⟩=.ok (.vs [.ref 1]) ⟨[(Ef,.ref 0),(HD,.ref 5)],[(5,o),(0,.list [.ref 1,.ref 2]),(1,o1),(2,o2)],m⟩:=by kernel_rfl
theorem aT3(d m:O)(o o2:Ob)(AF:I (O×Ob)):ev C2 60 ⟨BU DY,d⟩ (.N (I1 (I3 1))) ⟨[(Ef,.ref 0),(HD,.ref 5)],(5,o)::(0,.list [.ref 1,.ref 2])::(2,o2)::AF,m⟩=.ok (.vs [.ref 2]) ⟨[(Ef,.ref 0),(HD,.ref 5)],(5,o)::(0,.list [.ref 1,.ref 2])::(2,o2)::AF,m⟩:=by kernel_rfl
theorem aT4(d:O)(H:Mine.St):ev C2 60 ⟨BU DY,d⟩ (.e (I3 2)) H=.ok (.v (.str [47])) H:=by kernel_rfl
theorem qI:(I1 (I3 0)).all CP=M/\(I1 (I3 1)).all CP=M/\CP (I3 0)=M/\CP (I3 1)=M/\CP (I3 2)=M:=⟨by kernel_rfl,by kernel_rfl,by kernel_rfl,by kernel_rfl,by kernel_rfl⟩
theorem aT5:sQ .Eq UA=A6:=by kernel_rfl
section
variable{GU:Mine.St}{J:I A9}
theorem qJ(AU:(Ba P).In B.base)(AM:De B){k:AK}{AO:CA k}{Q:I (O×Ob)}(hS:Eo K.sc k AO A0=G BD)(hd:8<=K.d)(hi:AJ H.h i=G (.dict (BL (Ax AO) A0)))(hh:∀j o,AJ Q j=G o->AJ H.h j=G o/\j≠i)(g:Gd B F K A H C s)(rs:Aa s.heap C [.ref i] us):Ae B F K A ⟨H.env,Q++GJ H.n BD,H.n+BD.length⟩ C s (CD (.ref 411) us) (RV (.ref H.n)):=by
 intro A2 E kk;refine aQ4 AU AM hS hd hi hh g rs _ _ λu AZ AI AN Ab Ap=>kk u AZ AI (AN.forget λj o e=>?_) Ab Ap;rcases dM e with e|Bf;rotate_left;refine xA Bf ?_;(try clear Bf);intro _ e;rotate_left
 . have CE:=Ih g (hh j o e).1;rw[d_ (qF λq _ _=>by omega)];exact e
 . exact qD e
theorem aT6(AU:(Ba P).In B.base)(AM:De B)(hd:42<=d){CF:CA A6}{C7:CA M}(h0:L0∈OZ)(h1:L1∈O_){l:I Sg}(hR:dL (BU DY) (F1 (CB L0 DW) CF) (F2 (CB L1 DX) C7)=G l)(g:Gd B F ⟨BU DY,d⟩ A ⟨[(Ef,.ref 0),(HD,.ref 5)],(5,.rows 0 l)::Mw CF C7 L0 L1,6⟩ C s){A2:HK->AR->Prop}(k:∀(A7:Mine.St)(AS:I A9)(s':AR),Gd B F ⟨BU DY,d⟩ A A7 AS s'->A2 (.ret (.bool M)) s'):AG (AQ B.prog B.w) A (exec (FL 2) F.env) A2 E s:=by
 refine i5 pu ?_;(try clear pu);intro h2 h3 h4 h5 h6 h7 h8 h9;refine VA qI ?_;(try clear qI);intro dW Qw UF UG UH;refine xE (aQ9 h2) ?_;intro p e;refine xE (aR0 h3) ?_;intro p' e';rw[e,e',h4,h5];have A8:=(all1 AU AM 60).s;refine D9 (Ol h6) ?_;intro q q' e2;refine D9 (Ol h8) ?_;intro p0 p0' e0;refine D9 (Ol h9) ?_;intro p1 p1' e1;have db:=aF7 h0 (BU DY) CF;have dc:=aG6 h1 (BU DY) C7;have de:=qG db;have qK:=qG dc;generalize F1 (CB L0 DW) CF=H0 at hR db de;generalize F2 (CB L1 DX) C7=H1 at hR dc qK;refine s_ (bl5 (A8.e (aT1 d _ _) g _ _ λu AZ AI AN Ab Ap=>?_) aT5);rw[e2,h7];refine LQ (Bj:=GH AU) (A3:=C2) (Oo (by simp)) On.2.2.2.2 (by simp[UF,UG,UH]) AN (AA:=⟨[(Ef,.ref 0),(HD,.ref 5)],((5,.rows 0 l)::GJ 6 H0)++GJ (6+H0.length) H1,6+H0.length+H1.length⟩) (vs:=[.ref 6,.ref (6+H0.length),.str [47]]) (λBE EJ pos FY Cq=>qC UF UG UH (AA:=⟨[(Ef,.ref 0),(HD,.ref 5)],[(5,.rows 0 l),(0,.list [.ref 1,.ref 2]),(2,.dict (BL (Ax C7) L1))]++GJ 6 H0,6+H0.length⟩) (Bc:=⟨[(Ef,.ref 0),(HD,.ref 5)],((5,.rows 0 l)::GJ 6 H0)++GJ (6+H0.length) H1,6+H0.length+H1.length⟩) ?_ ?_ ?_ pos) λus As Ah AT Al BA=>⟨Oq AU (k:=36) AT (by kernel_rfl),?_⟩
 . intro A2 E kk;rw[e0];refine LQ (Bj:=GH AU) (A3:=C2) (Oo (by simp)) On.2.2.2.1 dW FY (λAZ AI pos AN Ab=>A8.N (aT2 d _ _ _ _) pos AN) λus As Ah AT Al BA=>⟨Oq AU (k:=32) AT (by kernel_rfl),?_⟩;refine qJ AU AM (i:=1) (Q:=[(5,.rows 0 l),(0,.list [.ref 1,.ref 2]),(2,.dict (BL (Ax C7) L1))]) db (by show 8<=d;omega) rfl (λj o e=>?_) AT BA _ _ λu BQ Aw Ao B7 BP=>kk u BQ Aw Ao (Al.trans B7) BP;match j,e with
 |0,e=>exact⟨e,by decide⟩|2,e=>exact⟨e,by decide⟩|5,e=>exact⟨e,by decide⟩|1,e=>exact(BB e).elim|3,e=>exact(BB e).elim|4,e=>exact(BB e).elim|j+6,e=>exact(BB e).elim
 . intro AZ AI AN A2 E kk;rw[e1];refine LQ (Bj:=GH AU) (A3:=C2) (Oo (by simp)) On.2.2.2.1 Qw AN (λAZ AI pos AN Ab=>A8.N (aT3 d _ _ _ _) pos AN) λus As Ah AT Al BA=>⟨Oq AU (k:=32) AT (by kernel_rfl),?_⟩;refine qJ AU AM (i:=2) (Q:=(5,.rows 0 l)::GJ 6 H0) dc (by show 8<=d;omega) rfl (λj o e=>?_) AT BA _ _ λu BQ Aw Ao B7 BP=>kk u BQ Aw Ao (Al.trans B7) BP;by_cases h:j=5;. subst h;exact⟨e,by decide⟩
   . change(match B8 5 j with|true=>G (Ob.rows 0 l)|false=>AJ (GJ 6 H0) j)=G o at e;rw[U0 (CV h)]at e;refine Bu (XE e) ?_;intro q o' e3 _ _;refine⟨?_,by omega⟩;change AJ ([(5,Ob.rows 0 l),(0,Ob.list [.ref 1,.ref 2]),(2,Ob.dict (BL (Ax C7) L1))]++GJ 6 H0) j=G o;rw[d_ (by simp only[AJ,U0 (show 5≠j by omega),U0 (show 0≠j by omega),U0 (show 2≠j by omega)])];exact e
 . intro As Ah AT;exact A8.e (aT4 d _) AT
 . have qL:DH (6+H0.length+H1.length) (gd 6 (H0.length+H1.length))=λj=>6+j:=by
     funext j;rw[NG];exact aT0 j
   refine pk AU AM (K:=⟨BU DY,d⟩) (f:=435) (l:=l) (DG:=pc H0 H1) (Du:=gd 6 (H0.length+H1.length)) (MI:=[.ref 0,.ref H0.length,.str [47]]) (Q:=[(5,.rows 0 l)]) hR rfl ⟨by rw[uE];rfl,List.nodup_range',λi m=>by
     have :=bB3.mp m;show i<6+H0.length+H1.length;(with_reducible exact Mine.vQ (by assumption)),λj o e=>?_⟩ (by show 40<=d;omega) ?_ (λj o e=>?_) AT BA _ _ λw BQ Aw Ao B7 BP=>?_
   . rw[qL];rcases dM e with e|Br;rotate_left;refine xA Br ?_;(try clear Br);intro hn e;rotate_left
     . have hj:=de j o e;refine⟨6+j,by rw[uD (by(with_reducible exact Nat.lt_add_right _ (by assumption)))];simp,?_⟩;refine qD ?_;rw[JE (show 5≠6+j by omega)];exact qE e
     . refine Bu (XE e) ?_;intro j1 o1 B5 e3 BI;subst B5;subst BI;have hj:=qK j1 o1 e3;refine⟨6+(H0.length+j1),by rw[uD (by(with_reducible exact Nat.add_lt_add_left (by assumption) _))];simp,?_⟩;rw[d_ (by
       rw[JE (show 5≠6+(H0.length+j1)by omega)];exact qF λq o' e4 z=>by have :=de q o' e4;omega)];rw[aS7,show 6+(H0.length+j1)=6+H0.length+j1 by(with_reducible exact Eq.symm (NG _ _ _)),qE e3];congr 2;funext q;(with_reducible exact NG _ _ _)
   . show _=Cr (DH (6+H0.length+H1.length) (gd 6 (H0.length+H1.length))) _;rw[qL];rfl
   . by_cases h:j=5
     . subst h;exact⟨e,λm=>by have :=bB3.mp m;omega⟩
     . rw[JE (CV h)]at e;exact(BB e).elim
   . refine AC (Ao.objs 5 (.rows 0 l) (by simp only[AJ,U0 (show 6+H0.length+H1.length≠5 by omega),Ir])) ?_;intro a1 ha1 o1;refine AC (Ao.objs (6+H0.length+H1.length) (.rows 0 l) JD) ?_;intro a2 ha2 o2;refine CX o1 ?_;(try clear o1);intro us1 pl1 v1 _;refine CX o2 ?_;(try clear o2);intro I4 pl2 v2 _;refine AC ((Ap.nx Al).nx B7) ?_;intro b1 Qx BO;subst BO;refine AC BP ?_;(try clear BP);intro b2 Ht Bo;subst Bo;rw[ha1]at Qx;injection Qx with Qx;subst Qx;have Ht:BQ[6+H0.length+H1.length]?=G b2:=Ht;rw[ha2]at Ht;injection Ht with Ht;subst Ht;have hu:A.units+4<ID:=by have :A.units+10*d<9000:=g.units;exact Ip (show _<9000 by(with_reducible exact Mine.vG (by assumption) (by assumption))) (by decide)
     exact lP hu pl1.isList pl2.isList v1 v2 aS9 (k _ BQ Aw Ao)
end
section
open PyProof.Rows
noncomputable def Ot:G_:={scope:=EE.main.scope,locals:=3,globals:=3,cells:=[],code:=.ref 13,frame:=G 14}
noncomputable def Mx:BG:=⟨0,0,0,0⟩
noncomputable def qM:BG:=⟨725,0,728,82⟩
noncomputable def JY:Code:=.body EE.main.body Ot
noncomputable def XO(w:F4)(os:Jd):SharedT:=⟨w2 w.params,15,{},#[],V4,187,os⟩
noncomputable def KX(w:F4)(os:Jd):SharedT:=⟨jF w.params,443,{},#[],V4,876,os⟩
theorem aT7(w:F4)(os:Jd):segRunT V5 EE w 11 (G (.ref 6)) 1 3500 (XO w os) (piecesOf EE.main.body Ot JY Mx [ge Mx])=G (.next,KX w os,JY,qM):=by
 unfold JY Ot piecesOf;rw[vn,bO3,bO4,J1];delta bk6;rewrite[vl];kernel_rfl
end
section
open PyProof.Rows
theorem aT8(w:F4)(os:Jd):topGo V5 EE w 11 (G (.ref 6)) 12 ⟨boot_heap w.params,#[],V4,uF,os⟩ (topStub EE)=G ((XO w os).abs,⟨denote V5 JY,JY,Mx,[ge Mx]⟩):=by
 unfold JY Ot;rw[fE,bO5,bO6,J1];kernel_rfl
theorem aT9(w:F4)(os:Jd):segRun V5 EE w 11 (G (.ref 6)) 1 1 (XO w os).abs (blockOf EE.main.body Ot JY Mx [ge Mx])=G (.next,(XO w os).abs,JY,Mx):=by
 unfold JY Ot;rw[fE,bO7,J1];kernel_rfl
theorem aU0(w:F4)(os:Jd):topRun V5 EE w 11 (G (.ref 6)) 3 (KX w os).abs ⟨doneF .next,JY,qM,[ge Mx]⟩=G (KX w os).abs:=by
 unfold JY Ot;rw[fE,bO8,J1];kernel_rfl
theorem aU1(w:F4)(os:Jd):topRun V5 EE w 11 (G (.ref 6)) (12+(1+(3500+3))) ⟨boot_heap w.params,#[],V4,uF,os⟩ (topStub EE)=G (KX w os).abs:=by
 refine go_top (aT8 w os) ?_;refine piece_block (aT9 w os) ?_;have h:=piece_app (rest:=[]) (segRun_of (aT7 w os)) (piece_nil (aU0 w os));rw[HJ]at h;exact h
end
section
open PyProof.Rows
noncomputable def Ou:HY:={S' with main:={S'.main with body:=[B_ 37]}}
noncomputable def Qy:I Y:=["_wall","_tuplegetter","Match","_calculate_ratio","SequenceMatcher","_format_range_unified","_plain_name","ABCMeta","_ABCLike","_abc_plain_meta","fspath","_check_arg_types","_get_sep","join","splitroot","basename","dirname","normpath","sorted_list_difference","_law_trees","_law_straight","_law_inner","_law_told","_law_grown","_law_pairs","_law_range","_law_changes","_law_walked"]
noncomputable def dg:I A9:=DQ 443
theorem qN(P:Dw):dg=(Ba P).map (·.1):=by kernel_rfl
noncomputable def LZ:Hook:=kHook Ba dg qN
theorem aU2(w:F4)(os:Jd):(staticsOk (bB4 EE.main.body) (boot_heap w.params) (KX w os).abs.heap&&namesBound EE (KX w os).abs.heap&&gensDone (KX w os).abs&&laidKept (boot_heap w.params) (KX w os).abs.heap)=M:=by
 rw[J1];kernel_rfl
theorem aU3(w:F4)(os:Jd):LZ.obs (KX w os).abs=LZ.val w:=by kernel_rfl
theorem aU4(w:F4)(os:Jd):openSeen Ou Qy (bB4 EE.main.body) (λ_=>M) M (KX w os).abs=openGood Ou Qy:=by
 rw[J1,bO9];kernel_rfl
end
section
open PyProof.Rows
theorem aU5:LeftO EE Ou Qy (λ_=>M) LZ.obs LZ.val 3516:=by
 refine LeftO.of_pieces (H₀:=boot_heap) (H₁:=λP=>absHeap (jF P) 443 {}) (gs₀:=#[]) (gs₁:=#[]) (d₀:=V4) (d₁:=V4) (k₀:=uF) (k₁:=876) (m₀:=11) (ann:=G (.ref 6)) (M:=12+(1+(3500+3))) (boot_open ?e ?n ?f) ?size (λw os=>aU1 w os) ?le (λw=>?looks);case e=>rw[J1];kernel_rfl
 case n=>kernel_rfl
 case f=>intro s;kernel_rfl
 case size=>intro w;kernel_rfl
 case le=>kernel_rfl
 case looks=>
  funext os;exact NI (aU2 w os) (NI (aU4 w os) (aU3 w os))
noncomputable def XP:DefRec:={name:=iK (B_ 37),params:=S0 (B_ 37),body:=Fg (B_ 37),scope:=BU (B_ 37),pos:=(B_ 37).pos}
theorem aU6(call:WalkO Ou Qy (λ_ _=>PH) LZ.says Lz.row.toRowW XP [] λf vs=>CD f vs)(k1:Lz.row.wellSaid=M):Lz.row.Holds:=by
 refine holds_open (q:=Ou) (loose:=Qy) (Xt:=λ_=>M) (XP:=λ_ _=>PH) (YP:=LZ.says) (d:=XP) (kwd:=[]) aU5 LZ.of LZ.keeps (λ_ _=>trivial) (λ_ _ _ _ _=>trivial) ?aU7 ?hp ?hk (λ_ _=>?rec) ?hwr k1 ?ok ?hb ?hw call;case aU7=>kernel_rfl
 case hp=>show EE.theDef _=_;rw[J1];kernel_rfl
 case hk=>kernel_rfl
 case rec=>exact recFacts_nil rfl
 case hwr=>rfl
 case ok=>show(chainsOk Ou&&opensWell EE&&_)=M;rw[J1];kernel_rfl
 case hb=>show EE.bare;rw[J1];exact⟨by kernel_rfl,by kernel_rfl,by kernel_rfl,by kernel_rfl,by kernel_rfl,by kernel_rfl⟩
 case hw=>w_witness2
end
theorem aU8{m m':Y->AL A4}(x:h.Ns a m)(y:h.Ns a m'):m=m':=by
 refine J0 x ?_;(try clear x);intro o N ep e d _ f;refine J0 y ?_;(try clear y);intro o' BM yf e' d' _ f';rw[e]at e';injection e' with e';subst e';rw[d]at d';injection d' with d1 d2;subst d1;funext n;rw[<-f n,<-f' n]
theorem aU9{args:I WData}(h:Lz.row.toRowW.claim.pre args=M):∃ns:I AX,args=[.list (ns.map .int)]/\ns.length<=63:=by
 have h:(bB5 [] args [.list .int]&&Lz.pre.holds [] {args:=args})=M:=h;cases args with
 |nil=>exact(NO (B' h)).elim|cons x U=>
 have h1:(WShape.has [] x (.list .int)&&bB5 [] U [])=M:=B' h;have h2:=Ak h;clear h;cases U with
 |cons _ _=>exact(NO (Ak h1)).elim|nil=>
 refine AC (hasW_list (B' h1)) ?_;intro ds Av hi;subst Av;refine xE (items_int hi) ?_;intro ns B5;subst B5;refine⟨ns,rfl,bu6 λhl=>?_⟩;have h2:(WTm.and (.not (.lit (.bool (decide ((63:AX)<(ns.map WData.int).length))))) (.lit (.bool M))).holds [] {args:=[.list (ns.map .int)]}=M:=h2;rw[Jk,RX (show(63:AX)<ns.length from fB.mpr (bk3 hl))]at h2;exact NO h2
theorem qO(i:AX):((i%12).toNat:AX)=i%12:=tL (bs9 i (by decide))
theorem aV0{cl:Y->AL A9}{ns:I AX}:∀{vs:I A4}{as:I A9},ReadsAllW [] cl h vs (ns.map .int) as->∃rs:I O,rs.length=ns.length/\(∀r∈rs,r<12)/\Aa h [] (E5 rs) vs:=by induction ns with
 |nil=>intro vs as r;exact⟨[],rfl,λ_ m=>(by(exfalso;cases m)),(bB6 r).1⟩|cons i ns ih=>
 intro vs as r;refine VC (bB7 r) ?_;intro v vs a1 a2 BI _ r1 r2;subst BI;refine CX (ih r2) ?_;intro rs hl hr hv;refine AC (readsW_int_inv r1) ?_;intro t BO _;subst BO;refine⟨(i%12).toNat::rs,congrArg (·+1) hl,λr m=>?_,_,_,rfl,⟨i,t,rfl,(qO i).symm⟩,hv⟩;rcases Ci.mp m with rfl|m;. exact fB.mp (qO i▸bt0 i (show(0:AX)<12 by decide))
 . exact hr r m
theorem aV1:([]:I (Y×V))=[]/\Ai Wm XP.name=G (.top (.ref 442)):=⟨rfl,by kernel_rfl⟩
theorem aV2(l:A9):J9 (DC (B_ 37)) [.top (.ref l)]=G [(LX,.top (.ref l))]:=by kernel_rfl
theorem aV3(P:Dw):∃o,(Ba P).lookup NJ=G o:=⟨_,show(Ba P).lookup NJ=G ((Ba P).lookup NJ).get! by kernel_rfl⟩
theorem aV4(AM:∀(B:Bs)(P:Dw),(Ba P).In B.base->De B):WalkO Ou Qy (λ_ _=>PH) LZ.says Lz.row.toRowW XP [] λf vs=>CD f vs:=by
 intro w EJ AI mg mb Bj An a o pm cd doc bT7 bT8 ho hod hcr hdf hmg aV5 args bJ0 as dP bJ1 aV6 bJ2 bJ3;have AU:(Ba w.params).In AI.heap:=kIn_of (K:=Ba) (as:=dg) (e:=qN) An;refine AC (aU9 dP) ?_;intro ds Bo UE;subst Bo;have ha:a=442:=by
  refine Bu ((GH (B:=⟨EE,w,AI.heap,AI.os,AI.gens⟩) (P:=w.params) (on:=M) (CQ:=Qf) AU).ns) ?_;intro mg' mb' n3 n0 hh;have e:=aU8 Bj.T.g n3;refine AC (hh _ _ aV1.2) ?_;intro v hv q;injection hv with hv;subst hv;rw[<-e,hmg]at q;rcases q with q|Ck;rotate_left;refine xA Ck ?_;(try clear Ck);intro q _;rotate_left;. cases q;rfl
  . (exfalso;cases q)
 subst ha;refine VC (bB7 aV6) ?_;intro bJ4 OL a1 a2 Bf _ r1 r2;subst Bf;refine xA (bB6 r2) ?_;intro Br _;subst Br;refine i8 (readsW_list_open r1) ?_;intro l ol vs n ai C8 bU aV7 aV8 O9 _;subst C8;refine CX (aV0 O9) ?_;intro rs hrl hr hv;have Ea:vs.size<=100:=by
  have h1:=hv.length;rw[show(E5 rs).length=rs.length from Jk _,hrl]at h1;exact B2 (Eg h1.symm) (B2 UE (by decide))
 let B:Bs:=⟨EE,w,AI.heap,AI.os,AI.gens⟩;have Qz:(Ba w.params).In B.base:=AU;have hf:AJ Ib 442=G (DC (B_ 37)):=by kernel_rfl
 refine D9 (Mc (B:=B) Qz (Me Qz) (OU w.params hf)) ?_;intro of fd ok;refine xE (aV3 w.params) ?_;intro bT9 hom;have ga:Ga B ⟨default,[],[]⟩ ⟨BU DY,50⟩ callerA ⟨[],[],0⟩ [] AI:={len:=rfl,nodup:=HI,fresh:=λ_ m=>(by(exfalso;cases m)),live:=λ_ m=>(by(exfalso;cases m)),objs:=λ_ _ e=>(by exact(BB e).elim),base:=λ_ _ e=>e,os:=rfl,gens:=rfl,frames:=rfl,DN:=trivial,Cw:=λ_ m=>(by(exfalso;cases m)),mods:=⟨bT9,AU _ _ hom⟩,handled:=rfl,depth:=by decide,units:=by decide};have Zb:=AM B w.params Qz;show AG (AQ B.prog B.w) callerA (CD (.ref 442) [.ref l]) _ _ AI;refine aQ8 (d:=49) ok (aV2 l) rfl ga (args:=[.top (.ref l)]) ⟨_,_,rfl,rfl,rfl⟩ λ{F A Ah}g keep=>?_;have hb:(DC (B_ 37)).body=[FL 0,FL 1,FL 2]:=aR2;rw[hb];have g:Gd B F ⟨BU DY,49⟩ A ⟨[(LX,.top (.ref l))],[],0⟩ [] Ah:=g;refine DF (aR9 Qz Zb (by decide) (us:=vs) (rs:=rs) ⟨ol,bU,aV7,n,aV8⟩ hv Ea hr g λa b L0 L1 CF C7 AZ Aw GY h0 h1 AN=>?_);refine AC (aQ2 GY h0 h1 (BU DY) CF C7) ?_;intro l2 hR hW;have o0:=Wx (Bp.mp aC7 _ (Wz (by omega) h0));have o1:=Wx (Bp.mp aD7 _ (Wz (by omega) h1));refine DF (aS6 Qz Zb (by decide) o0 o1 hR AN λAs ED AT=>?_);refine DF (aT6 Qz Zb (by decide) o0 o1 hW AT λA7 BQ Ec Ao=>?_);refine⟨_,rfl,.inl ⟨.bool M,.bool M,[],rfl,λ_=>rfl,.bool M,?_,λ_=>⟨HI,λ_ m=>(by(exfalso;cases m))⟩⟩,.of_keep λb o e=>Ao.base b o e,Ao.os,.of_eq (Ao.gens.trans aV5)⟩;kernel_rfl
section
theorem JZ(g:Gd B F K A H C s)(hl:D' K.sc x=M)(hv:Ai H.env x=G v)(k:∀u,VR s.heap C v u->A2 u s):AG (AQ B.prog B.w) A' (eval (.Name x pos) F.env) A2 E s:=wpAny_Name (a8 g hl hv k) (a7 g.kinds.sc hl).1
theorem dh{A2:Et->AR->Prop}(g:Gd B F K A H C s)(hl:G8 K.sc x=M)(r:VR s.heap C v u)(k:∀s',Gd B F K A ⟨EB H.env x v,H.h,H.n⟩ C s'->Nx F.D F.A_ s.heap s'.heap C C->A2 () s'):AG (AQ B.prog B.w) A' (fN F.env x u) A2 E s:=by
 refine CX g.env ?_;intro m ns ce er;rcases g.kinds.own x hl with q|B5;rotate_left;refine Hg B5 ?_;(try clear B5);intro q c hc hw;rotate_left
 . refine bl6 q ns (λQ hn hs=>?_) (k3 g);refine xA (g.ju (Q:=Q) (tk:=s.toks+1) q r er hn hs) ?_;intro g' x';exact k _ g' x'
 . refine xE (ce _ (mem_of_lookup hc)) ?_;intro Sq hv;refine bl7 g.kinds.fn q hc hv (λQ hn hs=>?_);refine xA (g.jv (Q:=Q) (tk:=s.toks) q hc hw r hv hn hs) ?_;intro g' x';exact k _ g' x'
theorem qP{p':BG}{a:AX}{A2:HK->AR->Prop}(g:Gd B F K A H C s)(hl:D' K.sc x=M)(ho:G8 K.sc x=M)(hv:Ai H.env x=G (.int a))(k:∀s',Gd B F K A ⟨EB H.env x (.int (a+1)),H.h,H.n⟩ C s'->Nx F.D F.A_ s.heap s'.heap C C->A2 .next s'):AG (AQ B.prog B.w) A' (exec (.AugAssign (.Name x p) .Add (.Constant (.int 1) k0 p') pos) F.env) A2 E s:=by
 refine bm5 (a8 g hl hv λu⟨t,e⟩=>?_);subst e;refine bl4 (bo1 ?_);exact dh ((g.tok (s.toks+1)).tok _) ho (v:=.int (a+1)) ⟨_,rfl⟩ λs' g' x'=>k s' g' x'
theorem Gd.free(g:Gd B F K A H C s){AF:I A9}(x:Nx F.D AF s.heap Q C C)(ha:∀a∈C,∀o,s.heap.get? a=G o->Q.get? a=G o)(fr:∀a∈AF,CM B F C s.heap a):Gd B F K A H C {s with heap:=Q,toks:=tk}:=by
 have vr:∀{v:V}{u:A4},VR s.heap C v u->VR Q C v u:=λr=>r.nx x;refine IG (g.D4 _ g.kinds.IR) ?_;intro qQ hL2 oL hL3;have hLX:F.env.locals∉AF:=λm=>(fr _ m).w g.kinds.IR;have cell:∀{n:Y}{c:A9}{u:AL A4},(n,c)∈F.env.cells->s.heap.IsCell c u->Q.IsCell c u:=λ{n c u}m⟨o,e,d⟩=>⟨o,x.keep c o e (g.D0 _ m).1 (λz=>(fr _ z).cells _ m rfl) (λ_=>by unfold H7;rw[d]),d⟩;refine⟨g.kinds,g.len,g.nodup,g.fresh,λa m=>?_,λa m=>?_,λc m=>?_,λi o e=>?_,?_,λb o e=>?_,g.os,g.gens,g.frames,?_,λA0 m=>?_,g.mods,g.handled,g.depth,g.units⟩;. refine xE (g.live a m) ?_;intro o e;exact⟨o,ha a m o e⟩
 . refine IG (g.D4 a m) ?_;intro p q o e;exact⟨p,q,x.live a o e⟩
 . refine H3 (g.D0 c m) ?_;intro q o e;exact⟨q,x.live _ o e⟩
 . refine AC (g.objs i o e) ?_;intro a p r;have :=r.mono (J:=[]) x.Bv λy ey=>ha a (Es p) y ey;exact⟨a,p,by simpa using this⟩
 . exact g.env.imp (λ_ ns=>Ns.slots ns λo e=>x.data _ o e hL2 hLX) (λ_ _ _ m=>cell m) λ_ _=>vr
 . refine x.keep b o (g.base b o e) (λm=>?_) (λm=>?_) (λm=>?_);. rw[g.fresh b m]at e;exact(BB e).elim
   . rw[(fr b m).base]at e;exact(BB e).elim
   . rw[(g.DN.mem m).1]at e;exact(BB e).elim
 . have hf:∀A0∈F.outs.filterMap (·.frame),A0∉C/\A0∉AF:=λA0 m=>⟨(g.Cw A0 m).1,λz=>(fr A0 z).outs m⟩;have hL:=g.DN;revert hf hL;generalize F.outs=l;intro hf hL;show Q.FunFrames B.base l;induction l with
 |nil=>trivial|cons e r ih=>
   refine G2 hL ?_;(try clear hL);intro hk Av hr;refine HO Av ?_;(try clear Av);intro A0 o D1 hb ho hd;refine xA (hf A0 (by simp[D1])) ?_;intro q1 q2;refine xE (x.data A0 o ho q1 q2) ?_;intro sl z;exact⟨hk,⟨A0,_,D1,hb,z,hd⟩,ih (λL' m'=>hf L' (by rw[RJ,D1];exact Cp _ m')) hr⟩
 . refine Pe (g.Cw A0 m) ?_;intro p q o e d;refine xE (x.data A0 o e p (λz=>(fr A0 z).outs m)) ?_;(try clear z);intro sl z;exact⟨p,q,_,z,d⟩
structure XT(B:Bs)(F:Fm)(C:I A9)(Af h:BJ)(e:A9)(c fl:A4):Prop where
 fe:CM B F C h e
 ne:Af.get? e=L
 obj:∃T oe vs oT ts,CM B F C h T/\Af.get? T=L/\T≠e/\h.get? e=G oe/\oe.cls=.type "IndexError"/\oe.data=.fields vs/\vs[1]?=G (.ref T)/\vs[2]?=G c/\h.get? T=G oT/\oT.data=.fields ts/\ts[3]?=G fl/\Vl oT.cls=A6
noncomputable def XN(h Q:BJ)(e:A9)(c:A4):Prop:=(∀b o,h.get? b=G o->Q.get? b=G o)/\h.get? e=L/\∃oe vs,Q.get? e=G oe/\oe.cls=.type "IndexError"/\oe.data=.fields vs/\vs[1]?=G .none/\vs[2]?=G c
theorem XT.nx{e:A9}(t:XT B F C Af h e c fl)(x:Nx AM A_ h Q C AS)(hw:∀b∈A_,b∈F.A_):XT B F AS Af Q e c fl:=by
 obtain⟨fe,ne,T,oe,vs,oT,ts,fT,nT,J_,he,hc,hd,h1,h2,hT,Ov,h3,hi⟩:=t;refine⟨fe.nx x,ne,T,oe,vs,oT,ts,fT.nx x,nT,J_,?_,hc,hd,h1,h2,?_,Ov,h3,hi⟩;. exact x.keep _ _ he fe.C (λm=>fe.w (hw _ m)) (λ_=>by unfold H7;rw[hd])
 . exact x.keep _ _ hT fT.C (λm=>fT.w (hw _ m)) (λ_=>by unfold H7;rw[Ov])
end
section
variable{e:A9}
structure XF(B:Bs)(F:Fm)(C:I A9)(Af h:BJ)(e:A9)(c:A4):Prop where
 fe:CM B F C h e
 ne:Af.get? e=L
 obj:∃oe vs,h.get? e=G oe/\oe.cls=.type "IndexError"/\oe.data=.fields vs/\vs[1]?=G .none/\vs[2]?=G c
theorem qR{f:Bl->Bl}:Dp a h (h.update a f):=(Fe h a f).extBut
theorem aV9{o:Bl}(h:o.cls=.type "IndexError"):C1 o=A6:=by unfold C1;rw[h];rfl
theorem aW0{o:Bl}(h:Vl o.cls=A6):C1 o=A6:=by unfold C1;rw[h];rfl
theorem Gd.slots(g:Gd B F K A H C s)(x:Heap.SlotsOnly (F.outs.filterMap (·.frame)) s.heap Q):Gd B F K A H C {s with heap:=Q}/\Nx F.D A_ s.heap Q C C:=by
 have ex:∀b o,s.heap.get? b=G o->(b∈F.D->H7 o=A6)->Q.get? b=G o:=λb o q z=>by
  rw[x.2.1 b λm=>?_];exact q;refine Pe (g.Cw b m) ?_;intro _ _ o' q' d;rw[q]at q';injection q' with q';subst q';rw[z m]at d;exact(E3 d).elim
 have nx:∀A_,Nx F.D A_ s.heap Q C C:=λA_=>⟨⟨[],by simp,λ_ m=>by(exfalso;cases m)⟩,λb o q=>let⟨sl,z⟩:=x.2.2 b o q;⟨_,z⟩,λb o q i=>ex b o q λ_=>by
  unfold C1 at i;unfold H7;cases hd:o.data<;>first|rfl|(rw[hd]at i;simp at i),λb o q _ _=>by
  refine xE (x.2.2 b o q) ?_;intro sl z;refine⟨sl,z,λw=>?_⟩;have :=ex b o q w;rw[z]at this;injection this with this;exact congrArg Obj.slots this⟩;exact⟨g.free (tk:=s.toks) (nx []) (λa m o q=>ex a o q λz=>absurd m (g.Cw a z).1) (λ_ m=>by(exfalso;cases m)),nx A_⟩
theorem aW1{vs:BV A4}{oe:Bl}{qS:A4}{aW2:AK}{A2:Et->AR->Prop}(hF:F.outs=F.env::C4)(hf:F.env.frame=G F.env.locals)(hA:A'.frames=G F.outs)(g:Gd B F K A H C s)(Cv:Nx F.D F.A_ Af s.heap BE C)(fe:CM B F C s.heap e)(ne:Af.get? e=L)(he:s.heap.get? e=G oe)(hc:oe.cls=.type "IndexError")(hd:oe.data=.fields vs)(h1:1<vs.size)(h2:vs[2]?=G c)(k:∀s',Gd B F K A H C s'->Nx F.D F.A_ Af s'.heap BE C->XT B F C Af s'.heap e c (EQ F.env.locals)->A2 () s'):AG (AQ B.prog B.w) A' (do let a<-frameOf F.env;let pl<-entryPlaceOf F.env.locals aW2;let b<-bP0 qS a .none (EQ F.env.locals) .none pl;tQ (.ref e) 1 b) A2 E s:=by
 refine A5 (wpAny_frameOf_fun (base:=B.base) (hA.trans (congrArg G hF)) (hF▸g.DN) hf λAP HU=>?_);rw[<-hF]at HU;refine xA (g.slots HU (A_:=F.A_)) ?_;intro AN Ab;have QS:AP.get? e=G oe:=(HU.2.1 e fe.outs).trans he;have Ja:=Cv.trans Ab;have aW3:=fe.nx Ab;refine A5 (wpAny_entryPlaceOf λpl FX=>?_);skip;refine A5 (IA ?_ (FX.sizeOk5 _ _ _ _ _));obtain⟨BK,hO⟩:∃BK:Bl,BK={cls:=.type "traceback",dict:=L,data:=.fields ([qS,.ref F.env.locals,.none,EQ F.env.locals,.none]++(if pl.isEmpty then Xo 6 Ha else pl)).toArray}:=⟨_,rfl⟩;rw[<-hO];have R':(AP.push BK).get? AP.objs.size=G BK:=CW AP (by rw[hO];rfl);have kp:∀b o,AP.get? b=G o->(AP.push BK).get? b=G o:=λb o q=>C0 _ q;have hT:AP.get? AP.objs.size=L:=K8 (DE _);have AT:=AN.ext (tk:=s.toks) kp;have Al:Nx F.D F.A_ AP (AP.push BK) C C:=Nx.ext kp;have FM:=Ja.trans Al;have fT:=AN.freeOf hT ⟨_,R'⟩;have nT:Af.get? AP.objs.size=L:=H8 Ja.live hT;have IZ:=kp _ _ QS;have qT:=aW3.nx Al;refine Lr IZ hd h1 ?_;have ek:=qR (h:=AP.push BK) (a:=e) (f:=Rn (·.setIfInBounds 1 (Jm AP.objs.size)));have Ao:=AT.move (tk:=s.toks) qT ek (λo q=>by rw[IZ]at q;injection q with q;subst q;exact aV9 hc);have I5:=FM.Ez ek ne;have UI:=g0 hd (·.setIfInBounds 1 (Jm AP.objs.size));have JJ:=FP (Rn (·.setIfInBounds 1 (Jm AP.objs.size))) IZ (tB UI);have J_:AP.objs.size≠e:=PN (Df QS);refine k _ Ao I5 ⟨qT.at ⟨_,JJ⟩,ne,AP.objs.size,_,_,_,_,fT.at ⟨_,ek _ _ J_ (R')⟩,nT,J_,JJ,(tC _ _).trans hc,UI,by simp[h1],?_,ek _ _ J_ R',by rw[hO],?_,by rw[hO];rfl⟩;. rw[Array.getElem?_setIfInBounds_ne (by decide)];exact h2
 . first|(simp;done)|((rcases FX with rfl|Av;rotate_left;obtain⟨_,_,_,_,_,_,_,rfl⟩:=Av;rotate_left)<;>simp)
theorem qU{A2:Et->AR->Prop}(hF:F.outs=F.env::C4)(hf:F.env.frame=G F.env.locals)(hA:A'.frames=G F.outs)(g:Gd B F K A H C s)(Cv:Nx F.D F.A_ Af s.heap BE C)(t:XF B F C Af s.heap e c)(k:∀s',Gd B F K A H C s'->Nx F.D F.A_ Af s'.heap BE C->XT B F C Af s'.heap e c (EQ F.env.locals)->A2 () s'):AG (AQ B.prog B.w) A' (I8 (.ref e) F.env) A2 E s:=by
 obtain⟨fe,ne,oe,vs,he,hc,hd,h1,h2⟩:=t;unfold I8;simp only[hf];refine A5 (Gh he hd h1 ?_);skip;exact aW1 hF hf hA g Cv fe ne he hc hd (gB.mp h1).1 h2 k
theorem XQ{A2:Et->AR->Prop}(hf:F.env.frame=G F.env.locals)(t:XT B F C Af s.heap e c (EQ F.env.locals))(k:A2 () s):AG (AQ B.prog B.w) A' (I8 (.ref e) F.env) A2 E s:=by
 obtain⟨fe,ne,T,oe,vs,oT,ts,fT,nT,J_,he,hc,hd,h1,h2,hT,Ov,h3,hi⟩:=t;exact wpAny_noteFrame_inFlight hf he hd h1 hT Ov h3 k
theorem UJ{A2:Et->AR->Prop}{fr:AL A9}(g:Gd B F K A H C s)(Cv:Nx F.D F.A_ Af s.heap BE C)(t:XT B F C Af s.heap e c fl)(k:∀s',Gd B F K A H C s'->Nx F.D F.A_ Af s'.heap BE C->XT B F C Af s'.heap e c (fr.elim .none λf=>EQ f)->A2 () s'):AG (AQ B.prog B.w) A' (gf (.ref e) fr) A2 E s:=by
 obtain⟨fe,ne,T,oe,vs,oT,ts,fT,nT,J_,he,hc,hd,h1,h2,hT,Ov,h3,hi⟩:=t;have Ea:3<ts.size:=(gB.mp h3).1;unfold gf;refine A5 (Gh he hd h1 ?_);skip;refine Lr hT Ov Ea ?_;have ek:=qR (h:=s.heap) (a:=T) (f:=Rn (·.setIfInBounds 3 (fr.elim Ha λf=>EQ f)));have UI:=g0 Ov (·.setIfInBounds 3 (fr.elim Ha λf=>EQ f));have UK:=FP (Rn (·.setIfInBounds 3 (fr.elim Ha λf=>EQ f))) hT (tB UI);have JJ:=ek _ _ (CV J_) he;refine k _ (g.move (tk:=s.toks) fT ek (λo q=>by rw[hT]at q;injection q with q;subst q;exact aW0 hi)) (Cv.Ez ek nT) ⟨fe.at ⟨_,JJ⟩,ne,T,oe,vs,_,_,fT.at ⟨_,UK⟩,nT,J_,JJ,hc,hd,h1,h2,UK,UI,by simp[Ea],?_⟩;rw[tC];exact hi
end
theorem aW4:Ln Lp "proto.unchain"=G E8.«proto.unchain»:=entryFor_of_fast (by kernel_rfl)
section
variable{C:Type}
theorem aW5{A2:C->AR->Prop}{e0 e:A9}{o0 oe:Bl}{L_ vs:BV A4}(hh:A.handled=G (.ref e0))(he:s.heap.get? e0=G o0)(hd:o0.data=.fields L_)(h2:L_[2]?=G .none)(Cb:e0≠e)(UL:s.heap.get? e=G oe)(hde:oe.data=.fields vs)(h2e:2<vs.size)(h:E (.ref e) {s with heap:=s.heap.update e (Rn (·.setIfInBounds 2 (.ref e0)))}):AG (AQ prog w) A (gh (.ref e):Dx C) A2 E s:=by
 unfold gh;refine A5 (tD ?_);rw[hh];dsimp only;rw[D5 (show(Jm e0 !=Jm e)=M from by simpa using Cb)];refine A5 (C' (uG (Iv aW4 ?_)));skip;skip;refine A5 (Gh he hd h2 ?_);skip;refine AW ?_;show AG _ A (do updateField e 2 (Jm e0);throw (Jm e)) A2 E s;refine A5 ?_;simp only[updateField];refine A5 (NN UL ?_);rw[hde];show AG _ A (if 2<vs.size then _ else _) _ _ _;rw[D5 h2e];exact wpAny_update UL (g5 h)
theorem qV{XR:DJ}{A2:C->AR->Prop}{e0:A9}{o0:Bl}{L_:BV A4}(hh:A.handled=G (.ref e0))(he:s.heap.get? e0=G o0)(hd:o0.data=.fields L_)(h2:L_[2]?=G .none)(h:∀Q tk e,XN s.heap Q e (.ref e0)->E (.ref e) {s with heap:=Q,toks:=tk}):AG (AQ prog w) A (bB8 "IndexError" XR:Dx C) A2 E s:=by
 unfold bB8;refine A5 (tM (A5 ?_));skip;refine A5 (IA ?_);refine A5 (m:=Ur _ _) (NP (a:=Ha) (by simp only[Ur,plainExc_IndexError.first];rfl) ?_);skip;refine IA ?_;have XS:=C0 (h:=s.heap) {cls:=Ki "tuple",data:=g_ #[Lu (Er XR) s.toks]} he;have CE:=Df XS;have UL:=CW (s.heap.push {cls:=Ki "tuple",data:=g_ #[Lu (Er XR) s.toks]}) (o:={cls:=.type "IndexError",data:=.fields (#[.ref s.heap.objs.size,.none,.none,.none,.bool A6,.none]++#[])}) rfl;refine aW5 (oe:={cls:=.type "IndexError",data:=.fields (#[.ref s.heap.objs.size,.none,.none,.none,.bool A6,.none]++#[])}) hh (C0 _ XS) hd h2 (EO CE) UL rfl (show 2<6 by decide) ?_;refine h _ _ _ ⟨λb o q=>?_,K8 (by show s.heap.objs.size<=(s.heap.push _).objs.size;rw[IB];(with_reducible exact Gz _ _)),_,_,FP _ UL rfl,rfl,rfl,rfl,rfl⟩;have q1:=C0 (h:=s.heap) {cls:=Ki "tuple",data:=g_ #[Lu (Er XR) s.toks]} q;show((_:BJ).update _ _).get? b=_;rw[GO _ _ (CV (EO (Df q1)))];exact C0 _ q1
noncomputable def qW(A:CK)(h:BJ):Prop:=A.handled=L\/∃e0 o0 L_,A.handled=G (.ref e0)/\h.get? e0=G o0/\o0.data=.fields L_/\L_[2]?=G Ha
theorem aW6{l:A9}{k:AX}(hA:qW A s.heap)(hl:s.heap.IsList l Ca)(di:(Ca.size:AX)<=k)(dj:k<2^63)(hE:∀Q tk e c,XN s.heap Q e c->(A.handled=L->c=.none)->E (.ref e) {s with heap:=Q,toks:=tk}):AG (AQ prog w) A (PR (.ref l) (.int k t)) A2 E s:=by
 rcases hA with hA|Av;rotate_left;refine J0 Av ?_;(try clear Av);intro e0 o0 L_ hh he qX h2;rotate_left;. exact wpAny_getItem_list_out hA hl (.inr di) (by omega) dj λQ tk e x=>hE Q tk e .none ⟨x.keeps,x.new,let⟨ob,t,q,bU0,bU1⟩:=x.there;⟨ob,_,q,bU0,bU1,rfl,rfl⟩⟩ λ_=>rfl
 . refine Pf (id hl) ?_;intro o ho hc ne hd;unfold PR;try with_reducible refine C' ?_
   first|refine A5 (AW ?_)|skip
   refine A5 (sv hl.typeIs (by decide) ?_);refine A5 (Lm (name:=Er "__getitem__") hl.typeIs PU (Gf PU hl.typeIs entry_list_getitem ?_ (args_list_getitem _ _)));show AG _ _ (bu1 (.int k t)>>=_) _ _ s;refine A5 (bu2 (fitsIndex_both (by omega) dj) ?_);clear dj;cases k with
 |ofNat j=>
    have hx:Ca[j]?=L:=Array.getElem?_eq_none (by have :(Ca.size:AX)<=(j:AX):=di;omega);skip;refine A5 (A5 (bu3 ho hd (AW ?_)));rw[hx];first
    |exact A5 (Ge (by refine qV (by exact hh) he qX h2 λQ tk e x=>hE Q tk e _ x λz=>by rw[hh]at z;cases z))|exact A5 (Ge (A5 (by refine qV (by exact hh) he qX h2 λQ tk e x=>hE Q tk e _ x λz=>by rw[hh]at z;(exfalso;cases z))))
 |negSucc j=>exact absurd di (by have :=Int.negSucc_lt_zero j;omega)
end
noncomputable def La(A8:Ar):AL (Y×Y×Y):=Rs A8 L λt b e _=>Kk t L λc o r _=>J' c L λl i _=>DS l L λl _=>DS i L λi _=>l1 r L λr=>DS r L λk _=>l1 b L λb=>V8 b L λj o' z _=>DS j L λj _=>HN z L λz _ _=>l0 e L (bT (D7 i j&&(decide (o=[.Eq])&&(decide (o'=.Add)&&decide (z=.int 1)))) L (G (l,i,k)))
theorem aW7{l i k:Y}(h:La A8=G (l,i,k)){P:Ar->Prop}(c:∀p1 p2 p3 p4 p5 p6 k0 p7 p8 p9,P (.While (.Compare (.Subscript (.Name l p1) (.Name i p2) p3) [.Eq] [.Name k p4] p5) [.AugAssign (.Name i p6) .Add (.Constant (.int 1) k0 p7) p8] [] p9)):P A8:=by
 apply gx h AE;intro t b e p9 h;apply Rr h AE;intro t o r p5 h;apply N_ h AE;intro l' i' p3 h;apply ES h AE;intro l' p1 h;apply ES h AE;intro i' p2 h;apply Cs h AE;intro r h;apply ES h AE;intro k' p4 h;apply Cs h AE;intro b h;apply gz h AE;intro j o' z p8 h;apply ES h AE;intro j p6 h;apply Iz h AE;intro z k0 p7 h;apply ET h AE;intro h;refine Cj h AE λq h=>?_;apply w_ (B' q);apply IF (B' (Ak q));apply IF (B' (Ak (Ak q)));apply IF (Ak (Ak (Ak q)));apply M1 h.symm;exact c ..
noncomputable def Lb(env CS:I (Y×V))(i:Y)(q:O):Prop:=∀y,Ai CS y=if i=y then G (.int (q:AX))else Ai env y
section
variable{e:A9}
noncomputable def Cm(B:Bs)(F:Fm)(C:I A9)(Af:BJ)(A:CK)(h:BJ):Prop:=A.handled=L\/∃e0 fl,A.handled=G (.ref e0)/\XT B F C Af h e0 .none fl
theorem Cm.calm(x:Cm B F C Af A h):qW A h:=by
 rcases x with x|Bo;rotate_left;refine EU Bo ?_;(try clear Bo);intro e0 fl x t;rotate_left;. exact .inl x
 . obtain⟨_,_,T,oe,vs,oT,ts,_,_,_,he,_,hd,_,h2,_⟩:=t;exact .inr ⟨e0,oe,vs,x,he,hd,h2⟩
theorem Cm.nx(x:Cm B F C Af A h)(y:Nx AM A_ h Q C C)(hw:∀b∈A_,b∈F.A_):Cm B F C Af A Q:=by
 rcases x with x|Bf;rotate_left;refine EU Bf ?_;(try clear Bf);intro e0 fl x t;rotate_left;. exact .inl x
 . exact .inr ⟨e0,fl,x,t.nx y hw⟩
theorem qY{t x:Tx}{U:I Tx}(h:CY x t=M):DD t (x::U)=DD t U:=by rw[DD,h]
theorem aW8{t x:Tx}{U:I Tx}(h:CY x t=A6):DD t (x::U)=x::U:=by rw[DD,h]
theorem item_at{l i:Y}{p:O}{U:I Tx}(hf:U.length<=100000)(hl:D' K.sc l=M)(hi:D' K.sc i=M)(g:Gd B F K A H C s)(el:Ai H.env l=G (.ref r))(hr:AJ H.h r=G (.list (U.map .str)))(ei:Ai H.env i=G (.int (p:AX)))(hp:p<=U.length)(Cv:Nx F.D F.A_ Af s.heap BE C)(hC:Cm B F C Af A' s.heap)(bU2:∀u x,U[p]?=G x->VR s.heap C (.str x) u->A2 u s)(ke:∀s' e c,p=U.length->Gd B F K A H C s'->Nx F.D F.A_ Af s'.heap BE C->XF B F C Af s'.heap e c->(A'.handled=L->c=.none)->E (.ref e) s'):AG (AQ B.prog B.w) A' (eval (.Subscript (.Name l p1) (.Name i p2) p3) F.env) A2 E s:=by
 refine YA (JZ g hl el λu ru=>JZ g hi ei λw Fa=>?_);refine Bu (g.listAt ru hr) ?_;intro a us Av FX vr;clear ru;subst Av;refine xE Fa ?_;(try clear Fa);intro tk B5;subst B5;have Cf:us.size=U.length:=by have :=vr.length;simpa using this.symm
 refine Kg FX.isList.typeIs PU.lookup ?_ (OH (by intro a b p z;(exfalso;cases z)));by_cases CE:p<U.length
 . have e2:(U.map V.str)[p]?=G (.str U[p]):=by simp[CE]
   refine AC (vr.get e2) ?_;intro y ey ry;exact tF FX.isList (by(with_reducible exact f9 _)) (by omega) (by simpa using ey) (bU2 y _ (Hd CE) ry)
 . refine aW6 hC.calm FX.isList (by omega) (by omega) λQ tk' e c x hc=>?_;refine EU x.2.2 ?_;intro oe vs he r;exact ke _ e c (by(with_reducible exact Mine.yF (by assumption) (by assumption))) (g.ext (tk:=tk') x.1) (Cv.trans (Nx.ext x.1)) ⟨g.freeOf x.2.1 ⟨oe,he⟩,H8 Cv.live x.2.1,oe,vs,he,r⟩ hc
noncomputable def dk(B:Bs)(F:Fm)(K:Kx)(A A':CK)(H:Mine.St)(C BE:I A9)(Af:BJ)(l i k:Y)(p1 p2 p3 p4 p5 p6 p7 p8:BG)(k0 r:O)(U:I Tx)(t:Tx)(m:O):Prop:=∀(p:O){env:I (Y×V)}{s:AR},m+p=U.length->Gd B F K A ⟨env,H.h,H.n⟩ C s->Ai env l=G (.ref r)->Ai env i=G (.int (p:AX))->Ai env k=G (.str t)->Nx F.D F.A_ Af s.heap BE C->Cm B F C Af A' s.heap->∀{AV:Dq->AR->Prop},(∀q CS s',q<U.length->U.drop q=DD t (U.drop p)->Lb env CS i q->Gd B F K A ⟨CS,H.h,H.n⟩ C s'->Nx F.D F.A_ Af s'.heap BE C->Cm B F C Af A' s'.heap->AV (.ok .next) s')->(∀CS s' e c,DD t (U.drop p)=[]->Lb env CS i U.length->Gd B F K A ⟨CS,H.h,H.n⟩ C s'->Nx F.D F.A_ Af s'.heap BE C->XT B F C Af s'.heap e c (EQ F.env.locals)->(A'.handled=L->c=.none)->AV (.error (.ref e)) s')->D6 (AQ B.prog B.w) A' (.whileLoop (.Compare (.Subscript (.Name l p1) (.Name i p2) p3) [.Eq] [.Name k p4] p5) [.AugAssign (.Name i p6) .Add (.Constant (.int 1) k0 p7) p8] [] F.env) AV s
theorem qZ{l i k:Y}{p5 p6 p7 p8:BG}{U:I Tx}{t:Tx}(hf:U.length<=100000)(hl:D' K.sc l=M)(hi:D' K.sc i=M)(ho:G8 K.sc i=M)(hk:D' K.sc k=M)(n1:i≠l)(n2:i≠k)(hF:F.outs=F.env::C4)(D1:F.env.frame=G F.env.locals)(hA:A'.frames=G F.outs)(hr:AJ H.h r=G (.list (U.map .str)))(ih:∀m',m=m'+1->dk B F K A A' H C BE Af l i k p1 p2 p3 p4 p5 p6 p7 p8 k0 r U t m'):dk B F K A A' H C BE Af l i k p1 p2 p3 p4 p5 p6 p7 p8 k0 r U t m:=by
 intro p env s hm g el ei ek Cv hC AV kn ke;have same:Lb env env i p:=λy=>by
   by_cases z:i=y;. rw[D5 z,<-z,ei]
   . rw[CN z]
 refine Vy (fO (item_at hf hl hi g el hr ei (by omega) Cv hC (λu x hx ru=>?_) λs' e c hp g' N' tf hc=>?_) rfl)
 . have CE:p<U.length:=(HH.mp hx).1;have dm:U.drop p=x::U.drop (p+1):=by rw[Y6 CE,(HH.mp hx).2]
   refine JZ g hk ek λw Fa=>?_;refine xE ru ?_;(try clear ru);intro t1 BI;subst BI;refine xE Fa ?_;(try clear Fa);intro t2 BO;subst BO;refine bp2 (NM ?_);rw[show((⟨⟨x⟩⟩:Y).cps.toList==(⟨⟨t⟩⟩:Y).cps.toList)=CY x t from T9];cases q:CY x t with
 |false=>
    rw[CN (by simp)];exact kn p env s CE (by rw[dm,aW8 q]) same g Cv hC|true=>
    rw[D5 rfl];refine DF (qP g hi ho ei λs' g' x'=>Fz ?_);obtain⟨m',rfl⟩:∃m',m=m'+1:=⟨m-1,by(with_reducible exact Mine.ut (by assumption) (by assumption))⟩;have JT:∀y,Ai (EB env i (.int ((p:AX)+1))) y=if i=y then G (.int ((p+1:O):AX))else Ai env y:=λy=>by rw[Q9];simp
    have tr:∀{q:O}{CS:I (Y×V)},Lb (EB env i (.int ((p:AX)+1))) CS i q->Lb env CS i q:=λhe y=>by
     rw[he y];by_cases z:i=y;. rw[D5 z,D5 z]
     . rw[CN z,CN z,JT y,CN z]
    refine ih m' rfl (p+1) (by(with_reducible exact Mine.vO (by assumption))) g' ?_ ?_ ?_ (Cv.trans x') (hC.nx x' λ_ m=>m) (λq CS s' h1 h2 h3=>kn q CS s' h1 (by rw[h2,dm,qY (by assumption)]) (tr h3)) (λCS s' e c h2 h3=>ke CS s' e c (by rw[dm,qY (by assumption)];exact h2) (tr h3));. rw[JT,CN n1];exact el
    . rw[JT,D5 rfl]
    . rw[JT,CN n2];exact ek
 . show AG _ A' (I8 (.ref e) F.env) _ _ _;refine qU hF D1 hA g' N' tf λKY Ow UM t'=>ke env KY e c ?_ (hp▸same) Ow UM t' hc;rw[hp,Jq];rfl
theorem aW9{l i k:Y}{p5 p6 p7 p8:BG}{U:I Tx}{t:Tx}(hf:U.length<=100000)(hl:D' K.sc l=M)(hi:D' K.sc i=M)(ho:G8 K.sc i=M)(hk:D' K.sc k=M)(n1:i≠l)(n2:i≠k)(hF:F.outs=F.env::C4)(D1:F.env.frame=G F.env.locals)(hA:A'.frames=G F.outs)(hr:AJ H.h r=G (.list (U.map .str)))(m:O):dk B F K A A' H C BE Af l i k p1 p2 p3 p4 p5 p6 p7 p8 k0 r U t m:=by induction m with
 |zero=>exact qZ hf hl hi ho hk n1 n2 hF D1 hA hr λm' e=>by(exfalso;cases e)|succ m ih=>exact qZ hf hl hi ho hk n1 n2 hF D1 hA hr λm' e=>YD e▸ih
end
noncomputable def dn(A8:Ar)(m:Y)(k:Y->AB->AL J):AL J:=Pb A8 L λe _=>E9 e L λf a w p=>H2 f L λo m' ap=>DS o L λo _=>l1 a L λa=>l0 w L (bT (D7 m' m&&B8 ap.endLine p.line) L (k o a))
theorem q_{m:Y}{k:Y->AB->AL J}{r:J}(h:dn A8 m k=G r){P:Ar->Prop}(c:∀o a p0 ap p p2,k o a=G r->(ap:BG).endLine=(p:BG).line->P (.Expr (.Call (.Attribute (.Name o p0) m ap) [a] [] p) p2)):P A8:=by
 apply YX h AE;intro e p2 h;apply M0 h AE;intro f a w p h;apply Rq h AE;intro o m' ap h;apply ES h AE;intro o p0 h;apply Cs h AE;intro a h;apply ET h AE;intro h;refine Cj h AE λq h=>?_;rw[E0.mp (B' q)];exact c _ _ _ _ _ _ h (CC (Ak q))
noncomputable def XV(A8:Ar):AL (Y×Y):=dn A8 (⟨⟨[97,112,112,101,110,100]⟩⟩:Y) λo a=>DS a L λx _=>G (o,x)
theorem aX0{o:Y}(h:XV A8=G (o,x)){P:Ar->Prop}(c:∀p0 ap p1 pos p2,(ap:BG).endLine=(pos:BG).line->P (.Expr (.Call (.Attribute (.Name o p0) (⟨⟨[97,112,112,101,110,100]⟩⟩:Y) ap) [.Name x p1] [] pos) p2)):P A8:=by
 apply q_ h;intro o' a p0 ap p p2 h q;apply ES h AE;intro x' p1 h;apply uY h.symm;exact c _ _ _ _ _ q
noncomputable def R0(A8:Ar):AL (Y×Y×Y):=dn A8 (⟨⟨[101,120,116,101,110,100]⟩⟩:Y) λo a=>J' a L λl s _=>DS l L λl _=>Nb s L λa b c _=>oN b L (oN c L (oS a L λi=>DS i L λi _=>G (o,l,i)))
theorem aX1{o l i:Y}(h:R0 A8=G (o,l,i)){P:Ar->Prop}(c:∀p0 ap p1 p2 sp p3 pos p4,(ap:BG).endLine=(pos:BG).line->P (.Expr (.Call (.Attribute (.Name o p0) (⟨⟨[101,120,116,101,110,100]⟩⟩:Y) ap) [.Subscript (.Name l p1) (.Slice (G (.Name i p2)) L L sp) p3] [] pos) p4)):P A8:=by
 apply q_ h;intro o' a p0 ap p p2 h q;apply N_ h AE;intro l' s p3 h;apply ES h AE;intro l' p1 h;apply gv h AE;intro a b c' sp h;apply GQ h AE;intro h;apply GQ h AE;intro h;apply Nd h AE;intro i' h;apply ES h AE;intro i' p2 h;apply M1 h.symm;exact c _ _ _ _ _ _ _ _ q
section
variable{e:A9}
theorem aX2{l:I J}{p:O}:Hl l (G (p:AX)) L=l.drop p:=by
 show(l.take l.length).drop (Hb l.length p)=_;rw[bB9,clipAt_nat];by_cases h:p<=l.length;. rw[bB1 h]
 . rw[bB0 (uC h),Jq,List.drop_of_length_le (uC h)]
theorem qa{o m:Y}{id:DJ}{p0 ap:BG}{arg:AB}{A2:HK->AR->Prop}(FX:CP arg=M)(UN:ap.endLine=pos.line)(hl:D' K.sc o=M)(g:Gd B F K A H C s)(ho:Ai H.env o=G (.ref r))(hr:AJ H.h r=G (.list U))(slot:Lv "list" m id)(T_:H_ (.builtin id)=pure (.type "method_descriptor"))(k:∀a us n,C[r]?=G a->s.heap.get? a=G {cls:=.type "list",data:=.seq us n}->Aa s.heap C U us.toList->AG (AQ B.prog B.w) A' (PO pos (.builtin id) [.ref a] [(A6,eval arg F.env)] []) (λ_=>A2 .next) E s):AG (AQ B.prog B.w) A' (exec (.Expr (.Call (.Attribute (.Name o p0) m ap) [arg] [] pos) p2) F.env) A2 E s:=by
 refine bm3 ?_ (by have :=g.kinds.fn;unfold interactive;simp[this]) (Sv rfl);skip;refine A5 (JZ g hl ho λu ru=>A5 (Eh ?_));have HA:Dy [arg] F.env=[(A6,eval arg F.env)]:=K4 FX;show AG _ A' (PP (.Name o p0) m ap pos F.env u 1 (F5 pos (Dy [arg] F.env)) (Ud pos (Ue [] F.env))) _ E s;rw[HA];unfold PP;skip;refine A5 (C' ?_);show AG _ A' (Jf u m _) _ E s;refine AC ru ?_;(try clear ru);intro a ha Av;subst Av;refine AC (g.obj hr ha) ?_;intro us B5 vr;refine xE B5 ?_;(try clear B5);intro n hg;refine gY ⟨_,hg,rfl⟩ by4 slot T_ (λb e=>by injection e with e;subst e;exact⟨_,hg,rfl⟩) ?_;show AG _ A' (Jg M (.Name o p0) F.env ap pos>>=λp=>PO p (.builtin id) [.ref a] [(A6,eval arg F.env)] []) _ E s;have O6:Jg M (.Name o p0) F.env ap pos=pure pos:=by
  unfold Jg;have :(ap.endLine==pos.line)=M:=by simpa using UN
  rw[this];rfl
 rw[O6];exact A5 (AW (k a us n ha hg vr))
theorem qb{o:Y}{A2:HK->AR->Prop}(hS:XV A8=G (o,x))(hl:D' K.sc o=M)(hx:D' K.sc x=M)(g:Gd B F K A H C s)(ho:Ai H.env o=G (.ref r))(hr:AJ H.h r=G (.list U))(hf:U.length<=100000)(hv:Ai H.env x=G v)(k:∀s',Gd B F K A (H.set r (.list (U++[v]))) C s'->Nx F.D [] s.heap s'.heap C C->A2 .next s'):AG (AQ B.prog B.w) A' (exec A8 F.env) A2 E s:=by
 apply aX0 hS;intro p0 ap p1 pos p2 UN;refine qa rfl UN hl g ho hr (id:="list.append") by2 by3 λa us n ha hg vr=>PySem.P.append_list (JZ g hx hv λw Fa=>?_);have Cf:U.length=us.size:=by rw[vr.length];simp
 refine⟨us,n,B2 (show us.size<=100000 by(with_reducible exact Mine.yS (by assumption) (by assumption))) (by decide),hg,?_⟩;have UO:=FP (GN λU=>U.push w) hg rfl;refine xA (g.set (Q:=s.heap.update a (GN λU=>U.push w)) (tk:=s.toks) (o':=.list (U++[v])) ha hr (λ_ _ e=>by(exfalso;cases e)) (Fe ..).extBut ⟨_,UO⟩ λim=>⟨us.push w,⟨_,UO⟩,by rw[Uz];exact(vr.Bv im).app ⟨_,_,rfl,Fa.Bv im,rfl⟩⟩) ?_;intro g' x';exact k _ g' x'
theorem qc{o l i:Y}{b p:O}{Au:I V}{A2:HK->AR->Prop}(hS:R0 A8=G (o,l,i))(hl:D' K.sc o=M)(I0:D' K.sc l=M)(hi:D' K.sc i=M)(g:Gd B F K A H C s)(ho:Ai H.env o=G (.ref r))(hr:AJ H.h r=G (.list Au))(hM:Au.length<=1000000)(hb:Ai H.env l=G (.ref b))(bm:AJ H.h b=G (.list U))(hf:U.length<=100000)(hv:Ai H.env i=G (.int (p:AX)))(k:∀s',Gd B F K A (H.set r (.list (Au++U.drop p))) C s'->Nx F.D [] s.heap s'.heap C C->A2 .next s'):AG (AQ B.prog B.w) A' (exec A8 F.env) A2 E s:=by
 apply aX1 hS;intro p0 ap p1 p2 sp p3 pos p4 UN;refine qa rfl UN hl g ho hr (id:="list.extend") PySem.F.slot_list_extend PySem.F.type_list_extend λa us n ha hg vr=>PySem.P.extend_list (YA (JZ g I0 hb λu ru=>tH (JZ g hi hv λw Fa=>?_)));skip;refine AW (AW ?_);refine xE Fa ?_;(try clear Fa);intro t BI;subst BI;refine Bu (g.listAt ru bm) ?_;intro y I4 BO hp qd;clear ru;subst BO;have I0:I4.size<=100000:=by have :=qd.length;simp at this;(with_reducible exact Mine.yS (by assumption) (by assumption))
 have Ed:us.size<=1000000:=by have :=vr.length;simp at this;(with_reducible exact Mine.yS (by assumption) (by assumption))
 have kp:∀b o,s.heap.get? b=G o->(s.heap.push {cls:=.type "slice",data:=.fields #[.int (p:AX) t,.none,.none]}).get? b=G o:=λb o e=>C0 _ e;have g1:=g.ext (tk:=s.toks) kp;have Qw:(s.heap.push {cls:=.type "slice",data:=.fields #[.int (p:AX) t,.none,.none]}).PlainList y I4:=hp.at (λo e=>kp _ _ e);refine Kg (s:={s with heap:=s.heap.push {cls:=.type "slice",data:=.fields #[.int (p:AX) t,.none,.none]}}) Qw.isList.typeIs PU.lookup (tG Qw.isList ⟨_,CW _ rfl,rfl,rfl⟩ (IsPart.int (p:AX) t) gD gD (by simp) ?_ (B2 I0 (by decide))) rfl;have hz:(Hc I4 (G (p:AX)) L L).size<=I4.size:=by rw[br3];simp
 have L7:∀b o,s.heap.get? b=G o->((s.heap.push {cls:=.type "slice",data:=.fields #[.int (p:AX) t,.none,.none]}).push {cls:=.type "list",data:=.seq (Hc I4 (G (p:AX)) L L)}).get? b=G o:=λb o e=>C0 _ (kp b o e);have g2:=g.ext (tk:=s.toks) L7;have qe:=L7 _ _ hg;refine⟨_,us,Hc I4 (G (p:AX)) L L,n,0,B2 Ed (by decide),B2 (show us.size+(Hc I4 (G (p:AX)) L L).size<=1100000 by(with_reducible exact Mine.iF (by assumption) (by assumption) (by assumption))) (by decide),?_,rfl,qe,CW _ rfl,?_⟩
 . unfold bP1;have h3:us.size+(Hc I4 (G (p:AX)) L L).size<=1100000:=by(with_reducible exact Mine.iF (by assumption) (by assumption) (by assumption))
   have h4:¬(us.size+(Hc I4 (G (p:AX)) L L).size>F6):=by
    have :1100000<=F6:=by decide
    omega
   simp[h4]
 . have UO:=FP (GN λU=>U++Hc I4 (G (p:AX)) L L) qe rfl;refine xA (g2.set (tk:=s.toks) (o':=.list (Au++U.drop p)) ha hr (λ_ _ e=>by(exfalso;cases e)) (Fe _ a (GN λU=>U++Hc I4 (G (p:AX)) L L)).extBut ⟨_,UO⟩ λim=>by
    refine⟨us++Hc I4 (G (p:AX)) L L,⟨_,UO⟩,?_⟩;rw[Array.toList_append];refine Aa.app ?_ ?_;. exact(vr.Bv (λb o e _=>L7 b o e)).Bv im
    . have :=aq (qd.Bv (λb o e _=>L7 b o e)) (G (p:AX)) L;rw[aX2]at this;exact this.Bv im) ?_;intro g' x';exact k _ g' ((Nx.ext L7).trans x')
end
section
variable{e:A9}{Au:I Tx}
theorem Gd.view{env:I (Y×V)}{h Q:I (O×Ob)}(g:Gd B F K A ⟨env,h,m⟩ C s)(he:∀p∈CS,Ai env p.1=G p.2)(hh:∀p∈Q,AJ h p.1=G p.2):Gd B F K A ⟨CS,Q,m⟩ C s:=⟨g.kinds,g.len,g.nodup,g.fresh,g.live,g.D4,g.D0,λi o e=>g.objs i o (hh _ (Sk e)),let⟨q,ns,ce,r⟩:=g.env;⟨q,ns,ce,λx v e=>r x v (he _ (FD e))⟩,g.base,g.os,g.gens,g.frames,g.DN,g.Cw,g.mods,g.handled,g.depth,g.units⟩
theorem Nx.w0(x:Nx AM [] h Q C AS):Nx AM A_ h Q C AS:=x.FW
noncomputable def XU(B:Bs)(F:Fm)(C:I A9)(Af h:BJ)(e:A9)(c:A4):Prop:=XF B F C Af h e c\/XT B F C Af h e c (EQ F.env.locals)
theorem aX3{A2:Et->AR->Prop}(hF:F.outs=F.env::C4)(hf:F.env.frame=G F.env.locals)(hA:A'.frames=G F.outs)(g:Gd B F K A H C s)(Cv:Nx F.D F.A_ Af s.heap BE C)(t:XU B F C Af s.heap e c)(k:∀s',Gd B F K A H C s'->Nx F.D F.A_ Af s'.heap BE C->XT B F C Af s'.heap e c (EQ F.env.locals)->A2 () s'):AG (AQ B.prog B.w) A' (I8 (.ref e) F.env) A2 E s:=by
 rcases t with t|t;. exact qU hF hf hA g Cv t k
 . exact XQ hf t (k s g Cv t)
theorem qf(hf:F.env.frame=G F.env.locals)(g:Gd B F K A H C s)(Cv:Nx F.D F.A_ Af s.heap BE C)(t:XT B F C Af s.heap e c fl)(k:∀s',Gd B F K A H C s'->Nx F.D F.A_ Af s'.heap BE C->XT B F C Af s'.heap e c (EQ F.env.locals)->E (.ref e) s'):uH (AQ B.prog B.w) A' F.env E (.ref e) s:=by
 unfold uH;obtain⟨fe,ne,T,oe,vs,oT,ts,fT,nT,J_,he,hc,hd,h1,r⟩:=id t;refine A5 (Gh he hd h1 ?_);skip;rw[hf];exact UJ g Cv t k
theorem aX4{tag:DJ}{A2:J->AR->Prop}(hf:F.env.frame=G F.env.locals)(g:Gd B F K A H C s)(Cv:Nx F.D F.A_ Af s.heap BE C)(t:XT B F C Af s.heap e c fl)(k:∀s',Gd B F K A H C s'->Nx F.D F.A_ Af s'.heap BE C->XT B F C Af s'.heap e c (EQ F.env.locals)->E (.ref e) s'):AG (AQ B.prog B.w) A' (passOn tag (.ref e) F.env:Dx J) A2 E s:=by
 unfold passOn;obtain⟨fe,ne,T,oe,vs,oT,ts,fT,nT,J_,he,hc,hd,h1,r⟩:=id t;refine A5 (Gh he hd h1 ?_);skip;rw[hf];exact A5 (UJ g Cv t λs' g' N' t'=>g5 (k s' g' N' t'))
theorem XW{l i k:Y}{p:O}{U:I Tx}{t:Tx}{A2:HK->AR->Prop}(hS:La A8=G (l,i,k))(hf:U.length<=100000)(hl:D' K.sc l=M)(hi:D' K.sc i=M)(ho:G8 K.sc i=M)(hk:D' K.sc k=M)(n1:i≠l)(n2:i≠k)(hF:F.outs=F.env::C4)(D1:F.env.frame=G F.env.locals)(hA:A'.frames=G F.outs)(hr:AJ H.h r=G (.list (U.map .str)))(hp:p<=U.length)(g:Gd B F K A H C s)(el:Ai H.env l=G (.ref r))(ei:Ai H.env i=G (.int (p:AX)))(ek:Ai H.env k=G (.str t))(Cv:Nx F.D F.A_ Af s.heap BE C)(hC:Cm B F C Af A' s.heap)(kn:∀q CS s',q<U.length->U.drop q=DD t (U.drop p)->Lb H.env CS i q->Gd B F K A ⟨CS,H.h,H.n⟩ C s'->Nx F.D F.A_ Af s'.heap BE C->Cm B F C Af A' s'.heap->A2 .next s')(ke:∀CS s' e c,DD t (U.drop p)=[]->Lb H.env CS i U.length->Gd B F K A ⟨CS,H.h,H.n⟩ C s'->Nx F.D F.A_ Af s'.heap BE C->XT B F C Af s'.heap e c (EQ F.env.locals)->(A'.handled=L->c=.none)->E (.ref e) s'):AG (AQ B.prog B.w) A' (exec A8 F.env) A2 E s:=by
 apply aW7 hS;intro p1 p2 p3 p4 p5 p6 k0 p7 p8 p9;refine sd (aW9 hf hl hi ho hk n1 n2 hF D1 hA hr (U.length-p) p (by(with_reducible exact Xi (by assumption))) g el ei ek Cv hC kn λCS s' e c h1 h2 g' N' t' hc=>?_);exact qf D1 g' N' t' λKY Ow UM H6=>ke CS KY e c h1 h2 Ow UM H6 hc
noncomputable def qg(A8:Ar):AL (I Ar×Ar×I Ar):=Nc A8 L λb h o f _=>l1 h L λh=>l0 o L (l0 f L (Y_ h λt n hb _=>oS t L λt=>DS t L λx _=>oN n L (lC hb L λh0 hb=>bT (D7 x (⟨⟨[73,110,100,101,120,69,114,114,111,114]⟩⟩:Y)) L (G (b,h0,hb)))))
theorem aX5{b hb:I Ar}{h0:Ar}(h:qg A8=G (b,h0,hb)){P:Ar->Prop}(c:∀p1 p2 p3,P (.Try b [.ExceptHandler (G (.Name (⟨⟨[73,110,100,101,120,69,114,114,111,114]⟩⟩:Y) p1)) L (h0::hb) p2] [] [] p3)):P A8:=by
 apply h' h AE;intro b Q o f p3 h;apply Cs h AE;intro Q h;apply ET h AE;intro h;apply ET h AE;intro h;apply uX h;intro t n hb p2 h;apply Nd h AE;intro t h;apply ES h AE;intro x p1 h;apply GQ h AE;intro h;apply FQ h AE;intro h0 hb h;refine Cj h AE λq h=>?_;rw[E0.mp q];apply M1 h.symm;exact c ..
noncomputable def dq(A8:Ar):AL (I Ar×Ar×I Ar):=Nc A8 L λb h o f _=>l0 h L (l0 o L (lC f L λbU3 bU4=>G (b,bU3,bU4)))
theorem aX6{b hb:I Ar}{h0:Ar}(h:dq A8=G (b,h0,hb)){P:Ar->Prop}(c:∀p3,P (.Try b [] [] (h0::hb) p3)):P A8:=by
 apply h' h AE;intro b Q o f p3 h;apply ET h AE;intro h;apply ET h AE;intro h;apply FQ h AE;intro h0 hb h;apply M1 h.symm;exact c _
noncomputable def dt(A8:Ar):AL (AB×I Ar×I Ar):=Js A8 L λt a b _=>G (t,a,b)
theorem qh{a b:I Ar}{t:AB}(h:dt A8=G (t,a,b)){P:Ar->Prop}(c:∀p3,P (.If t a b p3)):P A8:=by
 apply YW h AE;intro t a b p h;apply M1 h.symm;exact c _
noncomputable def dv(A8:Ar):AL (Y×Y×Y):=Pc A8 L λx v _=>l1 x L λx=>DS x L λx _=>J' v L λl i _=>DS l L λl _=>DS i L λi _=>G (x,l,i)
theorem qi{l i:Y}(h:dv A8=G (x,l,i)){P:Ar->Prop}(c:∀p1 p2 p3 p4 p5,P (.Assign [.Name x p1] (.Subscript (.Name l p2) (.Name i p3) p4) p5)):P A8:=by
 apply gy h AE;intro x v p5 h;apply Cs h AE;intro x h;apply ES h AE;intro x p1 h;apply N_ h AE;intro l i p4 h;apply ES h AE;intro l p2 h;apply ES h AE;intro i p3 h;apply M1 h.symm;exact c ..
noncomputable def UP(o:PE)(x y:Y)(e:AB):AK:=Kk e A6 λa o' b _=>DS a A6 λa _=>l1 b A6 λb=>DS b A6 λb _=>D7 a x&&(D7 b y&&decide (o'=[o]))
theorem qj{o:PE}{y:Y}{e:AB}(h:UP o x y e=M){P:AB->Prop}(c:∀p1 p2 p3,P (.Compare (.Name x p1) [o] [.Name y p2] p3)):P e:=by
 apply Rr h B3;intro a o' b p3 h;apply ES h B3;intro a p1 h;apply Cs h B3;intro b h;apply ES h B3;intro b p2 h;rw[E0.mp (B' h),E0.mp (B' (Ak h)),of_decide_eq_true (Ak (Ak h))];exact c ..
noncomputable def My(A8:Ar):AL Y:=V8 A8 L λi o z _=>DS i L λi _=>HN z L λz _ _=>bT (decide (o=.Add)&&decide (z=.int 1)) L (G i)
theorem aX7{i:Y}(h:My A8=G i){P:Ar->Prop}(c:∀p1 k0 p2 p3,P (.AugAssign (.Name i p1) .Add (.Constant (.int 1) k0 p2) p3)):P A8:=by
 apply gz h AE;intro i o z p3 h;apply ES h AE;intro i p1 h;apply Iz h AE;intro z k0 p2 h;refine Cj h AE λq h=>?_;apply IF (B' q);apply IF (Ak q);apply Bq h.symm;exact c ..
noncomputable def dw(A8:Ar):AK:=YY A8 A6 λ_=>M
theorem aX8(h:dw A8=M){P:Ar->Prop}(c:∀p,P (.Break p)):P A8:=by
 apply uU h B3;intro p _;exact c p
theorem aX9{t:AB}{y:Y}{a b:Tx}{A2:AK->AR->Prop}(ht:UP .Lt x y t=M)(hx:D' K.sc x=M)(hy:D' K.sc y=M)(g:Gd B F K A H C s)(ex:Ai H.env x=G (.str a))(ey:Ai H.env y=G (.str b))(k:A2 (EX a b) s):AG (AQ B.prog B.w) A' (NK t F.env (eval t F.env)) A2 E s:=by
 apply qj ht;intro p1 p2 p3;refine fO (JZ g hx ex λu ru=>JZ g hy ey λw Fa=>?_) rfl;refine xE ru ?_;(try clear ru);intro t1 Av;subst Av;refine xE Fa ?_;(try clear Fa);intro t2 B5;subst B5;refine bp3 (NM ?_);rw[show decide ((⟨⟨a⟩⟩:Y).cps.toList<(⟨⟨b⟩⟩:Y).cps.toList)=EX a b from aW];exact k
theorem aY0{t:AB}{y:Y}{a b:Tx}{A2:AK->AR->Prop}(ht:UP .Gt x y t=M)(hx:D' K.sc x=M)(hy:D' K.sc y=M)(g:Gd B F K A H C s)(ex:Ai H.env x=G (.str a))(ey:Ai H.env y=G (.str b))(k:A2 (EX b a) s):AG (AQ B.prog B.w) A' (NK t F.env (eval t F.env)) A2 E s:=by
 apply qj ht;intro p1 p2 p3;refine fO (JZ g hx ex λu ru=>JZ g hy ey λw Fa=>?_) rfl;refine xE ru ?_;(try clear ru);intro t1 BI;subst BI;refine xE Fa ?_;(try clear Fa);intro t2 BO;subst BO;refine PySem.P.gt_str (NM ?_);rw[show decide ((⟨⟨b⟩⟩:Y).cps.toList<(⟨⟨a⟩⟩:Y).cps.toList)=EX b a from aW];exact k
end
noncomputable def Fb:Y:=⟨⟨[101,120,112,101,99,116,101,100]⟩⟩
noncomputable def FN:Y:=⟨⟨[97,99,116,117,97,108]⟩⟩
noncomputable def Fu:Y:=⟨⟨[105]⟩⟩
noncomputable def F3:Y:=⟨⟨[106]⟩⟩
noncomputable def KZ:Y:=⟨⟨[109,105,115,115,105,110,103]⟩⟩
noncomputable def Mz:Y:=⟨⟨[117,110,101,120,112,101,99,116,101,100]⟩⟩
noncomputable def Jb:Y:=⟨⟨[101]⟩⟩
noncomputable def Io:Y:=⟨⟨[97]⟩⟩
noncomputable def UQ:Y:=⟨⟨[73,110,100,101,120,69,114,114,111,114]⟩⟩
noncomputable def Fc(i j:O):I (Y×V):=[(Fu,.int (i:AX)),(F3,.int (j:AX)),(KZ,.ref 2),(Mz,.ref 3),(Fb,.ref 0),(FN,.ref 1)]
noncomputable def Fv(i j:O)(x y:Tx):I (Y×V):=(Jb,.str x)::(Io,.str y)::Fc i j
noncomputable def DI(AF An Au CL:I Tx):I (O×Ob):=[(0,.list (AF.map .str)),(1,.list (An.map .str)),(2,.list (Au.map .str)),(3,.list (CL.map .str))]
structure R1(sc:BS):Prop where
 ex:D' sc Fb=M
 ac:D' sc FN=M
 i:D' sc Fu=M
 j:D' sc F3=M
 mi:D' sc KZ=M
 un:D' sc Mz=M
 e:D' sc Jb=M
 a:D' sc Io=M
 io:G8 sc Fu=M
 jo:G8 sc F3=M
 eo:G8 sc Jb=M
 bU5:G8 sc Io=M
 ie:Dl sc UQ=M
noncomputable def XX(B:Bs):Prop:=∃mg mb,B.base.Ns 3 mg/\B.base.Ns 0 mb/\mg UQ=L/\mb UQ=G (.type "IndexError")
section
variable{e:A9}{Au:I Tx}
theorem R2{env:I (Y×V)}{h:I (O×Ob)}(g:Gd B F K A ⟨env,h,m⟩ C s)(h1:Ai env Fu=G (.int (i:AX)))(h2:Ai env F3=G (.int (j:AX)))(h3:Ai env KZ=G (.ref 2))(h4:Ai env Mz=G (.ref 3))(h5:Ai env Fb=G (.ref 0))(h6:Ai env FN=G (.ref 1)):Gd B F K A ⟨Fc i j,h,m⟩ C s:=⟨g.kinds,g.len,g.nodup,g.fresh,g.live,g.D4,g.D0,g.objs,let⟨q,ns,ce,r⟩:=g.env;⟨q,ns,ce,λx v e=>r x v ((show∀p∈Fc i j,Ai env p.1=G p.2 from all_cons h1<|all_cons h2<|all_cons h3<|all_cons h4<|all_cons h5<|all_cons h6 EA) _ (FD e))⟩,g.base,g.os,g.gens,g.frames,g.DN,g.Cw,g.mods,g.handled,g.depth,g.units⟩
theorem Ox{env:I (Y×V)}{h:I (O×Ob)}{x:Tx}(g:Gd B F K A ⟨env,h,m⟩ C s)(h1:Ai env Fu=G (.int (i:AX)))(h2:Ai env F3=G (.int (j:AX)))(h3:Ai env KZ=G (.ref 2))(h4:Ai env Mz=G (.ref 3))(h5:Ai env Fb=G (.ref 0))(h6:Ai env FN=G (.ref 1))(h7:Ai env Jb=G (.str x))(h8:Ai env Io=G (.str y)):Gd B F K A ⟨Fv i j x y,h,m⟩ C s:=⟨g.kinds,g.len,g.nodup,g.fresh,g.live,g.D4,g.D0,g.objs,let⟨q,ns,ce,r⟩:=g.env;⟨q,ns,ce,λz v e=>r z v ((show∀p∈Fv i j x y,Ai env p.1=G p.2 from all_cons h7<|all_cons h8<|all_cons h1<|all_cons h2<|all_cons h3<|all_cons h4<|all_cons h5<|all_cons h6 EA) _ (FD e))⟩,g.base,g.os,g.gens,g.frames,g.DN,g.Cw,g.mods,g.handled,g.depth,g.units⟩
theorem QH(SB:XX B)(SK:R1 K.sc){A2:HK->AR->Prop}(hX:AF.length<=100000)(hY:An.length<=100000)(hM:Au.length<=1000000)(hU:CL.length<=1000000)(h1:R0 K2=G (KZ,Fb,Fu))(h2:R0 ext2=G (Mz,FN,F3))(h3:dw brk=M)(hF:F.outs=F.env::C4)(hf:F.env.frame=G F.env.locals)(g:Gd B F K A ⟨Fc i j,DI AF An Au CL,4⟩ C s)(Cv:Nx F.D F.A_ Af s.heap BE C)(t:XU B F C Af s.heap e c)(kB:∀s',Gd B F K A ⟨Fc i j,DI AF An (Au++AF.drop i) (CL++An.drop j),4⟩ C s'->Nx F.D F.A_ Af s'.heap BE C->A2 .brk s'):AG (AQ B.prog B.w) A (I8 (.ref e) F.env) (λ_ Ah=>AG (AQ B.prog B.w) A (gf (.ref e) L) (λ_ Aw=>AG (AQ B.prog B.w) A (handleBy (.ref e) F.env [.ExceptHandler (G (.Name UQ p1)) L (K2::[ext2,brk]) p2]) A2 E Aw) E Ah) E s:=by
 refine HO SB ?_;(try clear SB);intro mg mb n3 n0 hm hw;apply aX8 h3;intro p;refine aX3 hF hf g.frames g Cv t λAI AN Ja M_=>UJ (fr:=L) AN Ja M_ λAh AT FM Ee=>?_;have st:∀b o,B.base.get? b=G o->Ah.heap.get? b=G o:=AT.base;have m3:Ah.heap.Ns F.env.globals mg:=by rw[g.kinds.g3];refine Hh n3 ?_;(try clear n3);intro o N ep e r;exact⟨o,N,ep,st _ _ e,r⟩
 have m0:Ah.heap.Ns F.env.builtins mb:=by rw[g.kinds.b0];refine Hh n0 ?_;(try clear n0);intro o N ep e r;exact⟨o,N,ep,st _ _ e,r⟩
 refine i8 Ee.obj ?_;intro T oe vs oT ts _ _ _ he hc _;refine wpAny_handleBy_builtin (X:="IndexError") (T:="IndexError") (b:=M) PySem.F.isExc_IndexError PySem.F.notTuple_IndexError PySem.F.self_IndexError ?_;refine bt6 AT.kinds.fn (AT.kinds.glob _ SK.ie) (bt7 m3 hm m0 hw ⟨rfl,⟨oe,he,hc⟩,?_⟩) (li g.kinds.sc SK.ie);rw[D5 rfl];refine UJ (fr:=L) AT FM Ee λAw Ao I5 R3=>?_;refine DF (qc h1 SK.mi SK.ex SK.i Ao rfl rfl (by simpa using hM) rfl rfl (by simpa using hX) rfl λED C9 Cy=>?_);have e4:Au.map V.str++(AF.map V.str).drop i=(Au++AF.drop i).map V.str:=by simp
 rw[e4]at C9;have C9:Gd B F K A ⟨Fc i j,DI AF An (Au++AF.drop i) CL,4⟩ C ED:=C9;refine DF (qc h2 SK.un SK.ac SK.j C9 rfl rfl (by simpa using hU) rfl rfl (by simpa using hY) rfl λEc Cn EH=>?_);have e5:CL.map V.str++(An.map V.str).drop j=(CL++An.drop j).map V.str:=by simp
 rw[e5]at Cn;have Cn:Gd B F K A ⟨Fc i j,DI AF An (Au++AF.drop i) (CL++An.drop j),4⟩ C Ec:=Cn;exact DF (wpAny_Break (kB Ec Cn (I5.trans (Cy.w0.trans EH.w0))))
theorem XY{a:AX}{A2:HK->AR->Prop}(hS:My A8=G x)(g:Gd B F K A H C s)(hl:D' K.sc x=M)(ho:G8 K.sc x=M)(hv:Ai H.env x=G (.int a))(k:∀s',Gd B F K A ⟨EB H.env x (.int (a+1)),H.h,H.n⟩ C s'->Nx F.D F.A_ s.heap s'.heap C C->A2 .next s'):AG (AQ B.prog B.w) A' (exec A8 F.env) A2 E s:=by
 apply aX7 hS;intro p1 k0 p2 p3;exact qP g hl ho hv k
theorem qk(SK:R1 K.sc){x:Tx}{A2:HK->AR->Prop}(hY:An.length<=100000)(h1:My JF=G F3)(h2:La JG=G (FN,F3,Io))(hj:j<An.length)(hF:F.outs=F.env::C4)(hf:F.env.frame=G F.env.locals)(hA:A'.frames=G F.outs)(g:Gd B F K A ⟨Fv i j x y,DI AF An Au CL,4⟩ C s)(Cv:Nx F.D F.A_ Af s.heap BE C)(hC:Cm B F C Af A' s.heap)(kn:∀q s',q<An.length->An.drop q=DD y (An.drop (j+1))->Gd B F K A ⟨Fv i q x y,DI AF An Au CL,4⟩ C s'->Nx F.D F.A_ Af s'.heap BE C->Cm B F C Af A' s'.heap->A2 .next s')(ke:∀s' e c,DD y (An.drop (j+1))=[]->Gd B F K A ⟨Fv i An.length x y,DI AF An Au CL,4⟩ C s'->Nx F.D F.A_ Af s'.heap BE C->XT B F C Af s'.heap e c (EQ F.env.locals)->E (.ref e) s'):AG (AQ B.prog B.w) A' (Iu [JF,JG] F.env) A2 E s:=by
 refine DF (XY h1 g SK.j SK.jo rfl λAI AN Ab=>?_);have AN:Gd B F K A ⟨Fv i (j+1) x y,DI AF An Au CL,4⟩ C AI:=Ox AN rfl (by show G (V.int ((j:AX)+1))=_;simp) rfl rfl rfl rfl rfl rfl;have vw:∀{CS:I (Y×V)}{q:O}{Ah:AR},Lb (Fv i (j+1) x y) CS F3 q->Gd B F K A ⟨CS,DI AF An Au CL,4⟩ C Ah->Gd B F K A ⟨Fv i q x y,DI AF An Au CL,4⟩ C Ah:=λhe AT=>Ox AT (he _) (he _) (he _) (he _) (he _) (he _) (he _) (he _);refine DF (XW (p:=j+1) h2 hY SK.ac SK.j SK.jo SK.a (by decide) (by decide) hF hf hA rfl hj AN rfl rfl rfl (Cv.trans Ab) (hC.nx Ab λ_ m=>m) (λq CS Ah h3 h4 h5 AT FM aY1=>Fz (kn q Ah h3 h4 (vw h5 AT) FM aY1)) λCS Ah e c h3 h4 AT FM Ee _=>ke Ah e c h3 (vw h4 AT) FM Ee)
theorem dx{x:Tx}(g:Gd B F K A ⟨Fv i j x y,DI AF An Au CL,4⟩ C s):Gd B F K A ⟨Fc i j,DI AF An Au CL,4⟩ C s:=R2 g rfl rfl rfl rfl rfl rfl
theorem aY2(SK:R1 K.sc){x:Tx}{A2:HK->AR->Prop}(hX:AF.length<=100000)(hY:An.length<=100000)(h0:dq tf=G ([Ku],JF,[JG]))(h3:La Ku=G (Fb,Fu,Jb))(h1:My JF=G F3)(h2:La JG=G (FN,F3,Io))(hi:i<=AF.length)(hj:j<An.length)(hF:F.outs=F.env::C4)(hf:F.env.frame=G F.env.locals)(g:Gd B F K A ⟨Fv i j x y,DI AF An Au CL,4⟩ C s)(Cv:Nx F.D F.A_ Af s.heap BE C)(kn:∀i' j' s',i'<=AF.length->j'<=An.length->AF.drop i'=DD x (AF.drop i)->An.drop j'=DD y (An.drop (j+1))->Gd B F K A ⟨Fc i' j',DI AF An Au CL,4⟩ C s'->Nx F.D F.A_ Af s'.heap BE C->A2 .next s')(ke:∀i' j' s' e c,i'<=AF.length->j'<=An.length->AF.drop i'=DD x (AF.drop i)->An.drop j'=DD y (An.drop (j+1))->(i'=AF.length\/j'=An.length)->Gd B F K A ⟨Fc i' j',DI AF An Au CL,4⟩ C s'->Nx F.D F.A_ Af s'.heap BE C->XU B F C Af s'.heap e c->E (.ref e) s'):AG (AQ B.prog B.w) A (exec tf F.env) A2 E s:=by
 apply aX6 h0;intro p3;have vw:∀{CS:I (Y×V)}{q:O}{Ah:AR},Lb (Fv i j x y) CS Fu q->Gd B F K A ⟨CS,DI AF An Au CL,4⟩ C Ah->Gd B F K A ⟨Fv q j x y,DI AF An Au CL,4⟩ C Ah:=λhe AT=>Ox AT (he _) (he _) (he _) (he _) (he _) (he _) (he _) (he _);have back:∀{q Ah e c}{dy:CK},q<=AF.length->AF.drop q=DD x (AF.drop i)->DD y (An.drop (j+1))=[]->Gd B F K A ⟨Fv q An.length x y,DI AF An Au CL,4⟩ C Ah->Nx F.D F.A_ Af Ah.heap BE C->XT B F C Af Ah.heap e c (EQ F.env.locals)->RM (AQ B.prog B.w) dy F.env (uH (AQ B.prog B.w) A F.env E) (.ref e) Ah:=λ{q Ah e c dy}h4 h5 h6 AT FM Ee=>by
   show AG _ dy (I8 (.ref e) F.env) _ _ _;exact XQ hf Ee (qf hf AT FM Ee λAw Ao I5 R3=>ke q An.length Aw e c h4 (DE _) h5 (by rw[h6,Jq]) (.inr rfl) (dx Ao) I5 (.inr R3))
 refine wpAny_Try_finally (DF (XW h3 hX SK.ex SK.i SK.io SK.e (by decide) (by decide) hF hf g.frames rfl hi g rfl rfl rfl Cv (.inl g.handled) (λq CS Ah h4 h5 h6 AT FM _=>Fz (Fz ?_)) λCS Ah e c h4 h5 AT FM Ee hc=>?_));. refine qk SK hY h1 h2 hj hF hf g.frames (vw h6 AT) FM (.inl g.handled) (λq' Aw h7 h8 Ao I5 _=>kn q q' Aw (Gb h4) (Gb h7) h5 h8 (dx Ao) I5) λAw e c h7 Ao I5 R3=>back (Gb h4) h5 h7 Ao I5 R3
 . have hc:=hc g.handled;subst hc;refine XQ hf Ee ⟨(by intro z;(exfalso;cases z)),XQ hf Ee (UJ (fr:=L) (vw h5 AT) FM Ee λAw Ao I5 R3=>?_)⟩;have ql:AF.drop AF.length=DD x (AF.drop i):=by rw[h4,Jq]
   refine qk SK hY h1 h2 hj hF hf (A':=A.mark (G (.ref e))) (by exact g.frames) Ao I5 (.inr ⟨e,_,rfl,R3⟩) (λq' ED h7 h8 C9 Lc R4=>?_) λED e' c h7 C9 Lc dz=>back (DE _) ql h7 C9 Lc dz;rcases R4 with R4|H9;rotate_left;refine EU H9 ?_;(try clear H9);intro e0 fl R4 dz;rotate_left;. (exfalso;cases R4)
   . have :e=e0:=by
      have q:G (Jm e)=G (Jm e0):=R4;injection q with q;injection q
     clear R4;subst this;exact aX4 hf C9 Lc dz λEc Cn HE Oy=>ke AF.length q' Ec e _ (DE _) (Gb h7) ql h8 (.inl rfl) (dx Cn) HE (.inr Oy)
end
theorem R5{ys:I Tx}:D3 m [] ys=([],ys):=by cases m<;>rfl
theorem R6{U:I Tx}:D3 m U []=(U,[]):=by cases m with
 |zero=>rfl|succ m=>cases U<;>rfl
theorem aY3{t:Tx}{U:I Tx}:(DD t U).length<=U.length:=by induction U with
 |nil=>exact DE _|cons x U ih=>
 refine(?_:(match CY x t with|true=>DD t U|false=>x::U).length<=_);cases CY x t with
 |true=>exact gZ ih|false=>exact DE _
theorem XZ{t:Tx}{p q:O}(hp:p<=AF.length)(hq:q<=AF.length)(h:AF.drop q=DD t (AF.drop p)):p<=q:=by
 have z:(AF.drop q).length<=(AF.drop p).length:=h▸aY3;rw[Ut,Ut]at z;exact u5 hp▸u5 hq▸eq z AF.length
theorem e7{a q b k:O}(hm:a-i+b<=k+1)(hi:i<a)(hq:i+1<=q):a-q+b<=k:=sF (B2 (Nat.succ_add _ _▸Xh (Nat.sub_lt_sub_left hi hq) b) hm)
theorem aY4{a q b k:O}(hm:b+(a-j)<=k+1)(hj:j<a)(hq:j+1<=q):b+(a-q)<=k:=by rw[Lg]at hm ⊢;exact e7 hm hj hq
theorem qm{Au:I J}{x:J}{q:O}(hq:i+1<=q):(Au++[x]).length+i<=Au.length+q:=by rw[F8,ta,NG,Lg 1 i];exact HG hq _
theorem qn{Au:I J}{x:J}(h:Au.length<=100000):(Au++[x]).length<=1000000:=by rw[F8];exact B2 (Xh h 1) (by decide)
theorem qo{l:I J}{p:O}{x:J}(h:l[p]?=G x):l.drop p=x::l.drop (p+1):=by
 refine xE (HH.mp h) ?_;intro CE e;rw[Y6 CE,e]
structure eA(tr N0 N1 if1 N2 N3 N4 if2 N5 N6 N7 N8 tf Ku JF JG K2 ext2 brk:Ar)(t1 t2:AB):Prop where
 tr:qg tr=G ([N0,N1,if1],K2,[ext2,brk])N0:dv N0=G (Jb,Fb,Fu)N1:dv N1=G (Io,FN,F3)if1:dt if1=G (t1,[N2,N3,N4],[if2])t1:UP .Lt Jb Io t1=M
 N2:XV N2=G (KZ,Jb)N3:My N3=G Fu
 N4:La N4=G (Fb,Fu,Jb)if2:dt if2=G (t2,[N5,N6,N7],[N8,tf])t2:UP .Gt Jb Io t2=M
 N5:XV N5=G (Mz,Io)N6:My N6=G F3
 N7:La N7=G (FN,F3,Io)N8:My N8=G Fu
 tf:dq tf=G ([Ku],JF,[JG])Ku:La Ku=G (Fb,Fu,Jb)JF:My JF=G F3
 JG:La JG=G (FN,F3,Io)K2:R0 K2=G (KZ,Fb,Fu)ext2:R0 ext2=G (Mz,FN,F3)brk:dw brk=M
section
variable{Au:I Tx}{tr N0 N1 if1 N2 N3 N4 if2 N5 N6 N7 N8:Ar}{t1 t2:AB}
theorem eB{e a:Tx}{U ys:I Tx}:D3 (n+1) (e::U) (a::ys)=match EX e a with
 |true=>(e::(D3 n (DD e U) (a::ys)).1,(D3 n (DD e U) (a::ys)).2)|false=>match EX a e with
 |true=>((D3 n (e::U) (DD a ys)).1,a::(D3 n (e::U) (DD a ys)).2)|false=>D3 n (DD e U) (DD a ys):=rfl
theorem qp(SB:XX B)(SK:R1 K.sc)(D:eA tr N0 N1 if1 N2 N3 N4 if2 N5 N6 N7 N8 tf Ku JF JG K2 ext2 brk t1 t2){A2:HK->AR->Prop}(hX:AF.length<=100000)(hY:An.length<=100000)(hM:Au.length+m<=90000+900000)(hU:CL.length+m<=90000+900000)(hi:i<=AF.length)(hj:j<=An.length)(hm:AF.length-i+(An.length-j)<=m)(R7:Au.length<=100000)(R8:CL.length<=100000)(hF:F.outs=F.env::C4)(hf:F.env.frame=G F.env.locals)(g:Gd B F K A ⟨Fc i j,DI AF An Au CL,4⟩ C s)(Cv:Nx F.D F.A_ Af s.heap BE C)(kn:∀k i' j' M' U' s',m=k+1->i'<=AF.length->j'<=An.length->AF.length-i'+(An.length-j')<=k->M'.length+i<=Au.length+i'->U'.length+j<=CL.length+j'->Au++(D3 m (AF.drop i) (An.drop j)).1=M'++(D3 k (AF.drop i') (An.drop j')).1->CL++(D3 m (AF.drop i) (An.drop j)).2=U'++(D3 k (AF.drop i') (An.drop j')).2->Gd B F K A ⟨Fc i' j',DI AF An M' U',4⟩ C s'->Nx F.D F.A_ Af s'.heap BE C->A2 .next s')(kB:∀i' j' s',Gd B F K A ⟨Fc i' j',DI AF An (Au++(D3 m (AF.drop i) (An.drop j)).1) (CL++(D3 m (AF.drop i) (An.drop j)).2),4⟩ C s'->Nx F.D F.A_ Af s'.heap BE C->A2 .brk s'):AG (AQ B.prog B.w) A (exec tr F.env) A2 E s:=by
 apply aX5 D.tr;intro p1 p2 p3;have BD:∀{i' j':O}{M' U':I Tx}{Ah:AR}{e:A9}{c:A4},M'.length<=1000000->U'.length<=1000000->M'++AF.drop i'=Au++(D3 m (AF.drop i) (An.drop j)).1->U'++An.drop j'=CL++(D3 m (AF.drop i) (An.drop j)).2->Gd B F K A ⟨Fc i' j',DI AF An M' U',4⟩ C Ah->Nx F.D F.A_ Af Ah.heap BE C->XU B F C Af Ah.heap e c->AG (AQ B.prog B.w) A (I8 (.ref e) F.env) (λ_ Ah=>AG (AQ B.prog B.w) A (gf (.ref e) L) (λ_ Aw=>AG (AQ B.prog B.w) A (handleBy (.ref e) F.env [.ExceptHandler (G (.Name UQ p1)) L (K2::[ext2,brk]) p2]) A2 E Aw) E Ah) E Ah:=λ{i' j' M' U' Ah e c}h1 h2 h3 h4 AT FM Ee=>QH SB SK hX hY h1 h2 D.K2 D.ext2 D.brk hF hf AT FM Ee λAw Ao I5=>kB i' j' Aw (by rw[<-h3,<-h4];exact Ao) I5;refine bv3 (DF ?_);apply qi D.N0;intro q1 q2 q3 q4 q5;refine bC0 (item_at hX SK.ex SK.i g rfl rfl rfl hi Cv (.inl g.handled) (λu x hx ru=>dh g SK.eo ru λAI AN Ab=>?_) λAI e c hp AN Ja M_ _=>?_)
 . have Ja:=Cv.trans Ab;have Oz:i<AF.length:=(HH.mp hx).1;apply qi D.N1;intro r1 r2 r3 bU6 bU7;refine DF (bC0 (item_at hY SK.ac SK.j AN rfl rfl rfl hj Ja (.inl g.handled) (λw y hy Fa=>dh AN SK.bU5 Fa λAh AT Al=>?_) λAh e c hp AT FM Ee _=>?_))
   . have FM:=Ja.trans Al;have UR:j<An.length:=(HH.mp hy).1;have AT:Gd B F K A ⟨Fv i j x y,DI AF An Au CL,4⟩ C Ah:=Ox AT rfl rfl rfl rfl rfl rfl rfl rfl;have dX:=qo hx;have dY:=qo hy;refine xE (Nat.exists_eq_add_one.mpr (Ip (Nat.sub_pos_of_lt Oz) (B2 (Gz ..) hm))) ?_;intro k hk;have HB:AF.length-i+(An.length-j)<=k+1:=hk▸hm;apply qh D.if1;intro i1;refine DF (sZ (aX9 D.t1 SK.e SK.a AT rfl rfl ?_));cases CE:EX x y with
 |true=>
      rw[D5 rfl];have hs:D3 m (AF.drop i) (An.drop j)=(x::(D3 k (DD x (AF.drop (i+1))) (An.drop j)).1,(D3 k (DD x (AF.drop (i+1))) (An.drop j)).2):=by rw[hk,dX,dY,eB,CE]
      refine DF (qb D.N2 SK.mi SK.e AT rfl rfl (by simpa using R7) rfl λAw Ao B7=>?_);have e3:Au.map V.str++[V.str x]=(Au++[x]).map V.str:=by simp
      rw[e3]at Ao;have Ao:Gd B F K A ⟨Fv i j x y,DI AF An (Au++[x]) CL,4⟩ C Aw:=Ao;refine DF (XY D.N3 Ao SK.i SK.io rfl λED C9 Cy=>?_);have C9:Gd B F K A ⟨Fv (i+1) j x y,DI AF An (Au++[x]) CL,4⟩ C ED:=Ox C9 (by show G (V.int ((i:AX)+1))=_;simp) rfl rfl rfl rfl rfl rfl rfl;have Lc:=FM.trans (B7.w0.trans Cy);refine DF (XW (p:=i+1) D.N4 hX SK.ex SK.i SK.io SK.e (by decide) (by decide) hF hf g.frames rfl Oz C9 rfl rfl rfl Lc (.inl g.handled) (λq CS Ec h3 h4 h5 Cn HE _=>Fz (Fz (Fz ?_))) λCS Ec e c h3 h4 Cn HE Oy _=>?_)
      . have hq:=XZ Oz (Gb h3) h4;refine kn k q j (Au++[x]) CL Ec hk (Gb h3) hj (e7 HB Oz hq) (qm hq) (DE _) ?_ ?_ (R2 Cn (h5 _) (h5 _) (h5 _) (h5 _) (h5 _) (h5 _)) HE;. rw[hs,h4];simp
        . rw[hs,h4]
      . refine BD (i':=AF.length) (j':=j) (M':=Au++[x]) (U':=CL) (qn R7) (B2 R8 (by decide)) ?_ ?_ (R2 Cn (h4 _) (h4 _) (h4 _) (h4 _) (h4 _) (h4 _)) HE (.inr Oy);. rw[hs,h3,R5];simp
        . rw[hs,h3,R5]|false=>
      rw[CN (by simp)];apply qh D.if2;intro i2;refine DF (sZ (aY0 D.t2 SK.e SK.a AT rfl rfl ?_));cases qq:EX y x with
 |true=>rw[D5 rfl];have hs:D3 m (AF.drop i) (An.drop j)=((D3 k (AF.drop i) (DD y (An.drop (j+1)))).1,y::(D3 k (AF.drop i) (DD y (An.drop (j+1)))).2):=by rw[hk,dX,dY,eB,CE,qq]
        refine DF (qb D.N5 SK.un SK.a AT rfl rfl (by simpa using R8) rfl λAw Ao B7=>?_);have e3:CL.map V.str++[V.str y]=(CL++[y]).map V.str:=by simp
        rw[e3]at Ao;have Ao:Gd B F K A ⟨Fv i j x y,DI AF An Au (CL++[y]),4⟩ C Aw:=Ao;refine DF (XY D.N6 Ao SK.j SK.jo rfl λED C9 Cy=>?_);have C9:Gd B F K A ⟨Fv i (j+1) x y,DI AF An Au (CL++[y]),4⟩ C ED:=Ox C9 rfl (by show G (V.int ((j:AX)+1))=_;simp) rfl rfl rfl rfl rfl rfl;have Lc:=FM.trans (B7.w0.trans Cy);refine DF (XW (p:=j+1) D.N7 hY SK.ac SK.j SK.jo SK.a (by decide) (by decide) hF hf g.frames rfl UR C9 rfl rfl rfl Lc (.inl g.handled) (λq CS Ec h3 h4 h5 Cn HE _=>Fz (Fz (Fz (Fz ?_)))) λCS Ec e c h3 h4 Cn HE Oy _=>?_)
        . have hq:=XZ UR (Gb h3) h4;refine kn k i q Au (CL++[y]) Ec hk hi (Gb h3) (aY4 HB UR hq) (DE _) (qm hq) ?_ ?_ (R2 Cn (h5 _) (h5 _) (h5 _) (h5 _) (h5 _) (h5 _)) HE;. rw[hs,h4]
          . rw[hs,h4];simp
        . refine BD (i':=i) (j':=An.length) (M':=Au) (U':=CL++[y]) (B2 R7 (by decide)) (qn R8) ?_ ?_ (R2 Cn (h4 _) (h4 _) (h4 _) (h4 _) (h4 _) (h4 _)) HE (.inr Oy);. rw[hs,h3,R6]
          . rw[hs,h3,R6];simp|false=>
        rw[CN (by simp)];have hs:D3 m (AF.drop i) (An.drop j)=D3 k (DD x (AF.drop (i+1))) (DD y (An.drop (j+1))):=by rw[hk,dX,dY,eB,CE,qq]
        refine DF (XY D.N8 AT SK.i SK.io rfl λED C9 Cy=>?_);have C9:Gd B F K A ⟨Fv (i+1) j x y,DI AF An Au CL,4⟩ C ED:=Ox C9 (by show G (V.int ((i:AX)+1))=_;simp) rfl rfl rfl rfl rfl rfl rfl;have Lc:=FM.trans Cy;refine DF (aY2 SK hX hY D.tf D.Ku D.JF D.JG Oz UR hF hf C9 Lc (λi' j' Ec h3 h4 h5 h6 Cn HE=>Fz (Fz (Fz (Fz ?_)))) λi' j' Ec e c h3 h4 h5 h6 h7 Cn HE Oy=>?_)
        . have z1:=XZ Oz h3 h5;have z2:=uI (XZ UR h4 h6);refine kn k i' j' Au CL Ec hk h3 h4 (B2 (HG (eq z2 _) _) (e7 HB Oz z1)) (HG (uI z1) _) (HG z2 _) ?_ ?_ Cn HE;. rw[hs,h5,h6]
          . rw[hs,h5,h6]
        . refine BD (i':=i') (j':=j') (M':=Au) (U':=CL) (B2 R7 (by decide)) (B2 R8 (by decide)) ?_ ?_ Cn HE Oy
          . rw[hs,<-h5,<-h6];rcases h7 with rfl|rfl;. rw[Jq,R5]
            . rw[Jq,R6]
          . rw[hs,<-h5,<-h6];rcases h7 with rfl|rfl;. rw[Jq,R5]
            . rw[Jq,R6]
   . refine BD (i':=i) (j':=j) (M':=Au) (U':=CL) (B2 R7 (by decide)) (B2 R8 (by decide)) ?_ ?_ (R2 AT rfl rfl rfl rfl rfl rfl) FM (.inl Ee);. rw[hp,Jq,R6]
     . rw[hp,Jq,R6]
 . refine BD (i':=i) (j':=j) (M':=Au) (U':=CL) (B2 R7 (by decide)) (B2 R8 (by decide)) ?_ ?_ AN Ja (.inl M_);. rw[hp,Jq,R5]
   . rw[hp,Jq,R5]
end
section
open PyProof.Rows
noncomputable def strOf:A4->Y|.str x _=>x|_=>⟨#[]⟩
noncomputable def Ld(N:BV (AX×A4)):I Y:=N.toList.map λe=>strOf e.2
structure N9(prog:HY)(w:F4)(led:AK)(N:BV (AX×A4))(t:G0)(P:I Y):Prop where
 el:ElemsOf (Kj prog w) N.toList
 str:∀e∈N.toList,∃x u,e.2=.str x u
 nd:(Ld N).Nodup
 mem:∀x,x∈Ld N↔x∈P
 sz:N.size<Pa
 fits:t.fits N.size=M
 led:t.led=led
 plain:N.size=0\/t.plain=A6
 le:N.size<=P.length
noncomputable def HF(prog:HY)(w:F4)(led:AK)(h:BJ)(a:A9)(P:I Y):Prop:=∃N ep t,h.get? a=G {cls:=.type "set",dict:=L,data:=.set N ep t}/\N9 prog w led N t P
section
variable{P:I Y}
theorem aY5{t:G0}:(t.orStandIn n).led=t.led:=by unfold uJ;split<;>rfl
theorem aY6(t:G0)(N:BV (AX×A4))(h:AX)(x:A4):(YQ t N h x).2.1.led=t.led:=by
 unfold YQ;split;. exact aY5
 . rfl
theorem aY7(t:G0)(N:BV (AX×A4))(h:AX)(x:A4)(hp:t.plain=A6):(YQ t N h x).2.1.plain=A6:=by
 unfold YQ;split
 . show(uJ _ _).plain=A6;unfold uJ;split;. exact hp
   . rfl
 . rfl
theorem aY8{f mv:O}{l p:AK}{hs:BV AX}{r:G0×BV O}(h:bC1 m f mv l p hs=G r):r.1.led=l/\r.1.plain=p:=by
 unfold bC1 at h;simp only[Option.bind_eq_bind,by6]at h;refine AC h ?_;(try clear h);intro _ _ h;first|(subst h;exact⟨rfl,rfl⟩)|(injection h with h;subst h;exact⟨rfl,rfl⟩)
set_option tactic.hygienic true in
theorem aY9(t:G0)(N:BV (AX×A4))(n:O):(Ro t N n).2.1.led=t.led/\((Ro t N n).2.1.plain=t.plain\/(Ro t N n).2.1.plain=A6):=by
 unfold Ro;split
 . rename_i r t' o h;have :=aY8 h;dsimp only;split;. exact⟨this.1,.inl this.2⟩
   . exact⟨rfl,.inr rfl⟩
 . exact⟨rfl,.inr rfl⟩
theorem qr{N BM:BV (AX×A4)}(p:BM.toList.Perm N.toList):(Ld BM).Perm (Ld N):=p.map _
theorem N9.perm{N BM:BV (AX×A4)}{t t':G0}(h:N9 prog w led N t P)(p:BM.toList.Perm N.toList)(f:t'.fits BM.size=M)(hl:t'.led=t.led)(hp:t'.plain=t.plain\/t'.plain=A6):N9 prog w led BM t' P:=by
 have hz:BM.size=N.size:=by rw[<-V',p.length_eq,V']
 refine⟨h.el.perm p,λe m=>h.str e (p.mem_iff.mp m),(qr p).nodup_iff.mpr h.nd,λx=>((qr p).mem_iff).trans (h.mem x),hz▸h.sz,f,hl.trans h.led,?_,hz▸h.le⟩;rcases h.plain with q|q;. exact .inl (hz.trans q)
 . rcases hp with z|z;. exact .inr (z.trans q)
   . exact .inr z
theorem qs{N BM:BV (AX×A4)}{t t':G0}(ho:h.get? a=G {cls:=.type "set",dict:=L,data:=.set N ep t})(T:N9 prog w led BM t' P):(h.update a (YR BM t')).get? a=G {cls:=.type "set",dict:=L,data:=.set BM (ep+1) t'}/\HF prog w led (h.update a (YR BM t')) a P:=by
 have hg:(h.update a (YR BM t')).get? a=G {cls:=.type "set",dict:=L,data:=.set BM (ep+1) t'}:=by
  have :=FP (YR BM t') ho (by rw[putSet_of BM t' rfl];rfl);rw[putSet_of BM t' rfl]at this;exact this
 exact⟨hg,BM,ep+1,t',hg,T⟩
theorem qt{g:AK->Dx Et}(hg:∀(b:AK)(AI:AR)(Q':Et->AR->Prop),Q' () AI->AG (AQ prog w) A (g b) Q' E AI){N:BV (AX×A4)}{t:G0}(ho:s.heap.get? a=G {cls:=.type "set",dict:=L,data:=.set N ep t}){F0:BV (AX×A4)}{t2:G0}(T:N9 prog w led F0 t2 P){qu:AK}{AV:AL AK->AR->Prop}(h:∀Q,E2 a s.heap Q->HF prog w led Q a P->AV (G M) {s with heap:=Q}):AG (AQ prog w) A (do
 storeSet a F0 t2 if(!qu&&t2.tooFull)=M then do
   g (Ro t2 F0 (V6 F0.size)).2.2storeSet a (Ro t2 F0 (V6 F0.size)).1 (Ro t2 F0 (V6 F0.size)).2.1pure (G M)else pure (G M)) AV E s:=by
 refine A5 (bC2 ho rfl ?_ (gi T.sz));refine xA (qs ho T) ?_;intro Tc bU8;have qv:=Fe s.heap a (YR F0 t2);split
 . have hp:=relayAll_perm t2 F0 (V6 F0.size);have D1:=relayAll_fits t2 F0 (V6 F0.size);have hl:=aY9 t2 F0 (V6 F0.size);have T2:=T.perm hp D1 hl.1 hl.2;refine A5 (hg _ _ _ ?_);refine A5 (bC2 Tc rfl ?_ (gi T2.sz));exact AW (h _ (qv.trans (Fe _ a _)) (qs Tc T2).2)
 . exact AW (h _ qv bU8)
set_option tactic.hygienic true in
theorem aZ0{u:EM}{A2:AK->AR->Prop}(hS:HF prog w led s.heap a P)(aZ1:P.length+1<Pa)(h:∀b Q,E2 a s.heap Q->HF prog w led Q a (P++[x])->A2 b {s with heap:=Q,toks:=s.toks+1}):AG (AQ prog w) A (uK a (.str x u)) A2 E s:=by
 have EI:(Kj prog w).is x (.str x u)=M:=by simp[Kj,YB]
 unfold uK;refine C' (A5 ((Kj prog w).pyHash EI ?_));refine Hh hS ?_;(try clear hS);intro N ep t ho T;have Qx:N.size+1<Pa:=Gy (Lh T.le) aZ1;skip;refine C' (A5 (YS (s:={s with toks:=s.toks+1}) ho rfl T.fits ?_));dsimp only;rw[byScan_of rfl T.sz T.el];skip;unfold setAddByScan;refine A5 ?_;refine A5 (Ge ?_);refine A5 (wpAny_setScan_of EI ho rfl T.fits T.el ?_);cases hr:List.findIdx? (λe=>(Kj prog w).is x e.2) N.toList with
 |some j=>
  skip;refine AC (List.findIdx?_eq_some_iff_getElem.mp hr) ?_;intro hj hpj _;have hx:x∈Ld N:=by
    refine xE (bP hpj) ?_;intro tk e;refine Dz.mpr ⟨N.toList[j],gC hj,?_⟩;rw[e];rfl
  refine AW (AW ?_);refine h _ s.heap (fg a s.heap) ⟨N,ep,t,ho,T.el,T.str,T.nd,λy=>?_,T.sz,T.fits,T.led,T.plain,B2 T.le (by simp)⟩;rw[T.mem,Do,CH];exact⟨.inl,λz=>z.elim id λz=>z▸(T.mem x).mp hx⟩|none=>
  skip;have hx:x∉Ld N:=λm=>by
    refine AC (Dz.mp m) ?_;intro e he hp;have :=bv9.mp hr e he;refine D9 (T.str e he) ?_;intro y v q;rw[q]at this hp;have hp:y=x:=hp;clear h EI hr m;subst hp;simp[Kj,YB]at this
  have hgw:∀(b:AK){AI:AR}{Q':Et->AR->Prop},Q' () AI->AG (AQ prog w) A (match b with|true=>Y8 "set.scan.the-table-gave-way"|false=>pure ()) Q' E AI:=λb AI Q' hq=>by cases b<;>first|exact AW hq|exact Ge hq
  have JU:=layNew_perm t N ((Kj prog w).hash x) (.str x u);have X_:=layNew_fits t N ((Kj prog w).hash x) (.str x u);have US:=aY6 t N ((Kj prog w).hash x) (.str x u);have FX:=aY7 t N ((Kj prog w).hash x) (.str x u);generalize hL:YQ t N ((Kj prog w).hash x) (.str x u)=A0 at JU X_ US FX ⊢;obtain⟨F0,t1,qu,gave⟩:=A0;dsimp only at JU X_ US FX ⊢;rw[Uz]at JU;have hz:F0.size=N.size+1:=by rw[<-V',JU.length_eq,F8,V'];rfl
  have Qb:(Ld F0).Perm (Ld N++[x]):=by
    have :=JU.map (λe:AX×A4=>strOf e.2);rw[NR]at this;exact this
  have fin:∀t2:G0,t2.fits F0.size=M->t2.led=t.led->t2.plain=A6->N9 prog w led F0 t2 (P++[x]):=λt2 f l p=>by
    refine⟨(T.el.push EI rfl).perm JU,λe m=>?_,?_,λy=>?_,hz▸Qx,f,l.trans T.led,.inr p,?_⟩
    . rcases Do.mp (JU.mem_iff.mp m)with m|m;. exact T.str e m
      . rw[CH.mp m];exact⟨x,u,rfl⟩
    . refine Qb.nodup_iff.mpr (I7.mpr ⟨T.nd,by simp,λy hy z hz e=>?_⟩);rw[CH.mp hz]at e;exact hx (e▸hy)
    . rw[Qb.mem_iff,Do,Do,T.mem]
    . rw[hz,F8];exact Lh T.le
  refine A5 (hgw _ ?_);split
  . refine A5 ?_;skip;refine AW ?_;refine qt (s:={s with toks:=s.toks+1}) ?_ ho (fin {t1 with plain:=A6} (SetTable.fits_plain_off X_) US rfl) ?_;. intro b AI Q' hq;cases b<;>first|exact AW hq|exact Ge hq
    . intro Q R9 FZ;dsimp only;exact AW (h _ Q R9 FZ)
  . rename_i hpp;refine A5 (AW ?_);skip;have :t1.plain=A6:=by cases q:t1.plain with|false=>rfl|true=>exact absurd q hpp
    refine qt (s:={s with toks:=s.toks+1}) ?_ ho (fin _ X_ US this) ?_;. intro b AI Q' hq;cases b<;>first|exact AW hq|exact Ge hq
    . intro Q R9 FZ;dsimp only;exact AW (h _ Q R9 FZ)
end
end
section
open PyProof.Rows
section
theorem HF.same{A8:A9}{P:I Y}(hS:HF prog w led h A8 P)(hk:∀o,h.get? A8=G o->Q.get? A8=G o):HF prog w led Q A8 P:=by refine Hh hS ?_;(try clear hS);intro N ep t ho T;exact⟨N,ep,t,hk _ ho,T⟩
theorem aZ2{AV:Dq->AR->Prop}{fp wr:I A9}{Bj:BV fG->BV fG->Prop}{Pv:O->A4->Prop}{St:O->AR->Prop}(ss:I Y)(hn:ss.length=n)(A_:WalksS prog w A.in1 AD fp wr Bj n Pv St)(hv:∀i v,Pv i v->∃x t,ss[i]?=G x/\v=.str x t)(A8:A9)(NA:A8∉fp)(hb:n+1<Pa):∀(k i:O)(s:AR),n-i=k->i<=n->St i s->HF prog w led s.heap A8 (ss.take i)->(∀s',Moved (A8::wr) Bj s s'->HF prog w led s'.heap A8 ss->AV (.ok (.ret .none)) s')->D6 (AQ prog w) A (.builtin "set.update.loop" ⟨[.ref A8,.ref AD],[]⟩) AV s:=by
 have qw:A8∉wr:=λh=>NA (A_.sub _ h);have LD:∀b∈wr,b∈A8::wr:=λb hb=>Cp _ hb;intro k;induction k with
 |zero=>
  intro i s hk hi HA hS hR;have JT:i=n:=by(with_reducible exact Xk (by assumption) (bw3 (by assumption)))
  clear hb hi hk;subst JT;refine Iv bC3 ?_;skip;show AG _ A.in1 (EP (.ref AD)>>=_) _ _ s;refine A5 (A_.done s _ _ HA λs' hm=>?_);show AG _ A.in1 (ret Ha) _ _ s';rw[<-hn,bB9]at hS;exact AW (hR s' (hm.mono LD) (hS.same λo e=>hm.heap A8 o qw e))|succ k ih=>
  intro i s hk hi HA hS hR;have CE:i<n:=by(with_reducible exact Nat.lt_of_sub_eq_succ (by assumption))
  refine Iv bC3 ?_;skip;show AG _ A.in1 (EP (.ref AD)>>=_) _ _ s;refine A5 (A_.item i s _ _ CE HA λv s' hP aZ3 hm=>?_);refine EU (hv _ _ hP) ?_;intro x t hx Av;clear hP;subst Av;have FZ:=hS.same (Q:=s'.heap) λo e=>hm.heap A8 o qw e;show AG _ A.in1 (HZ [Lu x t] (uK A8 (.str x t))>>=_) _ _ s';refine A5 (C' ?_);have hr:(ss.take i).length+1<Pa:=by rw[PV];exact Gy (Lh (B2 (Xj _ _) (Gb CE))) hb
  refine aZ0 FZ hr λb Q R9 qx=>?_;have e:ss.take i++[x]=ss.take (i+1):=by rw[List.take_add_one,hx];rfl
  rw[e]at qx;refine AW ⟨plainId_quiet F.plain_set_update_loop _,ih (i+1) _ (by(with_reducible exact Mine.yX (by assumption))) CE (A_.frame _ s' _ _ aZ3 (PF _) λb hb o e=>?_) qx λKY aZ4 aZ5=>?_⟩;. rw[R9.2 b (λh:b=A8=>NA (by rw[<-h];exact hb))];exact e
  . refine hR KY (Moved.trans A_.gtrans ((hm.mono LD).then_heap (PF _) λb o hb e=>?_) aZ4) aZ5;rw[R9.2 b (λh:b=A8=>hb (by rw[h];exact Co))];exact e
theorem HF.empty(ho:h.get? a=G {cls:=.type "set",dict:=L,data:=.set #[] 0 (.fresh 0 0 led)}):HF prog w led h a []:=⟨#[],0,.fresh 0 0 led,ho,⟨λe m=>(by(exfalso;cases m)),λe m=>(by(exfalso;cases m)),HI,λx=>V2,(by unfold Pa;decide),rfl,rfl,.inl rfl,DE _⟩⟩
theorem code_set_new(a:A4){P':A4->AR->Prop}(h:P' (.ref s.heap.objs.size) {s with heap:=s.heap.push {cls:=.type "set",dict:=L,data:=.set #[] 0 (.fresh 0 0 (!w.params.followText "set-order"))}}):D6 (AQ prog w) A (.call (.builtin "set.__new__") ⟨[.type "set",a],[]⟩) (YL P' E) s:=by
 refine RQ ?_;show AG _ A.in1 (do fw "set.__new__" ⟨[.type "set",a],[]⟩;Kd (.builtin "set.__new__" ⟨[.type "set",a],[]⟩)) _ _ s;refine A5 (NP (F.newCall_set_1 a) (AW ⟨plainId_quiet F.plain_set_new _,Iv F.entry_set_new ?_⟩));skip;skip;have LD:=sub_set_self;obtain⟨hp,g,d,tk,os⟩:=s;skip;wp_walk;refine RS (AW ?_);skip;skip;refine A5 (Y1 (AW ?_));exact AW h
theorem qy:∀{us:I A4}{ss:I Y},Ly us ss->∀{i:O}{v:A4},us[i]?=G v->∃x t,ss[i]?=G x/\v=.str x t
 |_,_,.nil,i,_,h=>by simp at h|_,_,.cons x t _,0,_,h=>by simp at h;exact⟨x,t,rfl,h.symm⟩|_,_,.cons x t r,i+1,_,h=>by simpa using qy r (i:=i) (by simpa using h)
theorem aZ6{T qz r0:DJ}{args:I A4}{P':A4->AR->Prop}(ft:TypeCalled T qz r0)(hct:bC4 T ⟨args,[]⟩=pure ())(aZ7:D6 (AQ prog w) A.in1 (.call (.builtin qz) ⟨.type T::args,[]⟩) (YL P' E) s)(aZ8:∀obj AI,P' obj AI->AI.TypeIs obj T/\D6 (AQ prog w) A.in1 (.call (.builtin r0) ⟨obj::args,[]⟩) (YL (λr Ah=>r=.none/\A2 obj Ah) E) AI):AG (AQ prog w) A (call (.type T) args) A2 E s:=by
 refine D9 ft.mro ?_;intro c bU9 bJ5;have bJ6:=ft.made;have LD:=ft.sub;refine HL (RQ ?_);show AG _ _ (Up (.type T) _) _ _ _;refine AW ⟨t8 _ (by decide+kernel),Iv F.entry_type_call ?_⟩;rw[Around.under_plain (weight_type_call_type T args []) rfl];have h1:=ft.notType;have h2:=ft.canCreate;repeat(any_goals(first|assumption|wp_step))
 refine uL aZ7 λr AI hr=>?_;cases r with
 |error e=>exact hr|ok fl=>cases fl with
 |ret obj=>
  refine xA (aZ8 _ _ hr) ?_;intro hT L5;have NB:=ft.init.lookup;have hbi:=ft.init.bind obj;repeat(any_goals(first|assumption|wp_step))
  refine uL L5 λBA Ah Xa=>?_;cases BA with
  |error e=>exact Xa|ok aZ9=>cases aZ9 with
  |ret r=>
   refine xA Xa ?_;(try clear Xa);intro B5 hq;subst B5;repeat(any_goals(first|assumption|wp_step))|_=>exact Xa.elim
 |_=>exact hr.elim
theorem ba0{l:A9}{ss:I Y}(hh:A.handled=L)(hl:s.heap.IsList l us.toArray)(hi:Ly us ss)(hb:ss.length+1<Pa)(h:∀(Q:BJ)(tk:O),HF prog w (!w.params.followText "set-order") Q s.heap.objs.size ss->(∀b o,s.heap.get? b=G o->Q.get? b=G o)->A2 (.ref s.heap.objs.size) {s with heap:=Q,toks:=tk}):AG (AQ prog w) A (call (.type "set") [.ref l]) A2 E s:=by
 refine aZ6 (P':=λobj AI=>obj=.ref s.heap.objs.size/\AI={s with heap:=s.heap.push {cls:=.type "set",dict:=L,data:=.set #[] 0 (.fresh 0 0 (!w.params.followText "set-order"))}}) bC5 (F.typeCall_set_1 _) (code_set_new _ ⟨rfl,rfl⟩) λobj AI AP=>?_;refine xA AP ?_;(try clear AP);intro BI BO;subst BI;subst BO;generalize US:(!w.params.followText "set-order")=led at h ⊢;have hS:(s.heap.push {cls:=.type "set",dict:=L,data:=.set #[] 0 (.fresh 0 0 led)}).get? s.heap.objs.size=G {cls:=.type "set",dict:=L,data:=.set #[] 0 (.fresh 0 0 led)}:=CW _ rfl;have hT:bC6 {s with heap:=s.heap.push {cls:=.type "set",dict:=L,data:=.set #[] 0 (.fresh 0 0 led)}} (.ref s.heap.objs.size) "set":=⟨_,hS,rfl⟩;refine⟨hT,Lq bC5.init.plain F.entry_set_init (check_set_init_1 hT ?_)⟩;have r4:l<s.heap.objs.size:=by refine AC hl ?_;(try clear hl);intro ol OG _;exact Df OG
 have Ed:=bC7 hl {cls:=.type "set",dict:=L,data:=.set #[] 0 (.fresh 0 0 led)};have Xb:bC6 {s with heap:=s.heap.push {cls:=.type "set",dict:=L,data:=.set #[] 0 (.fresh 0 0 led)}} (.ref l) "list":=by refine CX Ed ?_;(try clear Ed);intro ol OG EG _;exact⟨ol,OG,EG⟩
 have r5:l≠(s.heap.push {cls:=.type "set",dict:=L,data:=.set #[] 0 (.fresh 0 0 led)}).objs.size:=by rw[IB];exact EO (f1 r4)
 have NA:s.heap.objs.size∉[(s.heap.push {cls:=.type "set",dict:=L,data:=.set #[] 0 (.fresh 0 0 led)}).objs.size,l]:=by
  rw[IB];simp only[Ci,Jo,Jp,gN];exact⟨EO (PG _),PN r4⟩
 have hz:us.toArray.size=ss.length:=by
  rw[List.size_toArray];clear h hb Ed r5 NA hS hT Xb hl;induction hi with|nil=>rfl|cons _ _ _ ih=>simp[ih]
 have r6:∀(A:CK)(E:A4->AR->Prop)(Q':Et->AR->Prop),A.handled=L->(∀Q tk,HF prog w led Q s.heap.objs.size ss->(∀b o,s.heap.get? b=G o->Q.get? b=G o)->Q' () {s with heap:=Q,toks:=tk})->AG (AQ prog w) A (bC8 "set.__init__" s.heap.objs.size (.ref l)) Q' E {s with heap:=s.heap.push {cls:=.type "set",dict:=L,data:=.set #[] 0 (.fresh 0 0 led)}}:=by
  intro A E Q' hh h;skip;refine A5 (A5 (Ls Xb F.sub_list_set (Ls Xb F.sub_list_frozenset ?_)));show AG _ _ (H_ (.ref l)>>=_) _ _ _;refine A5 (Rj Xb ?_);skip;refine A5 (fU Ed (A5 (uG ?_)));have hh3:A.in1.handled=L:=by simp[hh]
  have A_:=(Walks.list (prog:=prog) (w:=w) hh3 _ l r5 us.toArray).toS;refine aZ2 (A:=A) (n:=us.toArray.size) ss hz.symm A_ (λi v hv=>qy hi (by rw[<-List.getElem?_toArray];exact hv)) s.heap.objs.size NA (by rw[hz];exact hb) (us.toArray.size-0) 0 _ (by omega) (NZ _) ⟨⟨_,CW _ rfl,rfl,rfl⟩,bC7 Ed _⟩ (HF.empty (C0 _ hS)) λs' hm FZ=>?_;rw[Moved.eq_with hm];refine AW (h s'.heap s'.toks FZ λb o e=>?_);have CE:=Df e;refine hm.heap b o (λz=>?_) (C0 _ (C0 _ e));simp only[Ci,Jo,Jp,IB]at z;rcases z with z|z<;>rw[z]at CE;. exact Iq _ CE
  . exact absurd (PG _) (Nat.lt_asymm CE)
 unfold E8.«set.__init__»;generalize bC8=bV0 at r6 ⊢;wp_walk;refine r6 _ _ _ (by simp[hh]) λQ tk FZ k'=>?_;exact AW ⟨rfl,h _ _ FZ k'⟩
end
end
section
open PyProof.Rows
section
theorem ba1{r7:Source}{A2:O->AR->Prop}(hn:n≠0)(h:∀i,i<n->A2 i {s with drawn:=s.drawn.bump r7}):AG Au A (choose r7 n) A2 E s:=λ_ _ _=>⟨hn,h _ (bC9 _ (es hn))⟩
theorem eE:∀{l:I J}{i:O}(h:i<l.length),(l[i]::l.eraseIdx i).Perm l
 |x::l,0,_=>.refl _|x::l,i+1,h=>by
  simp only[List.getElem_cons_succ,List.eraseIdx_cons_succ];exact(bP2 ..).trans ((eE (l:=l) (by simpa using h)).cons x)
theorem r8:∀(n:O)(U:I J)(s:AR){A2:I J->AR->Prop},U.length=n->(∀ys dr,ys.Perm U->A2 ys {s with drawn:=dr})->AG Au A (drawOrder n U) A2 E s
 |0,U,s,A2,hl,h=>by
  have :U=[]:=gc hl;subst this;exact AW (h [] s.drawn (.refl _))|n+1,[],s,A2,hl,h=>by simp at hl|n+1,x::l,s,A2,hl,h=>by
  unfold drawOrder;refine A5 (ba1 (by simp) λi hi=>?_);rw[Hd hi];skip;refine A5 (r8 n ((x::l).eraseIdx i) _ (by rw[bD0 hi];simp at hl ⊢;exact hl) λys dr p=>?_);exact AW (h _ dr ((p.cons _).trans (eE hi)))
theorem r9{next:O->O}:∀(n k:O)(left:I J)(out:BV J),left.length=n->(uM next n k left out).toList.Perm (out.toList++left)
 |0,_,left,out,h=>by
  have :left=[]:=gc h;subst this;unfold uM;simp|n+1,k,left,out,h=>by
  have hi:next k%left.length<left.length:=bC9 _ (by omega);unfold uM;rw[Hd hi];refine(r9 n (k+1) _ _ (by rw[bD0 hi];(with_reducible exact Mine.v9 (by assumption)))).trans ?_;rw[Uz,Ua];exact(eE hi).append_left _
theorem ba2{next:O->O}{U:BV J}:(YT next U).toList.Perm U.toList:=by
 have :=r9 (next:=next) U.size 0 U.toList #[] (by simp);simpa[YT]using this
theorem Xc:Lv "set_iterator" "__next__" "set_iterator.__next__":=.of (owner:="set_iterator") (n:="__next__") (by rw[Iw,Ix];kernel_rfl) (by decide+kernel) (by decide+kernel) (by decide+kernel) (by first|exact .inl (by decide+kernel)|exact .inr (by decide+kernel)) (by rw[Iy];kernel_rfl)
theorem ba3:Ln Lp "set_iterator.__next__"=G E8.«set_iterator.__next__»:=Y' (by kernel_rfl)
theorem rA:bD1.lookup (sN ['r','o','t','a','r','e','t','i','_','t','e','s'].reverse)=G Manifest.sig_set_iterator:=by kernel_rfl
theorem ba4(a:A4):Jl "set_iterator.__next__" ⟨[a],[]⟩:=by unfold Jl;rw[gj (id:="set_iterator.__next__") (n:=['_','_','t','x','e','n','_','_']) (o:=['r','o','t','a','r','e','t','i','_','t','e','s']) (by kernel_rfl) rA];kernel_rfl
theorem ba5:Ln Lp "set.__iter__"=G E8.«frozenset.__iter__»:=uN (id':="frozenset.__iter__") ((V7 _).trans (by kernel_rfl)) (by kernel_rfl) (by decide+kernel) ((V7 _).trans (by kernel_rfl))
noncomputable def RA(w:F4)(T:A9)(N:BV (AX×A4))(ep:O)(t:G0)(a AD:A9)(h:BJ)(ord:I (AX×A4))(i:O)(first:A4):Prop:=(w.params.followText "set-order"=M/\ord=(YT (w.params.setOrder a ep) N).toList/\∃k:O,first=.int k 0)\/(w.params.followText "set-order"=A6/\N.size<=1/\t.led=M/\ord=N.toList/\∃k:O,first=.int k 0/\gk t.place k=i)\/(∃o us n ps,first=.ref T/\T≠AD/\h.get? T=G o/\o.data=.seq us n/\us.toList=(ps:I O).map (λ(p:O)=>Uu p 0)/\ord.length=ps.length/\∀(j p:O),ps[j]?=G p->∃e,N[p]?=G e/\ord[j]?=G e)
structure SW(w:F4)(T a AD:A9)(N:BV (AX×A4))(ep:O)(t:G0)(ord:I (AX×A4))(i:O)(h:BJ):Prop where
 set:h.get? a=G {cls:=.type "set",dict:=L,data:=.set N ep t}it:∃first,h.get? AD=G {cls:=.type "set_iterator",dict:=L,data:=.fields #[first,.int i 0,.ref a,.int N.size 0,.int ep 0]}/\RA w T N ep t a AD h ord i first
theorem rB:gk #[j] 0=0/\gk #[j] (j+1)=1:=by constructor<;>simp[gk,bP3]
theorem rC{t:G0}(this:t.place.size=1):∃j,t.place=#[j]:=by
 refine⟨t.place[0],Array.ext this λn h1 h2=>?_⟩;have :n=0:=by simp at h2;exact h2
 subst this;rfl
theorem eF{A2:AK->AR->Prop}(h:A2 (w.params.followText "set-order") s):AG (AQ prog w) A setsByText A2 E s:=A5 (RS (AW h))
theorem ba6{T:A9}{N:BV (AX×A4)}{k:O}{t:G0}(ho:s.heap.get? a=G {cls:=.type "set",dict:=L,data:=.set N ep t})(hf:t.fits N.size=M)(hF:RA w T N ep t a AD Af ord i (.int k 0)){A2:AL (A4×O)->AR->Prop}(hs:∀e(k':O),ord[i]?=G e->(∀h,RA w T N ep t a AD h ord (i+1) (.int k' 0))->A2 (G (e.2,k')) s)(hn:ord[i]?=L->A2 L s):AG (AQ prog w) A (uO a k i ep) A2 E s:=by
 unfold uO;refine A5 (YS ho rfl hf ?_);skip;refine A5 (eF ?_);rcases hF with Av|B5|BI;refine IG Av ?_;(try clear Av);intro hb Ck k' _;subst Ck;rotate_left;refine i4 B5 ?_;(try clear B5);intro hb h1 hl D8 k' hk ba7;subst D8;rotate_left;refine Ju BI ?_;(try clear BI);intro o us n ps hT _;rotate_left
 . rw[hb];simp only[↓uP];rw[CN (by simp)];refine A5 ?_;unfold setWalk;refine A5 (YS ho rfl hf ?_);skip;refine A5 (eF ?_);rw[hb];skip;refine A5 (RS (AW ?_));refine AW ?_;show A2 (gE _ (YT (w.params.setOrder a ep) N)[i]?) s;cases hx:(YT (w.params.setOrder a ep) N)[i]? with
 |none=>exact hn (by rw[Rl];exact hx)|some e=>exact hs e k (by rw[Rl];exact hx) λh=>.inl ⟨hb,rfl,k,rfl⟩
 . rw[hb];simp only[Jh,↓uP];injection hk with hk;have hk:=bP4 hk;subst hk;refine PQ (λGY=>?_) (λ_=>?_)
   . have :(!t.plain&&decide (N.size>1))=M:=GY;simp at this;omega
   show AG _ _ ((if(!t.led&&!N.isEmpty)=M then RN "set:maker-not-led"else pure ())>>=_) _ _ s;rw[hl];refine A5 (AW ?_);have hp:t.place.size=N.size:=by have :=hf;simp only[bD2,D2,PJ]at this;exact this.1
   refine AW ?_;rw[ba7];cases hx:N[i]? with
 |none=>exact hn (by rw[Rl];exact hx)|some e=>
     have hi:i<N.size:=(gB.mp hx).1;have h0:i=0:=by(with_reducible exact Mine.vI (by assumption) (by assumption))
     subst h0;refine xE (rC (t:=t) (by(with_reducible exact Mine.vJ (by assumption) (by assumption) (by assumption)))) ?_;intro j hj;obtain⟨h,x⟩:=e;rw[hj];exact hs (h,x) (j+1) (by rw[Rl];exact hx) λh=>.inr (.inl ⟨hb,h1,hl,rfl,j+1,rfl,by rw[hj];exact rB.2⟩)
 . (exfalso;cases hT)
theorem RA.el{T:A9}{N:BV (AX×A4)}{t:G0}{first:A4}(F:RA w T N ep t a AD h ord i first){P:Prop}(c1:∀k:O,first=.int k 0->P)(c2:∀o us n ps,first=.ref T->T≠AD->h.get? T=G o->o.data=.seq us n->us.toList=(ps:I O).map (λ(p:O)=>Uu p 0)->ord.length=ps.length->(∀(j p:O),ps[j]?=G p->∃e,N[p]?=G e/\ord[j]?=G e)->P):P:=F.elim (λF=>IG F λ_ _ k e=>c1 k e) λF=>F.elim (λF=>i4 F λ_ _ _ _ k e _=>c1 k e) λF=>Ju F λo us n ps e r=>Rv r λa b d f g l=>c2 o us n ps e a b d f g l
theorem UT{j:A9}{v:A4}{vs:BV A4}(g:h.get? AD=G {cls:=.type "set_iterator",dict:=L,data:=.fields vs}):(h.update AD (Rn (·.setIfInBounds j v))).get? AD=G {cls:=.type "set_iterator",dict:=L,data:=.fields (vs.setIfInBounds j v)}:=FP (Rn (·.setIfInBounds j v)) g rfl
theorem rE{T:A9}{N:BV (AX×A4)}{t:G0}(hh:A.handled=L)(hf:t.fits N.size=M)(hI:a≠AD)(A_:SW w T a AD N ep t ord i s.heap){A2:AL A4->AR->Prop}(h1:∀e,ord[i]?=G e->∀Q,SW w T a AD N ep t ord (i+1) Q->E2 AD s.heap Q->A2 (G e.2) {s with heap:=Q})(h2:ord[i]?=L->∀Q,Dp AD s.heap Q->A2 L {s with heap:=Q}):AG (AQ prog w) A (EP (.ref AD)) A2 E s:=by
 obtain⟨ho,first,By,hF⟩:=A_;have hT:s.TypeIs (.ref AD) "set_iterator":=⟨_,By,rfl⟩;unfold EP;refine A5 (Rc (Lm (name:=Er "__next__") hT Xc (Gf Xc hT ba3 ?_ (ba4 _))));refine A5 (AW ?_);refine A5 (wpAny_fieldsOf By rfl ?_);show AG _ _ (setEntries a>>=_) _ _ s;refine A5 (bD3 ho rfl hf ?_);rw[CN (by simp)];have rG:ord[i]?=L->∀(s':AR)(hb:Dp AD s.heap s'.heap)(he:s'={s with heap:=s'.heap}),AG (AQ prog w) A.in1 (g4 (.type "StopIteration") []>>=λe=>gh e) (λfin s'=>∃v,fin=Fin.done (Flow.ret v)/\AG (AQ prog w) A (match Except.ok (G v)with|.ok (G v)=>pure (G v)|.ok L=>RN "iter:the-iterator's-class-has-lost-its-__next__-amid-the-walk"|.error e=>do if<-Uq e (.type "StopIteration")then pure L else throw e) A2 E s') (λe s'=>AG (AQ prog w) A (match(Except.error e:Except A4 (AL A4))with|.ok (G v)=>pure (G v)|.ok L=>RN "iter:the-iterator's-class-has-lost-its-__next__-amid-the-walk"|.error e=>do if<-Uq e (.type "StopIteration")then pure L else throw e) A2 E s') s':=by
   intro hx s' hb he;refine A5 ?_;simp only[g4,Y5];refine A5 (IA ?_ (by size_fits));refine A5 (m:=Ur _ _) (NP (a:=Ha) (by first|rfl|(simp only[Ur];rfl)) ?_);refine IA ?_ (by size_fits);simp only[gh];refine A5 (tD ?_);rw[show A.in1.handled=L from hh];refine A5 (AW (g5 ?_));refine A5 (Ls (T:="StopIteration") (b:=M) ⟨_,CW _ rfl,rfl⟩ g6 ?_);rw[he];exact AW (h2 hx _ ((hb.push _).push _))
 refine hF.el (λk e=>?_) λo us n ps e RC rH hd rI hl hp=>?_
 . subst e;show AG _ _ (uO a k i ep>>=_) _ _ s;refine A5 (ba6 ho hf hF (λe k' he hF'=>?_) λhx=>?_)
   . refine A5 (Lr By rfl (by simp) ?_);refine A5 (Lr (s:={s with heap:=_}) (UT By) rfl (by simp) ?_);refine AW ⟨_,rfl,AW (h1 e he _ ⟨?_,.int k' 0,UT (UT By),hF' _⟩ ((Fe ..).trans (Fe ..)))⟩;rw[GO _ _ (CV hI),GO _ _ (CV hI)];exact ho
   . refine A5 (Lr By rfl (by simp) ?_);exact rG hx _ (Fe ..).extBut rfl
 . subst e;show AG _ _ (NW (.ref T)>>=_) _ _ s;refine A5 (NX rH hd ?_);have hui:us[i]?=(ps[i]?).map λ(p:O)=>Uu p 0:=by rw[<-Rl,rI,V3]
   dsimp only;rw[fy,hui];cases rJ:ps[i]? with
 |some p=>
     refine AC (hp i p rJ) ?_;intro e XS he2;refine A5 (A5 (YS ho rfl hf ?_));dsimp only;rw[CN (by simp)];rw[fy,XS];refine AW ?_;refine A5 (Lr By rfl (by simp) ?_);refine AW ⟨_,rfl,AW (h1 e he2 _ ⟨?_,.ref T,UT By,.inr (.inr ⟨o,us,n,ps,rfl,RC,?_,hd,rI,hl,hp⟩)⟩ (Fe ..))⟩;. rw[GO _ _ (CV hI)];exact ho
     . rw[GO _ _ (CV RC)];exact rH|none=>
     refine A5 (Lr By rfl (by simp) ?_);refine A5 (Lr (s:={s with heap:=_}) (UT By) rfl (by simp) ?_);exact rG (V0 (hl▸fS.mp rJ)) _ ((Fe ..).trans (Fe ..)).extBut rfl
end
end
section
open PyProof.Rows
section
theorem eG{N:BV J}:∀{ys:I O},(∀p∈ys,p<N.size)->(ys.filterMap λp=>N[p]?).map G=ys.map λp=>N[p]?
 |[],_=>rfl|p::ys,h=>by
  have hp:=h p (Co ..);rw[bu5 (Rh hp),I9,I9,eG λq m=>h q (Cp _ m),Rh hp]
theorem ba8{N:BV J}{ys:I O}(h:∀p∈ys,p<N.size):(ys.filterMap λp=>N[p]?).length=ys.length:=by have :=congrArg Rf (eG h);simpa using this
theorem ba9{N:BV J}{ys:I O}(h:∀p∈ys,p<N.size):(ys.filterMap λp=>N[p]?)[j]?=(ys[j]?).bind λp=>N[p]?:=by
 have :=congrArg (λl=>l[j]?) (eG h);simp only[V3]at this;cases h1:ys[j]? with
 |none=>rw[h1]at this;simpa using this|some p=>rw[h1]at this;cases h2:(ys.filterMap λp=>N[p]?)[j]? with
 |none=>rw[h2]at this;simp at this|some e=>rw[h2]at this;simpa using this
theorem bb0{N:BV (AX×A4)}{t:G0}{P:I Y}(ho:s.heap.get? a=G {cls:=.type "set",dict:=L,data:=.set N ep t})(T:N9 prog w (!w.params.followText "set-order") N t P)(hQ:∀(AD T:A9)(ord:I (AX×A4))(Q:BJ)(dr:_),s.heap.get? AD=L->(T=a\/s.heap.get? T=L)->T≠AD->ord.Perm N.toList->SW w T a AD N ep t ord 0 Q->(∀b o,s.heap.get? b=G o->Q.get? b=G o)->A2 (.ref AD) {s with heap:=Q,drawn:=dr}):AG (AQ prog w) A (PK (.ref a)) A2 E s:=by
 have hT:s.TypeIs (.ref a) "set":=⟨_,ho,rfl⟩;have hz:N.size<=F6:=gi T.sz;refine uQ hT bD4 (Gf bD4 hT ba5 ?_ (F.args_set_iter_1 _));skip;refine A5 (show AG _ _ (pure a) _ _ s from AW ?_);refine A5 (show AG _ _ (setEntries a>>=_) _ _ s from A5 (bD3 ho rfl T.fits (AW ?_)));refine A5 ?_;skip;refine A5 (YS ho rfl T.fits ?_);dsimp only;refine A5 (eF (AW ?_));have fin:∀(Tp:A9)(first:A4)(AI:AR)(ord:I (AX×A4)),ord.Perm N.toList->(∀b o,s.heap.get? b=G o->AI.heap.get? b=G o)->AI={s with heap:=AI.heap,drawn:=AI.drawn}->(∀h,(∀b o,AI.heap.get? b=G o->h.get? b=G o)->RA w Tp N ep t a AI.heap.objs.size h ord 0 first)->(Tp=a\/s.heap.get? Tp=L)->Tp≠AI.heap.objs.size->AG (AQ prog w) A.in1 (setEpoch a>>=λe=>newFields "set_iterator" [first,EQ 0,.ref a,EQ N.size,EQ e]>>=λv=>ret v) (λfin s'=>∃v,fin=.done (.ret v)/\∃T' r,s'.TypeIs v T'/\PW (.type T') "__next__"=pure (G r)/\A2 v s') E AI:=by
  intro Tp first AI ord hp kp he hF WN RC;refine A5 (wpAny_setEpoch_of (kp _ _ ho) rfl T.fits ?_);refine A5 (IA ?_);refine AW ⟨_,rfl,"set_iterator",_,⟨_,CW _ rfl,rfl⟩,Xc.lookup,?_⟩;have hn:s.heap.get? AI.heap.objs.size=L:=by cases e:s.heap.get? AI.heap.objs.size with
 |none=>rfl|some o=>exact absurd (Df (kp _ _ e)) (Iq _)
  have :=hQ AI.heap.objs.size Tp ord (AI.heap.push {cls:=.type "set_iterator",dict:=L,data:=.fields #[first,.int 0 0,.ref a,.int N.size 0,.int ep 0]}) AI.drawn hn WN RC hp ⟨C0 _ (kp _ _ ho),first,CW _ rfl,hF _ λb o e=>C0 _ e⟩ λb o e=>C0 _ (kp _ _ e);rw[he];exact this
 cases hb:w.params.followText "set-order"with
 |true=>
  simp only[bz0,Bool.false_and,Jh,↓uP];refine A5 (AW (fin a _ s _ ba2 (λ_ _ e=>e) rfl (λh _=>.inl ⟨hb,rfl,0,rfl⟩) (.inl rfl) (EO (Df ho))))|false=>
  simp only[Bool.not_false,Bool.true_and];refine PQ (λGY=>?_) (λGY=>?_)
  . refine A5 (r8 N.size (DQ N.size) s (by simp) λys dr hp=>?_);have hl:ys.length=N.size:=by rw[hp.length_eq,bs1]
    refine A5 (gR ?_ (by rw[Jk,hl];exact hz));have CE:∀p∈ys,p<N.size:=λp m=>P_.mp (hp.mem_iff.mp m);refine fin s.heap.objs.size _ _ (ys.filterMap λp=>N[p]?) ?_ (λb o e=>C0 _ e) rfl (λh k=>.inr (.inr ⟨_,_,_,ys,rfl,?_,k _ _ (CW _ rfl),rfl,?_,?_,?_⟩)) (.inr (GD s.heap)) ?_
    . have :=hp.filterMap λp=>N[p]?;rw[filterMap_getElem?_range]at this;exact this
    rotate_left 4
    . show s.heap.objs.size≠(bD5 _ _).objs.size;rw[IB];exact EO (PG _)
    . show s.heap.objs.size≠(bD5 _ _).objs.size;rw[IB];exact EO (PG _)
    . simp[EQ]
    . exact ba8 CE
    . intro j p rK;have R':p<N.size:=CE p (Es rK);exact⟨N[p],Rh R',by rw[ba9 CE,rK];exact Rh R'⟩
  . have :(!t.plain&&decide (N.size>1))=A6:=by cases q:(!t.plain&&decide (N.size>1))with
 |false=>rfl|true=>exact absurd q GY
    have h1:N.size<=1:=by
      rcases T.plain with z|z;. omega
      . rw[z]at this;simp at this;exact this
    refine A5 (AW (fin a _ s _ (.refl _) (λ_ _ e=>e) rfl (λh _=>.inr (.inl ⟨hb,h1,?_,rfl,0,rfl,?_⟩)) (.inl rfl) (EO (Df ho))));. rw[T.led,hb];rfl
    . have hp:t.place.size=N.size:=by have :=T.fits;simp only[bD2,D2,PJ]at this;exact this.1
      by_cases h0:N.size=0
      . have :t.place=#[]:=bq2 (by(with_reducible exact tj (by assumption) (by assumption)));rw[this];rfl
      . refine xE (rC (t:=t) (by(with_reducible exact Mine.v8 (by assumption) (by assumption) (by assumption)))) ?_;intro j hj;rw[hj];exact rB.1
theorem SW.frame{T:A9}{N:BV (AX×A4)}{t:G0}(A_:SW w T a AD N ep t ord i h)(k:∀b∈[AD,a,T],∀o,h.get? b=G o->Q.get? b=G o):SW w T a AD N ep t ord i Q:=by
 obtain⟨ho,first,By,hF⟩:=A_;refine⟨k a (by simp) _ ho,first,k AD (by simp) _ By,?_⟩;rcases hF with x|x|B5;rotate_left;rotate_left;refine VC B5 ?_;(try clear B5);intro o us n ps e ne g r;rotate_left;. exact .inl x
 . exact .inr (.inl x)
 . exact .inr (.inr ⟨o,us,n,ps,e,ne,k T (by simp) _ g,r⟩)
theorem rL:Lv "set_iterator" "__iter__" "set_iterator.__iter__":=.of (owner:="set_iterator") (n:="__iter__") (by rw[Iw,Ix];kernel_rfl) (by decide+kernel) (by decide+kernel) (by decide+kernel) (by first|exact .inl (by decide+kernel)|exact .inr (by decide+kernel)) (by rw[Iy];kernel_rfl)
theorem bb1:Ln Lp "set_iterator.__iter__"=G E8.«dict_keyiterator.__iter__»:=uN (id':="dict_keyiterator.__iter__") ((V7 _).trans (by kernel_rfl)) (by kernel_rfl) (by decide+kernel) ((V7 _).trans (by kernel_rfl))
theorem bb2(a:A4):Jl "set_iterator.__iter__" ⟨[a],[]⟩:=by unfold Jl;rw[gj (id:="set_iterator.__iter__") (n:=['_','_','r','e','t','i','_','_']) (o:=['r','o','t','a','r','e','t','i','_','t','e','s']) (by kernel_rfl) rA];kernel_rfl
theorem bb3{T:A9}{N:BV (AX×A4)}{t:G0}(hh:A.handled=L)(hf:t.fits N.size=M)(hI:a≠AD)(hl:ord.length=N.size):WalksS prog w A AD [AD,a,T] [AD] (λa b=>b=a) N.size (λi v=>∃e,ord[i]?=G e/\v=e.2) (λi s=>T≠AD/\SW w T a AD N ep t ord i s.heap)where
 sub:=λb hb=>by simp at hb;simp[hb]
 grefl:=λ_=>rfl;gtrans:=λ_ _ _ h1 h2=>h2.trans h1;frame:=λi s Q tk st _ k=>⟨st.1,st.2.frame k⟩;item:=λi s A2 E hi st hQ=>rE hh hf hI st.2 (λe he Q W' sb=>hQ _ _ ⟨e,he,rfl⟩ ⟨st.1,W'⟩ ⟨λb o hb e=>(sb.2 b (λz=>hb (by simp[z]))).trans e,rfl,rfl,rfl,DE _⟩) λhx=>absurd (fS.mp hx) (Nat.not_le.mpr (hl▸hi));done:=λs A2 E st hQ=>rE hh hf hI st.2 (λe he=>absurd (HH.mp he).1 (hl▸Iq _)) λ_ Q eb=>hQ _ ⟨λb o hb e=>eb b o (λz=>hb (by simp[z])) e,rfl,rfl,rfl,DE _⟩;self:=λi s A2 E st hQ=>by
  obtain⟨_,ho,first,By,_⟩:=st;have hT:s.TypeIs (.ref AD) "set_iterator":=⟨_,By,rfl⟩;refine uQ hT rL (Gf rL hT bb1 ?_ (bb2 _));show AG _ _ (ret (.ref AD)) _ _ s;exact AW ⟨_,rfl,"set_iterator",_,hT,Xc.lookup,hQ⟩
theorem bb4{r:A9}{A2:AK->AR->Prop}(hT:s.TypeIs (.ref r) "set")(h:A2 A6 s):AG (AQ prog w) A (gl (.ref r)) A2 E s:=by
 unfold gl;refine A5 (Y7 hT F.slot_set_len.lookup ?_);generalize rM:("set.__len__":DJ)=id0;wp_delta;rw[show fx id0=G ("set","__len__")from by subst rM;decide+kernel];subst rM;refine A5 (Ls (T:="set") (b:=M) hT sub_set_self ?_);refine PQ (λGY=>absurd GY (by decide)) (λ_=>?_);refine PQ (λ_=>?_) (λGY=>absurd (by decide+kernel) GY);refine A5 (Rj hT ?_);exact AW h
theorem bb5{N:I (AX×A4)}(h:∀e∈N,∃x u,e.2=.str x u):Ly (N.map (·.2)) (N.map λe=>strOf e.2):=by induction N with
 |nil=>exact .nil|cons e N ih=>
 refine D9 (h e (Co ..)) ?_;intro x u q;simp only[I9,q];exact .cons x u (ih λe m=>h e (Cp _ m))
theorem bb6{P:I Y}(hh:A.handled=L)(hS:HF prog w (!w.params.followText "set-order") s.heap a P){AV:I A4->AR->Prop}(hR:∀(vs:I A4)(ss:I Y)(s':AR),Ly vs ss->ss.Nodup->(∀x,x∈ss↔x∈P)->(∀b o,s.heap.get? b=G o->s'.heap.get? b=G o)->s'.gens=s.gens->s'.os=s.os->AV vs s'):AG (AQ prog w) A (Y0 (.ref a)) AV E s:=by
 refine Hh hS ?_;(try clear hS);intro N ep t ho T;have hz:N.size<=F6:=gi T.sz;have eH:a≠s.heap.objs.size:=EO (Df ho);unfold Y0;refine A5 (uG (Iv entry_proto_collect' ?_));skip;show AG _ A.in1 (sj []>>=λl=>Kd (.builtin "list.__iadd__" ⟨[l,.ref a],[]⟩)) _ _ s;refine A5 (IA ?_);refine AW ⟨plainId_quiet F.plain_list_iadd _,Iv entry_list_iadd' ?_⟩;skip;have UU:(s.heap.push {cls:=.type "list",data:=.seq ([]:I A4).toArray}).get? s.heap.objs.size=G {cls:=.type "list",data:=.seq #[]}:=CW _ rfl;have OQ:(s.heap.push {cls:=.type "list",data:=.seq ([]:I A4).toArray}).get? a=G {cls:=.type "set",dict:=L,data:=.set N ep t}:=C0 _ ho;show AG _ A.in1 (YU (.ref s.heap.objs.size) (.ref a) (.ref s.heap.objs.size)) _ _ _;unfold YU;refine A5 (Rj (T:="set") ⟨_,OQ,rfl⟩ ?_);have h1:gm (.ref s.heap.objs.size) (.ref a)=A6:=by simp[gm,CV eH]
 have h2:(Ki "set"==Ki "list")=A6:=by decide
 have h3:(Ki "set"==Ki "tuple")=A6:=by decide
 simp only[h1,h2,h3,bD6,Jh,Ji];refine A5 (bb0 (s:={s with heap:=s.heap.push {cls:=.type "list",data:=.seq ([]:I A4).toArray}}) OQ T λAD Tp ord Q dr PA eI RC hp A_ kp=>?_);have PA:(s.heap.push {cls:=.type "list",data:=.seq ([]:I A4).toArray}).get? AD=L:=PA;have eI:Tp=a\/(s.heap.push {cls:=.type "list",data:=.seq ([]:I A4).toArray}).get? Tp=L:=eI;have kp:∀b o,(s.heap.push {cls:=.type "list",data:=.seq ([]:I A4).toArray}).get? b=G o->Q.get? b=G o:=kp;have hl:ord.length=N.size:=by rw[hp.length_eq,V']
 have hIa:a≠AD:=λz=>by rw[<-z,OQ]at PA;(exfalso;cases PA)
 have LH:s.heap.objs.size≠AD:=λz=>by rw[<-z,UU]at PA;(exfalso;cases PA)
 have hTS:s.heap.objs.size≠Tp:=by
   rcases eI with z|z;. rw[z];exact CV eH
   . intro q;rw[<-q,UU]at z;(exfalso;cases z)
 have NA:s.heap.objs.size∉[AD,a,Tp]:=by simp only[Ci,Jo,Jp,gN];exact⟨LH,CV eH,hTS⟩
 have hW:=bb3 (prog:=prog) (w:=w) (A:=A.in1) (ep:=ep) (T:=Tp) (by simp[hh]) T.fits hIa hl;have key:∀(h:BJ)(eJ:O),SW w Tp a AD N ep t ord 0 h->(∀b o,b≠s.heap.objs.size->Q.get? b=G o->h.get? b=G o)->h.get? s.heap.objs.size=G {cls:=.type "list",data:=.seq #[] eJ}->D6 (AQ prog w) A (.builtin "list.extend.loop" ⟨[.ref s.heap.objs.size,.ref AD,.ref s.heap.objs.size],[]⟩) (λq s'=>match q with
 |.ok (.ret v)=>AG (AQ prog w) A (match v with
 |.ref a=>load a>>=λo=>match o.data with
      |.seq U _=>pure U.toList|_=>RN "internal:collect"
 |_=>RN "internal:collect") AV E s'|.ok _=>Bh|.error e=>E e s') {s with heap:=h,drawn:=dr}:=by
   intro h eJ HA hk UU;refine codeAny_extend_loopS hW hz _ NA _ N.size 0 _ #[] eJ rfl (NZ _) ⟨RC,HA⟩ UU (ItemsOf.nil _) λs' IV c' hm FZ OR=>?_;show AG _ A (load s.heap.objs.size>>=_) _ _ _;refine A5 (NN FZ (AW ?_));have hv:IV.toList=ord.map (·.2):=by
    refine List.ext_getElem? λj=>?_;rw[Rl,V3];cases q:IV[j]? with
 |none=>
     have :N.size<=j:=by rw[<-OR.1];simpa using q
     rw[V0 (by rw[hl];exact this)];rfl|some v=>refine AC (OR.2 j v q) ?_;intro e he Av;clear q;subst Av;rw[he];rfl
   rw[hv];have eK:∀e∈ord,∃x u,e.2=.str x u:=λe m=>T.str e (hp.mem_iff.mp m);have rN:(ord.map λe=>strOf e.2).Perm (Ld N):=hp.map _;refine hR _ _ s' (bb5 eK) (rN.nodup_iff.mpr T.nd) (λx=>(rN.mem_iff).trans (T.mem x)) (λb o e=>?_) hm.gens hm.os;have DO:(s.heap.push {cls:=.type "list",data:=.seq ([]:I A4).toArray}).get? b=G o:=C0 _ e;refine hm.heap b o (λz=>?_) (hk b o (EO (Df e)) (kp b o DO));rcases Ci.mp z with z|z;. exact absurd (Df e) (by rw[z];exact Iq _)
   . rw[CH.mp z,PA]at DO;exact(BB DO).elim
 have RD:=kp _ _ UU;refine A5 (C' (bb4 ⟨_,kp _ _ OQ,rfl⟩ ?_));refine PQ (λ_=>?_) (λ_=>AW ⟨plainId_quiet uR _,key _ 0 A_ (λb o _ e=>e) RD⟩);refine A5 (Ge ?_);refine A5 ?_;show AG _ _ (Rk s.heap.objs.size (·.push .none)>>=λ_=>Rk s.heap.objs.size (·.pop)) _ _ _;refine A5 (NY RD rfl ?_);have UV:=FP (GN (·.push Ha)) RD rfl;refine NY (hz:=by seq_fits) UV rfl ?_;have eM:=FP (GN (·.pop)) UV rfl;refine AW ⟨plainId_quiet uR _,key _ _ ?_ (λb o hb e=>?_) eM⟩
 . refine A_.frame λb hb o e=>?_;have rO:b≠s.heap.objs.size:=λh=>NA (h▸hb);exact(GO _ _ (CV rO)).trans ((GO _ _ (CV rO)).trans e)
 . exact(GO _ _ (CV hb)).trans ((GO _ _ (CV hb)).trans e)
end
end
open PyProof.Rows(StrsAre sortedS risingS)
section
theorem bb7{x:A4}(hl:l.length<60)(hc:∀(AV:I A4->AR->Prop)(E:A4->AR->Prop),(∀vs ss s',Ly vs ss->(ss.map tx).Perm l->(∀b o,s.heap.get? b=G o->s'.heap.get? b=G o)->s'.gens=s.gens->s'.os=s.os->AV vs s')->AG (AQ prog w) A.in1 (Y0 x) AV E s)(hQ:∀(D:A9)(us:BV A4)(s':AR)(e:O),s.heap.get? D=L->s'.heap.get? D=G {cls:=.type "list",data:=.seq us e}->(∀b o,s.heap.get? b=G o->s'.heap.get? b=G o)->s'.gens=s.gens->s'.os=s.os->(∀h C,Aa h C ((EY l).map .str) us.toList)->A2 (.ref D) s'):AG (AQ prog w) A (call (.builtin "sorted") [x]) A2 E s:=by
 refine bx1 bx2 bx3 bx4 (bx5 _) ?_;skip;refine A5 (m:=checkCount "sorted" 1 1 _) (AW ?_);refine A5 (hc _ _ λvs ss s' hS hp kp hg ho=>?_);have Cf:vs.length=l.length:=by
   have h1:=hp.length_eq;have h2:vs.length=ss.length:=by clear hp h1;induction hS with|nil=>rfl|cons _ _ _ ih=>simp[ih]
   simp at h1;(with_reducible exact tj (by assumption) (by assumption))
 have hn:s.heap.get? s'.heap.objs.size=L:=by cases e:s.heap.get? s'.heap.objs.size with
 |none=>rfl|some o=>exact absurd (Df (kp _ _ e)) (Iq _)
 refine A5 (tl ?_ (by rw[Cf];exact B2 (show l.length<=60 by(with_reducible exact Gb (by assumption))) (by decide)));have K9:(s'.heap.push {cls:=.type "list",data:=.seq vs.toArray}).get? s'.heap.objs.size=G (tm "list" vs.toArray 0):=CW _ rfl;refine A5 (C' (Gf to ⟨_,K9,rfl⟩ tp (bx6 bx7 K9 hS.keysOf (λHp ak2 C4 e=>bx8 (by rw[<-e];exact hS)) (by omega) λbZ a1 a2=>⟨_,rfl,?_⟩) (tq _)));refine CX (bx9 hS a1 a2) ?_;intro OS h1 h2 h3;have key:OS.map tx=EY l:=mO h3 ((h2.map tx).trans hp);refine xE (tu (vs:=vs) (out:=(by0 bZ).map (·.2)) K9) ?_;intro e he;refine AW ⟨_,rfl,hQ s'.heap.objs.size _ _ e hn he (λb o q=>?_) hg ho λh C=>?_⟩
 . have lt:=Df (kp _ _ q);rw[tv (EO lt) (by rw[IB];exact f1 lt)];exact C0 _ (kp _ _ q)
 . rw[<-key];exact bY h1
end
section
variable{CQ:Kx->Cd->Mine.St->AL A1}
theorem Gd.bb8(g:Gd B F K A H C s)(hh:s'.heap=s.heap)(ho:s'.os=s.os)(hg:s'.gens=s.gens):Gd B F K A H C s':=⟨g.kinds,g.len,g.nodup,g.fresh,hh▸g.live,hh▸g.D4,hh▸g.D0,hh▸g.objs,hh▸g.env,hh▸g.base,ho.trans g.os,hg.trans g.gens,g.frames,hh▸g.DN,hh▸g.Cw,g.mods,g.handled,g.depth,g.units⟩
theorem rP{Bj:Gl B A3}{y:AB}{w:A4}(hg:Dl K.sc id=M)(hw:Ai A3.glob id=G (.top w))(hc:∀h,CU (AQ B.prog B.w) h w)(hp:CP y=M)(g:Gd B F K A H C s)(h:∀BE EJ,Gd B F K A H BE EJ->Nx F.D [] s.heap EJ.heap C BE->AG (AQ B.prog B.w) A (eval y F.env) (λu s'=>AG (AQ B.prog B.w) A (CD w [u]) A2 E s') E EJ):AG (AQ B.prog B.w) A (eval (.Call (.Name id p) [y] [] pos) F.env) A2 E s:=by exact WW (Bj:=Bj) hg hw (show(CP y&&M)=M by rw[hp];rfl) g λAZ AI AN Ab=>Lk (Fd (h AZ AI AN Ab) (λu s' q=>Ub ⟨hc _,q⟩) λ_ _ e=>e) (K4 hp)
set_option tactic.hygienic true in
theorem Xd:∀{l:I Tx}{x:Tx},x∈Hk l↔x∈l
 |[],x=>V2|y::l,x=>by
  unfold Hk;split
  . rename_i h;refine AC (IC.mp h) ?_;intro z hz e;rw[Xd,Ci];refine⟨.inr,λq=>q.elim (λq=>?_) id⟩;rw[q,EZ.mp e];exact Xd.mp hz
  . rw[Ci,Xd,Ci]
set_option tactic.hygienic true in
theorem eN:∀{l:I Tx},(Hk l).Nodup
 |[]=>HI|y::l=>by
  unfold Hk;split;. exact eN
  . rename_i h;refine ER.mpr ⟨λm=>?_,eN⟩;have :=Xw.mp h y m;exact this (EZ.mpr rfl)
theorem eO:∀{l:I Tx},(Hk l).length<=l.length
 |[]=>DE _|y::l=>by
  unfold Hk;split;. exact gZ eO
  . exact Lh eO
theorem bb9:Function.Injective tx:=λa b h=>by
 obtain⟨⟨a⟩⟩:=a;obtain⟨⟨b⟩⟩:=b;have :a=b:=h;rw[this]
theorem bc0{ss:I Y}(nd:ss.Nodup)(hm:∀x,x∈ss↔x∈l.map λx=>(⟨⟨x⟩⟩:Y)):(ss.map tx).Perm (Hk l):=by
 refine(bB2 ?_ eN).mpr λx=>?_
 . rw[u8,fc];exact nd.imp λh e=>h (bb9 e)
 . rw[Xd,Dz];constructor
   . rintro⟨y,hy,rfl⟩;refine AC (Dz.mp ((hm y).mp hy)) ?_;intro z hz Av;subst Av;exact hz
   . intro hx;exact⟨⟨⟨x⟩⟩,(hm _).mpr (Dz.mpr ⟨x,hx,rfl⟩),rfl⟩
theorem bc1{f x:AB}{args:I AB}(h:Ze f args=G x):∃p p2 UW,f=.Name Q2 p/\args=[.Call (.Name Za p2) [x] [] UW]:=by
 apply Cs h AE;intro c h;apply M0 h AE;intro g a k pos h;apply Cs h AE;intro y h;apply ET h AE;intro h;refine Cj h AE λq h=>?_;apply QV (B' q);intro p;apply QV (Ak q);intro p2;apply Bq h.symm;exact⟨p,p2,pos,rfl,rfl⟩
theorem rQ(AU:(Ba P).In B.base):bh B (Fq on CQ):=by
 intro n A8 K f x args pos v F A H A7 C s hp hf hs h g A2 E k;refine Hh (bc1 hs) ?_;intro p p2 UW B5 BI;subst B5;subst BI;refine A1.Bb h ?_;clear h;intro hc h;simp only[D2]at hc;refine xA hc ?_;(try clear hc);intro BO h3;refine xA BO ?_;(try clear BO);intro h1 h2;refine A1.Ce h ?_;clear h;intro w AA hx h;revert hx;apply A1.MJ h;clear h;intro i U hi h hx;refine A1.Bw h ?_;clear h;intro l hl h;refine A1.Bb h ?_;clear h;intro eP h;(first|(revert k;(first|apply BW h|apply B4 h|apply BX h|apply BY h|apply BZ h);intro k)|apply BW h|apply B4 h|apply BX h|apply BY h|apply BZ h);have eP:l.length<60:=Di eP;refine rP (A3:=Fq on CQ) (Bj:=GH AU) h1 (w:=.builtin "sorted") (by kernel_rfl) (λ_=>CU.builtin) rfl g λBE EJ FY Cq=>?_;refine bL (A3:=Fq on CQ) (Bj:=GH AU) (vs:=[.ref i]) (w:=.type "set") h2 (by kernel_rfl) (λ_=>CU.type) (by simp[h3]) FY (λAZ AI p AN Ab=>WV h3 (A8.e hx AN) p) λus As Ah AT Al BA=>?_;refine Bu BA ?_;(try clear BA);intro u us Bf ru e;subst Bf;cases e;refine Bu (AT.listAt ru hi) ?_;intro a us Br pl vr;subst Br;rw[OI hl]at vr;have eK:=mP vr;refine ba0 AT.handled (by simpa using pl.isList) eK (by rw[Jk];unfold Pa;(with_reducible exact Ip (Nat.succ_lt_succ (by assumption)) (by decide))) λQ tk hS kp=>?_;refine bb7 (l:=Hk l) (Gy eO eP) (λAV E k=>?_) λD Dv s' e hn hd TV hg ho hv=>?_;. refine bb6 (by simp[AT.handled]) hS λvs ss s' hs nd hm kp hg ho=>k vs ss s' hs (bc0 nd hm) kp hg ho
 . have kk:∀b o,Ah.heap.get? b=G o->s'.heap.get? b=G o:=λb o e=>TV b o (kp b o e);have O0:Ah.heap.get? D=L:=by cases q:Ah.heap.get? D with
 |none=>rfl|some o=>have :=kp _ _ q;rw[hn]at this;exact(BB this).elim
   refine xA (AT.newList (tk:=Ah.toks) O0 hd kk hv) ?_;intro g' x';exact k _ _ _ (g'.bb8 rfl ho hg) (Cq.trans (Al.trans x')) ⟨_,AT.LC,rfl⟩
end
noncomputable def rR(A8:Ar):AL Ar:=Rs A8 L λt b e _=>HN t L λc _ _=>l1 b L λb=>l0 e L (bT (decide (c=.bool M)) L (G b))
theorem bc2{b:Ar}(h:rR A8=G b):∃k p1 p2,A8=.While (.Constant (.bool M) k p1) [b] [] p2:=by
 apply gx h AE;intro t b e p h;apply Iz h AE;intro c k p1 h;apply Cs h AE;intro b h;apply ET h AE;intro h;refine Cj h AE λq h=>?_;apply IF q;apply Bq h.symm;exact⟨_,_,_,rfl⟩
section
variable{Au:I Tx}{tr N0 N1 if1 N2 N3 N4 if2 N5 N6 N7 N8:Ar}{t1 t2:AB}
theorem bc3(SB:XX B)(SK:R1 K.sc)(D:eA tr N0 N1 if1 N2 N3 N4 if2 N5 N6 N7 N8 tf Ku JF JG K2 ext2 brk t1 t2)(hX:AF.length<=100000)(hY:An.length<=100000)(hF:F.outs=F.env::C4)(hf:F.env.frame=G F.env.locals):∀(m:O){i j:O}{Au CL:I Tx}{s:AR},AF.length-i+(An.length-j)<=m->m<=200000->i<=AF.length->j<=An.length->Au.length<=i->CL.length<=j->Gd B F K A ⟨Fc i j,DI AF An Au CL,4⟩ C s->Nx F.D F.A_ Af s.heap BE C->∀{AV:Dq->AR->Prop},(∀i' j' s',Gd B F K A ⟨Fc i' j',DI AF An (Au++(D3 m (AF.drop i) (An.drop j)).1) (CL++(D3 m (AF.drop i) (An.drop j)).2),4⟩ C s'->Nx F.D F.A_ Af s'.heap BE C->AV (.ok .next) s')->D6 (AQ B.prog B.w) A (.whileLoop (.Constant (.bool M) k0 p) [tr] [] F.env) AV s:=by
 intro m;induction m with
 |zero=>
  intro i j Au CL s hm hm2 hi hj hM hU g Cv AV kk;refine Vy (sY (sU (NM ?_)));skip;exact DF (qp SB SK D hX hY (by(with_reducible exact Mine.ve (by assumption) (by assumption) (by assumption))) (by(with_reducible exact Mine.uz (by assumption) (by assumption) (by assumption))) hi hj hm (by(with_reducible exact B2 (by assumption) (B2 (by assumption) (by assumption)))) (by(with_reducible exact B2 (by assumption) (B2 (by assumption) (by assumption)))) hF hf g Cv (λk i' j' M' U' s' hk=>by(exfalso;cases hk)) (λi' j' s' g' N'=>kk i' j' s' g' N'))|succ m ih=>
  intro i j Au CL s hm hm2 hi hj hM hU g Cv AV kk;refine Vy (sY (sU (NM ?_)));skip;refine DF (qp SB SK D hX hY (by omega) (by(with_reducible exact Mine.uy (by assumption) (by assumption) (by assumption) (by assumption))) hi hj hm (by(with_reducible exact B2 (by assumption) (B2 (by assumption) (by assumption)))) (by(with_reducible exact B2 (by assumption) (B2 (by assumption) (by assumption)))) hF hf g Cv (λk i' j' M' U' s' hk h1 h2 h3 h4 h5 h6 h7 g' N'=>Fz ?_) (λi' j' s' g' N'=>kk i' j' s' g' N'));injection hk with hk;subst hk;exact ih h3 (by(with_reducible exact uI (by assumption))) h1 h2 (by(with_reducible exact Mine.iG (by assumption) (by assumption))) (by(with_reducible exact Mine.iG (by assumption) (by assumption))) g' N' λi'' j'' KY Ow UM=>kk i'' j'' KY (by rw[h6,h7];exact Ow) UM
end
noncomputable def I6(k:O):Ar:=(Fg (B_ 26))[k]?.getD (.Pass ⟨0,0,0,0⟩)
noncomputable def Fw(l:I Ar)(k:O):Ar:=l[k]?.getD (.Pass ⟨0,0,0,0⟩)
noncomputable def whB(A8:Ar):I Ar:=Rs A8 [] λ_ b _ _=>b
noncomputable def Xe(A8:Ar):I Ar:=Nc A8 [] λb _ _ _ _=>b
noncomputable def rT(A8:Ar):I Ar:=Nc A8 [] λ_ _ _ f _=>f
noncomputable def eQ(A8:Ar):I Ar:=Nc A8 [] λ_ h _ _ _=>l1 h [] λh=>Y_ h λ_ _ b _=>b
noncomputable def RE(A8:Ar):I Ar:=Js A8 [] λ_ a _ _=>a
noncomputable def eR(A8:Ar):I Ar:=Js A8 [] λ_ _ b _=>b
noncomputable def rU(A8:Ar):AB:=Js A8 (.Constant .none 0 ⟨0,0,0,0⟩) λt _ _ _=>t
noncomputable def NC:Ar:=Fw (whB (I6 4)) 0
noncomputable def RF:Ar:=Fw (Xe NC) 2
noncomputable def PB:Ar:=Fw (eR RF) 0
noncomputable def Xf:Ar:=Fw (eR PB) 1
theorem bc4:Fg (B_ 26)=[I6 0,I6 1,I6 2,I6 3,I6 4,I6 5]:=by kernel_rfl
theorem bc5:eA NC (Fw (Xe NC) 0) (Fw (Xe NC) 1) RF (Fw (RE RF) 0) (Fw (RE RF) 1) (Fw (RE RF) 2) PB (Fw (RE PB) 0) (Fw (RE PB) 1) (Fw (RE PB) 2) (Fw (eR PB) 0) Xf (Fw (Xe Xf) 0) (Fw (rT Xf) 0) (Fw (rT Xf) 1) (Fw (eQ NC) 0) (Fw (eQ NC) 1) (Fw (eQ NC) 2) (rU RF) (rU PB):=⟨by kernel_rfl,by kernel_rfl,by kernel_rfl,by kernel_rfl,by kernel_rfl,by kernel_rfl,by kernel_rfl,by kernel_rfl,by kernel_rfl,by kernel_rfl,by kernel_rfl,by kernel_rfl,by kernel_rfl,by kernel_rfl,by kernel_rfl,by kernel_rfl,by kernel_rfl,by kernel_rfl,by kernel_rfl,by kernel_rfl,by kernel_rfl⟩
theorem bc6:rR (I6 4)=G NC:=by kernel_rfl
noncomputable def Le:BS:=BU (B_ 26)
theorem bc7:R1 Le:=⟨by kernel_rfl,by kernel_rfl,by kernel_rfl,by kernel_rfl,by kernel_rfl,by kernel_rfl,by kernel_rfl,by kernel_rfl,by kernel_rfl,by kernel_rfl,by kernel_rfl,by kernel_rfl,by kernel_rfl⟩
noncomputable abbrev ND:Mine.Ctx:=Fq A6 λ_ _ _=>L
theorem bc8{h:I (O×Ob)}:ev ND 30 ⟨Le,d⟩ (.s (I6 0)) ⟨[(Fb,.ref 0),(FN,.ref 1)],h,2⟩=.ok (.f .next) ⟨[(Fb,.ref 0),(FN,.ref 1)],h,2⟩:=by kernel_rfl
theorem bc9{h:I (O×Ob)}:ev ND 30 ⟨Le,d⟩ (.s (I6 1)) ⟨[(Fb,.ref 0),(FN,.ref 1)],h,2⟩=.ok (.f .next) ⟨[(Fb,.ref 0),(FN,.ref 1),(Fu,.int 0),(F3,.int 0)],h,2⟩:=by kernel_rfl
theorem bd0{h:I (O×Ob)}:ev ND 30 ⟨Le,d⟩ (.s (I6 2)) ⟨[(Fb,.ref 0),(FN,.ref 1),(Fu,.int 0),(F3,.int 0)],h,2⟩=.ok (.f .next) ⟨[(Fb,.ref 0),(FN,.ref 1),(Fu,.int 0),(F3,.int 0),(KZ,.ref 2)],(2,.list [])::h,3⟩:=by kernel_rfl
theorem bd1{h:I (O×Ob)}:ev ND 30 ⟨Le,d⟩ (.s (I6 3)) ⟨[(Fb,.ref 0),(FN,.ref 1),(Fu,.int 0),(F3,.int 0),(KZ,.ref 2)],h,3⟩=.ok (.f .next) ⟨[(Fb,.ref 0),(FN,.ref 1),(Fu,.int 0),(F3,.int 0),(KZ,.ref 2),(Mz,.ref 3)],(3,.list [])::h,4⟩:=by kernel_rfl
theorem bd2{h:I (O×Ob)}:ev ND 30 ⟨Le,d⟩ (.s (I6 5)) ⟨Fc i j,h,4⟩=.ok (.f (.ret (.tup L [.ref 2,.ref 3]))) ⟨Fc i j,h,4⟩:=by kernel_rfl
theorem bd3:Lv "map" "__init__" "object.__init__":=.of (owner:="object") (n:="__init__") (by rw[Iw,Ix];kernel_rfl) (by decide+kernel) (by decide+kernel) (by decide+kernel) (by first|exact .inl (by decide+kernel)|exact .inr (by decide+kernel)) (by rw[Iy];kernel_rfl)
theorem UX:Lv "map" "__next__" "map.__next__":=.of (owner:="map") (n:="__next__") (by rw[Iw,Ix];kernel_rfl) (by decide+kernel) (by decide+kernel) (by decide+kernel) (by first|exact .inl (by decide+kernel)|exact .inr (by decide+kernel)) (by rw[Iy];kernel_rfl)
theorem rW:Lv "map" "__iter__" "map.__iter__":=.of (owner:="map") (n:="__iter__") (by rw[Iw,Ix];kernel_rfl) (by decide+kernel) (by decide+kernel) (by decide+kernel) (by first|exact .inl (by decide+kernel)|exact .inr (by decide+kernel)) (by rw[Iy];kernel_rfl)
theorem rX:Ln Lp "map.__next__"=G E8.«map.__next__»:=Y' (by kernel_rfl)
theorem bd4:Ln Lp "map.__new__"=G E8.«map.__new__»:=Y' (by kernel_rfl)
theorem bd5:Ln Lp "map.__iter__"=G E8.«dict_keyiterator.__iter__»:=uN (id':="dict_keyiterator.__iter__") ((V7 _).trans (by kernel_rfl)) (by kernel_rfl) (by decide+kernel) ((V7 _).trans (by kernel_rfl))
theorem rY:bD1.lookup (sN ['p','a','m'].reverse)=G Manifest.sig_map:=by kernel_rfl
theorem rZ(a:A4):Jl "map.__next__" ⟨[a],[]⟩:=by unfold Jl;rw[gj (id:="map.__next__") (n:=['_','_','t','x','e','n','_','_']) (o:=['p','a','m']) (by kernel_rfl) rY];kernel_rfl
theorem bd6(a:A4):Jl "map.__iter__" ⟨[a],[]⟩:=by unfold Jl;rw[gj (id:="map.__iter__") (n:=['_','_','r','e','t','i','_','_']) (o:=['p','a','m']) (by kernel_rfl) rY];kernel_rfl
theorem r_:mroOf (.type "map")=pure [.type "map",.type "object"]:=by rw[mroOf_type];kernel_rfl
theorem bd7:PW (.type "map") "__new__"=pure (G (.builtin "map.__new__")):=by rw[Iw,Ix];kernel_rfl
theorem bd8:TypeCalled "map" "map.__new__" "object.__init__":=⟨by decide+kernel,by decide+kernel,⟨_,_,r_⟩,madeBy_type r_ bd7 (by decide+kernel),by decide+kernel,by rw[Iy];kernel_rfl,bd3⟩
theorem bd9(a b:A4):bC4 "map" ⟨[a,b],[]⟩=pure ():=by kernel_rfl
theorem be0(a b:A4):fw "map.__new__" ⟨[.type "map",a,b],[]⟩=pure ():=by kernel_rfl
theorem be1:Ri (.type "map") (.type "map")=pure M:=by rw[Iy];kernel_rfl
theorem be2:PW (.type "map") "__len__"=pure L:=by rw[Iw,Ix];kernel_rfl
theorem be3:PW (.type "map") "__length_hint__"=pure L:=by rw[Iw,Ix];kernel_rfl
noncomputable abbrev NE(h:BJ)(z TI it:A9)(f:A4):Prop:=h.get? z=G {cls:=.type "map",dict:=L,data:=.fields #[.ref TI,f],slots:=#[]}/\h.get? TI=G {cls:=.type "tuple",data:=.seq #[.ref it]}
noncomputable abbrev NF(h:BJ)(l:A9):BJ:=h.push {cls:=.type "list_iterator",data:=.fields #[.ref l,.int 0 0]}
noncomputable abbrev PC(h:BJ)(l:A9):BJ:=(NF h l).push {cls:=.type "tuple",data:=.seq #[.ref h.objs.size]}
noncomputable abbrev Xg(h:BJ)(l:A9)(f:A4):BJ:=(PC h l).push {cls:=.type "map",data:=.fields #[.ref (NF h l).objs.size,f]}
theorem be4(f:A4)(l:A9)(U:BV A4):Ux (E8.«map.__new__» ⟨[.type "map",f,.ref l],[]⟩) (λ_ AV s=>s.heap.IsList l U/\AV (.ok (.ret (.ref (PC s.heap l).objs.size))) {s with heap:=Xg s.heap l f}):=.of_wp λprog w A AV s h=>by
 obtain⟨hp,g,d,tk,os⟩:=s;refine xA h ?_;(try clear h);intro Ed h;have LD:=be1;have qQ:Heap.IsList (Shared.heap ⟨hp,g,d,tk,os⟩) l U:=Ed;wp_walk using fU qQ;exact⟨_,rfl,h⟩
section
theorem be5{f:A4}{l:A9}{U:BV A4}(hl:s.heap.IsList l U)(h:∀Q z TI it,s.heap.get? z=L->s.heap.get? TI=L->s.heap.get? it=L->z≠TI->z≠it->TI≠it->NE Q z TI it f->Q.IsListIter it l 0->(∀c o,s.heap.get? c=G o->Q.get? c=G o)->A2 (.ref z) {s with heap:=Q}):AG (AQ prog w) A (call (.type "map") [f,.ref l]) A2 E s:=by
 refine callType_new bd8 (by decide) (bd9 _ _) (be0 _ _) (λobj=>F.args_object_init_3 obj _ _) bd4 (be4 f l U) ⟨hl,?_⟩;have z1:(NF s.heap l).objs.size=s.heap.objs.size+1:=IB ..;have z2:(PC s.heap l).objs.size=s.heap.objs.size+2:=by rw[IB,z1]
 have g3:(Xg s.heap l f).get? (PC s.heap l).objs.size=G _:=CW _ rfl;have g2:(Xg s.heap l f).get? (NF s.heap l).objs.size=G _:=C0 _ (CW _ rfl);have g1:(Xg s.heap l f).get? s.heap.objs.size=G _:=C0 _ (C0 _ (CW _ rfl));show _/\_;have l1:s.heap.objs.size<=(NF s.heap l).objs.size:=by rw[z1];exact Gz ..
 have l2:s.heap.objs.size<=(PC s.heap l).objs.size:=by rw[z2];exact Gz ..
 have n1:(PC s.heap l).objs.size≠(NF s.heap l).objs.size:=by rw[z2,z1];exact tR _
 have n2:(PC s.heap l).objs.size≠s.heap.objs.size:=by rw[z2];exact PN (Nat.lt_add_of_pos_right (by decide))
 have n3:(NF s.heap l).objs.size≠s.heap.objs.size:=by rw[z1];exact tR _
 exact⟨⟨_,g3,rfl⟩,h _ _ (NF s.heap l).objs.size s.heap.objs.size (gn l2) (gn l1) (gn (DE _)) n1 n2 n3 ⟨g3,g2⟩ ⟨_,g1,rfl,rfl⟩ λc o x=>C0 _ (C0 _ (C0 _ x))⟩
theorem be6{it l:A9}{f x:A4}{k:O}{U:BV A4}{A2:AL A4->AR->Prop}(hm:NE s.heap z TI it f)(Cb:z≠it)(bJ7:TI≠it)(hi:s.heap.IsListIter it l k)(hl:s.heap.IsList l U)(hx:U[k]?=G x)(h:∀Q,E2 it s.heap Q->Q.IsListIter it l (k+1)->AG (AQ prog w) A.in1 (call f [x]) (λv s'=>A2 (G v) s') (λ_ _=>Bh) {s with heap:=Q}):AG (AQ prog w) A (EP (.ref z)) A2 E s:=by
 have hT:s.TypeIs (.ref z) "map":=⟨_,hm.1,rfl⟩;unfold EP;refine A5 (Rc (Lm (name:=Er "__next__") hT UX (Gf UX hT rX ?_ (rZ _))));show AG _ _ (Ke (.ref z) 0>>=_) _ _ _;refine A5 (Gh hm.1 rfl (x:=.ref TI) rfl ?_);refine A5 (NX hm.2 rfl ?_);simp only[<-th,RT,gW];refine A5 (A5 (A5 (C' (wpAny_nextOf_list_item hi hl hx λQ QA hs=>AW (AW ?_)))));show AG _ _ (Ke (.ref z) 1>>=_) _ _ _;refine A5 (Gh ((hs.2 z Cb).trans hm.1) rfl (x:=f) rfl ?_);exact A5 (C' (Fd (h Q hs QA) (λv s' hq=>A5 (PX (AW ⟨v,rfl,AW hq⟩))) λ_ _ q=>q.elim))
theorem be7{it l:A9}{f:A4}{k:O}{U:BV A4}{A2:AL A4->AR->Prop}(hh:A.handled=L)(hm:NE s.heap z TI it f)(hi:s.heap.IsListIter it l k)(hl:s.heap.IsList l U)(hx:U[k]?=L)(h:∀Q,Dp it s.heap Q->A2 L {s with heap:=Q}):AG (AQ prog w) A (EP (.ref z)) A2 E s:=by
 have hT:s.TypeIs (.ref z) "map":=⟨_,hm.1,rfl⟩;unfold EP;refine A5 (Rc (Lm (name:=Er "__next__") hT UX (Gf UX hT rX ?_ (rZ _))));show AG _ _ (Ke (.ref z) 0>>=_) _ _ _;refine A5 (Gh hm.1 rfl (x:=.ref TI) rfl ?_);refine A5 (NX hm.2 rfl ?_);simp only[<-th,RT,gW];refine A5 (A5 (A5 (C' (wpAny_nextOf_list_end (by simp[hh]) hi hl hx λQ e hs he=>?_))));refine AC he ?_;(try clear he);intro o ho hc;refine A5 (Ls (T:="StopIteration") (b:=M) ⟨o,ho,hc⟩ g6 ?_);exact AW (h _ hs)
theorem be8{it:A9}{f:A4}(hm:NE s.heap z TI it f)(h:A2 (.ref z) s):AG (AQ prog w) A (PK (.ref z)) A2 E s:=by
 have hT:s.TypeIs (.ref z) "map":=⟨_,hm.1,rfl⟩;refine uQ hT rW (Gf rW hT bd5 ?_ (bd6 _));show AG _ _ (ret (.ref z)) _ _ s;exact AW ⟨_,rfl,"map",_,hT,UX.lookup,h⟩
theorem be9{it:A9}{f:A4}{A2:AK->AR->Prop}(hm:NE s.heap z TI it f)(h:A2 M s):AG (AQ prog w) A (gl (.ref z)) A2 E s:=by
 have hT:s.TypeIs (.ref z) "map":=⟨_,hm.1,rfl⟩;unfold gl;refine A5 (Y7 hT be2 ?_);show AG _ _ (NV (Jm z) (Er "__length_hint__")>>=_) _ _ _;exact A5 (Y7 hT be3 (AW h))
theorem bf0{it:A9}{f:A4}(hm:NE s.heap z TI it f)(h:∀Q D c,s.heap.get? D=L->Q.get? D=G {cls:=.type "list",data:=.seq #[] c}->(∀b o,s.heap.get? b=G o->Q.get? b=G o)->D6 (AQ prog w) A.in1 (.builtin "list.extend.loop" ⟨[.ref D,.ref z,.none],[]⟩) (λr s'=>match r with|.ok (.ret v)=>v=.none/\A2 (.ref D) s'|.ok _=>Bh|.error e=>E e s') {s with heap:=Q}):AG (AQ prog w) A (call (.type "list") [.ref z]) A2 E s:=by
 refine callType_codes (Q₁:=λobj AI=>obj=.ref s.heap.objs.size/\AI={s with heap:=s.heap.push {cls:=.type "list",data:=.seq #[]}}) F.called_list (F.typeCall_list_1 _) F.entry_list_init (code_list_new _ ⟨rfl,rfl⟩) λobj AI AP=>?_;refine xA AP ?_;(try clear AP);intro Av B5;subst Av;subst B5;have hS:(s.heap.push {cls:=.type "list",data:=.seq #[]}).get? s.heap.objs.size=G {cls:=.type "list",data:=.seq #[]}:=CW _ rfl;have hn:s.heap.get? s.heap.objs.size=L:=gn (DE _);refine⟨⟨_,hS,rfl⟩,F.args_list_init_2 _ _,?_⟩;show AG _ A.in1.in1 (do let GG<-bD7 (.ref s.heap.objs.size);bP5 (.ref s.heap.objs.size) (λ_=>#[]);letGo GG.toList.reverse;YU (.ref s.heap.objs.size) (.ref z) .none) _ _ _;refine A5 ?_;unfold bD7;refine A5 (NX hS rfl (AW ?_));show AG _ A.in1.in1 (Rk s.heap.objs.size (λ_=>#[])>>=λ_=>letGo (#[]:BV A4).toList.reverse>>=λ_=>YU (.ref s.heap.objs.size) (.ref z) .none) _ _ _;refine A5 (NY hS rfl ?_);have RD:=FP (GN (λ_=>(#[]:BV A4))) hS rfl;have eS:∀b o,s.heap.get? b=G o->((s.heap.push {cls:=.type "list",data:=.seq #[]}).update s.heap.objs.size (GN (λ_=>(#[]:BV A4)))).get? b=G o:=λb o e=>(GO _ _ (CV (EO (Df e)))).trans (C0 _ e);refine A5 (PX ?_);have eU:NE ((s.heap.push {cls:=.type "list",data:=.seq #[]}).update s.heap.objs.size (GN (λ_=>(#[]:BV A4)))) z TI it f:=⟨eS _ _ hm.1,eS _ _ hm.2⟩;unfold YU;refine A5 (Rj (T:="map") ⟨_,eU.1,rfl⟩ ?_);have bf1:s.heap.objs.size≠z:=CV (EO (Df hm.1));have h1:gm (.ref s.heap.objs.size) (.ref z)=A6:=by simp[gm,bf1]
 have h2:(Ki "map"==Ki "list")=A6:=by decide
 have h3:(Ki "map"==Ki "tuple")=A6:=by decide
 simp only[h1,h2,h3,bD6,Jh,Ji];refine A5 (be8 eU ?_);refine A5 (C' (be9 eU ?_));show AG _ _ (Y8 "list.extend.makes-room">>=λ_=>bP6 (.ref s.heap.objs.size)>>=λ_=>Kd (.builtin "list.extend.loop" ⟨[.ref s.heap.objs.size,.ref z,.none],[]⟩)) _ _ _;refine A5 (Ge ?_);refine A5 ?_;show AG _ _ (Rk s.heap.objs.size (·.push .none)>>=λ_=>Rk s.heap.objs.size (·.pop)) _ _ _;refine A5 (NY RD rfl ?_);have UV:=FP (GN (·.push Ha)) RD rfl;refine NY (hz:=by seq_fits) UV rfl ?_;have eM:=FP (GN (·.pop)) UV rfl;refine AW ⟨plainId_quiet uR _,uL (h _ s.heap.objs.size _ hn eM λb o e=>?_) λr s' hr=>?_⟩
 . have hb:s.heap.objs.size≠b:=CV (EO (Df e));rw[GO _ _ hb,GO _ _ hb];exact eS b o e
 . cases r with
 |error e=>exact hr|ok fl=>cases fl<;>exact hr
end
noncomputable def eV:Y:=⟨⟨[95,109,97,107,101]⟩⟩
theorem bf2:readsIn (Ba P) 135 (.type "type")=M:=by kernel_rfl
theorem bf3:t7 (Ba P) (.ref 135) (.type "type") eV=G (.get (.builtin "classmethod.__get__") (.ref 91) .none (.ref 135)):=by kernel_rfl
theorem bf4:recIn (Ba P) 91 "classmethod"=G [.ref 89,.bool A6]:=by kernel_rfl
theorem bf5{f x:AB}{args:I AB}(h:Zf f args=G x):∃p p2 p3 p4 UW,f=.Name Zc p/\args=[.Call (.Name Zd p2) [.Attribute (.Name SS p3) eV p4,x] [] UW]:=by
 apply Cs h AE;intro c h;apply M0 h AE;intro g a k pos h;apply FQ h AE;intro m a h;apply Cs h AE;intro y h;apply Rq h AE;intro o a p4 h;apply ET h AE;intro h;refine Cj h AE λq h=>?_;apply QV (B' q);intro p;apply QV (B' (Ak q));intro p2;apply QV (B' (Ak (Ak q)));intro p3;rw[E0.mp (Ak (Ak (Ak q)))];apply Bq h.symm;exact⟨p,p2,p3,p4,pos,rfl,rfl⟩
section
variable{CQ:Kx->Cd->Mine.St->AL A1}
theorem bf6{Bj:Gl B A3}{y z:AB}{w:A4}(hg:Dl K.sc id=M)(hw:Ai A3.glob id=G (.top w))(hc:∀h,CU (AQ B.prog B.w) h w)(hp:CP y=M)(rc:CP z=M)(g:Gd B F K A H C s)(h:∀BE EJ,Gd B F K A H BE EJ->Nx F.D [] s.heap EJ.heap C BE->AG (AQ B.prog B.w) A (eval y F.env) (λu s'=>AG (AQ B.prog B.w) A (eval z F.env) (λu' KY=>AG (AQ B.prog B.w) A (CD w [u,u']) A2 E KY) E s') E EJ):AG (AQ B.prog B.w) A (eval (.Call (.Name id p) [y,z] [] pos) F.env) A2 E s:=by exact WW (Bj:=Bj) hg hw (show(CP y&&(CP z&&M))=M by rw[hp,rc];rfl) g λAZ AI AN Ab=>Lk (Fd (h AZ AI AN Ab) (λu s' q=>Lk (Fd q (λu' KY q'=>Ub ⟨hc _,q'⟩) λ_ _ e=>e) (K4 rc)) λ_ _ e=>e) (K4 hp)
theorem bf7(on:AK)(CQ:Kx->Cd->Mine.St->AL A1)(AU:(Ba P).In B.base)(hM:Dl K.sc SS=M)(g:Gd B F K A H C s)(k:∀AZ AI m,Gd B F K A H AZ AI->Nx F.D [] s.heap AI.heap C AZ->s.heap.get? m=L->CM B F AZ AI.heap m->AI.heap.get? m=G (gq (.ref 89) (.ref 135))->A2 (.ref m) AI):AG (AQ B.prog B.w) A (eval (.Attribute (.Name SS p3) eV p4) F.env) A2 E s:=by
 have hn:=lw (A3:=Fq on CQ) (H:=H) (p:=p3) (w:=.ref 135) hM (by kernel_rfl);skip;refine A5 (b5 (GH (on:=on) (CQ:=CQ) AU) hn g _ _ λu AZ AI AN Ab Ap=>A5 (Eh (A5 (C' ?_))));cases Ap;have re:(Ba P).In AI.heap:=λb o e=>AN.base b o (AU b o e);have kp:∀b o,AI.heap.get? b=G o->(AI.heap.push (gq (.ref 89) (.ref 135))).get? b=G o:=λb o e=>C0 _ e;have hg:=CW AI.heap (o:=gq (.ref 89) (.ref 135)) rfl;refine cls_bind re bf2 bf3 (HL (cm_get (s:={AI with toks:=AI.toks+1}) re bf4 (handed_on rfl ?_)));exact A5 (bt9 (AW (k AZ _ _ (AN.ext (tk:=AI.toks+1) kp) (Ab.trans (Nx.ext kp)) (H8 Ab.live (GD _)) (AN.freeOf (GD _) ⟨_,hg⟩) hg)))
theorem Gr.push{w:A4}(a:Gr B F C h D Am)(r:VR h C v w):∃us m,h.get? D=G {cls:=.type "list",data:=.seq us m}/\us.size=Am.length/\(∀Q,E2 D h Q->Q.get? D=G (GN (λx=>x.push w) {cls:=.type "list",data:=.seq us m})->Gr B F C Q D (Am++[v])):=by
 refine Hg a ?_;(try clear a);intro fr us Av vr;refine xE Av ?_;(try clear Av);intro m e;refine⟨us,m,e,by rw[vr.length];simp,λQ hs hd=>⟨fr.at ⟨_,hd⟩,us.push w,⟨_,hd⟩,?_⟩⟩;have im:Dt h Q:=Go hs.extBut (λo q=>by rw[e]at q;injection q with q;subst q;rfl);rw[Uz];exact(vr.Bv im).app ⟨_,_,rfl,r.Bv im,rfl⟩
theorem bf8(AU:(Ba P).In B.base)(A8:C5 B (Fq on CQ) n)(hd:K.d=d+1){it mo:A9}(nz:Af.get? z=L)(nT:Af.get? TI=L)(ni:Af.get? it=L)(nD:Af.get? D=L)(nm:Af.get? mo=L)(z1:z≠it)(z2:TI≠it)(z3:D≠it)(z4:mo≠it)(z5:D≠z)(z6:D≠TI)(z7:D≠mo):∀(m k:O){Am l:I V}{H A7:Mine.St}{C:I A9}{s:AR},Vi (Fq on CQ) ⟨K.sc,d⟩ (ev (Fq on CQ) n) i m k Am H=.ok (.vs l) A7->Am.length<=k->k+m<=1000->Gd B F K A H C s->Nx F.D [] Af s.heap BE C->NE s.heap z TI it (.ref mo)->s.heap.get? mo=G (gq (.ref 89) (.ref 135))->E4 s.heap C (.lst i) k it->CM B F C s.heap z->CM B F C s.heap TI->CM B F C s.heap it->CM B F C s.heap mo->Gr B F C s.heap D Am->∀{AV:Dq->AR->Prop},(∀AS s',Gd B F K A A7 AS s'->Nx F.D [] Af s'.heap BE AS->Gr B F AS s'.heap D l->AV (.ok (.ret .none)) s')->D6 (AQ B.prog B.w) A.in1 (.builtin "list.extend.loop" ⟨[.ref D,.ref z,.none],[]⟩) AV s:=by
 intro m;induction m with
 |zero=>intro k Am l H A7 C s h;exact(Ac h).elim|succ m ih=>
 intro k Am l H A7 C s h hk hkm g Cv hm eY By fz fT fi fm ac AV kk;refine A1.Bw h ?_;clear h;intro r hr h;refine BH hr λob hl hr=>?_;revert hl;apply IM hr AE;intro U hr hl
 . injection hr with hr;refine AC By ?_;(try clear By);intro a ha NB;refine AC (g.obj hl ha) ?_;intro us hp vr;have hc:∀o,s.heap.get? it=G o->C1 o=A6:=λo e=>by
    refine CX NB ?_;(try clear NB);intro o' e' c _;rw[e']at e;injection e with e;subst e;unfold C1;rw[c];rfl
   refine Iv PySem.F.entry_extend_loop ?_;rw[bt3 bD8 _];show AG _ _ (EP (.ref z)>>=_) _ _ _;rw[HR]at hr;cases r with
 |none=>
    refine xA (FE h) ?_;intro q B5;subst B5;injection q with q;subst q;refine A5 (be7 (by simp[g.handled]) hm NB hp.isList ?_ λQ hs=>?_);. have e:=vr.none hr;simpa using e
    . refine AW (kk C _ (g.move (tk:=s.toks) fi hs hc) (Cv.Ez hs ni) ?_);exact ac.but hs (Go hs hc) z3|some x=>
    refine A1.Ce h ?_;clear h;intro v AA hv h;refine A1.Bw hv ?_;clear hv;intro fn hf hv;refine AC (vr.get hr) ?_;intro y ey ry;refine A5 (be6 hm z1 z2 NB hp.isList (x:=y) (by simpa using ey) λQ hs rf=>?_);have kb:Dp it s.heap Q:=hs.extBut;have im:=Go kb hc;have AN:=g.move (tk:=s.toks) fi kb hc;have Ja:=Cv.Ez kb ni;have bf9:=ac.but kb im z3;have e_:=kb _ _ z4 eY;have bg0:=ry.Bv im;have dp:=g.depth;have un:=g.units;have AT:Gd B F ⟨K.sc,d⟩ A.in1.in1.in1 H C {s with heap:=Q}:=AN.swap (g.kinds.deep d) g.frames (by simp[g.handled]) (by show A.depth+3*d<900;(with_reducible exact Mine.yJ (by assumption) (by assumption))) (by show A.units+1+1+1+10*d<9000;(with_reducible exact Mine.vY (by assumption) (by assumption)));refine D9 ((Wn (on:=on) (CQ:=CQ) AU).fn 89 fn hf) ?_;intro o fd ok;refine HL (RQ ?_);show AG _ _ (Up (.ref mo) ⟨[y],[]⟩) _ _ _;unfold Up;refine A5 (NN e_ ?_);show AG _ _ (Kd (.call (.ref 89) ⟨[.ref 135,y],[]⟩)) _ _ _;refine AW ⟨rfl,aK A8 ok hv AT ⟨_,_,rfl,rfl,_,_,rfl,bg0,rfl⟩ λu BQ Aw Ao B7 BP=>?_⟩;have Ao:Gd B F K A AA BQ Aw:=Ao.swap (K':=K) (A':=A) g.kinds g.frames g.handled dp un;have rg:=bf9.nx B7 (by simp);refine Bu (rg.push BP) ?_;intro Dv m' hD Ea up;show AG _ _ (Rk D (λx=>x.push u)>>=λ_=>Kd (.builtin "list.extend.loop" ⟨[.ref D,.ref z,.none],[]⟩)) _ _ _;refine A5 (NY (hz:=B2 (show Dv.size<=1000 by(with_reducible exact Mine.vc (by assumption) (by assumption) (by assumption))) (by decide)) (_hz':=by rw[Array.size_push];exact B2 (show Dv.size+1<=2000 by omega) (by decide)) hD rfl ?_);have rh:E2 D Aw.heap (Aw.heap.update D (GN λx=>x.push u)):=Fe ..;have hD4:=FP (GN λx=>x.push u) hD rfl;have k4:Dp D Aw.heap (Aw.heap.update D (GN λx=>x.push u)):=rh.extBut;have bg1:=(fz.at (Q:=Q) ⟨_,kb _ _ z1 hm.1⟩).nx B7;have bg2:=(fT.at (Q:=Q) ⟨_,kb _ _ z2 hm.2⟩).nx B7;have ec:=(fm.at (Q:=Q) ⟨_,e_⟩).nx B7;have bg3:=(fi.at (Q:=Q) (let⟨o,e,_⟩:=rf;⟨o,e⟩)).nx B7;have ri:=B7.keep z _ (kb _ _ z1 hm.1) fz.C (by simp) (λ_=>rfl);have UK:=B7.keep TI _ (kb _ _ z2 hm.2) fT.C (by simp) (λ_=>rfl);have rj:=B7.keep mo _ e_ fm.C (by simp) (λ_=>rfl);have rl:E4 Aw.heap BQ (.lst i) (k+1) it:=E4.nx (it:=.lst i) ⟨a,ha,rf⟩ B7 fi.C (by simp);refine AC rl ?_;(try clear rl);intro a3 ha3 rm;have Sz:∀o,Aw.heap.get? D=G o->C1 o=A6:=λo e=>by rw[hD]at e;injection e with e;subst e;rfl
    refine AW ⟨plainId_quiet bD8 _,ih (k+1) h (by simp;(with_reducible assumption)) (by(with_reducible exact Mine.Yf (by assumption))) (Ao.move (tk:=Aw.toks) rg.1 k4 Sz) ((Ja.trans B7).Ez k4 nD) ⟨k4 _ _ (CV z5) ri,k4 _ _ (CV z6) UK⟩ (k4 _ _ (CV z7) rj) ⟨a3,ha3,rm.extBut k4 (CV z3)⟩ (bg1.at ⟨_,k4 _ _ (CV z5) ri⟩) (bg2.at ⟨_,k4 _ _ (CV z6) UK⟩) (bg3.at (let⟨o,e,_⟩:=rm;⟨o,k4 _ _ (CV z3) e⟩)) (ec.at ⟨_,k4 _ _ (CV z7) rj⟩) (up _ rh hD4) kk⟩
theorem Gd.adopt(g:Gd B F K A H C s)(fD:CM B F C s.heap D)(ho:C_ B.prog B.w s.heap (C++[D]) D o):Gd B F K A (H.new o).2 (C++[D]) s:=by
 refine⟨g.kinds,by simp[Mine.St.new,g.len],?_,λa m=>?_,λa m=>?_,λa m=>?_,λc m=>?_,λi p e=>?_,g.env.ext (J:=[D]) λb o e=>e,g.base,g.os,g.gens,g.frames,g.DN,λA0 m=>?_,g.mods,g.handled,g.depth,g.units⟩
 . refine I7.mpr ⟨g.nodup,by simp,λa ha b hb e=>?_⟩;rw[CH.mp hb]at e;exact fD.C (e▸ha)
 . rcases Do.mp m with m|m;. exact g.fresh a m
   . rw[CH.mp m];exact fD.base
 . rcases Do.mp m with m|m;. exact g.live a m
   . rw[CH.mp m];exact fD.live
 . refine G2 (g.D4 a m) ?_;intro h1 h2 h3;refine⟨h1,λz=>?_,h3⟩;rcases Do.mp z with z|z;. exact h2 z
   . exact fD.w (CH.mp z▸m)
 . refine xA (g.D0 c m) ?_;intro h1 h2;refine⟨λz=>?_,h2⟩;rcases Do.mp z with z|z;. exact h1 z
   . exact fD.cells c m (CH.mp z)
 . simp only[Mine.St.new,AJ]at e;cases q:B8 H.n i with
 |true=>
    rw[q]at e;injection e with e;subst e;have :=CC q;exact⟨D,by rw[<-this,<-g.len];simp,ho⟩|false=>
    rw[q]at e;refine AC (g.objs i p e) ?_;intro b p' r;exact⟨b,FV p',r.mono (Dt.refl _) λ_ e=>e⟩
 . refine xA (g.Cw A0 m) ?_;intro h1 h2;refine⟨λz=>?_,h2⟩;rcases Do.mp z with z|z;. exact h1 z
   . exact fD.outs (CH.mp z▸m)
theorem Nx.adopt(x:Nx AM A_ Af h BE C)(nD:Af.get? D=L):Nx AM A_ Af h BE (C++[D]):=by
 refine AC x.pre ?_;intro J e hb;refine⟨⟨J++[D],by rw[e,Ua],λb m=>?_⟩,x.live,x.Bv,x.same⟩;rcases Do.mp m with m|m;. exact hb b m
 . rw[CH.mp m];exact nD
theorem rn(AU:(Ba P).In B.base):bj B (Fq on CQ):=by
 intro n A8 Sc K f x args pos v F A H A7 C s hp hf hs h g A2 E k;refine uf (bf5 hs) ?_;intro p p2 p3 p4 UW BI BO;subst BI;subst BO;refine A1.Bb h ?_;clear h;intro hc h;simp only[D2]at hc;refine xA hc ?_;(try clear hc);intro Bo h4;refine xA Bo ?_;(try clear Bo);intro Ck h3;obtain⟨h1,h2⟩:=Ck;refine A1.Ce h ?_;clear h;intro w AA hx h;revert hx;apply A1.MJ h;clear h;intro i U hi h hx;refine A1.Bb h ?_;clear h;intro pQ h;have key:∃d,K.d=d+1:=by cases hd:K.d with
 |zero=>rw[hd]at h;exact(Ac h).elim|succ d=>exact⟨d,rfl⟩
 refine xE key ?_;(try clear key);intro d hd;rw[hd]at h;refine A1.L2 h ?_;clear h;intro l Bc hm h;refine xA (FE h) ?_;intro q Bf;subst Bf;injection q with q;subst q;refine rP (A3:=Fq on CQ) (Bj:=GH AU) h1 (w:=.type "list") (by kernel_rfl) (λ_=>CU.type) rfl g λBE EJ FY Cq=>?_;refine bf6 (A3:=Fq on CQ) (Bj:=GH AU) h2 (w:=.type "map") (by kernel_rfl) (λ_=>CU.type) rfl h4 FY λAZ AI AN Ab=>?_;refine bf7 on CQ AU h3 AN λAs Ah mo AT Al nm fm eY=>?_;refine A8.e hx AT _ _ λu BQ Aw Ao B7 BP=>?_;refine Bu (Ao.listAt BP hi) ?_;intro a us Br hp vr;subst Br;have ed:=B7.keep mo _ eY fm.C (by simp) (λ_=>rfl);have ec:=fm.nx B7;refine be5 hp.isList λQ z TI it nz nT ni n1 n2 n3 PD NB kp=>?_;have C9:=Ao.ext (tk:=Aw.toks) kp;have Cy:Nx F.D [] Aw.heap Q BQ BQ:=Nx.ext kp;refine bf0 (s:={Aw with heap:=Q}) PD λh5 D c nD hD K_=>?_;have Cn:=Ao.ext (tk:=Aw.toks) λb o e=>K_ b o (kp b o e);have EH:Nx F.D [] Aw.heap h5 BQ BQ:=Nx.ext λb o e=>K_ b o (kp b o e);refine AC (id BP) ?_;intro bV1 haL ee;injection ee with ee;subst ee;have ef:Aw.heap.get? D=L:=by cases e:Aw.heap.get? D with
 |none=>rfl|some o=>rw[kp D o e]at nD;(exfalso;cases nD)
 have MQ:∀{b o},Q.get? b=G o->D≠b:=λe z=>by rw[<-z]at e;exact absurd (e.symm.trans nD) (by simp)
 refine AC (id NB) ?_;intro oi ei _;have Gq:=(Cq.trans (Ab.trans (Al.trans B7)));have eg:=kp _ _ ed;have nmo:s.heap.get? mo=L:=H8 Cq.live (H8 Ab.live nm);refine bf8 AU A8 hd (Af:=s.heap) (BE:=C) (mo:=mo) (H8 Gq.live nz) (H8 Gq.live nT) (H8 Gq.live ni) (H8 Gq.live ef) nmo n2 n3 (MQ ei) (λz=>by rw[z]at ed;exact absurd (ed.symm.trans ni) (by simp)) (MQ PD.1) (MQ PD.2) (MQ eg) 60 0 (Am:=[]) hm (DE _) (by decide) Cn (Gq.trans EH) ⟨K_ _ _ PD.1,K_ _ _ PD.2⟩ (K_ _ _ eg) ⟨_,haL,(let⟨o,e,r⟩:=NB;⟨o,K_ _ _ e,r⟩)⟩ (Ao.freeOf nz ⟨_,K_ _ _ PD.1⟩) (Ao.freeOf nT ⟨_,K_ _ _ PD.2⟩) (Ao.freeOf ni ⟨_,K_ _ _ ei⟩) (ec.at ⟨_,K_ _ _ eg⟩) ⟨Ao.freeOf ef ⟨_,hD⟩,#[],⟨_,hD⟩,rfl⟩ λW7 T3 GX bg4 rp=>⟨rfl,?_⟩;refine Hg rp ?_;(try clear rp);intro fD us6 C8 v6;refine xE C8 ?_;(try clear C8);intro bV2 e6;exact k _ _ T3 (GX.adopt fD (o:=.list l) ⟨us6,⟨bV2,e6⟩,v6.mono (J:=[D]) (Dt.refl _)⟩) (bg4.adopt (H8 Gq.live ef)) ⟨D,by rw[<-GX.len];simp,rfl⟩
end
theorem bg5(P:Dw):bw (Ba P) 382 (DC (B_ 26)):=⟨by kernel_rfl,by kernel_rfl,by kernel_rfl,by kernel_rfl,by kernel_rfl,by kernel_rfl⟩
theorem bg6:J9 (DC (B_ 26)) [.ref 0,.ref 1]=G [(Fb,.ref 0),(FN,.ref 1)]:=by kernel_rfl
section
variable{CQ:Kx->Cd->Mine.St->AL A1}
theorem bg7(AU:(Ba P).In B.base):XX B:=⟨_,_,Tf AU (by kernel_rfl),Tf AU (by kernel_rfl),by kernel_rfl,by kernel_rfl⟩
theorem bg8:Mb B ND:=⟨λh=>(by exact(BB h).elim),λh=>(by exact(BB h).elim),λh=>(by exact(BB h).elim),λh=>(by exact(BB h).elim),λh=>(by exact(BB h).elim)⟩
theorem bg9:Ta B ND:=λh=>absurd h (by intro z;exact(E3 z).elim)
theorem bh0(AU:(Ba P).In B.base):Ok B ND (Ba P):=⟨bz AU,n4,c5,Wn AU,GH AU,n6,n5,bg9,rQ AU,rn AU,bg8⟩
theorem bh1(AU:(Ba P).In B.base)(hX:AF.length<=100000)(hY:An.length<=100000)(hF:F.outs=F.env::C4)(hf:F.env.frame=G F.env.locals)(g:Gd B F ⟨Le,d⟩ A ⟨[(Fb,.ref 0),(FN,.ref 1)],[(0,.list (AF.map .str)),(1,.list (An.map .str))],2⟩ C s):CJ B F ⟨Le,d⟩ A ⟨[],DI AF An (D3 (AF.length+An.length) AF An).1 (D3 (AF.length+An.length) AF An).2,4⟩ C s (Iu (Fg (B_ 26)) F.env) (FR (.ret (.tup L [.ref 2,.ref 3]))):=by
 intro A2 E k;rw[bc4];have AD:=Wi (bh0 AU) 30;refine DF (AD.s.s bc8 g _ _ λu AZ AI AN Ab Ap=>?_);cases Ap;refine DF (AD.s.s bc9 AN _ _ λu As Ah AT Al BA=>?_);cases BA;refine DF (AD.s.s bd0 AT _ _ λu BQ Aw Ao B7 BP=>?_);cases BP;refine DF (AD.s.s bd1 Ao _ _ λu IU ED C9 Cy JI=>?_);cases JI;have C9:Gd B F ⟨Le,d⟩ A ⟨Fc 0 0,DI AF An [] [],4⟩ IU ED:=C9.view (λp hp=>by
 simp only[Fc,Ci,Jo,Jp]at hp;rcases hp with rfl|rfl|rfl|rfl|rfl|rfl<;>rfl) (λp hp=>by
 simp only[DI,Ci,Jo,Jp]at hp;rcases hp with rfl|rfl|rfl|rfl<;>rfl);refine ua (bc2 bc6) ?_;intro k0 p1 p2 e;rw[e];refine DF (sd (bc3 (Af:=ED.heap) (BE:=IU) (bg7 AU) bc7 bc5 hX hY hF hf (AF.length+An.length) (by(with_reducible exact Mine.uq _ _)) (by omega) (NZ _) (NZ _) (DE _) (DE _) C9 (Nx.refl ..) λi' j' Ec Cn HE=>?_));refine DF (AD.s.s bd2 Cn _ _ λu W7 T3 GX GF rq=>?_);refine AC rq ?_;(try clear rq);intro w Av Fa;subst Av;rw[Y9,Y9]at GX;refine k _ W7 T3 (GX.view (λp hp=>by(exfalso;cases hp)) (λp hp=>?_)) (Ab.trans (Al.trans (B7.trans (Cy.trans (HE.trans GF))))) ⟨w,rfl,Fa⟩;simp only[DI,Ci,Jo,Jp]at hp;rcases hp with rfl|rfl|rfl|rfl<;>rfl
theorem RG:DP B9 (.list (l.map .str))=.list (l.map .str):=by
 show Ob.list (Cr B9 _)=_;rw[LJ]
theorem bh2(AU:(Ba P).In B.base):Ta B (Fq on CQ):=by
 intro _ F K A H C s i j AF An u u' g Cb hX hY hd hi hj r r';obtain⟨d,hd⟩:∃d,K.d=d+1:=⟨K.d-1,by(with_reducible exact Mine.yI (by assumption))⟩;have hX:=Eb hX;have hY:=Eb hY;refine D9 (Mc AU (Me AU) (bg5 P)) ?_;intro o fd ok;have lt:∀{i o},AJ H.h i=G o->i<H.n:=λh=>by
  refine AC (g.objs _ _ h) ?_;intro a ha _;rw[<-g.len];exact(HH.mp ha).1
 have Xs:Sub H ⟨[],[(0,.list (AF.map .str)),(1,.list (An.map .str))],2⟩ [i,j]:=by
  refine⟨rfl,by simp[Cb],λk m=>?_,λk o e=>?_⟩
  . simp only[Ci,Jo,Jp]at m;rcases m with rfl|rfl;. exact lt hi
    . exact lt hj
  . have m:=Sk e;simp only[Ci,Jo,Jp,bA9]at m;rcases m with B5|BI;refine xA B5 ?_;(try clear B5);intro BO Bo;subst BO;subst Bo;rotate_left;refine xA BI ?_;(try clear BI);intro Bf Br;subst Bf;subst Br;rotate_left;. exact⟨i,rfl,by rw[RG];exact hi⟩
    . exact⟨j,rfl,by rw[RG];exact hj⟩
 refine n9 (d:=K.d) (MI:=[.ref 0,.ref 1]) (Wo:=.tup L [.ref 2,.ref 3]) (AA:=⟨[],DI AF An (D3 (AF.length+An.length) AF An).1 (D3 (AF.length+An.length) AF An).2,4⟩) (B6:=[i,j]) (λ{F A C s us}g' Fo=>az1 (H:=⟨[],[(0,.list (AF.map .str)),(1,.list (An.map .str))],2⟩) (AA:=⟨[],DI AF An (D3 (AF.length+An.length) AF An).1 (D3 (AF.length+An.length) AF An).2,4⟩) ok bg6 hd (.inr rfl) (λhF hf Ow=>bh1 AU hX hY hF hf Ow) g' Fo) rfl (DE _) g Xs ?_ (args:=[.ref i,.ref j]) rfl rfl ⟨_,_,rfl,r,_,_,rfl,r',rfl⟩;refine⟨rfl,(show 2<=4 by decide),rfl,λk o e=>?_⟩;simp only[Mine.St.new,AJ]at e;cases q:B8 (H.n+1) k with
 |true=>
  rw[q]at e;injection e with e;subst e;exact .inl ⟨3,_,rfl,(CC q).symm,RG.symm⟩|false=>
  rw[q]at e;cases q2:B8 H.n k with
 |true=>
    rw[q2]at e;injection e with e;subst e;exact .inl ⟨2,_,rfl,(CC q2).symm,RG.symm⟩|false=>
    rw[q2]at e;by_cases h1:k=i
    . clear Xs Cb r;subst h1;rw[hi]at e;injection e with e;subst e;exact .inl ⟨0,_,rfl,rfl,RG.symm⟩
    . by_cases h2:k=j
      . clear Xs Cb r';subst h2;rw[hj]at e;injection e with e;subst e;exact .inl ⟨1,_,rfl,rfl,RG.symm⟩
      . exact .inr ⟨e,by simp[h1,h2]⟩
end
theorem bh3(B:Bs)(P:Dw)(AU:(Ba P).In B.base):De B:=⟨λ_=>bh2 AU,λ_=>rQ AU,λ_=>rn AU⟩
theorem bh4:Lz={Lz with prog:=S'}:=congrArg (λp=>({Lz with prog:=p}:OpenLaw)) J1
theorem row_said:OpenLaw.wellSaid Lz=M:=by
 rw[bh4];kernel_rfl
end
end Mine
theorem PySem.Challenge.cw_rt0116_01_holds : PySem.Challenge.rw_rt0116_01.Holds := by
 refine holds_law Mine.row_said λsaid=>?_;exact Mine.aU6 (Mine.aV4 Mine.bh3) (by assumption)
