import PyProof.Rows.All
import Wide.All
import OpenK.AllK
import Wide.FinOn
import PyProof.SeqRoads2
import KE.KSortTup
import PyProof.StrBlockL
import PyProof.StrCalls6
import PyProof.StrCalls2
import PyProof.Rows.RuleIs2
import PyProof.StrBlock2
import PyProof.IsiH_set
import PyProof.IsiH_dict
import PyProof.SetNew
import PyProof.SetRoads
import PyProof.DictCalls
import PyProof.Rows.SetObj
import PyProof.LetGo
import PyProof.Rules2
import PyProof.Rows.Nodes
import PyProof.ListIndex
import PyProof.TupleIter
import PyProof.Draws
import PyProof.EnumFor
import PyProof.EnumMake
import PyProof.RulesTry
import PyProof.Rows.TupDisplay
import KE.KxFormat
import PyProof.CallStr
import PyProof.TypeOfCall
import PyProof.RangeFor
import PyProof.IsiPairs
import PyProof.IsiHeapPairs
import PyProof.Methods
import PyProof.StrOps
import PyProof.WalkInts
import PyProof.Rows.RaiseClass
import ObjForm.ListNI
import PyProof.Rows.ListAppend
import PyProof.EqAt
import PyProof.MinMaxWalk
import KE.KDictSum
import PyProof.Rows.SortStr
import PyProof.Rows.SortWalk
import PyProof.ListIndexOut
import PyProof.RulesFinally
import PyProof.ListOps
import PyProof.FString5
import PyProof.Rows.SetFrom
import PyProof.ZipIter
import PyProof.ListNew
import PyProof.EnumIter
import Lean
import PySem.Challenge.RW_rt0116_01
set_option Elab.async false
set_option maxRecDepth 100000
set_option maxHeartbeats 0
set_option linter.all false
set_option tactic.hygienic false
set_option genSizeOf false
set_option genInjectivity false
open PySem PySem.W PySem.Calls
namespace Mine
noncomputable section
open _root_.And renaming intro->Rd
open _root_ renaming Array->BW,Bool->AK,Decidable->sd,False->Bj,ForInStep->tJ,Int->AX,List->I,Nat->O,Option->AD,String->D9,True->PS,Unit->DM,and_congr->Hm,and_congr_right->ua,beq_eq_false_iff_ne->Ln,beq_iff_eq->Rg,beq_self_eq_true->g5,bne_self_eq_false->YA,decide_eq_false->Rj,decide_eq_false_iff_not->gP,decide_eq_true->Ri,decide_eq_true_eq->PV,dif_neg->D3,exists_congr->HQ,if_false->Kl,if_neg->CS,if_pos->DA,if_true->Km,not_or->gd,or_false->Jr,reduceIte->v7
open _root_.Array renaming any->sr,any_toList->bq2,eq_empty_of_size_eq_zero->bw0,forIn_toList->uK,getElem?_eq_getElem->Rr,getElem?_eq_some_iff->gQ,getElem?_toList->Rv,length_toList->VD,mem_toList_iff->gC,mk->YU,toList_inj->t7,toList_push->VC
open _root_.Bool renaming and_eq_true->D6,and_eq_true_iff->bp1,eq_false_iff->t6,false->A6,false_eq_true->Kk,false_ne_true->NW,false_or->bv7,noConfusion->Ul,not_eq_true->br0,not_eq_true'->PT,not_true->bE7,or_eq_false_iff->bx5,or_eq_true->tu,or_false->bJ2,rec->PP,true->M
open _root_.Classical renaming byContradiction->bA3
open _root_.Decidable renaming em->bT8
open _root_.Eq renaming trans->uM
open _root_.ForInStep renaming yield->G2
open _root_.Iff renaming rfl->VG
open _root_.Int renaming add_comm->by4,add_mul_emod_self_left->by5,emod_lt_of_pos->by7,emod_nonneg->by6,fdiv->t3,fmod->t4,le_of_lt->fS,lt_of_le_of_lt->bB5,lt_of_lt_of_le->bp6,max_le->bp8,natAbs_of_nonneg->bp9,natCast_nonneg->fP,ne_of_gt->bu0,not_lt->si,ofNat->fW,ofNat_le->so,ofNat_lt->fR,toNat_le->bq0,toNat_lt->sh,toNat_natCast->gH,toNat_of_nonneg->tw
open _root_.Int.ofNat renaming inj->bU8
open _root_.List.Pairwise renaming imp_of_mem->bQ3
open _root_.List.Perm renaming cons_inv->bT6,eq_of_pairwise->bC6,swap->bU6
open _root_.List renaming all_cons->tF,all_eq_true->Bn,any_cons->sq,any_eq_false->Y9,any_eq_true->II,append_assoc->Uo,append_nil->HN,cons->bp2,cons_prefix_cons->bB1,drop->bt2,drop_drop->bt3,drop_eq_getElem_cons->YK,drop_eq_nil_of_le->bC3,drop_length->Js,drop_zero->YN,eq_nil_of_length_eq_zero->gv,filterMap_cons->RW,filterMap_cons_some->bA2,filter_cons->bE9,find?_cons->bv6,findIdx?_eq_none_iff->bB6,flatMap_append->by0,flatMap_cons->Yd,foldl_cons->tv,forIn_cons->Rf,forIn_nil->gm,getD->Kp,getElem?_append_left->Y4,getElem?_append_right->VF,getElem?_cons_zero->bw1,getElem?_drop->uI,getElem?_eq_getElem->Hk,getElem?_eq_none->VE,getElem?_eq_none_iff->fj,getElem?_eq_some_iff->HL,getElem?_inj->RX,getElem?_map->VH,getElem?_nil->uV,getElem?_range'->ue,getElem?_take_of_lt->bF3,getElem_mem->gR,isEmpty_iff->Yb,isEmpty_nil->bz1,le_antisymm->bC7,le_trans->bC5,length->Rp,length_append->FD,length_cons->V',length_drop->V6,length_eraseIdx_of_lt->bI6,length_filterMap_le->bA1,length_map->Jn,length_range->bx8,length_range'->uf,length_singleton->uF,length_take->Pe,lookup->g6,lookup_append->bF0,lookup_cons->PW,lookup_cons_self->bE8,map->bG2,map_append->NZ,map_congr_left->Yc,map_cons->J3,map_fst_zip->bF2,map_id->bD8,map_inj_left->H5,map_map->Hl,map_nil->tQ,mem_append->Dr,mem_append_left->bG3,mem_append_right->Pj,mem_cons->Cj,mem_cons_of_mem->Cp,mem_cons_self->Co,mem_flatMap->ub,mem_iff_getElem->bA5,mem_map->E0,mem_map_of_mem->gt,mem_of_getElem?->Ew,mem_range->Ni,mem_range'_1->bG8,mem_singleton->CI,nil_append->uL,nodup_append->ID,nodup_cons->EU,nodup_iff_pairwise_ne->u_,nodup_nil->HM,not_lt->bC4,not_mem_nil->Jq,pairwise_cons->Uz,pairwise_map->g7,pairwise_singleton->gn,perm_ext_iff_of_nodup->bG7,perm_middle->bG0,range->DN,range'->gw,rec->Ke,replicate->Y2,replicate_succ->by2,reverse_cons->YS,take_append_drop->bG9,take_length->bH5,take_of_length_le->gM,toArray->bq4,zip_cons_cons->bA4,zip_nil_right->uW
open _root_.Nat renaming add_assoc->NO,add_comm->Ll,add_le_add->Um,add_le_add_left->HK,add_le_add_right->Xy,add_right_comm->Y1,add_sub_assoc->sg,add_sub_cancel->bp3,add_sub_cancel_left->bG1,add_sub_of_le->by1,beq->BC,beq_refl->J1,ble->EQ,ble_eq_true_of_le->uc,blt->G0,blt_eq->Rw,div_lt_of_lt_mul->gW,dvd_of_mod_eq_zero->by3,eq_of_beq_eq_true->CD,eq_sub_of_add_eq'->bp4,le_add_left->fN,le_add_right->H3,le_antisymm->Y0,le_of_ble_eq_true->Dk,le_of_eq->Ek,le_of_lt->Gi,le_of_not_le->ud,le_of_not_lt->fM,le_of_sub_eq_zero->bC0,le_of_succ_le->ur,le_of_succ_le_succ->sj,le_refl->DF,le_succ->PQ,le_succ_of_le->gr,le_trans->B4,log2_lt->bu2,lt_irrefl->J0,lt_min->bp7,lt_of_le_of_lt->H2,lt_of_lt_of_le->J',lt_of_not_le->bq1,lt_of_succ_le->gX,lt_or_ge->bC2,lt_succ_of_le->fQ,lt_succ_of_lt->fO,lt_succ_self->PR,min_eq_left->bG6,min_eq_right->bG5,min_le_left->Y',min_le_right->sn,mod_lt->bI5,mul_le_mul_left->se,ne_of_gt->PX,ne_of_lt->ER,noConfusion->bA6,not_lt->Uq,pos_of_ne_zero->fK,rec->RS,sub_add_cancel->Xz,sub_le->gV,sub_le_of_le_add->bp5,sub_le_sub_left->fH,sub_sub_right->bF1,sub_sub_self->uX,succ_le_succ->Lm,succ_ne_self->u7,zero_add->Un,zero_le->Nh
open _root_.Nat.succ renaming inj->YR
open _root_.Ne renaming symm->CX
open _root_.Option renaming bind_eq_some_iff->bE3,bind_some->tZ,elim->bt1,isSome_iff_exists->uY,map->gU,map_eq_some_iff->uZ,none->L,rec->fF,some->G
open _root_.Option.some renaming inj->Bm,injEq->bT2
open _root_.Prod renaming ext->NQ,ext_iff->bx7,fst->tm
open _root_.Prod.mk renaming injEq->bG4
open PyProof.Rows.Copied renaming pop_at->bS9
open PyProof.Rows.F renaming entry_set_update_loop->bH9
open PyProof.Rows renaming IntsAre->Ph,SortSt->Y_,SortSt->bT3,StrsAre->M3,Subscript_->YO,add_bool->bR0,append_at->bB7,args_list_sort->uR,args_sorted1->bD2,arrOf->bD7,collect_list->bT1,entry_list_sort->uQ,entry_sorted->bD1,is_none_ne->bR6,is_none_none->bR5,isnot_none_ne->bR8,isnot_none_none->bR7,issubclass_outer->bS5,keyKind_strs->bD5,kind_sorted->bC9,listUpdate_at->bE5,list_addW->bu7,list_sort_treeK->bD3,ltCps_eq->bT0,mul_bool->bR2,not_of->bS2,plain_sorted->bD0,seqObj->Ya,seqObj->uO,slot_list_sort->uP,sortRuns'->uU,sortRuns'->bT4,sortedHeap->bT5,sortedHeap_at->uS,sortedHeap_old->uT,sorted_out_str->bD6,strKind_oneLt->bD4,subscriptTail->tj,tail_any->Ko,truthy_none->bQ4
open PyProof.Rows.SortSt renaming mk'->bE4
open PySem renaming Addr->A8,Around->CK,Builtin->EB,CmpOp->PO,Comprehension->FP,Const->fG,Const->sa,Data->NP,DictEntry->FQ,Env->Gh,ExceptHandler->RQ,Expr->AA,Flow->HO,FuncData->Kg,GenState->fX,Heap->BK,IsEnum->M1,IsEnumOut->gf,Keyword->Xx,Meets->VA,Model->fY,NameKind->E3,Obj->Bi,Operator->Jj,OsState->H4,Params->Dq,Pos->B9,Program->He,Result->Dt,Scope->BU,Sem->Dz,SetTable->G3,Shared->AR,Slot->M0,Stmt->As,Stmt->EA,Str->U,StrKeys->tU,Tok->EP,UniqKeys->tX,Value->A4,World->EC,again->Kj,any_of_findIdx_some->bv2,argsOk->Jo,arm_eval_Call->bs6,assign->Ex,assignAll->f_,assignEach->GJ,assignInOrder->NT,backTo->F9,backToKw->Ur,behindInMarks->t5,binaryOp->Ey,bindArgs->fx,bindC->Ra,bindL->R_,bindName->ge,bindSpecialIfBound?->bw8,builtinKind->Rm,builtinLookup_eq_fast->J6,cLine->IJ,call->CE,callAny->V2,callGetattribute->by8,callSpecial?->td,callSpecialIfBoundUnlessNone?->bw7,callWith->PY,call_function_tree->bB4,call_meets->uA,cameBackBy->uq,cellOf->Uu,cellsFrom->Jk,checkBoundCall->by9,checkBuiltinCall->gF,checkTypeCall->bI0,clipAt->Hi,clipAt->bq8,code->su,codeAny->D7,codeAny_builtin->J4,codeAny_call_builtin->Lw,codeAny_loop'->ff,codeAny_mono->uw,codeAny_of_tree->Rb,collect->YE,compPost->tM,compStart->g0,compTurn->Ut,compareOp->Db,comprehension->bt7,constantsAlone->YQ,dictDisplay->YW,dictPut->u9,dictSet->Rh,dictSetDefault->uE,entriesT->bq3,entryFor->Lu,entryFor_alias->uy,entryFor_of_tree->YD,evalPairs->u8,eval_ListComp->bt6,execs->J2,fastTable_eq_tree->VL,field->Kn,firstArgMember->V4,firstAsync->Uv,firstIter->Uw,fits_of_scanBound->gz,foldedSetIterable->t9,forTurn->br8,getAttr->V0,getAttrBy->gZ,getAttrByItsOwn->g_,getItem->Pa,getMethod->Jl,getMethod_builtin->gq,holding->Hf,importedModules->bH0,isInstance->V3,isSubtype->Rs,isSubtype_stop->gL,isSubtype_type->J7,isTrue->NS,isTrue->bs8,keys_map_store->bv4,keywordEach->Us,layNew->Yf,letOwnedTupleGo->Y5,methodCall->PZ,methodCallForm->bs7,methodCallPos->Jm,model->AQ,newExc->gJ,newList->tL,newObj->tc,newTuple->YJ,noFill_list_add->bu3,not_mem_of_findIdx_none->bv5,noteFrame->IE,notedBy->RY,nsFind->N_,partValue->V5,pickOrder->Yi,pick_run->bx3,plainId->YH,pyIter->PU,pyNext->ES,raiseErrorWords->bH4,raiseNew->gy,rawInt->ET,relabel->tK,relayAll->Rz,richCompare->uG,rule->YM,scanBound->Pl,seqIndex?->gN,seqItems?->Nd,setAdd->uv,setField->u6,setFlight->gx,setItem->Rk,setNext->uz,signature?_of->h',sizeLine->FA,slicePick->Hj,slicePick_plain->bx1,slicePicked->gO,sliceRange_one->bx2,slot_dict_setitem->bv8,slot_list_getitem->Pd,slot_list_setitem->bz7,specialOf->Nc,spliced->Lp,splitId->gG,standAt->Kh,starEach->E',storeAll->YV,storeName->fa,stored->FC,strKind->Kr,strValues->VB,swappedStores->fq,swapsWith->Y8,swapsWithSole->bA7,sysModules->NR,table->Lv,theTreesLotGoes->fg,theWindowsPlace->bs9,treeTable->Pk,truthOfDropped->bE6,truthy->tA,typeIs_str->Pc,typeLookup->Pf,typeLookup_type->J5,typeOf->Hg,unsupported->RZ,updateSeq->Ru,valueAt->Lr,wants->YZ,whileTurn->br7,wpAny->AH,wpAny_Assign_Name->bH6,wpAny_Assign_stores->fw,wpAny_AugAssign_Name->bs3,wpAny_BinOp->tB,wpAny_Compare1->br3,wpAny_Constant_bool->t8,wpAny_Constant_int->br2,wpAny_Constant_str->fZ,wpAny_Expr_any->bs1,wpAny_For->Y7,wpAny_If->tD,wpAny_Return_some->tE,wpAny_Slice->tp,wpAny_Try_except->bB0,wpAny_UnaryOp->bz5,wpAny_While->tG,wpAny_alloc->YF,wpAny_askSetting->Rc,wpAny_assign_Name->bs2,wpAny_assign_Tuple->br6,wpAny_attempt->Rn,wpAny_bind->A5,wpAny_call->HP,wpAny_callSpecial?_slot->Ls,wpAny_call_entry->Gm,wpAny_comprehension_free->g8,wpAny_dictEntries->YY,wpAny_dictEpoch->uJ,wpAny_dictFind_of->tO,wpAny_execs_cons->DH,wpAny_execs_nil->G1,wpAny_field->Go,wpAny_forIn_list->gk,wpAny_getItem_list->tl,wpAny_getItem_list_slice->to,wpAny_handled->ti,wpAny_holding->C0,wpAny_isInstance->Ly,wpAny_isTrue_Compare1->fb,wpAny_isTrue_value->tC,wpAny_ite->g4,wpAny_ite_split->P_,wpAny_items_cons->Lq,wpAny_items_nil->Up,wpAny_letGo->Pg,wpAny_letTemporaryGo->bz6,wpAny_listSubscript_int->bz9,wpAny_load->NV,wpAny_loadPart->bw2,wpAny_loadPart'->YX,wpAny_mkText->tz,wpAny_mono->Fg,wpAny_newFunctionEnv->bt5,wpAny_newList->uN,wpAny_newObj_type->IF,wpAny_newTuple->gi,wpAny_notOrdered_dict->bv9,wpAny_noted->fh,wpAny_notedAt->bt0,wpAny_of_eq->NX,wpAny_onRaise->Y6,wpAny_pure->AW,wpAny_pyIter_dict->bs0,wpAny_pyIter_list->fk,wpAny_pyIter_slot->v8,wpAny_pyNext_list_end->br9,wpAny_pyNext_list_item->tH,wpAny_release->bx0,wpAny_rule->Gk,wpAny_runValue->uo,wpAny_seqItemAt->bA0,wpAny_seqItems->Nf,wpAny_sequenceKey->tR,wpAny_setEntries_of->bI9,wpAny_setField->Lx,wpAny_setField_rec->YT,wpAny_setState_of->Yh,wpAny_specialOf->YL,wpAny_standAt->El,wpAny_storeName_cell->br5,wpAny_storeName_local->br4,wpAny_storeSet_of->bH8,wpAny_throw->gK,wpAny_truthy_bool->NU,wpAny_tryCatch->Pb,wpAny_typeOf->Rt,wpAny_updateDict->bv3,wpAny_updateDictKeys->tP,wpAny_updateSeq->Ng
open PySem.Around renaming under_plainId->bz0
open PySem.AutoIntOps renaming add_0->bQ7,floordiv_1->bQ9,iadd_0->bt9,isub_0->bQ5,mod_1->bQ6,sub_0->bQ8
open PySem.Bind renaming checkArgs->u4,lastOf->V9
open PySem.Builtin.Builtins renaming bindParams->bC1
open PySem.Builtin.Dict renaming missed->bS1,notOrdered->bR3
open PySem.Builtin.Frozenset renaming oneOther->bS0,updateFrom->bI4
open PySem.Builtin.List renaming listExtendWith->Yj,listItems->bJ3,listLengthHint->hZ,listSameRef->h_,listSubscript?->bz8,listTooLong->bU5,listTouch->bV0,listUpdate->bU9
open PySem.Builtin.SmallTypes renaming ownedTupleHandOut->bS4,ownedTupleIsFree->bS3
open PySem.Builtin.Str renaming strSliceIndices->Ro,tooLong->bR9
open PySem.Builtin.Tuple renaming tupleCompareSizes->bB9
open PySem.Builtin renaming divisionGoesByPylong->bu1
open PySem.Calls renaming Name_function_global->bz3,call_function_entry->bC8,evalArgs_plain->tI,loadGlobal_builtin->bz4
open PySem.Challenge renaming pw_rt0116_01->Dp,rw_rt0116_01->M4
open PySem.Code renaming builtin->t_,quiet_builtin->tb
open PySem.Comprehension renaming mk->bT7
open PySem.Const.str renaming elim->bp0
open PySem.Data.dict renaming elim->sx
open PySem.Data.fields renaming elim->sy
open PySem.Data.func renaming elim->bF7
open PySem.Data renaming seq->gu
open PySem.Data.seq renaming elim->bF8
open PySem.DictEntry renaming refKey->bR4
open PySem.EntryCells renaming newEntry->bU4
open PySem.Expr.Attribute renaming elim->sZ
open PySem.Expr.BinOp renaming elim->bn9
open PySem.Expr.Call renaming elim->bn6
open PySem.Expr.Compare renaming elim->bn8
open PySem.Expr.Constant renaming elim->bn4
open PySem.Expr.ListComp renaming elim->bo0
open PySem.Expr.Name renaming elim->bn3
open PySem.Expr.Slice renaming elim->s_
open PySem.Expr.Subscript renaming elim->bn7
open PySem.Expr.Tuple renaming elim->bn5
open PySem.Expr renaming casesOn->bQ1
open PySem.F renaming args_enumerate_next_1->bA9,args_list_add_2->bu6,args_str_split_2->uC,args_tuple_iterator_next_1->bw6,called_set->bI1,entry_dict_get->bz2,entry_enumerate_next->bA8,entry_list_add->bu5,entry_max_loop->uH,entry_str_split->uB,entry_tuple_iterator_next->bw5,plainAttrs_list->bE1,plain_extend_loop->v9,plain_extend_loop->bJ4,plain_max_loop->gl,slot_dict_get->u5,slot_dict_getattribute->gb,slot_dict_getitem->bx6,slot_dict_setdefault->bB8,slot_enumerate_next->gh,slot_list_add->bu4,slot_list_append->bD9,slot_set_getattribute->gY,slot_set_iter->bJ0,slot_str_getitem->bx4,slot_str_split->gj,slot_tuple_iterator_next->YI,type_list_append->bE0
open PySem.Heap.DictAt renaming nodup->Uy
open PySem.Heap renaming ExtBut->Ds,SameBut->E4,get?_none_of_le->i3,get?_push_of_some->C1,get?_push_size->CY,get?_update_other->GN,get?_update_self->FS,lt_size->Dh,push->bJ1,size_push->IG
open PySem.Heap.FunFrames renaming cons->bQ2,of_keeps->bs4
open PySem.Heap.IsList renaming push->bI3
open PySem.Heap.SameBut renaming refl->g9,update->Fh
open PySem.IntBool renaming add_bool_int->bR1
open PySem.IsPart renaming none->gT
open PySem.IsiPair renaming dict_str->bS6,str_bytes->bS8,str_str->bS7
open PySem.Made renaming str->tN
open PySem.Manifest renaming owners->bI7,signature?->gc,varargsMethods->u0
open PySem.MeetsSeq.EqGives renaming int->tq
open PySem.NameKind renaming cell->bt4,free->GK
open PySem.Obj renaming cls_mapFields->th,data_mapDict->gA,data_mapDictKeys->Ux,data_mapFields->gI,isFreed_of_dict->YB,isFreed_of_fields->te,mapFields->Ry,mapSeq->GL,putSet->Yg
open PySem.P renaming eq_str->bv0,gt_int->bu9,lt_int->bu8,lt_str->bv1
open PySem.SeqAt renaming EqAt->Rq
open PySem.SeqRoads2.EqGives renaming str->bx9
open PySem.SetTable renaming below->hV,fits->bI8,grown->VK,laid->bH7,orStandIn->ut
open PySem.SetTable.below renaming go->bU7
open PySem.Shared renaming TypeIs->bI2
open PySem.Stmt.Assign renaming elim->bo5
open PySem.Stmt.AugAssign renaming elim->bo6
open PySem.Stmt.Break renaming elim->bo8
open PySem.Stmt.ClassDef renaming elim->bQ0
open PySem.Stmt.Expr renaming elim->bo4
open PySem.Stmt.For renaming elim->bo1
open PySem.Stmt.FunctionDef renaming elim->bP7
open PySem.Stmt.If renaming elim->bo3
open PySem.Stmt.Return renaming elim->bo9
open PySem.Stmt.Try renaming elim->bo7
open PySem.Stmt.While renaming elim->bo2
open PySem.Str renaming append->bt8,empty->RT,mk->uD,ofString->Ev,ofString->M2
open PySem.Str.mk renaming injEq->br1
open PySem.Txt renaming replace->bq9,split->Y3,startswith->bB2
open PySem.Value renaming bool->NY,builtin->bw9,int->V7,isStr->tY,isStrOf->YP,noConfusion->V8,none->Hh,ref->Jp,str->Lz,type->Kq
open PySem.Value.bool renaming elim->bF5
open PySem.Value.builtin renaming elim->bq7
open PySem.Value.int renaming elim->bF9
open PySem.Value.none renaming elim->bF4
open PySem.Value.ref renaming elim->bq6,inj->bE2
open PySem.Value.str renaming elim->bF6
open PySem.Value.type renaming elim->bq5
open PySem.W.Fast renaming te10110043849684766642->uh,te11892475500146522536->bU0,te12563942051412417395->ui,te14082659384304107361->bU2,te14364793385576792824->fV,te14374325043358763698->bU1,te15667345088766844465->bT9,te4187177175401517315->bU3,te4202317264376624991->bP9,tw14364793385576792824->bP8,tw4202317264376624991->fU
open PySem.W renaming Frag->Gg,Looks->Gj,SharedT->Ye,boot_drawn->Rx,boot_toks->uj,callWith_of->fy,check_slot->YG,emptyDict->gD,findCls->ta,findIn->Gn,instObj->gE,lookIn->gB,looks_findIn->Na,looks_specialIn->bw4,looks_subIn->V1,methodObj->i4,peek->Rl,piece_app->uk,piecesOf->VI,readsAllW_cons_inv->bH3,readsAllW_nil_inv->bH2,segRunT->ug,segRun_of->ul,subIn->YC,topFrame->VJ,typeIn->tS
open PySem.W.KFm renaming call_k->bB3
open PySem.W.Looks renaming ld->Ki,of_peek->Nb,of_pure->bs5
open PySem.W.WShape renaming hasAll->bH1
open PySem.callAny renaming viaDunder->bw3
open PySem.pickOrder renaming go->ux
open _root_.String renaming ofList->sv
noncomputable def oS{C J:Type}(o:AD C)(d:J)(k:C->J):J:=fF (motive:=λ_=>J) d k o
noncomputable def H6{C EH J:Type}(k:C->EH->J)(p:C×EH):J:=Prod.rec (motive:=λ_=>J) k p
theorem oV{C J:Type}{o:AD C}{d:J}{k:C->J}{r:J}(e:o=L)(h:oS o d k=r):d=r:=by subst e;exact h
noncomputable def vB(e:AA):AD (U×B9):=if h:e.ctorIdx=23 then bn3 (motive_1:=λ_=>AD (U×B9)) e h (λa0 a1=>G (a0,a1))else L
noncomputable def DO{J:Type}(e:AA)(d:J)(k:U->B9->J):J:=oS (vB e) d (H6 k)
theorem i5{J:Type}{e:AA}{d:J}{k:U->B9->J}{r:J}(h:DO e d k=r){P:AA->Prop}(c:∀a0 a1,k a0 a1=r->P (.Name a0 a1))(n:d=r->P e):P e:=if q:e.ctorIdx=23 then bn3 (motive_1:=λe=>DO e d k=r->P e) e q (λa0 a1 h=>c a0 a1 h) h else n (oV (D3 q) h)
theorem EV{J:Type}{e:AA}{d:J}{k:U->B9->J}{r:J}(h:DO e d k=r)(hd:d=r->Bj){P:AA->Prop}(c:∀a0 a1,k a0 a1=r->P (.Name a0 a1)):P e:=i5 h c λe=>(hd e).elim
noncomputable def HR{J:Type}(e:AA)(d:J)(k:fG->O->B9->J):J:=if h:e.ctorIdx=19 then bn4 (motive_1:=λ_=>J) e h k else d
theorem J8{J:Type}{e:AA}{d:J}{k:fG->O->B9->J}{r:J}(h:HR e d k=r)(hd:d=r->Bj){P:AA->Prop}(c:∀a0 a1 a2,k a0 a1 a2=r->P (.Constant a0 a1 a2)):P e:=if q:e.ctorIdx=19 then bn4 (motive_1:=λe=>HR e d k=r->P e) e q (λa0 a1 a2 h=>c a0 a1 a2 h) h else(hd ((D3 q).symm.trans h)).elim
noncomputable def vC(e:AA):AD (I AA×O×B9):=if h:e.ctorIdx=25 then bn5 (motive_1:=λ_=>AD (I AA×O×B9)) e h (λa0 a1 a2=>G (a0,a1,a2))else L
noncomputable def Jt{J:Type}(e:AA)(d:J)(k:I AA->O->B9->J):J:=oS (vC e) d (H6 λa=>H6 (k a))
theorem i6{J:Type}{e:AA}{d:J}{k:I AA->O->B9->J}{r:J}(h:Jt e d k=r){P:AA->Prop}(c:∀a0 a1 a2,k a0 a1 a2=r->P (.Tuple a0 a1 a2))(n:d=r->P e):P e:=if q:e.ctorIdx=25 then bn5 (motive_1:=λe=>Jt e d k=r->P e) e q (λa0 a1 a2 h=>c a0 a1 a2 h) h else n (oV (D3 q) h)
theorem S'{J:Type}{e:AA}{d:J}{k:I AA->O->B9->J}{r:J}(h:Jt e d k=r)(hd:d=r->Bj){P:AA->Prop}(c:∀a0 a1 a2,k a0 a1 a2=r->P (.Tuple a0 a1 a2)):P e:=i6 h c λe=>(hd e).elim
noncomputable def vD(e:AA):AD (AA×I AA×I Xx×B9):=if h:e.ctorIdx=16 then bn6 (motive_1:=λ_=>AD (AA×I AA×I Xx×B9)) e h (λa0 a1 a2 a3=>G (a0,a1,a2,a3))else L
noncomputable def ED{J:Type}(e:AA)(d:J)(k:AA->I AA->I Xx->B9->J):J:=oS (vD e) d (H6 λa=>H6 λb=>H6 (k a b))
theorem M5{J:Type}{e:AA}{d:J}{k:AA->I AA->I Xx->B9->J}{r:J}(h:ED e d k=r)(hd:d=r->Bj){P:AA->Prop}(c:∀a0 a1 a2 a3,k a0 a1 a2 a3=r->P (.Call a0 a1 a2 a3)):P e:=if q:e.ctorIdx=16 then bn6 (motive_1:=λe=>ED e d k=r->P e) e q (λa0 a1 a2 a3 h=>c a0 a1 a2 a3 h) h else(hd (oV (D3 q) h)).elim
noncomputable def vE(e:AA):AD (AA×U×B9):=if h:e.ctorIdx=20 then sZ (motive_1:=λ_=>AD (AA×U×B9)) e h (λa0 a1 a2=>G (a0,a1,a2))else L
noncomputable def H7{J:Type}(e:AA)(d:J)(k:AA->U->B9->J):J:=oS (vE e) d (H6 λa=>H6 (k a))
theorem S0{J:Type}{e:AA}{d:J}{k:AA->U->B9->J}{r:J}(h:H7 e d k=r)(hd:d=r->Bj){P:AA->Prop}(c:∀a0 a1 a2,k a0 a1 a2=r->P (.Attribute a0 a1 a2)):P e:=if q:e.ctorIdx=20 then sZ (motive_1:=λe=>H7 e d k=r->P e) e q (λa0 a1 a2 h=>c a0 a1 a2 h) h else(hd (oV (D3 q) h)).elim
noncomputable def vF(e:AA):AD (AA×AA×B9):=if h:e.ctorIdx=21 then bn7 (motive_1:=λ_=>AD (AA×AA×B9)) e h (λa0 a1 a2=>G (a0,a1,a2))else L
noncomputable def J9{J:Type}(e:AA)(d:J)(k:AA->AA->B9->J):J:=oS (vF e) d (H6 λa=>H6 (k a))
theorem vG{J:Type}{e:AA}{d:J}{k:AA->AA->B9->J}{r:J}(h:J9 e d k=r){P:AA->Prop}(c:∀a0 a1 a2,k a0 a1 a2=r->P (.Subscript a0 a1 a2))(n:d=r->P e):P e:=if q:e.ctorIdx=21 then bn7 (motive_1:=λe=>J9 e d k=r->P e) e q (λa0 a1 a2 h=>c a0 a1 a2 h) h else n (oV (D3 q) h)
theorem Nj{J:Type}{e:AA}{d:J}{k:AA->AA->B9->J}{r:J}(h:J9 e d k=r)(hd:d=r->Bj){P:AA->Prop}(c:∀a0 a1 a2,k a0 a1 a2=r->P (.Subscript a0 a1 a2)):P e:=vG h c λe=>(hd e).elim
noncomputable def Ks{J:Type}(e:AA)(d:J)(k:AA->I PO->I AA->B9->J):J:=if h:e.ctorIdx=15 then bn8 (motive_1:=λ_=>J) e h k else d
theorem S1{J:Type}{e:AA}{d:J}{k:AA->I PO->I AA->B9->J}{r:J}(h:Ks e d k=r)(hd:d=r->Bj){P:AA->Prop}(c:∀a0 a1 a2 a3,k a0 a1 a2 a3=r->P (.Compare a0 a1 a2 a3)):P e:=if q:e.ctorIdx=15 then bn8 (motive_1:=λe=>Ks e d k=r->P e) e q (λa0 a1 a2 a3 h=>c a0 a1 a2 a3 h) h else(hd ((D3 q).symm.trans h)).elim
noncomputable def Nk{J:Type}(e:AA)(d:J)(k:AA->Jj->AA->B9->J):J:=if h:e.ctorIdx=2 then bn9 (motive_1:=λ_=>J) e h k else d
theorem i7{J:Type}{e:AA}{d:J}{k:AA->Jj->AA->B9->J}{r:J}(h:Nk e d k=r)(hd:d=r->Bj){P:AA->Prop}(c:∀a0 a1 a2 a3,k a0 a1 a2 a3=r->P (.BinOp a0 a1 a2 a3)):P e:=if q:e.ctorIdx=2 then bn9 (motive_1:=λe=>Nk e d k=r->P e) e q (λa0 a1 a2 a3 h=>c a0 a1 a2 a3 h) h else(hd ((D3 q).symm.trans h)).elim
noncomputable def IK{J:Type}(e:AA)(d:J)(k:AA->I FP->BU->B9->J):J:=if h:e.ctorIdx=8 then bo0 (motive_1:=λ_=>J) e h k else d
theorem Yk{J:Type}{e:AA}{d:J}{k:AA->I FP->BU->B9->J}{r:J}(h:IK e d k=r)(hd:d=r->Bj){P:AA->Prop}(c:∀a0 a1 a2 a3,k a0 a1 a2 a3=r->P (.ListComp a0 a1 a2 a3)):P e:=if q:e.ctorIdx=8 then bo0 (motive_1:=λe=>IK e d k=r->P e) e q (λa0 a1 a2 a3 h=>c a0 a1 a2 a3 h) h else(hd ((D3 q).symm.trans h)).elim
noncomputable def vH(e:AA):AD (AD AA×AD AA×AD AA×B9):=if h:e.ctorIdx=26 then s_ (motive_1:=λ_=>AD (AD AA×AD AA×AD AA×B9)) e h (λa0 a1 a2 a3=>G (a0,a1,a2,a3))else L
noncomputable def Nl{J:Type}(e:AA)(d:J)(k:AD AA->AD AA->AD AA->B9->J):J:=oS (vH e) d (H6 λa=>H6 λb=>H6 (k a b))
theorem i8{J:Type}{e:AA}{d:J}{k:AD AA->AD AA->AD AA->B9->J}{r:J}(h:Nl e d k=r)(hd:d=r->Bj){P:AA->Prop}(c:∀a0 a1 a2 a3,k a0 a1 a2 a3=r->P (.Slice a0 a1 a2 a3)):P e:=if q:e.ctorIdx=26 then s_ (motive_1:=λe=>Nl e d k=r->P e) e q (λa0 a1 a2 a3 h=>c a0 a1 a2 a3 h) h else(hd (oV (D3 q) h)).elim
noncomputable def G4{J:Type}(e:EA)(d:J)(k:AA->AA->I As->I As->B9->J):J:=if h:e.ctorIdx=9 then bo1 (motive_2:=λ_=>J) e h k else d
theorem i9{J:Type}{e:EA}{d:J}{k:AA->AA->I As->I As->B9->J}{r:J}(h:G4 e d k=r)(hd:d=r->Bj){P:EA->Prop}(c:∀a0 a1 a2 a3 a4,k a0 a1 a2 a3 a4=r->P (.For a0 a1 a2 a3 a4)):P e:=if q:e.ctorIdx=9 then bo1 (motive_2:=λe=>G4 e d k=r->P e) e q (λa0 a1 a2 a3 a4 h=>c a0 a1 a2 a3 a4 h) h else(hd ((D3 q).symm.trans h)).elim
noncomputable def S2{J:Type}(e:EA)(d:J)(k:AA->I As->I As->B9->J):J:=if h:e.ctorIdx=11 then bo2 (motive_2:=λ_=>J) e h k else d
theorem iA{J:Type}{e:EA}{d:J}{k:AA->I As->I As->B9->J}{r:J}(h:S2 e d k=r)(hd:d=r->Bj){P:EA->Prop}(c:∀a0 a1 a2 a3,k a0 a1 a2 a3=r->P (.While a0 a1 a2 a3)):P e:=if q:e.ctorIdx=11 then bo2 (motive_2:=λe=>S2 e d k=r->P e) e q (λa0 a1 a2 a3 h=>c a0 a1 a2 a3 h) h else(hd ((D3 q).symm.trans h)).elim
noncomputable def Ju{J:Type}(e:EA)(d:J)(k:AA->I As->I As->B9->J):J:=if h:e.ctorIdx=12 then bo3 (motive_2:=λ_=>J) e h k else d
theorem Yl{J:Type}{e:EA}{d:J}{k:AA->I As->I As->B9->J}{r:J}(h:Ju e d k=r)(hd:d=r->Bj){P:EA->Prop}(c:∀a0 a1 a2 a3,k a0 a1 a2 a3=r->P (.If a0 a1 a2 a3)):P e:=if q:e.ctorIdx=12 then bo3 (motive_2:=λe=>Ju e d k=r->P e) e q (λa0 a1 a2 a3 h=>c a0 a1 a2 a3 h) h else(hd ((D3 q).symm.trans h)).elim
noncomputable def Pm{J:Type}(e:EA)(d:J)(k:AA->B9->J):J:=if h:e.ctorIdx=24 then bo4 (motive_2:=λ_=>J) e h k else d
theorem Ym{J:Type}{e:EA}{d:J}{k:AA->B9->J}{r:J}(h:Pm e d k=r)(hd:d=r->Bj){P:EA->Prop}(c:∀a0 a1,k a0 a1=r->P (.Expr a0 a1)):P e:=if q:e.ctorIdx=24 then bo4 (motive_2:=λe=>Pm e d k=r->P e) e q (λa0 a1 h=>c a0 a1 h) h else(hd ((D3 q).symm.trans h)).elim
noncomputable def Pn{J:Type}(e:EA)(d:J)(k:I AA->AA->B9->J):J:=if h:e.ctorIdx=5 then bo5 (motive_2:=λ_=>J) e h k else d
theorem iB{J:Type}{e:EA}{d:J}{k:I AA->AA->B9->J}{r:J}(h:Pn e d k=r)(hd:d=r->Bj){P:EA->Prop}(c:∀a0 a1 a2,k a0 a1 a2=r->P (.Assign a0 a1 a2)):P e:=if q:e.ctorIdx=5 then bo5 (motive_2:=λe=>Pn e d k=r->P e) e q (λa0 a1 a2 h=>c a0 a1 a2 h) h else(hd ((D3 q).symm.trans h)).elim
noncomputable def VM{J:Type}(e:EA)(d:J)(k:AA->Jj->AA->B9->J):J:=if h:e.ctorIdx=7 then bo6 (motive_2:=λ_=>J) e h k else d
theorem iC{J:Type}{e:EA}{d:J}{k:AA->Jj->AA->B9->J}{r:J}(h:VM e d k=r)(hd:d=r->Bj){P:EA->Prop}(c:∀a0 a1 a2 a3,k a0 a1 a2 a3=r->P (.AugAssign a0 a1 a2 a3)):P e:=if q:e.ctorIdx=7 then bo6 (motive_2:=λe=>VM e d k=r->P e) e q (λa0 a1 a2 a3 h=>c a0 a1 a2 a3 h) h else(hd ((D3 q).symm.trans h)).elim
noncomputable def Nm{J:Type}(e:EA)(d:J)(k:I As->I RQ->I As->I As->B9->J):J:=if h:e.ctorIdx=17 then bo7 (motive_2:=λ_=>J) e h k else d
theorem iD{J:Type}{e:EA}{d:J}{k:I As->I RQ->I As->I As->B9->J}{r:J}(h:Nm e d k=r)(hd:d=r->Bj){P:EA->Prop}(c:∀a0 a1 a2 a3 a4,k a0 a1 a2 a3 a4=r->P (.Try a0 a1 a2 a3 a4)):P e:=if q:e.ctorIdx=17 then bo7 (motive_2:=λe=>Nm e d k=r->P e) e q (λa0 a1 a2 a3 a4 h=>c a0 a1 a2 a3 a4 h) h else(hd ((D3 q).symm.trans h)).elim
noncomputable def Yn{J:Type}(e:EA)(d:J)(k:B9->J):J:=if h:e.ctorIdx=26 then bo8 (motive_2:=λ_=>J) e h k else d
theorem vI{J:Type}{e:EA}{d:J}{k:B9->J}{r:J}(h:Yn e d k=r)(hd:d=r->Bj){P:EA->Prop}(c:∀a0,k a0=r->P (.Break a0)):P e:=if q:e.ctorIdx=26 then bo8 (motive_2:=λe=>Yn e d k=r->P e) e q (λa0 h=>c a0 h) h else(hd ((D3 q).symm.trans h)).elim
noncomputable def S3{J:Type}(e:EA)(d:J)(k:AD AA->B9->J):J:=if h:e.ctorIdx=3 then bo9 (motive_2:=λ_=>J) e h k else d
theorem vJ{J:Type}{e:EA}{d:J}{k:AD AA->B9->J}{r:J}(h:S3 e d k=r)(hd:d=r->Bj){P:EA->Prop}(c:∀a0 a1,k a0 a1=r->P (.Return a0 a1)):P e:=if q:e.ctorIdx=3 then bo9 (motive_2:=λe=>S3 e d k=r->P e) e q (λa0 a1 h=>c a0 a1 h) h else(hd ((D3 q).symm.trans h)).elim
noncomputable def VN{J:Type}(e:EA)(d:J)(k:U->Arguments->I As->I AA->AD AA->I TypeParam->BU->AD BU->U->B9->J):J:=if h:e.ctorIdx=0 then bP7 (motive_2:=λ_=>J) e h k else d
noncomputable def Po{J:Type}(e:sa)(d:J)(k:U->J):J:=if h:e.ctorIdx=5 then bp0 (motive:=λ_=>J) e h k else d
theorem Yo{J:Type}{e:sa}{d:J}{k:U->J}{r:J}(h:Po e d k=r)(hd:d=r->Bj){P:sa->Prop}(c:∀a0,k a0=r->P (.str a0)):P e:=if q:e.ctorIdx=5 then bp0 (motive:=λe=>Po e d k=r->P e) e q (λa0 h=>c a0 h) h else(hd ((D3 q).symm.trans h)).elim
theorem iE{J:Type}{e:AA}{d:J}{k:AA->U->B9->J}{r:J}(h:H7 e d k=r){P:AA->Prop}(c:∀a0 a1 a2,k a0 a1 a2=r->P (.Attribute a0 a1 a2))(e0:e.ctorIdx≠20->d=r->P e):P e:=if q:e.ctorIdx=20 then sZ (motive_1:=λe=>H7 e d k=r->P e) e q (λa0 a1 a2 h=>c a0 a1 a2 h) h else e0 q (oV (D3 q) h)
theorem vK{J:Type}{e:AA}{d:J}{k:AD AA->AD AA->AD AA->B9->J}{r:J}(h:Nl e d k=r){P:AA->Prop}(c:∀a0 a1 a2 a3,k a0 a1 a2 a3=r->P (.Slice a0 a1 a2 a3))(e0:e.ctorIdx≠26->d=r->P e):P e:=if q:e.ctorIdx=26 then s_ (motive_1:=λe=>Nl e d k=r->P e) e q (λa0 a1 a2 a3 h=>c a0 a1 a2 a3 h) h else e0 q (oV (D3 q) h)
theorem AF{J:Type}{x:J}(h:L=G x):Bj:=by contradiction
theorem B0(h:A6=M):Bj:=Ul h
noncomputable def l0{C J:Type}(l:I C)(d k:J):J:=Ke (motive:=λ_=>J) k (λ_ _ _=>d) l
noncomputable def l1{C J:Type}(l:I C)(d:J)(k:C->J):J:=Ke (motive:=λ_=>J) d (λx t _=>l0 t d (k x)) l
theorem EW{C J:Type}{l:I C}{d k r:J}(h:l0 l d k=r)(hd:d=r->Bj){P:I C->Prop}(c:k=r->P []):P l:=by cases l with
 |nil=>exact c h|cons x t=>exact(hd h).elim
theorem Cs{C J:Type}{l:I C}{d:J}{k:C->J}{r:J}(h:l1 l d k=r)(hd:d=r->Bj){P:I C->Prop}(c:∀x,k x=r->P [x]):P l:=by cases l with
 |nil=>exact(hd h).elim|cons x t=>cases t with
 |nil=>exact c x h|cons y t=>exact(hd h).elim
noncomputable def Yp{J:Type}(e:RQ)(k:AD AA->AD U->I As->B9->J):J:=match e with|.ExceptHandler t n b p=>k t n b p
theorem vL{J:Type}{e:RQ}{k:AD AA->AD U->I As->B9->J}{r:J}(h:Yp e k=r){P:RQ->Prop}(c:∀t n b p,k t n b p=r->P (.ExceptHandler t n b p)):P e:=by cases e;exact c _ _ _ _ h
noncomputable def lC{C J:Type}(l:I C)(d:J)(k:C->I C->J):J:=Ke (motive:=λ_=>J) d (λx t _=>k x t) l
theorem FT{C J:Type}{l:I C}{d:J}{k:C->I C->J}{r:J}(h:lC l d k=r)(hd:d=r->Bj){P:I C->Prop}(c:∀x t,k x t=r->P (x::t)):P l:=by cases l with
 |nil=>exact(hd h).elim|cons x t=>exact c x t h
noncomputable def Yq{C J:Type}(l:I C)(d:J)(k:C->J)(k':C->C->J):J:=lC l d λx t=>match t with|[]=>k x|y::t=>l0 t d (k' x y)
theorem iF{C J:Type}{l:I C}{d:J}{k:C->J}{k':C->C->J}{r:J}(h:Yq l d k k'=r)(hd:d=r->Bj){P:I C->Prop}(c:∀x,k x=r->P [x])(c':∀x y,k' x y=r->P [x,y]):P l:=by
 apply FT h hd;intro x t h;cases t with
 |nil=>exact c x h|cons y t=>apply EW h hd;intro h;exact c' x y h
theorem Jv{a b:AK}{P:Prop}(h:(a||b)=M)(l:a=M->P)(r:b=M->P):P:=by cases a with
 |true=>exact l rfl|false=>exact r h
theorem GO{C:Type}{a b:AD C}{v:C}{P:Prop}(h:a.or b=G v)(l:a=G v->P)(r:b=G v->P):P:=by cases a with
 |some x=>exact l h|none=>exact r h
noncomputable def l2{C J:Type}(l:I C)(d:J)(k:C->C->J):J:=lC l d λx t=>l1 t d λy=>k x y
theorem Hn{C J:Type}{l:I C}{d:J}{k:C->C->J}{r:J}(h:l2 l d k=r)(hd:d=r->Bj){P:I C->Prop}(c:∀x y,k x y=r->P [x,y]):P l:=by
 apply FT h hd;intro x t h;apply Cs h hd;intro y h;exact c x y h
noncomputable def nS{J:Type}(n:O)(d:J)(k:O->J):J:=RS (motive:=λ_=>J) d (λm _=>k m) n
theorem Yr{J:Type}{n:O}{d:J}{k:O->J}{r:J}(h:nS n d k=r)(hd:d=r->Bj){P:Prop}(c:∀m,n=m+1->k m=r->P):P:=by cases n with
 |zero=>exact(hd h).elim|succ m=>exact c m rfl h
noncomputable def bC{J:Type}(b:AK)(x y:J):J:=PP (motive:=λ_=>J) y x b
theorem iG{J:Type}{x y:J}:bC M x y=x:=rfl
theorem S4{J:Type}{x y:J}:bC A6 x y=y:=rfl
theorem Nn{J:Type}{b:AK}{x y r:J}(h:bC b x y=r){P:Prop}(l:b=M->x=r->P)(m:y=r->P):P:=by cases b with
 |true=>exact l rfl h|false=>exact m h
noncomputable def B'{J EH:Type}(x:AD J)(k:J->AD EH):AD EH:=fF (motive:=λ_=>AD EH) L k x
theorem BI{J EH:Type}{x:AD J}{k:J->AD EH}{y:EH}(h:B' x k=G y){P:Prop}(c:∀a,x=G a->k a=G y->P):P:=by cases x with
 |none=>exact(AF h).elim|some a=>exact c a rfl h
theorem Fi{J:Type}{c:Prop}[d:sd c]{a b r:J}(h:(if c then a else b)=r){P:Prop}(l:c->a=r->P)(m:b=r->P):P:=by cases d with
 |isTrue q=>exact l q h|isFalse q=>exact m h
theorem No{C J:Type}{o:AD C}{d:J}{k:C->J}{r:J}(h:oS o d k=r)(hd:d=r->Bj){P:AD C->Prop}(c:∀x,k x=r->P (G x)):P o:=by cases o with
 |none=>exact(hd h).elim|some x=>exact c x h
theorem M6{C J:Type}{o:AD C}{d:J}{k:C->J}{r:J}(h:oS o d k=r){P:Prop}(c:∀x,o=G x->k x=r->P)(e:o=L->d=r->P):P:=by cases o with
 |none=>exact e rfl h|some x=>exact c x rfl h
noncomputable def oN{C J:Type}(o:AD C)(d k:J):J:=fF (motive:=λ_=>J) k (λ_=>d) o
theorem GP{C J:Type}{o:AD C}{d k r:J}(h:oN o d k=r)(hd:d=r->Bj){P:AD C->Prop}(c:k=r->P L):P o:=by cases o with
 |none=>exact c h|some x=>exact(hd h).elim
noncomputable def bT{J:Type}(b:AK)(d k:J):J:=PP (motive:=λ_=>J) d k b
theorem Ce{J:Type}{b:AK}{d k r:J}(h:bT b d k=r)(hd:d=r->Bj){P:Prop}(c:b=M->k=r->P):P:=by cases b with
 |true=>exact c rfl h|false=>exact(hd h).elim
theorem B1{a b:AK}(h:(a&&b)=M):a=M:=(bp1.mp h).1
theorem Ak{a b:AK}(h:(a&&b)=M):b=M:=(bp1.mp h).2
theorem Br{C:Type}{a x:C}(h:G a=G x){P:C->Prop}(k:P a):P x:=Bm h▸k
theorem vM{C J:Type}{a x:C}{b y:J}(h:G (a,b)=G (x,y)){P:C->J->Prop}(k:P a b):P x y:=Br h (P:=λz=>P z.1 z.2) k
theorem M7{C J EH:Type}{a x:C}{b y:J}{c z:EH}(h:G (a,b,c)=G (x,y,z)){P:C->J->EH->Prop}(k:P a b c):P x y z:=Br h (P:=λz=>P z.1 z.2.1 z.2.2) k
theorem vN{C J EH iH:Type}{a x:C}{b y:J}{c z:EH}{d w:iH}(h:G (a,b,c,d)=G (x,y,z,w)){P:C->J->EH->iH->Prop}(k:P a b c d):P x y z w:=Br h (P:=λz=>P z.1 z.2.1 z.2.2.1 z.2.2.2) k
theorem IL{C:Type}{a b:C}[sd (a=b)](h:decide (a=b)=M){P:C->Prop}(k:P b):P a:=of_decide_eq_true h▸k
theorem xA{P0:Prop}{AM:Prop}(h:P0/\(AM)){P:Prop}(k:P0->AM->P):P:=by obtain⟨h0,z⟩:=h;exact k h0 z
theorem xE{Ar:Sort _}{AM:Ar->Prop}(h:∃x0,AM x0){P:Prop}(k:∀x0,AM x0->P):P:=by obtain⟨x0,z⟩:=h;exact k x0 z
theorem G5{P0:Prop}{P1:Prop}{AM:Prop}(h:P0/\(P1/\(AM))){P:Prop}(k:P0->P1->AM->P):P:=by obtain⟨h0,h1,z⟩:=h;exact k h0 h1 z
theorem H8{B2:Sort _}{P0:Prop}{AM:B2->Prop}(h:P0/\(∃x1,AM x1)){P:Prop}(k:P0->∀x1,AM x1->P):P:=by obtain⟨h0,x1,z⟩:=h;exact k h0 x1 z
theorem AC{Ar:Sort _}{P1:Ar->Prop}{AM:Ar->Prop}(h:∃x0,P1 x0/\(AM x0)){P:Prop}(k:∀x0,P1 x0->AM x0->P):P:=by obtain⟨x0,h1,z⟩:=h;exact k x0 h1 z
theorem DB{Ar:Sort _}{B2:Sort _}{AM:Ar->B2->Prop}(h:∃x0,∃x1,AM x0 x1){P:Prop}(k:∀x0,∀x1,AM x0 x1->P):P:=by obtain⟨x0,x1,z⟩:=h;exact k x0 x1 z
theorem M8{P0:Prop}{P1:Prop}{P2:Prop}{AM:Prop}(h:P0/\(P1/\(P2/\(AM)))){P:Prop}(k:P0->P1->P2->AM->P):P:=by obtain⟨h0,h1,h2,z⟩:=h;exact k h0 h1 h2 z
theorem IM{BH:Sort _}{P0:Prop}{P1:Prop}{AM:BH->Prop}(h:P0/\(P1/\(∃x2,AM x2))){P:Prop}(k:P0->P1->∀x2,AM x2->P):P:=by obtain⟨h0,h1,x2,z⟩:=h;exact k h0 h1 x2 z
theorem Ho{B2:Sort _}{P0:Prop}{P2:B2->Prop}{AM:B2->Prop}(h:P0/\(∃x1,P2 x1/\(AM x1))){P:Prop}(k:P0->∀x1,P2 x1->AM x1->P):P:=by obtain⟨h0,x1,h2,z⟩:=h;exact k h0 x1 h2 z
theorem CZ{Ar:Sort _}{P1:Ar->Prop}{P2:Ar->Prop}{AM:Ar->Prop}(h:∃x0,P1 x0/\(P2 x0/\(AM x0))){P:Prop}(k:∀x0,P1 x0->P2 x0->AM x0->P):P:=by obtain⟨x0,h1,h2,z⟩:=h;exact k x0 h1 h2 z
theorem vO{Ar:Sort _}{BH:Sort _}{P1:Ar->Prop}{AM:Ar->BH->Prop}(h:∃x0,P1 x0/\(∃x2,AM x0 x2)){P:Prop}(k:∀x0,P1 x0->∀x2,AM x0 x2->P):P:=by obtain⟨x0,h1,x2,z⟩:=h;exact k x0 h1 x2 z
theorem EX{Ar:Sort _}{B2:Sort _}{P2:Ar->B2->Prop}{AM:Ar->B2->Prop}(h:∃x0,∃x1,P2 x0 x1/\(AM x0 x1)){P:Prop}(k:∀x0,∀x1,P2 x0 x1->AM x0 x1->P):P:=by obtain⟨x0,x1,h2,z⟩:=h;exact k x0 x1 h2 z
theorem vP{Ar:Sort _}{B2:Sort _}{BH:Sort _}{AM:Ar->B2->BH->Prop}(h:∃x0,∃x1,∃x2,AM x0 x1 x2){P:Prop}(k:∀x0,∀x1,∀x2,AM x0 x1 x2->P):P:=by obtain⟨x0,x1,x2,z⟩:=h;exact k x0 x1 x2 z
theorem VO{P0:Prop}{P1:Prop}{P2:Prop}{P3:Prop}{AM:Prop}(h:P0/\(P1/\(P2/\(P3/\(AM))))){P:Prop}(k:P0->P1->P2->P3->AM->P):P:=by obtain⟨h0,h1,h2,h3,z⟩:=h;exact k h0 h1 h2 h3 z
theorem Pp{BH:Sort _}{P0:Prop}{P1:Prop}{P3:BH->Prop}{AM:BH->Prop}(h:P0/\(P1/\(∃x2,P3 x2/\(AM x2)))){P:Prop}(k:P0->P1->∀x2,P3 x2->AM x2->P):P:=by obtain⟨h0,h1,x2,h3,z⟩:=h;exact k h0 h1 x2 h3 z
theorem Pq{Ar:Sort _}{Bk:Sort _}{P1:Ar->Prop}{P2:Ar->Prop}{AM:Ar->Bk->Prop}(h:∃x0,P1 x0/\(P2 x0/\(∃x3,AM x0 x3))){P:Prop}(k:∀x0,P1 x0->P2 x0->∀x3,AM x0 x3->P):P:=by obtain⟨x0,h1,h2,x3,z⟩:=h;exact k x0 h1 h2 x3 z
theorem vQ{Ar:Sort _}{BH:Sort _}{P1:Ar->Prop}{P3:Ar->BH->Prop}{AM:Ar->BH->Prop}(h:∃x0,P1 x0/\(∃x2,P3 x0 x2/\(AM x0 x2))){P:Prop}(k:∀x0,P1 x0->∀x2,P3 x0 x2->AM x0 x2->P):P:=by obtain⟨x0,h1,x2,h3,z⟩:=h;exact k x0 h1 x2 h3 z
theorem Bv{Ar:Sort _}{B2:Sort _}{P2:Ar->B2->Prop}{P3:Ar->B2->Prop}{AM:Ar->B2->Prop}(h:∃x0,∃x1,P2 x0 x1/\(P3 x0 x1/\(AM x0 x1))){P:Prop}(k:∀x0,∀x1,P2 x0 x1->P3 x0 x1->AM x0 x1->P):P:=by obtain⟨x0,x1,h2,h3,z⟩:=h;exact k x0 x1 h2 h3 z
theorem Hp{Ar:Sort _}{B2:Sort _}{BH:Sort _}{P3:Ar->B2->BH->Prop}{AM:Ar->B2->BH->Prop}(h:∃x0,∃x1,∃x2,P3 x0 x1 x2/\(AM x0 x1 x2)){P:Prop}(k:∀x0,∀x1,∀x2,P3 x0 x1 x2->AM x0 x1 x2->P):P:=by obtain⟨x0,x1,x2,h3,z⟩:=h;exact k x0 x1 x2 h3 z
theorem vR{Ar:Sort _}{B2:Sort _}{BH:Sort _}{Bk:Sort _}{AM:Ar->B2->BH->Bk->Prop}(h:∃x0,∃x1,∃x2,∃x3,AM x0 x1 x2 x3){P:Prop}(k:∀x0,∀x1,∀x2,∀x3,AM x0 x1 x2 x3->P):P:=by obtain⟨x0,x1,x2,x3,z⟩:=h;exact k x0 x1 x2 x3 z
theorem S5{P0:Prop}{P1:Prop}{P2:Prop}{P3:Prop}{P4:Prop}{AM:Prop}(h:P0/\(P1/\(P2/\(P3/\(P4/\(AM)))))){P:Prop}(k:P0->P1->P2->P3->P4->AM->P):P:=by obtain⟨h0,h1,h2,h3,h4,z⟩:=h;exact k h0 h1 h2 h3 h4 z
theorem S6{Ar:Sort _}{P1:Ar->Prop}{P2:Ar->Prop}{P3:Ar->Prop}{P4:Ar->Prop}{AM:Ar->Prop}(h:∃x0,P1 x0/\(P2 x0/\(P3 x0/\(P4 x0/\(AM x0))))){P:Prop}(k:∀x0,P1 x0->P2 x0->P3 x0->P4 x0->AM x0->P):P:=by obtain⟨x0,h1,h2,h3,h4,z⟩:=h;exact k x0 h1 h2 h3 h4 z
theorem VP{Ar:Sort _}{BH:Sort _}{P1:Ar->Prop}{P3:Ar->BH->Prop}{P4:Ar->BH->Prop}{AM:Ar->BH->Prop}(h:∃x0,P1 x0/\(∃x2,P3 x0 x2/\(P4 x0 x2/\(AM x0 x2)))){P:Prop}(k:∀x0,P1 x0->∀x2,P3 x0 x2->P4 x0 x2->AM x0 x2->P):P:=by obtain⟨x0,h1,x2,h3,h4,z⟩:=h;exact k x0 h1 x2 h3 h4 z
theorem HS{Ar:Sort _}{B2:Sort _}{P2:Ar->B2->Prop}{P3:Ar->B2->Prop}{P4:Ar->B2->Prop}{AM:Ar->B2->Prop}(h:∃x0,∃x1,P2 x0 x1/\(P3 x0 x1/\(P4 x0 x1/\(AM x0 x1)))){P:Prop}(k:∀x0,∀x1,P2 x0 x1->P3 x0 x1->P4 x0 x1->AM x0 x1->P):P:=by obtain⟨x0,x1,h2,h3,h4,z⟩:=h;exact k x0 x1 h2 h3 h4 z
theorem Gp{Ar:Sort _}{B2:Sort _}{BH:Sort _}{P3:Ar->B2->BH->Prop}{P4:Ar->B2->BH->Prop}{AM:Ar->B2->BH->Prop}(h:∃x0,∃x1,∃x2,P3 x0 x1 x2/\(P4 x0 x1 x2/\(AM x0 x1 x2))){P:Prop}(k:∀x0,∀x1,∀x2,P3 x0 x1 x2->P4 x0 x1 x2->AM x0 x1 x2->P):P:=by obtain⟨x0,x1,x2,h3,h4,z⟩:=h;exact k x0 x1 x2 h3 h4 z
theorem Jw{Ar:Sort _}{B2:Sort _}{BH:Sort _}{Bk:Sort _}{P4:Ar->B2->BH->Bk->Prop}{AM:Ar->B2->BH->Bk->Prop}(h:∃x0,∃x1,∃x2,∃x3,P4 x0 x1 x2 x3/\(AM x0 x1 x2 x3)){P:Prop}(k:∀x0,∀x1,∀x2,∀x3,P4 x0 x1 x2 x3->AM x0 x1 x2 x3->P):P:=by obtain⟨x0,x1,x2,x3,h4,z⟩:=h;exact k x0 x1 x2 x3 h4 z
theorem iI{P0:Prop}{P1:Prop}{P2:Prop}{P3:Prop}{P4:Prop}{P5:Prop}{AM:Prop}(h:P0/\(P1/\(P2/\(P3/\(P4/\(P5/\(AM))))))){P:Prop}(k:P0->P1->P2->P3->P4->P5->AM->P):P:=by obtain⟨h0,h1,h2,h3,h4,h5,z⟩:=h;exact k h0 h1 h2 h3 h4 h5 z
theorem iJ{CT:Sort _}{P0:Prop}{P1:Prop}{P2:Prop}{P3:Prop}{P5:CT->Prop}{AM:CT->Prop}(h:P0/\(P1/\(P2/\(P3/\(∃x4,P5 x4/\(AM x4)))))){P:Prop}(k:P0->P1->P2->P3->∀x4,P5 x4->AM x4->P):P:=by obtain⟨h0,h1,h2,h3,x4,h5,z⟩:=h;exact k h0 h1 h2 h3 x4 h5 z
theorem vS{BH:Sort _}{Bk:Sort _}{P0:Prop}{P1:Prop}{P4:BH->Bk->Prop}{P5:BH->Bk->Prop}{AM:BH->Bk->Prop}(h:P0/\(P1/\(∃x2,∃x3,P4 x2 x3/\(P5 x2 x3/\(AM x2 x3))))){P:Prop}(k:P0->P1->∀x2,∀x3,P4 x2 x3->P5 x2 x3->AM x2 x3->P):P:=by obtain⟨h0,h1,x2,x3,h4,h5,z⟩:=h;exact k h0 h1 x2 x3 h4 h5 z
theorem JA{Ar:Sort _}{B2:Sort _}{BH:Sort _}{P3:Ar->B2->BH->Prop}{P4:Ar->B2->BH->Prop}{P5:Ar->B2->BH->Prop}{AM:Ar->B2->BH->Prop}(h:∃x0,∃x1,∃x2,P3 x0 x1 x2/\(P4 x0 x1 x2/\(P5 x0 x1 x2/\(AM x0 x1 x2)))){P:Prop}(k:∀x0,∀x1,∀x2,P3 x0 x1 x2->P4 x0 x1 x2->P5 x0 x1 x2->AM x0 x1 x2->P):P:=by obtain⟨x0,x1,x2,h3,h4,h5,z⟩:=h;exact k x0 x1 x2 h3 h4 h5 z
theorem vT{Ar:Sort _}{B2:Sort _}{BH:Sort _}{Bk:Sort _}{P4:Ar->B2->BH->Bk->Prop}{P5:Ar->B2->BH->Bk->Prop}{AM:Ar->B2->BH->Bk->Prop}(h:∃x0,∃x1,∃x2,∃x3,P4 x0 x1 x2 x3/\(P5 x0 x1 x2 x3/\(AM x0 x1 x2 x3))){P:Prop}(k:∀x0,∀x1,∀x2,∀x3,P4 x0 x1 x2 x3->P5 x0 x1 x2 x3->AM x0 x1 x2 x3->P):P:=by obtain⟨x0,x1,x2,x3,h4,h5,z⟩:=h;exact k x0 x1 x2 x3 h4 h5 z
theorem vU{Ar:Sort _}{B2:Sort _}{BH:Sort _}{Bk:Sort _}{CT:Sort _}{P5:Ar->B2->BH->Bk->CT->Prop}{AM:Ar->B2->BH->Bk->CT->Prop}(h:∃x0,∃x1,∃x2,∃x3,∃x4,P5 x0 x1 x2 x3 x4/\(AM x0 x1 x2 x3 x4)){P:Prop}(k:∀x0,∀x1,∀x2,∀x3,∀x4,P5 x0 x1 x2 x3 x4->AM x0 x1 x2 x3 x4->P):P:=by obtain⟨x0,x1,x2,x3,x4,h5,z⟩:=h;exact k x0 x1 x2 x3 x4 h5 z
theorem iK{P0:Prop}{P1:Prop}{P2:Prop}{P3:Prop}{P4:Prop}{P5:Prop}{P6:Prop}{AM:Prop}(h:P0/\(P1/\(P2/\(P3/\(P4/\(P5/\(P6/\(AM)))))))){P:Prop}(k:P0->P1->P2->P3->P4->P5->P6->AM->P):P:=by obtain⟨h0,h1,h2,h3,h4,h5,h6,z⟩:=h;exact k h0 h1 h2 h3 h4 h5 h6 z
theorem M9{Ar:Sort _}{B2:Sort _}{P2:Ar->B2->Prop}{P3:Ar->B2->Prop}{P4:Ar->B2->Prop}{P5:Ar->B2->Prop}{P6:Ar->B2->Prop}{AM:Ar->B2->Prop}(h:∃x0,∃x1,P2 x0 x1/\(P3 x0 x1/\(P4 x0 x1/\(P5 x0 x1/\(P6 x0 x1/\(AM x0 x1)))))){P:Prop}(k:∀x0,∀x1,P2 x0 x1->P3 x0 x1->P4 x0 x1->P5 x0 x1->P6 x0 x1->AM x0 x1->P):P:=by obtain⟨x0,x1,h2,h3,h4,h5,h6,z⟩:=h;exact k x0 x1 h2 h3 h4 h5 h6 z
theorem iL{Ar:Sort _}{B2:Sort _}{BH:Sort _}{P3:Ar->B2->BH->Prop}{P4:Ar->B2->BH->Prop}{P5:Ar->B2->BH->Prop}{P6:Ar->B2->BH->Prop}{AM:Ar->B2->BH->Prop}(h:∃x0,∃x1,∃x2,P3 x0 x1 x2/\(P4 x0 x1 x2/\(P5 x0 x1 x2/\(P6 x0 x1 x2/\(AM x0 x1 x2))))){P:Prop}(k:∀x0,∀x1,∀x2,P3 x0 x1 x2->P4 x0 x1 x2->P5 x0 x1 x2->P6 x0 x1 x2->AM x0 x1 x2->P):P:=by obtain⟨x0,x1,x2,h3,h4,h5,h6,z⟩:=h;exact k x0 x1 x2 h3 h4 h5 h6 z
theorem VQ{Ar:Sort _}{B2:Sort _}{BH:Sort _}{Bk:Sort _}{P4:Ar->B2->BH->Bk->Prop}{P5:Ar->B2->BH->Bk->Prop}{P6:Ar->B2->BH->Bk->Prop}{AM:Ar->B2->BH->Bk->Prop}(h:∃x0,∃x1,∃x2,∃x3,P4 x0 x1 x2 x3/\(P5 x0 x1 x2 x3/\(P6 x0 x1 x2 x3/\(AM x0 x1 x2 x3)))){P:Prop}(k:∀x0,∀x1,∀x2,∀x3,P4 x0 x1 x2 x3->P5 x0 x1 x2 x3->P6 x0 x1 x2 x3->AM x0 x1 x2 x3->P):P:=by obtain⟨x0,x1,x2,x3,h4,h5,h6,z⟩:=h;exact k x0 x1 x2 x3 h4 h5 h6 z
theorem S7{Ar:Sort _}{B2:Sort _}{CT:Sort _}{Du:Sort _}{P2:Ar->B2->Prop}{P3:Ar->B2->Prop}{P6:Ar->B2->CT->Du->Prop}{P7:Ar->B2->CT->Du->Prop}{AM:Ar->B2->CT->Du->Prop}(h:∃x0,∃x1,P2 x0 x1/\(P3 x0 x1/\(∃x4,∃x5,P6 x0 x1 x4 x5/\(P7 x0 x1 x4 x5/\(AM x0 x1 x4 x5))))){P:Prop}(k:∀x0,∀x1,P2 x0 x1->P3 x0 x1->∀x4,∀x5,P6 x0 x1 x4 x5->P7 x0 x1 x4 x5->AM x0 x1 x4 x5->P):P:=by obtain⟨x0,x1,h2,h3,x4,x5,h6,h7,z⟩:=h;exact k x0 x1 h2 h3 x4 x5 h6 h7 z
theorem VS{Ar:Sort _}{B2:Sort _}{BH:Sort _}{Bk:Sort _}{P4:Ar->B2->BH->Bk->Prop}{P5:Ar->B2->BH->Bk->Prop}{P6:Ar->B2->BH->Bk->Prop}{P7:Ar->B2->BH->Bk->Prop}{AM:Ar->B2->BH->Bk->Prop}(h:∃x0,∃x1,∃x2,∃x3,P4 x0 x1 x2 x3/\(P5 x0 x1 x2 x3/\(P6 x0 x1 x2 x3/\(P7 x0 x1 x2 x3/\(AM x0 x1 x2 x3))))){P:Prop}(k:∀x0,∀x1,∀x2,∀x3,P4 x0 x1 x2 x3->P5 x0 x1 x2 x3->P6 x0 x1 x2 x3->P7 x0 x1 x2 x3->AM x0 x1 x2 x3->P):P:=by obtain⟨x0,x1,x2,x3,h4,h5,h6,h7,z⟩:=h;exact k x0 x1 x2 x3 h4 h5 h6 h7 z
theorem Kt{Ar:Sort _}{B2:Sort _}{BH:Sort _}{Bk:Sort _}{P4:Ar->B2->BH->Bk->Prop}{P5:Ar->B2->BH->Bk->Prop}{P6:Ar->B2->BH->Bk->Prop}{P7:Ar->B2->BH->Bk->Prop}{P8:Ar->B2->BH->Bk->Prop}{AM:Ar->B2->BH->Bk->Prop}(h:∃x0,∃x1,∃x2,∃x3,P4 x0 x1 x2 x3/\(P5 x0 x1 x2 x3/\(P6 x0 x1 x2 x3/\(P7 x0 x1 x2 x3/\(P8 x0 x1 x2 x3/\(AM x0 x1 x2 x3)))))){P:Prop}(k:∀x0,∀x1,∀x2,∀x3,P4 x0 x1 x2 x3->P5 x0 x1 x2 x3->P6 x0 x1 x2 x3->P7 x0 x1 x2 x3->P8 x0 x1 x2 x3->AM x0 x1 x2 x3->P):P:=by obtain⟨x0,x1,x2,x3,h4,h5,h6,h7,h8,z⟩:=h;exact k x0 x1 x2 x3 h4 h5 h6 h7 h8 z
theorem iM{Ar:Sort _}{B2:Sort _}{BH:Sort _}{Bk:Sort _}{CT:Sort _}{Du:Sort _}{P6:Ar->B2->BH->Bk->CT->Du->Prop}{P7:Ar->B2->BH->Bk->CT->Du->Prop}{P8:Ar->B2->BH->Bk->CT->Du->Prop}{AM:Ar->B2->BH->Bk->CT->Du->Prop}(h:∃x0,∃x1,∃x2,∃x3,∃x4,∃x5,P6 x0 x1 x2 x3 x4 x5/\(P7 x0 x1 x2 x3 x4 x5/\(P8 x0 x1 x2 x3 x4 x5/\(AM x0 x1 x2 x3 x4 x5)))){P:Prop}(k:∀x0,∀x1,∀x2,∀x3,∀x4,∀x5,P6 x0 x1 x2 x3 x4 x5->P7 x0 x1 x2 x3 x4 x5->P8 x0 x1 x2 x3 x4 x5->AM x0 x1 x2 x3 x4 x5->P):P:=by obtain⟨x0,x1,x2,x3,x4,x5,h6,h7,h8,z⟩:=h;exact k x0 x1 x2 x3 x4 x5 h6 h7 h8 z
theorem iN{Ar:Sort _}{B2:Sort _}{BH:Sort _}{Bk:Sort _}{CT:Sort _}{P5:Ar->B2->BH->Bk->CT->Prop}{P6:Ar->B2->BH->Bk->CT->Prop}{P7:Ar->B2->BH->Bk->CT->Prop}{P8:Ar->B2->BH->Bk->CT->Prop}{P9:Ar->B2->BH->Bk->CT->Prop}{AM:Ar->B2->BH->Bk->CT->Prop}(h:∃x0,∃x1,∃x2,∃x3,∃x4,P5 x0 x1 x2 x3 x4/\(P6 x0 x1 x2 x3 x4/\(P7 x0 x1 x2 x3 x4/\(P8 x0 x1 x2 x3 x4/\(P9 x0 x1 x2 x3 x4/\(AM x0 x1 x2 x3 x4)))))){P:Prop}(k:∀x0,∀x1,∀x2,∀x3,∀x4,P5 x0 x1 x2 x3 x4->P6 x0 x1 x2 x3 x4->P7 x0 x1 x2 x3 x4->P8 x0 x1 x2 x3 x4->P9 x0 x1 x2 x3 x4->AM x0 x1 x2 x3 x4->P):P:=by obtain⟨x0,x1,x2,x3,x4,h5,h6,h7,h8,h9,z⟩:=h;exact k x0 x1 x2 x3 x4 h5 h6 h7 h8 h9 z
theorem iO{Ar:Sort _}{B2:Sort _}{BH:Sort _}{Bk:Sort _}{CT:Sort _}{Du:Sort _}{P6:Ar->B2->BH->Bk->CT->Du->Prop}{P7:Ar->B2->BH->Bk->CT->Du->Prop}{P8:Ar->B2->BH->Bk->CT->Du->Prop}{P9:Ar->B2->BH->Bk->CT->Du->Prop}{AM:Ar->B2->BH->Bk->CT->Du->Prop}(h:∃x0,∃x1,∃x2,∃x3,∃x4,∃x5,P6 x0 x1 x2 x3 x4 x5/\(P7 x0 x1 x2 x3 x4 x5/\(P8 x0 x1 x2 x3 x4 x5/\(P9 x0 x1 x2 x3 x4 x5/\(AM x0 x1 x2 x3 x4 x5))))){P:Prop}(k:∀x0,∀x1,∀x2,∀x3,∀x4,∀x5,P6 x0 x1 x2 x3 x4 x5->P7 x0 x1 x2 x3 x4 x5->P8 x0 x1 x2 x3 x4 x5->P9 x0 x1 x2 x3 x4 x5->AM x0 x1 x2 x3 x4 x5->P):P:=by obtain⟨x0,x1,x2,x3,x4,x5,h6,h7,h8,h9,z⟩:=h;exact k x0 x1 x2 x3 x4 x5 h6 h7 h8 h9 z
theorem Ys{Ar:Sort _}{B2:Sort _}{CT:Sort _}{Du:Sort _}{Yt:Sort _}{Yu:Sort _}{P2:Ar->B2->Prop}{P3:Ar->B2->Prop}{P6:Ar->B2->CT->Du->Prop}{P7:Ar->B2->CT->Du->Prop}{MA:Ar->B2->CT->Du->Yt->Yu->Prop}{MB:Ar->B2->CT->Du->Yt->Yu->Prop}{AM:Ar->B2->CT->Du->Yt->Yu->Prop}(h:∃x0,∃x1,P2 x0 x1/\(P3 x0 x1/\(∃x4,∃x5,P6 x0 x1 x4 x5/\(P7 x0 x1 x4 x5/\(∃x8,∃x9,MA x0 x1 x4 x5 x8 x9/\(MB x0 x1 x4 x5 x8 x9/\(AM x0 x1 x4 x5 x8 x9))))))){P:Prop}(k:∀x0,∀x1,P2 x0 x1->P3 x0 x1->∀x4,∀x5,P6 x0 x1 x4 x5->P7 x0 x1 x4 x5->∀x8,∀x9,MA x0 x1 x4 x5 x8 x9->MB x0 x1 x4 x5 x8 x9->AM x0 x1 x4 x5 x8 x9->P):P:=by obtain⟨x0,x1,h2,h3,x4,x5,h6,h7,x8,x9,S8,S9,z⟩:=h;exact k x0 x1 h2 h3 x4 x5 h6 h7 x8 x9 S8 S9 z
theorem iP{Ar:Sort _}{B2:Sort _}{BH:Sort _}{Bk:Sort _}{CT:Sort _}{P5:Ar->B2->BH->Bk->CT->Prop}{P6:Ar->B2->BH->Bk->CT->Prop}{P7:Ar->B2->BH->Bk->CT->Prop}{P8:Ar->B2->BH->Bk->CT->Prop}{P9:Ar->B2->BH->Bk->CT->Prop}{MA:Ar->B2->BH->Bk->CT->Prop}{MB:Ar->B2->BH->Bk->CT->Prop}{AM:Ar->B2->BH->Bk->CT->Prop}(h:∃x0,∃x1,∃x2,∃x3,∃x4,P5 x0 x1 x2 x3 x4/\(P6 x0 x1 x2 x3 x4/\(P7 x0 x1 x2 x3 x4/\(P8 x0 x1 x2 x3 x4/\(P9 x0 x1 x2 x3 x4/\(MA x0 x1 x2 x3 x4/\(MB x0 x1 x2 x3 x4/\(AM x0 x1 x2 x3 x4)))))))){P:Prop}(k:∀x0,∀x1,∀x2,∀x3,∀x4,P5 x0 x1 x2 x3 x4->P6 x0 x1 x2 x3 x4->P7 x0 x1 x2 x3 x4->P8 x0 x1 x2 x3 x4->P9 x0 x1 x2 x3 x4->MA x0 x1 x2 x3 x4->MB x0 x1 x2 x3 x4->AM x0 x1 x2 x3 x4->P):P:=by obtain⟨x0,x1,x2,x3,x4,h5,h6,h7,h8,h9,S8,S9,z⟩:=h;exact k x0 x1 x2 x3 x4 h5 h6 h7 h8 h9 S8 S9 z
theorem VT{Ar:Sort _}{B2:Sort _}{BH:Sort _}{Bk:Sort _}{CT:Sort _}{Du:Sort _}{MC:Sort _}{P7:Ar->B2->BH->Bk->CT->Du->MC->Prop}{P8:Ar->B2->BH->Bk->CT->Du->MC->Prop}{P9:Ar->B2->BH->Bk->CT->Du->MC->Prop}{MA:Ar->B2->BH->Bk->CT->Du->MC->Prop}{MB:Ar->B2->BH->Bk->CT->Du->MC->Prop}{iQ:Ar->B2->BH->Bk->CT->Du->MC->Prop}{iR:Ar->B2->BH->Bk->CT->Du->MC->Prop}{AM:Ar->B2->BH->Bk->CT->Du->MC->Prop}(h:∃x0,∃x1,∃x2,∃x3,∃x4,∃x5,∃x6,P7 x0 x1 x2 x3 x4 x5 x6/\(P8 x0 x1 x2 x3 x4 x5 x6/\(P9 x0 x1 x2 x3 x4 x5 x6/\(MA x0 x1 x2 x3 x4 x5 x6/\(MB x0 x1 x2 x3 x4 x5 x6/\(iQ x0 x1 x2 x3 x4 x5 x6/\(iR x0 x1 x2 x3 x4 x5 x6/\(AM x0 x1 x2 x3 x4 x5 x6)))))))){P:Prop}(k:∀x0,∀x1,∀x2,∀x3,∀x4,∀x5,∀x6,P7 x0 x1 x2 x3 x4 x5 x6->P8 x0 x1 x2 x3 x4 x5 x6->P9 x0 x1 x2 x3 x4 x5 x6->MA x0 x1 x2 x3 x4 x5 x6->MB x0 x1 x2 x3 x4 x5 x6->iQ x0 x1 x2 x3 x4 x5 x6->iR x0 x1 x2 x3 x4 x5 x6->AM x0 x1 x2 x3 x4 x5 x6->P):P:=by obtain⟨x0,x1,x2,x3,x4,x5,x6,h7,h8,h9,S8,S9,vV,vW,z⟩:=h;exact k x0 x1 x2 x3 x4 x5 x6 h7 h8 h9 S8 S9 vV vW z
noncomputable def all2{C J:Type}(f:C->J->AK):I C->I J->AK
 |[],l=>l.isEmpty|a::x,l=>match l with
 |[]=>A6|b::y=>f a b&&all2 f x y
theorem VU{C J:Type}{f:C->J->AK}{P:I C->I J->Prop}(n:P [] [])(c:∀a b x y,f a b=M->P x y->P (a::x) (b::y)){x:I C}:∀{y:I J},all2 f x y=M->P x y:=by induction x with
 |nil=>intro y h;cases y with
  |nil=>exact n|cons _ _=>exact(B0 h).elim
 |cons a x ih=>intro y h;cases y with
 |nil=>exact(B0 h).elim|cons b y=>exact c a b x y (B1 h) (ih (Ak h))
theorem Np{C:Type}{f:C->C->AK}(hf:∀a b,f a b=M->a=b)(x y:I C)(h:all2 f x y=M):x=y:=VU (P:=λx y=>x=y) rfl (λa b _ _ q ih=>congr (congrArg bp2 (hf a b q)) ih) h
theorem vX{C J:Type}{f:C->J->AK}{g:J->C}(hf:∀a b,f a b=M->a=g b){x:I C}{y:I J}(h:all2 f x y=M):x=y.map g:=VU (P:=λx y=>x=y.map g) rfl (λa b _ _ q ih=>congr (congrArg bp2 (hf a b q)) ih) h
theorem all_cons{J:Type}{p:J->Prop}{x:J}{l:I J}(h:p x)(t:∀o∈l,p o):∀o∈x::l,p o:=λo m=>(Cj.mp m).elim (λe=>e▸h) (t o)
theorem EE{J:Type}{p:J->Prop}:∀o∈([]:I J),p o:=λ_ m=>nomatch m
theorem VV{C J:Type}{o:AD C}{d:J}{k:C->J}{r:J}(h:oS o d k=r)(hd:d=r->Bj){P:Prop}(c:∀x,o=G x->k x=r->P):P:=by cases o with
 |none=>exact(hd h).elim|some x=>exact c x rfl h
theorem yT{a b c:O}(h:a=b)(k:b<=c):a<=c:=h▸k
theorem yS{a b c:O}(h:b=a)(k:b<=c):a<=c:=h▸k
theorem yQ{a b c:O}(h:c=b)(k:a<b):a<c:=h▸k
theorem yU{u k c e:O}(h:u+10*k<9000)(q:9000+c<=e):u+c<e:=J' (Nat.add_lt_add_right (H2 (H3 u _) h) c) q
theorem yW{a n d k m:O}(e:d<=k)(h:a+n*k<m):a+n*d<m:=H2 (HK (se n e) a) h
theorem yV{x a c n d m:O}(e:x<=a+c)(h:a+n*(d+1)<m)(q:c<=n):x+n*d<m:=H2 (B4 (Xy e _) (B4 (Ek (NO a c _)) (HK (B4 (Xy q _) (Ek (Ll n _))) a))) h
theorem yK{a c n d k m:O}(e:k=d+1)(h:a+n*k<m)(q:c<=n):a+c+n*d<m:=yV (DF _) (e▸h) q
theorem yJ{a n d k m:O}(e:k=d+1)(h:a+n*k<m):a+n*d<m:=yW (e▸PQ d) h
theorem yI{k:O}(h:0<k):k=k-1+1:=(Xz h).symm
theorem yH{k m:O}(h:m+1<=k):k=k-1+1:=yI (J' (Nat.succ_pos m) h)
theorem yX{n i k:O}(h:n-i=k+1):n-(i+1)=k:=congrArg Nat.pred h
theorem yC{r c l:O}(h:l<=c):r+(c-l)-c=r-l:=by rw[<-sg h,Nat.sub_right_comm,bp3]
theorem yD{r c l:O}(h:l<=c)(k:l<=r):c<=r+(c-l):=B4 (Ek (Xz h).symm) (B4 (HK k _) (Ek (Ll _ _)))
theorem vY{r o AG c:O}(k:o<=15)(q:AG+(r-o)<=c):AG+(r-15)<=c:=B4 (HK (fH k r) AG) q
theorem vZ{a b c s:O}(h:a+b=c):s+b=s+(c-a):=congrArg (s+·) (bp4 h)
theorem iS{a p b q Av:O}(h:a+p<=Av)(k:b+q<=Av)(j:Av<=p+q):a+b+(p+q-Av)<=Av:=B4 (Ek (sg j (a+b)).symm) (bp5 (B4 (Ek (Nat.add_add_add_comm a b p q)) (Um h k)))
theorem v_{a b:O}(h:b=1):a+2=a+1+(b+1-1):=by subst h;rfl
theorem vc{x o A9:O}(h:x<=100000)(k:100002<=A9)(q:o<=x+1-0):o+1<=A9:=B4 (Lm (B4 q (Lm h))) k
theorem vd(AG An:O):AG-0+(An-0)<=AG+An:=DF _
theorem ve{l:O}{AS:Prop}(h:l<30)(k:l/30+1>300/\AS):Bj:=absurd (show 0+1>300 from Nat.div_eq_of_lt h▸k.1) (by decide)
theorem vf{m p A1:O}(h:m+p=A1)(k:p<A1):m=m-1+1:=(Xz (fK λe=>J0 p (J' k (Ek (h.symm.trans ((congrArg (·+p) e).trans (Un p))))))).symm
theorem vg{AG:AX}{m l:O}(h:0<=AG)(k:AG<(m:AX))(e:m=l):AG.toNat<l:=e▸(sh h).mpr k
theorem vh{a b T AS:O}(h:a+b=0+0+T)(k:T=min 3 AS):a+b<=3:=B4 (Ek (h.trans (Un T))) (k▸Y' 3 AS)
theorem vk{l hi lo i:AX}(e:l=max (hi-lo) 0-i)(h:lo+i<hi):0<l:=e▸Int.sub_pos_of_lt (bp6 (Int.lt_sub_left_of_add_lt h) (Int.le_max_left _ _))
theorem vl{AG m i Av:O}(h:AG<=100000)(k:m+1<=200000)(j:i<=AG)(l:Av<=i):Av+(m+1)<=90000+900000:=B4 (Um (B4 l (B4 j h)) k) (by decide)
theorem vm{AG i Av:O}(h:AG<=100000)(j:i<=AG)(l:Av<=i):Av+0<=90000+900000:=B4 l (B4 j (B4 h (by decide)))
theorem vn{j m:O}(h:¬j<m):6+m+(j-m)=6+j:=(NO 6 m _).trans (congrArg (6+·) (Nat.add_sub_cancel' (fM h)))
theorem vo{e p:O}(h:e<=1)(k:p=e)(n:¬e=0):p=1:=k.trans (Y0 h (fK n))
theorem vp{l n:O}(h:l=n+1):l-1=n:=h▸rfl
theorem iU{k:AX}{l:O}(h:¬k<0)(j:k.toNat<l):0<=k/\k<(l:AX):=⟨si.mp h,(sh (si.mp h)).mp j⟩
theorem vq{l m a b:O}(k:l+m<=3)(h:a+b=0+0+l)(q:1<=m):b<=2:=B4 (B4 (fN b a) (Ek (h.trans (Un l)))) (sj (B4 (HK q l) k))
theorem vt{i k a:O}(h:k<a)(q:i=k\/i=a):i<a+1:=q.elim (λe=>e▸fO h) (λe=>e▸PR i)
theorem vx{l Av:AX}{i:O}(e:l=Av-(i:AX)):l-1=Av-((i+1:O):AX):=(congrArg (·-1) e).trans (Int.sub_sub Av i 1)
theorem vy{l:AX}{i:O}:l+((i+1:O):AX)=l+(i:AX)+1:=(Int.add_assoc l i 1).symm
theorem vz{x z:O}(h:x<=100000)(k:(x+1)*z<=(x+1)*100):x+(x+1)*z<=16777216:=B4 (Um h (B4 k (Nat.mul_le_mul_right 100 (Lm h)))) (by decide)
theorem w2{a b l:O}:a+1+b+l=a+b+(l+1):=(congrArg (·+l) (Y1 a 1 b)).trans (Y1 (a+b) 1 l)
theorem w3{d u:O}(h:42<=d)(k:u+10*d<9000):u+4<9000:=H2 (HK (B4 (by decide) (se 10 h)) u) k
theorem w4{l A1:O}(h:l<=A1-1)(k:0<A1):l+1<=A1:=B4 (Lm h) (Ek (Xz k))
theorem w5{e i:O}(h:e<=1)(k:i<e):i=0:=Nat.lt_one_iff.mp (J' k h)
theorem w6{e p:O}(h:e<=1)(k:p=e)(n:0<e):p=1:=k.trans (Y0 h n)
theorem w7{p i b:O}{AS:Prop}(h:p<=i/\AS)(k:i<p+b):i-p<b:=Nat.sub_lt_left_of_lt_add h.1 k
theorem w8{x y u v c:O}(e:x=u)(f:y=v)(h:x+y<=c):u+v<=c:=e▸f▸h
theorem w9{a b i:O}(e:a=b)(h:i<a):i<min a b:=bp7.mpr ⟨h,e▸h⟩
theorem iV{u v p:O}(h:v<=100000)(k:u<=1000000)(q:p<=v):u+p<=1100000:=B4 (Um k (B4 q h)) (by decide)
theorem wA{l hi lo:AX}{i:O}(e:l=max (hi-lo) 0-(i:AX))(h:¬lo+(i:AX)<hi):l<=0:=e▸Int.sub_nonpos_of_le (bp8.mpr ⟨Int.sub_left_le_of_le_add (si.mp h),fP i⟩)
theorem wB{m p A1:O}(h:m+1+p=A1):m+(p+1)=A1:=(Y1 m p 1).trans h
theorem wC{u c:O}(h:u+4<c):u+1+2<c:=H2 (PQ (u+3)) h
theorem wD{i a b:O}{AS:Prop}(h:AS/\i<6+(a+b)):i<6+a+b:=(NO 6 a b).symm▸h.2
theorem wE{b y:AX}(k:y<b):y<(b.toNat:AX):=bp6 k (Int.self_le_toNat b)
theorem wF{a b:O}(h:a+b<=3):b<4-a:=Nat.lt_sub_of_add_lt (fQ (B4 (Ek (Ll b a)) h))
theorem wG{i:AX}(h:0<=i)(k:i<100):i.toNat<100:=(sh h).mpr k
theorem Yv{s r c:O}(h:s+(r+1)<=c):s+1+r<=c:=B4 (Ek (Y1 s 1 r)) h
theorem wH{s r c u:O}(h:s+(r+1)<=c)(e:s=u):u<=c:=e▸B4 (H3 _ _) h
theorem wI{A1 Av m:O}(h:A1<=20)(k:m<=Av)(e:Av=A1):m<60:=H2 (B4 k (B4 (Ek e) h)) (by decide)
theorem wJ{p s:O}(h:p=min p s):p<=s:=B4 (Ek h) (sn p s)
theorem wK{u c:O}(h:u+10<c):u+1<c:=H2 (HK (by decide) u) h
theorem wL{u d:O}(e:u=d+1){a:O}(h:a+10*u<9000):a+1+1+1+10*d<9000:=H2 (show a+3+10*d<=a+10*u from e▸B4 (Ek (NO a 3 _)) (HK (B4 (Ek (Ll 3 _)) (HK (by decide) _)) a)) h
theorem wM{i:AX}(h:0<=i)(k:i<100):i.natAbs<100:=fR.mp ((bp9 h).symm▸k)
theorem iW{a b c d:O}(k:c+b<=a+d)(h:a<=b):c<=d:=Nat.le_of_add_le_add_right (B4 k (B4 (Xy h d) (Ek (Ll b d))))
theorem wN{a p b q Av u v:O}(e:a=u)(f:b=v)(h:a+p<=Av)(k:b+q<=Av)(j:Av<=p+q):u+v<=Av:=e▸f▸B4 (H3 _ _) (iS h k j)
theorem wO{a k m u c:O}(e:u=a)(h:a<=k)(q:k+(m+1)<=c):u<=c:=B4 (Ek e) (B4 h (B4 (H3 k _) q))
theorem wP{p e z:O}(q:z<=p)(h:p<=e+1)(k:e<=100000):z<=16777216+1:=B4 q (B4 h (B4 (Lm k) (by decide)))
theorem wQ{AG i Av:O}(l:Av<=i)(j:i<=AG)(h:AG<=100000):Av+0<=90000+900000:=B4 l (B4 j (B4 h (by decide)))
theorem wR{x y:O}(e:y=x)(h:x<60):y<64:=H2 (Ek e) (Nat.lt_trans h (by decide))
theorem wS{b:AX}(h:0<b/\b<=1000000000):b.natAbs<=1000000000:=so.mp ((bp9 (fS h.1)).symm▸h.2)
theorem wT{n:AX}(h:n<=1000):n.toNat<=1000:=bq0.mpr h
theorem yG{m n:O}(h:m<=n+1)(k:¬m<=n):m=n+1:=Y0 h (bq1 k)
theorem yF{m n:O}(h:m<=n)(k:¬m<n):m=n:=Y0 h (fM k)
section
open PyProof.Rows
noncomputable def VW{C:Type u}(p:C->AK)(l:I C):AK:=Ke A6 (λa _ ih=>PP ih M (p a)) l
theorem wU{C:Type u}(p:C->AK)(l:I C):VW p l=l.any p:=by induction l with
 |nil=>rfl|cons a l ih=>
 rw[sq,<-ih];show(PP (motive:=λ_=>AK) (VW p l) M (p a))=_;cases p a<;>rfl
noncomputable def iX{C:Type u}(as:BW C)(p:C->AK)(i j:O):AK:=PP (sr as p i j) (PP (sr as p i j) (VW p as.toList) (BC j as.size)) (BC i 0)
theorem Yw:@sr.{u}=@iX.{u}:=by
 funext C as p i j;unfold iX;cases hi:BC i 0 with
 |false=>rfl|true=>cases hj:BC j as.size with
 |false=>rfl|true=>
 have e1:=CD hi;have e2:=CD hj;subst e1;subst e2;show _=VW p as.toList;rw[wU,bq2]
noncomputable def iY(tn:EB)(id:D9):AD EB:=PP (motive:=λ_=>AD EB) (bP8 id) (G tn) (BC (su id) 29827186395103491166823348853)
theorem wV:bq3.find 29827186395103491166823348853=G PySem.Builtin.«type.__new__»:=by kernel_rfl
theorem Yx:PySem.treeTable=iY fU:=by
 funext id;unfold iY;cases h:BC (su id) 29827186395103491166823348853 with
 |false=>exact congrFun fV id|true=>
 have e:=CD h;show bq3.find (su id)=G _;rw[e,wV,<-bP9]
noncomputable def Yy{J:Type}(e:As)(d:J)(k:U->I AA->I Xx->I As->I AA->I TypeParam->BU->AD BU->U->I U->B9->J):J:=if h:e.ctorIdx=2 then bQ0 (motive_2:=λ_=>J) e h k else d
noncomputable def VX{J:Type}(e:As)(d:J)(k:U->O->B9->B9->J):J:=Pm e d λc q=>HR c d λc n p=>Po c d λs=>k s n p q
noncomputable def docOf(s:As):U:=Yy s RT λ_ _ _ b _ _ _ _ _ _ _=>lC b RT λe _=>VX e RT λs _ _ _=>s
noncomputable def wW(d:U)(s:As):As:=Yy s s λa b c l e f g h i j z=>lC l s λx r=>VX x s λ_ k p q=>.ClassDef a b c (.Expr (.Constant (.str d) k p) q::r) e f g h i j z
noncomputable def VY:As:=(Dp.main.body)[5]?.getD (.Pass ⟨0,0,0,0⟩)
noncomputable def iZ:{d:U//docOf VY=d}:=⟨_,(Fast.ofString_ofList _:docOf VY=_)⟩
noncomputable def Yz(d:U):He:={Dp with main:={Dp.main with body:=Dp.main.body.set 5 (wW d VY)}}
theorem wX:Dp=Yz (docOf VY):=by kernel_rfl
noncomputable def SA:He:=Yz iZ.1
theorem Hq:Dp=SA:=wX.trans (congrArg Yz iZ.2)
end
section
open PyProof.Rows
open PySem.Str(ofString)
open PySem.PyData(keyHash)
noncomputable abbrev bV1:He:=Dp
noncomputable def Ba(k:O):As:=(SA.main.body)[k]?.getD (.Pass ⟨0,0,0,0⟩)
noncomputable def DC(k j:O):As:=Yy (Ba k) (Ba k) λ_ _ _ b _ _ _ _ _ _ _=>b[j]?.getD (.Pass ⟨0,0,0,0⟩)
noncomputable def i_(s:As):U:=VN s RT λn _ _ _ _ _ _ _ _ _=>n
noncomputable def SE(s:As):Arguments:=VN s ⟨[],[],L,[],[],L,[]⟩ λ_ a _ _ _ _ _ _ _ _=>a
noncomputable def Fj(s:As):I As:=VN s [] λ_ _ b _ _ _ _ _ _ _=>b
noncomputable def BV(s:As):BU:=VN s default λ_ _ _ _ _ _ sc _ _ _=>sc
noncomputable def G6(st:As)(qual:U)(globals:A8)(closure:I (U×A8))(dflt kw doc pm:A4)(ia:AD A8)(code ct:A4)(bi:A8):Kg:={name:=i_ st,qualname:=qual,params:=SE st,body:=.stmts (Fj st),scope:=BV st,globals,closure,defaults:=dflt,kwdefaults:=kw,doc,pyModule:=pm,annotations:=ia,code,closureTuple:=ct,builtins:=bi}
noncomputable def SF(name:U)(bases mro:I A4)(ns:A8)(qual:U)(hasDict:AK)(slotNames:I U)(sub:I A4)(abs:AK)(wY:AD AK)(wZ:AK):ClassData:={name,bases,mro,ns,qualname:=qual,hasDict,slotNames,subclasses:=sub,abstract:=abs,collection:=wY,hasDel:=wZ}
noncomputable def Z'(s:As):U:=lC (Fj s) RT λe _=>VX e RT λs _ _ _=>s
noncomputable def ib(k:O):U:=VX (DC k 0) RT λs _ _ _=>s
noncomputable def BL(c:A4)(d:NP):Bi:=⟨c,L,d,#[]⟩
noncomputable def sL(f:O):O->I O->I O:=RS (λ_ l=>l) (λ_ ih n l=>bC (BC n 0) l (ih (n/256) (n%256::l))) f
noncomputable def sD(n:O):U:=⟨⟨sL 64 n []⟩⟩
noncomputable def s0:U:=sD 0x5f5f6e616d655f5f
noncomputable def s1:U:=sD 0x6275696c74696e73
noncomputable def s2:U:=sD 0x5f5f646f635f5f
noncomputable def s3:U:=sD 0x5f5f7061636b6167655f5f
noncomputable def s4:U:=sD 0x5f5f6c6f616465725f5f
noncomputable def s5:U:=sD 0x5f5f737065635f5f
noncomputable def ic:U:=sD 0x456c6c6970736973
noncomputable def ig:U:=sD 0x4e6f74496d706c656d656e746564
noncomputable def SG:U:=sD 0x5f5f6d61696e5f5f
noncomputable def JB:U:=sD 0x6c61775f7274303131365f3031
noncomputable def Z0:U:=sD 0x5f5f616e6e6f746174696f6e735f5f
noncomputable def ii:U:=sD 0x5f5f6275696c74696e735f5f
noncomputable def ik:U:=sD 0x5f5f66696c655f5f
noncomputable def Ez:U:=sD 0x2f636c61696d2f6375742e7079
noncomputable def il:U:=sD 0x5f5f6361636865645f5f
noncomputable def Z1:U:=sD 0x5f77616c6c
noncomputable def Nq:U:=sD 0x5f7475706c65676574746572
noncomputable def Nr:U:=sD 0x4d61746368
noncomputable def Z2:U:=sD 0x5f63616c63756c6174655f726174696f
noncomputable def Nt:U:=sD 0x53657175656e63654d617463686572
noncomputable def Z3:U:=sD 0x5f666f726d61745f72616e67655f756e6966696564
noncomputable def Z4:U:=sD 0x5f706c61696e5f6e616d65
noncomputable def Nu:U:=sD 0x4142434d657461
noncomputable def Nv:U:=sD 0x5f4142434c696b65
noncomputable def Z5:U:=sD 0x5f6162635f706c61696e5f6d657461
noncomputable def Z6:U:=sD 0x667370617468
noncomputable def SH:U:=sD 0x5f636865636b5f6172675f7479706573
noncomputable def Z7:U:=sD 0x5f6765745f736570
noncomputable def SI:U:=sD 0x6a6f696e
noncomputable def Z8:U:=sD 0x73706c6974726f6f74
noncomputable def Z9:U:=sD 0x626173656e616d65
noncomputable def ZA:U:=sD 0x6469726e616d65
noncomputable def ZB:U:=sD 0x6e6f726d70617468
noncomputable def ZC:U:=sD 0x736f727465645f6c6973745f646966666572656e6365
noncomputable def SJ:U:=sD 0x5f6c61775f7472656573
noncomputable def SM:U:=sD 0x5f6c61775f7374726169676874
noncomputable def ZD:U:=sD 0x5f6c61775f696e6e6572
noncomputable def SN:U:=sD 0x5f6c61775f746f6c64
noncomputable def ZE:U:=sD 0x5f6c61775f67726f776e
noncomputable def SO:U:=sD 0x5f6c61775f7061697273
noncomputable def ZF:U:=sD 0x5f6c61775f72616e6765
noncomputable def ZG:U:=sD 0x5f6c61775f6368616e676573
noncomputable def SP:U:=sD 0x5f6c61775f77616c6b6564
noncomputable def ZH:U:=sD 0x6c6177
noncomputable def ip:U:=sD 0x3c6d6f64756c653e
noncomputable def VZ:U:=sD 0x6b
noncomputable def JC:U:=sD 0x5f5f6d6f64756c655f5f
noncomputable def DP:U:=sD 0x6370793331332e646966666c6962
noncomputable def Pr:U:=sD 0x5f5f7175616c6e616d655f5f
noncomputable def Jx:U:=sD 0x5f5f66697273746c696e656e6f5f5f
noncomputable def Ps:U:=sD 0x5f5f696e69745f5f
noncomputable def ZI:U:=sD 0x5f5f6765745f5f
noncomputable def ZJ:U:=sD 0x5f5f7365745f5f
noncomputable def ZK:U:=sD 0x5f5f64656c6574655f5f
noncomputable def Jy:U:=sD 0x5f5f7374617469635f617474726962757465735f5f
noncomputable def Em:U:=sD 0x73656c66
noncomputable def MD:U:=sD 0x696e646578
noncomputable def V_:U:=sD 0x646f63
noncomputable def ZL:U:=sD 0x6f626a
noncomputable def Va:U:=sD 0x5f5f646963745f5f
noncomputable def Vb:U:=sD 0x5f5f7765616b7265665f5f
noncomputable def iq:U:=sD 0x4d6174636828612c20622c2073697a6529
noncomputable def ir:U:=sD 0x5f5f736c6f74735f5f
noncomputable def iu:U:=sD 0x5f6669656c6473
noncomputable def iv:U:=sD 0x5f6669656c645f64656661756c7473
noncomputable def ZM:U:=sD 0x5f5f6e65775f5f
noncomputable def Vc:U:=sD 0x5f6d616b65
noncomputable def ZN:U:=sD 0x5f7265706c616365
noncomputable def iw:U:=sD 0x5f5f7265706c6163655f5f
noncomputable def ZO:U:=sD 0x5f5f726570725f5f
noncomputable def ZP:U:=sD 0x5f617364696374
noncomputable def ZQ:U:=sD 0x5f5f6765746e6577617267735f5f
noncomputable def ix:U:=sD 0x5f5f6d617463685f617267735f5f
noncomputable def Hr:U:=sD 0x61
noncomputable def Hs:U:=sD 0x62
noncomputable def Pt:U:=sD 0x73697a65
noncomputable def SQ:U:=sD 0x636c73
noncomputable def iy:U:=sD 0x726573756c74
noncomputable def iz:U:=sD 0x4d617463682e5f6d616b65
noncomputable def j0:U:=sD 0x5f5f636c6173735f5f
noncomputable def ZR:U:=sD 0x4d617463682e5f7265706c616365
noncomputable def j2:U:=sD 0x416c69617320666f72206669656c64206e756d6265722030
noncomputable def j3:U:=sD 0x416c69617320666f72206669656c64206e756d6265722031
noncomputable def j4:U:=sD 0x416c69617320666f72206669656c64206e756d6265722032
noncomputable def j5:U:=sD 0x6d617463686573
noncomputable def j6:U:=sD 0x6c656e677468
noncomputable def ZS:U:=sD 0x7365745f73657173
noncomputable def ZT:U:=sD 0x7365745f73657131
noncomputable def ZU:U:=sD 0x7365745f73657132
noncomputable def j7:U:=sD 0x5f53657175656e63654d6174636865725f5f636861696e5f62
noncomputable def ZV:U:=sD 0x66696e645f6c6f6e676573745f6d61746368
noncomputable def ZW:U:=sD 0x6765745f6d61746368696e675f626c6f636b73
noncomputable def ZX:U:=sD 0x6765745f6f70636f646573
noncomputable def ZY:U:=sD 0x6765745f67726f757065645f6f70636f646573
noncomputable def ZZ:U:=sD 0x726174696f
noncomputable def Z_:U:=sD 0x717569636b5f726174696f
noncomputable def Za:U:=sD 0x7265616c5f717569636b5f726174696f
noncomputable def j8:U:=sD 0x0
noncomputable def Zc:U:=sD 0x69736a756e6b
noncomputable def j9:U:=sD 0x6175746f6a756e6b
noncomputable def Zd:U:=sD 0x62326a
noncomputable def ME:U:=sD 0x69
noncomputable def jA:U:=sD 0x6e
noncomputable def jB:U:=sD 0x616c6f
noncomputable def jC:U:=sD 0x616869
noncomputable def jD:U:=sD 0x626c6f
noncomputable def jE:U:=sD 0x626869
noncomputable def SR:U:=sD 0x6a
noncomputable def jF:U:=sD 0x6d61746368696e675f626c6f636b73
noncomputable def jG:U:=sD 0x78
noncomputable def jH:U:=sD 0x7374617274
noncomputable def jI:U:=sD 0x6b696e64
noncomputable def jJ:U:=sD 0x6f73
noncomputable def Vd:U:=sD 0x616263
noncomputable def Pu:U:=sD 0x7265676973746572
noncomputable def jK:U:=sD 0x737562636c617373
noncomputable def MF:U:=sD 0x636f6c6c656374696f6e732e616263
noncomputable def Ze:U:=sD 0x5f5f696e7374616e6365636865636b5f5f
noncomputable def Zf:U:=sD 0x5f5f737562636c617373636865636b5f5f
noncomputable def Zg:U:=sD 0x43
noncomputable def Pw:U:=sD 0x70617468
noncomputable def Px:U:=sD 0x6370793331332e706f73697870617468
noncomputable def Ve:U:=sD 0x70
noncomputable def SU:U:=sD 0x736570
noncomputable def jL:U:=sD 0x74726565
noncomputable def E(P:Dq)(s:U)(t:EP)(v:A4):FQ:=⟨keyHash P s,.str s t,v⟩
noncomputable def w_(ns:I U):EP->I A4:=Ke (λ_=>[]) (λs _ ih t=>.str s t::ih (t+1)) ns
noncomputable def fo(k:O)(st:As)(n q:U)(ns:I U)(t ln ac:O)(df:A4)(doc:AK)(md:A4)(an:AD A8):I Bi:=[BL (.type "tuple") (.seq #[] 0),BL .none (.fields #[]),BL (.type "tuple") (.seq ⟨w_ ns (t+3)⟩ 0),BL (.type "tuple") (.seq #[] 0),BL .none (.func (G6 st q 0 [] .none .none .none .none L .none .none 0)),BL (.type "code") (.fields #[.str n t,.str q (t+1),.str Ez (t+2),.int (.ofNat ln) 0,.int (.ofNat ac) 0,.int 0 0,.int 0 0,.int 3 0,.ref k,.bool M,.int 181 0,.ref (k+1),.none,.ref (k+2),.ref (k+3),.ref (k+4),.int (.ofNat (t+3+ns.length)) 0,.int (.ofNat ln) 0,.str Ez (t+4+ns.length)]),BL (.type "function") (.func (G6 st q 3 [] df .none (bC doc (.str (Z' st) (t+5+ns.length)) .none) md an (.ref (k+5)) .none 0))]
noncomputable def Ad(n:O):A4:=.int (.ofNat n) 0
noncomputable def AI(n:A8):A4:=.ref n
noncomputable def Aj(s:U)(t:EP):A4:=.str s t
noncomputable def Dc(s:D9):A4:=.builtin s
noncomputable def DD(l:BW A4):Bi:=BL (.type "tuple") (.seq l 0)
noncomputable def F0(n:O)(l:BW FQ):Bi:=BL (.type "dict") (.dict l n)
noncomputable def GQ(l:BW A4):Bi:=BL .none (.fields l)
noncomputable def Dv(s:D9)(l:BW A4):Bi:=BL (.type s) (.fields l)
noncomputable def CO(v:A4):AD A4:=G v
noncomputable def Nw(s:U)(a:O)(l r i j:O)(e:O):Bi:=Dv "code" #[Aj s a,Aj s (a+1),Aj Ez (a+2),Ad l,Ad 0,Ad 0,Ad 0,Ad 0,AI r,.bool A6,Ad i,AI (r+1),.none,.none,.none,.none,Ad j,Ad l,Aj Ez e]
noncomputable def jM(P:Dq):Bi:=⟨(.type "type"),L,.cls (SF Nr [.type "tuple"] [AI 135,.type "tuple",.type "object"] 134 Nr A6 [] [] A6 L A6),#[CO (AI 65),L,CO (Aj Nr 253),CO (Aj Nr 261),G .none,G (.bool A6)]⟩
noncomputable def jN(l:I Bi):I Bi:=Ke (λ_=>[]) (λx _ ih b=>bC b (x::ih A6) (ih M)) l M
noncomputable def jO(n:O):D9:=sv ((sL 64 n []).map Char.ofNat)
noncomputable def Ct(P:Dq)(n:O)(t:EP):FQ:=E P (sD n) t (.builtin (jO n))
noncomputable def BO(P:Dq)(n:O)(t:EP):FQ:=E P (sD n) t (.type (jO n))
noncomputable def p0(P:Dq):Bi:=F0 159 #[E P s0 1 (Aj s1 160),E P s2 2 (Dc "builtins.__doc__:str#opaque"),E P s3 3 (Dc "builtins.__package__:str#opaque"),E P s4 4 (Dc "builtins.__loader__:shared#opaque"),E P s5 5 (Dc "builtins.__spec__#opaque"),Ct P 0x5f5f6275696c645f636c6173735f5f 6,Ct P 0x5f5f696d706f72745f5f 7,Ct P 0x616273 8,Ct P 0x616c6c 9,Ct P 0x616e79 10,Ct P 0x6173636969 11,Ct P 0x62696e 12,Ct P 0x627265616b706f696e74 13,Ct P 0x63616c6c61626c65 14,Ct P 0x636872 15,Ct P 0x636f6d70696c65 16,Ct P 0x64656c61747472 17,Ct P 0x646972 18,Ct P 0x6469766d6f64 19,Ct P 0x6576616c 20,Ct P 0x65786563 21,Ct P 0x666f726d6174 22,Ct P 0x67657461747472 23,Ct P 0x676c6f62616c73 24,Ct P 0x68617361747472 25,Ct P 0x68617368 26,Ct P 0x686578 27,Ct P 0x6964 28,Ct P 0x696e707574 29,Ct P 0x6973696e7374616e6365 30,Ct P 0x6973737562636c617373 31,Ct P 0x69746572 32,Ct P 0x6169746572 33,Ct P 0x6c656e 34,Ct P 0x6c6f63616c73 35,Ct P 0x6d6178 36,Ct P 0x6d696e 37,Ct P 0x6e657874 38,Ct P 0x616e657874 39,Ct P 0x6f6374 40,Ct P 0x6f7264 41,Ct P 0x706f77 42,Ct P 0x7072696e74 43,Ct P 0x72657072 44,Ct P 0x726f756e64 45,Ct P 0x73657461747472 46,Ct P 0x736f72746564 47,Ct P 0x73756d 48,Ct P 0x76617273 49,E P (sD 0x4e6f6e65) 50 .none,⟨keyHash P ic,.str ic 51,.ellipsis⟩,⟨keyHash P ig,.str ig 52,.notImplemented⟩,E P (sD 0x46616c7365) 53 (.bool A6),E P (sD 0x54727565) 54 (.bool M),BO P 0x626f6f6c 55,BO P 0x6d656d6f727976696577 56,BO P 0x627974656172726179 57,BO P 0x6279746573 58,BO P 0x636c6173736d6574686f64 59,BO P 0x636f6d706c6578 60,BO P 0x64696374 61,BO P 0x656e756d6572617465 62,BO P 0x66696c746572 63,BO P 0x666c6f6174 64,BO P 0x66726f7a656e736574 65,BO P 0x70726f7065727479 66,BO P 0x696e74 67,BO P 0x6c697374 68,BO P 0x6d6170 69,BO P 0x6f626a656374 70,BO P 0x72616e6765 71,BO P 0x7265766572736564 72,BO P 0x736574 73,BO P 0x736c696365 74,BO P 0x7374617469636d6574686f64 75,BO P 0x737472 76,BO P 0x7375706572 77,BO P 0x7475706c65 78,BO P 0x74797065 79,BO P 0x7a6970 80,E P (sD 0x5f5f64656275675f5f) 81 (.bool M),BO P 0x42617365457863657074696f6e 82,BO P 0x42617365457863657074696f6e47726f7570 83,BO P 0x457863657074696f6e 84,BO P 0x47656e657261746f7245786974 85,BO P 0x4b6579626f617264496e74657272757074 86,BO P 0x53797374656d45786974 87,BO P 0x41726974686d657469634572726f72 88,BO P 0x417373657274696f6e4572726f72 89,BO P 0x4174747269627574654572726f72 90,BO P 0x4275666665724572726f72 91,BO P 0x454f464572726f72 92,BO P 0x496d706f72744572726f72 93,BO P 0x4c6f6f6b75704572726f72 94,BO P 0x4d656d6f72794572726f72 95,BO P 0x4e616d654572726f72 96,BO P 0x4f534572726f72 97,BO P 0x5265666572656e63654572726f72 98,BO P 0x52756e74696d654572726f72 99,BO P 0x53746f704173796e63497465726174696f6e 100,BO P 0x53746f70497465726174696f6e 101,BO P 0x53796e7461784572726f72 102,BO P 0x53797374656d4572726f72 103,BO P 0x547970654572726f72 104,BO P 0x56616c75654572726f72 105,BO P 0x5761726e696e67 106,BO P 0x466c6f6174696e67506f696e744572726f72 107,BO P 0x4f766572666c6f774572726f72 108,BO P 0x5a65726f4469766973696f6e4572726f72 109,BO P 0x42797465735761726e696e67 110,BO P 0x4465707265636174696f6e5761726e696e67 111,BO P 0x456e636f64696e675761726e696e67 112,BO P 0x4675747572655761726e696e67 113,BO P 0x496d706f72745761726e696e67 114,BO P 0x50656e64696e674465707265636174696f6e5761726e696e67 115,BO P 0x5265736f757263655761726e696e67 116,BO P 0x52756e74696d655761726e696e67 117,BO P 0x53796e7461785761726e696e67 118,BO P 0x556e69636f64655761726e696e67 119,BO P 0x557365725761726e696e67 120,BO P 0x426c6f636b696e67494f4572726f72 121,BO P 0x4368696c6450726f636573734572726f72 122,BO P 0x436f6e6e656374696f6e4572726f72 123,BO P 0x46696c654578697374734572726f72 124,BO P 0x46696c654e6f74466f756e644572726f72 125,BO P 0x496e7465727275707465644572726f72 126,BO P 0x4973414469726563746f72794572726f72 127,BO P 0x4e6f74414469726563746f72794572726f72 128,BO P 0x5065726d697373696f6e4572726f72 129,BO P 0x50726f636573734c6f6f6b75704572726f72 130,BO P 0x54696d656f75744572726f72 131,BO P 0x496e64656e746174696f6e4572726f72 132,BO P 0x5f496e636f6d706c657465496e7075744572726f72 133,BO P 0x496e6465784572726f72 134,BO P 0x4b65794572726f72 135,BO P 0x4d6f64756c654e6f74466f756e644572726f72 136,BO P 0x4e6f74496d706c656d656e7465644572726f72 137,BO P 0x507974686f6e46696e616c697a6174696f6e4572726f72 138,BO P 0x526563757273696f6e4572726f72 139,BO P 0x556e626f756e644c6f63616c4572726f72 140,BO P 0x556e69636f64654572726f72 141,BO P 0x42726f6b656e506970654572726f72 142,BO P 0x436f6e6e656374696f6e41626f727465644572726f72 143,BO P 0x436f6e6e656374696f6e526566757365644572726f72 144,BO P 0x436f6e6e656374696f6e52657365744572726f72 145,BO P 0x5461624572726f72 146,BO P 0x556e69636f64654465636f64654572726f72 147,BO P 0x556e69636f6465456e636f64654572726f72 148,BO P 0x556e69636f64655472616e736c6174654572726f72 149,BO P 0x457863657074696f6e47726f7570 150,E P (sD 0x456e7669726f6e6d656e744572726f72) 151 (.type "OSError"),E P (sD 0x494f4572726f72) 152 (.type "OSError"),Ct P 0x6f70656e 153,E P (sD 0x71756974) 154 (Dc "builtins.quit#opaque"),E P (sD 0x65786974) 155 (Dc "builtins.exit#opaque"),E P (sD 0x636f70797269676874) 156 (Dc "builtins.copyright#opaque"),E P (sD 0x63726564697473) 157 (Dc "builtins.credits#opaque"),E P (sD 0x6c6963656e7365) 158 (Dc "builtins.license#opaque"),E P (sD 0x68656c70) 159 (Dc "builtins.help#opaque")]
noncomputable def p1(P:Dq):Bi:=F0 2 #[E P s1 162 (AI 4),E P SG 163 (AI 5)]
noncomputable def p2(P:Dq):Bi:=BL .none (.dict #[] 0)
noncomputable def p3(P:Dq):Bi:=F0 9 #[E P s0 165 (Aj SG 164),E P s2 166 .none,E P s3 167 .none,E P s4 168 (Dc "__main__.__loader__#opaque"),E P s5 169 .none,E P Z0 170 (AI 6),E P ii 171 (AI 4),E P ik 173 (Aj Ez 172),E P il 174 .none]
noncomputable def p4(P:Dq):Bi:=⟨(.type "module"),G 0,.plain,#[]⟩
noncomputable def p5(P:Dq):Bi:=⟨(.type "module"),G 3,.plain,#[]⟩
noncomputable def p6(P:Dq):Bi:=F0 0 #[]
noncomputable def p7(P:Dq):Bi:=DD #[]
noncomputable def p8(P:Dq):Bi:=GQ #[]
noncomputable def p9(P:Dq):Bi:=Nw ip 176 1 7 175 179 180
noncomputable def jP(P:Dq):Bi:=⟨(.type "frame"),L,.plain,#[CO (AI 9),CO (AI 3),CO (AI 3),L,CO (Aj SG 164),L,CO (AI 0)]⟩
noncomputable def jQ(P:Dq):Bi:=DD #[]
noncomputable def wa(P:Dq):Bi:=GQ #[]
noncomputable def jR(P:Dq):Bi:=Nw ip 182 1 11 181 185 186
noncomputable def jS(P:Dq):Bi:=⟨(.type "frame"),L,.plain,#[CO (AI 13),CO (AI 3),CO (AI 3),L,CO (Aj SG 164),L,CO (AI 0)]⟩
noncomputable def Ny(P:Dq):I Bi:=[[p0 P,p1 P,p2 P,F0 38 #[E P s0 165 (Aj JB 791),E P s2 166 .none,E P s3 167 .none,E P s4 168 (Dc "__main__.__loader__#opaque"),E P s5 169 .none,E P Z0 170 (AI 6),E P ii 171 (AI 4),E P ik 173 (Aj Ez 172),E P il 174 .none,E P Z1 193 (AI 21),E P Nq 252 (AI 60),E P Nr 380 (AI 135),E P Z2 388 (AI 145),E P Nt 582 (AI 242),E P Z3 593 (AI 253),E P Z4 604 (AI 260),E P Nu 630 (AI 277),E P Nv 673 (AI 310),E P Z5 680 (AI 319),E P Z6 692 (AI 326),E P SH 705 (AI 333),E P Z7 714 (AI 340),E P SI 726 (AI 347),E P Z8 736 (AI 354),E P Z9 746 (AI 361),E P ZA 757 (AI 368),E P ZB 773 (AI 375),E P ZC 790 (AI 382),E P SJ 798 (AI 387),E P SM 804 (AI 392),E P ZD 814 (AI 399),E P SN 820 (AI 404),E P ZE 831 (AI 411),E P SO 837 (AI 416),E P ZF 845 (AI 423),E P ZG 860 (AI 430),E P SP 866 (AI 435),E P ZH 875 (AI 442)],p4 P,p5 P,p6 P,p7 P,p8 P,p9 P,jP P,jQ P,GQ #[Ad 1,Ad 0,AI 20,Ad 5,Ad 0,AI 27,Ad 23,Ad 0,AI 71,Ad 66,Ad 0,AI 144,Ad 70,Ad 0,AI 151,Ad 462,Ad 0,AI 252,Ad 472,Ad 0,AI 259,Ad 478,Ad 0,AI 266,Ad 483,Ad 0,AI 285,Ad 498,Ad 0,AI 318,Ad 502,Ad 0,AI 325,Ad 519,Ad 0,AI 332,Ad 531,Ad 0,AI 339,Ad 536,Ad 0,AI 346,Ad 557,Ad 0,AI 353,Ad 574,Ad 0,AI 360,Ad 580,Ad 0,AI 367,Ad 589,Ad 0,AI 374,Ad 616,Ad 0,AI 381,Ad 656,Ad 0,AI 386,Ad 666,Ad 0,AI 391,Ad 668,Ad 0,AI 398,Ad 676,Ad 0,AI 403,Ad 691,Ad 0,AI 410,Ad 699,Ad 0,AI 415,Ad 705,Ad 0,AI 422,Ad 707,Ad 0,AI 429,Ad 716,Ad 0,AI 434,Ad 725,Ad 0,AI 441],jR P,jS P],fo 15 (Ba 0) Z1 Z1 [VZ] 187 1 1 .none A6 (Aj SG 164) L,[DD #[],Dv "builtin_function_or_method" #[Dc "type.__prepare__",.type "type"],F0 8 #[E P JC 203 (Aj DP 194),E P Pr 205 (Aj Nq 204),E P Jx 207 (.int 5 206),E P Ps 216 (AI 35),E P ZI 225 (AI 43),E P ZJ 234 (AI 50),E P ZK 242 (AI 57),E P Jy 245 (AI 58)],DD #[],GQ #[Ad 7,Ad 4,AI 34,Ad 11,Ad 4,AI 42,Ad 18,Ad 4,AI 49,Ad 21,Ad 4,AI 56],Nw Nq 198 5 25 181 201 202,⟨(.type "frame"),L,.plain,#[CO (AI 27),CO (AI 3),CO (AI 24),L,CO (Aj DP 194),L,CO (AI 0)]⟩],fo 29 (DC 2 0) Ps (sD 0x5f7475706c656765747465722e5f5f696e69745f5f) [Em,MD,V_] 208 7 3 .none A6 (Aj DP 194) L,[DD #[.none]],fo 37 (DC 2 1) ZI (sD 0x5f7475706c656765747465722e5f5f6765745f5f) [Em,ZL,sD 0x6f626a74797065] 217 11 3 (AI 36) A6 (Aj DP 194) L,fo 44 (DC 2 2) ZJ (sD 0x5f7475706c656765747465722e5f5f7365745f5f) [Em,ZL,sD 0x76616c7565] 226 18 3 .none A6 (Aj DP 194) L,fo 51 (DC 2 3) ZK (sD 0x5f7475706c656765747465722e5f5f64656c6574655f5f) [Em,ZL] 235 21 2 .none A6 (Aj DP 194) L,[DD #[Aj s2 243,Aj MD 244],F0 4 #[E P JC 203 (Aj DP 194),E P Jx 207 (.int 5 206),E P Ps 216 (AI 35),E P ZI 225 (AI 43),E P ZJ 234 (AI 50),E P ZK 242 (AI 57),E P Jy 245 (AI 58),E P Va 247 (AI 61),E P Vb 249 (AI 62),E P s2 250 .none],⟨(.type "type"),L,.cls (SF Nq [.type "object"] [AI 60,.type "object"] 59 Nq M [] [] A6 L A6),#[L,L,CO (Aj Nq 196),CO (Aj Nq 204),CO (Dc "object.__new__"),G (.bool M)]⟩,Dv "getset_descriptor" #[Aj Va 246,AI 60,Dc "function.__dict__",Dc "function.__dict__#set"],Dv "getset_descriptor" #[Aj Vb 248,AI 60,Dc "ExceptionGroup.__weakref__",.none],Dv "super" #[AI 60,AI 60,AI 60],Dv "builtin_function_or_method" #[Dc "object.__init_subclass__",AI 60],DD #[.type "tuple"],Dv "builtin_function_or_method" #[Dc "type.__prepare__",.type "type"],F0 20 #[E P JC 260 (Aj DP 194),E P Pr 262 (Aj Nr 261),E P Jx 264 (.int 23 263),E P s2 266 (Aj iq 265),E P ir 268 (AI 73),E P iu 272 (AI 74),E P iv 273 (AI 75),E P ZM 284 (AI 82),E P Vc 306 (AI 91),E P ZN 317 (AI 100),E P iw 318 (AI 100),E P ZO 326 (AI 107),E P ZP 333 (AI 114),E P ZQ 341 (AI 121),E P ix 345 (AI 122),E P Hr 355 (AI 124),E P Hs 365 (AI 127),E P Pt 375 (AI 130),E P Jy 376 (AI 132),E P (sD 0x5f5f636c61737363656c6c5f5f) 377 (AI 68)],BL (.type "cell") (.cell (CO (AI 135))),DD #[],GQ #[Ad 29,Ad 4,AI 81,Ad 34,Ad 4,AI 88,Ad 41,Ad 4,AI 99,Ad 52,Ad 4,AI 106,Ad 56,Ad 4,AI 113,Ad 59,Ad 4,AI 120],Nw Nr 255 23 69 181 258 259,⟨(.type "frame"),L,.plain,#[CO (AI 71),CO (AI 3),CO (AI 67),L,CO (Aj DP 194),L,CO (AI 0)]⟩,DD #[],DD #[Aj Hr 269,Aj Hs 270,Aj Pt 271],F0 0 #[]],fo 76 (DC 3 4) ZM (sD 0x4d617463682e5f5f6e65775f5f) [sD 0x5f636c73,Hr,Hs,Pt] 274 29 4 .none M (Aj DP 194) L,fo 83 (DC 3 5) Vc iz [SQ,sD 0x6974657261626c65,iy] 285 33 2 .none M (Aj DP 194) (G 92),[F0 5 #[E P JC 295 (Aj DP 194),E P s0 298 (Aj Vc 297),E P Pr 301 (Aj iz 300),E P s2 303 (Aj (sD 0x4d616b652061206e6577204d61746368206f626a6563742066726f6d20612073657175656e6365206f72206974657261626c65) 293),E P Z0 305 (AI 92)],⟨(.type "classmethod"),G 90,(.fields #[AI 89,.bool A6]),#[]⟩,F0 0 #[],DD #[AI 68],DD #[Aj j0 310],GQ #[],DD #[Aj Em 311,Aj (sD 0x6b776473) 312,Aj iy 313],DD #[],BL .none (.func (G6 (DC 3 6) ZR 0 [] .none .none .none .none L .none .none 0)),Dv "code" #[Aj ZN 307,Aj ZR 308,Aj Ez 309,Ad 41,Ad 1,Ad 1,Ad 0,Ad 11,AI 94,.bool M,Ad 181,AI 95,.none,AI 96,AI 97,AI 98,Ad 314,Ad 41,Aj Ez 315],BL (.type "function") (.func (G6 (DC 3 6) ZR 3 [(j0,68)] .none .none (.str (Z' (DC 3 6)) 316) (Aj DP 194) L (AI 99) (AI 93) 0))],fo 101 (DC 3 8) ZO (sD 0x4d617463682e5f5f726570725f5f) [Em] 319 52 1 .none M (Aj DP 194) L,fo 108 (DC 3 9) ZP (sD 0x4d617463682e5f617364696374) [Em] 327 56 1 .none A6 (Aj DP 194) L,fo 115 (DC 3 10) ZQ (sD 0x4d617463682e5f5f6765746e6577617267735f5f) [Em] 334 59 1 .none M (Aj DP 194) L,[DD #[Aj Hr 342,Aj Hs 343,Aj Pt 344],F0 2 #[E P MD 352 (.int 0 346),E P s2 354 (Aj j2 347)],⟨(AI 60),G 123,.plain,#[]⟩,BL (.type "frame") (.dict #[E P Em 348 (AI 124),E P MD 349 (.int 0 346),E P V_ 350 (Aj j2 347)] 3),F0 2 #[E P MD 362 (.int 1 356),E P s2 364 (Aj j3 357)],⟨(AI 60),G 126,.plain,#[]⟩,BL (.type "frame") (.dict #[E P Em 358 (AI 127),E P MD 359 (.int 1 356),E P V_ 360 (Aj j3 357)] 3),F0 2 #[E P MD 372 (.int 2 366),E P s2 374 (Aj j4 367)],⟨(AI 60),G 129,.plain,#[]⟩,BL (.type "frame") (.dict #[E P Em 368 (AI 130),E P MD 369 (.int 2 366),E P V_ 370 (Aj j4 367)] 3),DD #[],BL (.type "list") (.seq #[] 0),F0 2 #[E P JC 260 (Aj DP 194),E P Jx 264 (.int 23 263),E P s2 266 (Aj iq 265),E P ir 268 (AI 73),E P iu 272 (AI 74),E P iv 273 (AI 75),E P ZM 284 (AI 136),E P Vc 306 (AI 91),E P ZN 317 (AI 100),E P iw 318 (AI 100),E P ZO 326 (AI 107),E P ZP 333 (AI 114),E P ZQ 341 (AI 121),E P ix 345 (AI 122),E P Hr 355 (AI 124),E P Hs 365 (AI 127),E P Pt 375 (AI 130),E P Jy 376 (AI 132)],jM P,Dv "staticmethod" #[AI 82],Dv "super" #[AI 135,AI 135,AI 135],Dv "builtin_function_or_method" #[Dc "object.__init_subclass__",AI 135]],fo 139 (Ba 4) Z2 Z2 [j5,j6] 381 66 2 .none A6 (Aj DP 194) L,[DD #[],Dv "builtin_function_or_method" #[Dc "type.__prepare__",.type "type"],F0 17 #[E P JC 396 (Aj DP 194),E P Pr 398 (Aj Nt 397),E P Jx 400 (.int 70 399),E P s2 402 (.str (ib 5) 401),E P Ps 417 (AI 160),E P ZS 427 (AI 167),E P ZT 436 (AI 174),E P ZU 445 (AI 181),E P j7 463 (AI 188),E P ZV 491 (AI 196),E P ZW 518 (AI 203),E P ZX 533 (AI 210),E P ZY 542 (AI 218),E P ZZ 551 (AI 225),E P Z_ 558 (AI 232),E P Za 565 (AI 239),E P Jy 576 (AI 240)],DD #[],GQ #[Ad 145,Ad 4,AI 159,Ad 173,Ad 4,AI 166,Ad 184,Ad 4,AI 173,Ad 209,Ad 4,AI 180,Ad 236,Ad 4,AI 187,Ad 260,Ad 4,AI 195,Ad 335,Ad 4,AI 202,Ad 383,Ad 4,AI 209,Ad 430,Ad 4,AI 217,Ad 433,Ad 4,AI 224,Ad 457,Ad 4,AI 231,Ad 460,Ad 4,AI 238],Nw Nt 391 70 149 181 394 395,⟨(.type "frame"),L,.plain,#[CO (AI 151),CO (AI 3),CO (AI 148),L,CO (Aj DP 194),L,CO (AI 0)]⟩,DD #[.none,Aj j8 404,Aj j8 405,.bool M]],fo 154 (DC 5 1) Ps (sD 0x53657175656e63654d6174636865722e5f5f696e69745f5f) [Em,Zc,Hr,Hs,j9] 406 145 5 (AI 153) M (Aj DP 194) L,fo 161 (DC 5 2) ZS (sD 0x53657175656e63654d6174636865722e7365745f73657173) [Em,Hr,Hs] 418 173 3 .none M (Aj DP 194) L,fo 168 (DC 5 3) ZT (sD 0x53657175656e63654d6174636865722e7365745f73657131) [Em,Hr] 428 184 2 .none M (Aj DP 194) L,fo 175 (DC 5 4) ZU (sD 0x53657175656e63654d6174636865722e7365745f73657132) [Em,Hs] 437 209 2 .none M (Aj DP 194) L,fo 182 (DC 5 5) (sD 0x5f5f636861696e5f62) (sD 0x53657175656e63654d6174636865722e5f5f636861696e5f62) [Em,Hs,Zd,ME,sD 0x656c74,sD 0x696e6469636573,sD 0x6a756e6b,Zc,sD 0x706f70756c6172,jA,sD 0x6e74657374,sD 0x69647873] 446 236 1 .none A6 (Aj DP 194) L,[DD #[.int 0 464,.none,.int 0 465,.none]],fo 190 (DC 5 6) ZV (sD 0x53657175656e63654d6174636865722e66696e645f6c6f6e676573745f6d61746368) [Em,jB,jC,jD,jE,Hr,Hs,Zd,sD 0x6973626a756e6b,sD 0x6265737469,sD 0x626573746a,sD 0x6265737473697a65,sD 0x6a326c656e,sD 0x6e6f7468696e67,ME,sD 0x6a326c656e676574,sD 0x6e65776a326c656e,SR,VZ] 466 260 5 (AI 189) M (Aj DP 194) L,fo 197 (DC 5 7) ZW (sD 0x53657175656e63654d6174636865722e6765745f6d61746368696e675f626c6f636b73) [Em,sD 0x6c61,sD 0x6c62,sD 0x7175657565,jF,jB,jC,jD,jE,ME,SR,VZ,jG,sD 0x6931,sD 0x6a31,sD 0x6b31,sD 0x6e6f6e5f61646a6163656e74,sD 0x6932,sD 0x6a32,sD 0x6b32] 492 335 1 .none M (Aj DP 194) L,fo 204 (DC 5 8) ZX (sD 0x53657175656e63654d6174636865722e6765745f6f70636f646573) [Em,ME,SR,sD 0x616e73776572,sD 0x6169,sD 0x626a,Pt,sD 0x746167] 519 383 1 .none M (Aj DP 194) L,[DD #[.int 3 534]],fo 212 (DC 5 9) ZY (sD 0x53657175656e63654d6174636865722e6765745f67726f757065645f6f70636f646573) [Em,jA] 535 430 2 (AI 211) A6 (Aj DP 194) L,fo 219 (DC 5 10) ZZ (sD 0x53657175656e63654d6174636865722e726174696f) [Em,j5] 543 433 1 .none M (Aj DP 194) L,fo 226 (DC 5 11) Z_ (sD 0x53657175656e63654d6174636865722e717569636b5f726174696f) [Em] 552 457 1 .none A6 (Aj DP 194) L,fo 233 (DC 5 12) Za (sD 0x53657175656e63654d6174636865722e7265616c5f717569636b5f726174696f) [Em] 559 460 1 .none A6 (Aj DP 194) L,[DD #[Aj Hr 566,Aj j9 567,Aj Hs 568,Aj Zd 569,Aj (sD 0x626a756e6b) 570,Aj (sD 0x62706f70756c6172) 571,Aj (sD 0x66756c6c62636f756e74) 572,Aj Zc 573,Aj jF 574,Aj (sD 0x6f70636f646573) 575],F0 3 #[E P JC 396 (Aj DP 194),E P Jx 400 (.int 70 399),E P s2 402 (.str (ib 5) 401),E P Ps 417 (AI 160),E P ZS 427 (AI 167),E P ZT 436 (AI 174),E P ZU 445 (AI 181),E P j7 463 (AI 188),E P ZV 491 (AI 196),E P ZW 518 (AI 203),E P ZX 533 (AI 210),E P ZY 542 (AI 218),E P ZZ 551 (AI 225),E P Z_ 558 (AI 232),E P Za 565 (AI 239),E P Jy 576 (AI 240),E P Va 578 (AI 243),E P Vb 580 (AI 244)],⟨(.type "type"),L,.cls (SF Nt [.type "object"] [AI 242,.type "object"] 241 Nt M [] [] A6 L A6),#[L,L,CO (Aj Nt 389),CO (Aj Nt 397),CO (Dc "object.__new__"),G (.bool M)]⟩,Dv "getset_descriptor" #[Aj Va 577,AI 242,Dc "function.__dict__",Dc "function.__dict__#set"],Dv "getset_descriptor" #[Aj Vb 579,AI 242,Dc "ExceptionGroup.__weakref__",.none],Dv "super" #[AI 242,AI 242,AI 242],Dv "builtin_function_or_method" #[Dc "object.__init_subclass__",AI 242]],fo 247 (Ba 6) Z3 Z3 [jH,sD 0x73746f70,sD 0x626567696e6e696e67,j6] 583 462 2 .none M (Aj DP 194) L,fo 254 (Ba 8) Z4 Z4 [jG,sD 0x77686174,jI] 596 472 2 .none A6 (Aj jJ 594) L,[DD #[.type "type"],Dv "builtin_function_or_method" #[Dc "type.__prepare__",.type "type"],F0 5 #[E P JC 614 (Aj Vd 605),E P Pr 616 (Aj Nu 615),E P Jx 618 (.int 478 617),E P Pu 626 (AI 274),E P Jy 627 (AI 275)],DD #[],GQ #[Ad 480,Ad 4,AI 273],Nw Nu 609 478 264 181 612 613,⟨(.type "frame"),L,.plain,#[CO (AI 266),CO (AI 3),CO (AI 263),L,CO (Aj Vd 605),L,CO (AI 0)]⟩],fo 268 (DC 10 0) Pu (sD 0x4142434d6574612e7265676973746572) [SQ,jK] 619 480 2 .none A6 (Aj Vd 605) L,[DD #[],F0 2 #[E P JC 614 (Aj Vd 605),E P Jx 618 (.int 478 617),E P Pu 626 (AI 274),E P Jy 627 (AI 275),E P s2 628 .none],⟨(.type "type"),L,.cls (SF Nu [.type "type"] [AI 277,.type "type",.type "object"] 276 Nu M [] [AI 310] A6 L A6),#[CO (AI 261),L,CO (Aj Nu 607),CO (Aj Nu 615),CO (Dc "type.__new__"),G (.bool M)]⟩,Dv "super" #[AI 277,AI 277,AI 277],Dv "builtin_function_or_method" #[Dc "object.__init_subclass__",AI 277],DD #[AI 277],Dv "builtin_function_or_method" #[Dc "type.__prepare__",.type "type"],F0 7 #[E P JC 640 (Aj MF 631),E P Pr 642 (Aj Nv 641),E P Jx 644 (.int 483 643),E P Ze 653 (AI 293),E P Zf 661 (AI 300),E P Pu 669 (AI 307),E P Jy 670 (AI 308)],DD #[],GQ #[Ad 485,Ad 4,AI 292,Ad 491,Ad 4,AI 299,Ad 496,Ad 4,AI 306],Nw Nv 635 483 283 181 638 639,⟨(.type "frame"),L,.plain,#[CO (AI 285),CO (AI 3),CO (AI 282),L,CO (Aj MF 631),L,CO (AI 0)]⟩],fo 287 (DC 12 0) Ze (sD 0x5f4142434c696b652e5f5f696e7374616e6365636865636b5f5f) [SQ,sD 0x696e7374616e6365,Zg] 645 485 2 .none A6 (Aj MF 631) L,fo 294 (DC 12 1) Zf (sD 0x5f4142434c696b652e5f5f737562636c617373636865636b5f5f) [SQ,Zg] 654 491 2 .none A6 (Aj MF 631) L,fo 301 (DC 12 2) Pu (sD 0x5f4142434c696b652e7265676973746572) [SQ,jK] 662 496 2 .none A6 (Aj MF 631) L,[DD #[],F0 2 #[E P JC 640 (Aj MF 631),E P Jx 644 (.int 483 643),E P Ze 653 (AI 293),E P Zf 661 (AI 300),E P Pu 669 (AI 307),E P Jy 670 (AI 308),E P s2 671 .none],⟨(.type "type"),L,.cls (SF Nv [AI 277] [AI 310,AI 277,.type "type",.type "object"] 309 Nv M [] [] A6 L A6),#[CO (AI 280),L,CO (Aj Nv 633),CO (Aj Nv 641),CO (Dc "type.__new__"),G (.bool M)]⟩,Dv "super" #[AI 310,AI 310,AI 310],Dv "builtin_function_or_method" #[Dc "object.__init_subclass__",AI 310]],fo 313 (Ba 13) Z5 Z5 [Zg] 674 498 1 .none A6 (Aj MF 631) L,fo 320 (Ba 15) Z6 Z6 [Pw,jI,sD 0x686f6f6b,sD 0x676976656e] 683 502 1 .none A6 (Aj jJ 681) L,[DD #[],GQ #[],DD #[Aj (sD 0x66756e636e616d65) 698,Aj (sD 0x61726773) 699,Aj (sD 0x686173737472) 700,Aj (sD 0x6861736279746573) 701,Aj (sD 0x73) 702],DD #[],BL .none (.func (G6 (Ba 17) SH 0 [] .none .none .none .none L .none .none 0)),Dv "code" #[Aj SH 695,Aj SH 696,Aj Ez 697,Ad 519,Ad 1,Ad 0,Ad 0,Ad 7,AI 327,.bool M,Ad 181,AI 328,.none,AI 329,AI 330,AI 331,Ad 703,Ad 519,Aj Ez 704],BL (.type "function") (.func (G6 (Ba 17) SH 3 [] .none .none .none (Aj (sD 0x6370793331332e67656e6572696370617468) 693) L (AI 332) .none 0))],fo 334 (Ba 19) Z7 Z7 [Pw] 708 531 1 .none A6 (Aj Px 706) L,[DD #[],GQ #[],DD #[Aj Hr 718,Aj Ve 719,Aj SU 720,Aj Pw 721,Aj Hs 722],DD #[],BL .none (.func (G6 (Ba 20) SI 0 [] .none .none .none .none L .none .none 0)),Dv "code" #[Aj SI 715,Aj SI 716,Aj Ez 717,Ad 536,Ad 1,Ad 0,Ad 0,Ad 7,AI 341,.bool M,Ad 181,AI 342,.none,AI 343,AI 344,AI 345,Ad 723,Ad 536,Aj Ez 724],BL (.type "function") (.func (G6 (Ba 20) SI 3 [] .none .none (.str (Z' (Ba 20)) 725) (Aj Px 706) L (AI 346) .none 0))],fo 348 (Ba 21) Z8 Z8 [Ve,SU,sD 0x656d707479] 727 557 1 .none M (Aj Px 706) L,fo 355 (Ba 22) Z9 Z9 [Ve,SU,ME] 737 574 1 .none M (Aj Px 706) L,fo 362 (Ba 23) ZA ZA [Ve,SU,ME,sD 0x68656164] 747 580 1 .none M (Aj Px 706) L,fo 369 (Ba 24) ZB ZB [Pw,SU,sD 0x646f74,sD 0x646f74646f74,sD 0x5f,sD 0x696e697469616c5f736c6173686573,sD 0x636f6d7073,sD 0x6e65775f636f6d7073,sD 0x636f6d70] 758 589 1 .none M (Aj Px 706) L,fo 376 (Ba 26) ZC ZC [sD 0x6578706563746564,sD 0x61637475616c,ME,SR,sD 0x6d697373696e67,sD 0x756e6578706563746564,sD 0x65,Hr] 776 616 2 .none M (Aj (sD 0x6370793331332e756e6974746573742e7574696c) 774) L,[DD #[],GQ #[],BL .none (.func (G6 (Ba 28) SJ 0 [] .none .none .none .none L .none .none 0)),Dv "code" #[Aj SJ 793,Aj SJ 794,Aj Ez 795,Ad 656,Ad 1,Ad 0,Ad 0,Ad 3,AI 383,.bool M,Ad 181,AI 384,.none,.none,.none,AI 385,Ad 796,Ad 656,Aj Ez 797],BL (.type "function") (.func (G6 (Ba 28) SJ 3 [] .none .none .none (Aj JB 791) L (AI 386) .none 0)),DD #[],GQ #[],BL .none (.func (G6 (Ba 29) SM 0 [] .none .none .none .none L .none .none 0)),Dv "code" #[Aj SM 799,Aj SM 800,Aj Ez 801,Ad 666,Ad 1,Ad 0,Ad 0,Ad 3,AI 388,.bool M,Ad 181,AI 389,.none,.none,.none,AI 390,Ad 802,Ad 666,Aj Ez 803],BL (.type "function") (.func (G6 (Ba 29) SM 3 [] .none .none .none (Aj JB 791) L (AI 391) .none 0))],fo 393 (Ba 30) ZD ZD [jL,sD 0x706c616365,sD 0x696e6e6572,Pw] 805 668 2 .none A6 (Aj JB 791) L,[DD #[],GQ #[],BL .none (.func (G6 (Ba 31) SN 0 [] .none .none .none .none L .none .none 0)),Dv "code" #[Aj SN 815,Aj SN 816,Aj Ez 817,Ad 676,Ad 3,Ad 0,Ad 0,Ad 3,AI 400,.bool M,Ad 181,AI 401,.none,.none,.none,AI 402,Ad 818,Ad 676,Aj Ez 819],BL (.type "function") (.func (G6 (Ba 31) SN 3 [] .none .none .none (Aj JB 791) L (AI 403) .none 0))],fo 405 (Ba 32) ZE ZE [jL,sD 0x746f70,Pw,sD 0x6e6f6465,sD 0x70617274] 821 691 1 .none A6 (Aj JB 791) L,[DD #[],GQ #[],BL .none (.func (G6 (Ba 33) SO 0 [] .none .none .none .none L .none .none 0)),Dv "code" #[Aj SO 832,Aj SO 833,Aj Ez 834,Ad 699,Ad 2,Ad 0,Ad 0,Ad 3,AI 412,.bool M,Ad 181,AI 413,.none,.none,.none,AI 414,Ad 835,Ad 699,Aj Ez 836],BL (.type "function") (.func (G6 (Ba 33) SO 3 [] .none .none .none (Aj JB 791) L (AI 415) .none 0))],fo 417 (Ba 34) ZF ZF [jH,sD 0x636f756e74] 838 705 2 .none A6 (Aj JB 791) L,fo 424 (Ba 35) ZG ZG [Hr,Hs,sD 0x7061697273,sD 0x726f7773,VZ,ME,SR,sD 0x6c6f7374,sD 0x776f6e] 846 707 2 .none A6 (Aj JB 791) L,[DD #[],GQ #[],BL .none (.func (G6 (Ba 36) SP 0 [] .none .none .none .none L .none .none 0)),Dv "code" #[Aj SP 861,Aj SP 862,Aj Ez 863,Ad 716,Ad 3,Ad 0,Ad 0,Ad 3,AI 431,.bool M,Ad 181,AI 432,.none,.none,.none,AI 433,Ad 864,Ad 716,Aj Ez 865],BL (.type "function") (.func (G6 (Ba 36) SP 3 [] .none .none .none (Aj JB 791) L (AI 434) .none 0))],fo 436 (Ba 37) ZH ZH [sD 0x736372697074,sD 0x647261776e,sD 0x746f6c645f736f] 867 725 1 .none A6 (Aj JB 791) L].flatten
noncomputable def jT(f:O):I Bi->BT:=RS (λ_=>.nil) (λ_ ih l=>lC l .nil λx r=>.node x (ih (jN r)) (ih (jN (r.drop 1)))) f
noncomputable def SV(P:Dq):BT:=jT 12 (Ny P)
noncomputable def wb(P:Dq):BT:=(.node (p0 P) (.node (p1 P) (.node (p3 P) (.node (p7 P) .nil .nil) (.node (jQ P) .nil .nil)) (.node (p5 P) (.node (p9 P) .nil .nil) (.node (jR P) .nil .nil))) (.node (p2 P) (.node (p4 P) (.node (p8 P) .nil .nil) (.node (wa P) .nil .nil)) (.node (p6 P) (.node (jP P) .nil .nil) (.node (jS P) .nil .nil))))
noncomputable def Bb(P:Dq):Gg:=(Ny P).zipIdx.map λp=>(p.2,p.1)
noncomputable def wc(o:Bi):I FQ:=if h:o.data.ctorIdx=3 then sx (motive:=λ_=>I FQ) o.data h (λN _=>N.toList)else[]
noncomputable def wd(o:Bi):I A4:=if h:o.data.ctorIdx=9 then sy (motive:=λ_=>I A4) o.data h (λN=>N.toList)else[]
noncomputable def we(n m j:O)(nm:A4)(P:Dq):I Bi:=(((Ny P).take n).set 3 (F0 m (bq4 (E P s0 165 nm::((wc ((Ny P).getD 3 (p2 P))).take m).tail)))).set 12 (GQ (bq4 ((wd ((Ny P).getD 12 (p2 P))).take j)))
end
section
noncomputable abbrev Tx:=I O
noncomputable def CU(a b:Tx):AK:=Ke (motive:=λ_=>Tx->AK) (λb=>l0 b A6 M) (λx _ ih b=>lC b A6 λy t=>bT (BC x y) A6 (ih t)) a b
noncomputable def Bo:AK->I Tx
 |false=>[[],[120],[120,121],[121,120],[120,121,122],[122,120,121],[121,121],[120,122,120,121],[120,118,121,122,117,119],[118,121,122],[120,120]]|true=>[[],[120],[120,121],[121,120],[120,121,122],[122,120,121],[121,121],[120,122,120,121],[120,119,121,122,116,119],[119,121,122,118]]
noncomputable def IN:I Tx:=[[],[120],[120,121],[121,120],[120,121,122],[122,120,121],[121,121],[120,122,120,121]]
inductive V where|none|bool(b:AK)|int(i:AX)|str(s:Tx)|tup(c:AD A8)(Y:I V)|top(v:A4)|ref(i:O)|H9(lo hi:AX)|B'(k:O)(i:O)|sym(k:AK)(t:Tx)(ok:t∈Bo k)|IP(m r:O)|Nz(n:O)|any deriving Inhabited
noncomputable def jU(v:V):AD (AK):=V.rec (motive_1:=λ_=>AD (AK)) (motive_2:=λ_=>DM) L G (λ_=>L) (λ_=>L) (λ_ _ _=>L) (λ_=>L) (λ_=>L) (λ_ _=>L) (λ_ _=>L) (λ_ _ _=>L) (λ_ _=>L) (λ_=>L) L () (λ_ _ _ _=>()) v
theorem wf{v:V}(q:¬v.ctorIdx=1):jU v=L:=by cases v<;>first|rfl|exact(q rfl).elim
noncomputable def vBool{J:Type}(v:V)(d:J)(k:AK->J):J:=oS (jU v) d k
theorem jV{J:Type}{v:V}{d:J}{k:AK->J}{r:J}(h:vBool v d k=r){P:V->Prop}(c:∀x,k x=r->P (.bool x))(e:d=r->P v):P v:=if q:v.ctorIdx=1 then V.bool.elim (motive_1:=λv=>vBool v d k=r->P v) v q (λx h=>c x h) h else e (oV (wf q) h)
theorem SX{J:Type}{v:V}{d:J}{k:AK->J}{r:J}(h:vBool v d k=r)(hd:d=r->Bj){P:V->Prop}(c:∀x,k x=r->P (.bool x)):P v:=jV h c λe=>(hd e).elim
noncomputable def jW(v:V):AD (AX):=V.rec (motive_1:=λ_=>AD (AX)) (motive_2:=λ_=>DM) L (λ_=>L) G (λ_=>L) (λ_ _ _=>L) (λ_=>L) (λ_=>L) (λ_ _=>L) (λ_ _=>L) (λ_ _ _=>L) (λ_ _=>L) (λ_=>L) L () (λ_ _ _ _=>()) v
theorem wg{v:V}(q:¬v.ctorIdx=2):jW v=L:=by cases v<;>first|rfl|exact(q rfl).elim
noncomputable def vInt{J:Type}(v:V)(d:J)(k:AX->J):J:=oS (jW v) d k
theorem Py{J:Type}{v:V}{d:J}{k:AX->J}{r:J}(h:vInt v d k=r){P:V->Prop}(c:∀x,k x=r->P (.int x))(e:d=r->P v):P v:=if q:v.ctorIdx=2 then V.int.elim (motive_1:=λv=>vInt v d k=r->P v) v q (λx h=>c x h) h else e (oV (wg q) h)
theorem Cu{J:Type}{v:V}{d:J}{k:AX->J}{r:J}(h:vInt v d k=r)(hd:d=r->Bj){P:V->Prop}(c:∀x,k x=r->P (.int x)):P v:=Py h c λe=>(hd e).elim
noncomputable def jX(v:V):AD (Tx):=V.rec (motive_1:=λ_=>AD (Tx)) (motive_2:=λ_=>DM) L (λ_=>L) (λ_=>L) G (λ_ _ _=>L) (λ_=>L) (λ_=>L) (λ_ _=>L) (λ_ _=>L) (λ_ _ _=>L) (λ_ _=>L) (λ_=>L) L () (λ_ _ _ _=>()) v
theorem wh{v:V}(q:¬v.ctorIdx=3):jX v=L:=by cases v<;>first|rfl|exact(q rfl).elim
noncomputable def vStr{J:Type}(v:V)(d:J)(k:Tx->J):J:=oS (jX v) d k
theorem O'{J:Type}{v:V}{d:J}{k:Tx->J}{r:J}(h:vStr v d k=r){P:V->Prop}(c:∀x,k x=r->P (.str x))(e:d=r->P v):P v:=if q:v.ctorIdx=3 then V.str.elim (motive_1:=λv=>vStr v d k=r->P v) v q (λx h=>c x h) h else e (oV (wh q) h)
theorem Dd{J:Type}{v:V}{d:J}{k:Tx->J}{r:J}(h:vStr v d k=r)(hd:d=r->Bj){P:V->Prop}(c:∀x,k x=r->P (.str x)):P v:=O' h c λe=>(hd e).elim
noncomputable def jY(v:V):AD (AD A8×I V):=V.rec (motive_1:=λ_=>AD (AD A8×I V)) (motive_2:=λ_=>DM) L (λ_=>L) (λ_=>L) (λ_=>L) (λa b _=>G (a,b)) (λ_=>L) (λ_=>L) (λ_ _=>L) (λ_ _=>L) (λ_ _ _=>L) (λ_ _=>L) (λ_=>L) L () (λ_ _ _ _=>()) v
theorem wj{v:V}(q:¬v.ctorIdx=4):jY v=L:=by cases v<;>first|rfl|exact(q rfl).elim
noncomputable def FU{J:Type}(v:V)(d:J)(k:AD A8->I V->J):J:=oS (jY v) d (H6 k)
theorem jZ{J:Type}{v:V}{d:J}{k:AD A8->I V->J}{r:J}(h:FU v d k=r){P:V->Prop}(c:∀x y,k x y=r->P (.tup x y))(e:d=r->P v):P v:=if q:v.ctorIdx=4 then V.tup.elim (motive_1:=λv=>FU v d k=r->P v) v q (λx y h=>c x y h) h else e (oV (wj q) h)
theorem IQ{J:Type}{v:V}{d:J}{k:AD A8->I V->J}{r:J}(h:FU v d k=r)(hd:d=r->Bj){P:V->Prop}(c:∀x y,k x y=r->P (.tup x y)):P v:=jZ h c λe=>(hd e).elim
noncomputable def j_(v:V):AD (A4):=V.rec (motive_1:=λ_=>AD (A4)) (motive_2:=λ_=>DM) L (λ_=>L) (λ_=>L) (λ_=>L) (λ_ _ _=>L) G (λ_=>L) (λ_ _=>L) (λ_ _=>L) (λ_ _ _=>L) (λ_ _=>L) (λ_=>L) L () (λ_ _ _ _=>()) v
theorem wk{v:V}(q:¬v.ctorIdx=5):j_ v=L:=by cases v<;>first|rfl|exact(q rfl).elim
noncomputable def IR{J:Type}(v:V)(d:J)(k:A4->J):J:=oS (j_ v) d k
theorem Zh{J:Type}{v:V}{d:J}{k:A4->J}{r:J}(h:IR v d k=r){P:V->Prop}(c:∀x,k x=r->P (.top x))(e:d=r->P v):P v:=if q:v.ctorIdx=5 then V.top.elim (motive_1:=λv=>IR v d k=r->P v) v q (λx h=>c x h) h else e (oV (wk q) h)
theorem O0{J:Type}{v:V}{d:J}{k:A4->J}{r:J}(h:IR v d k=r)(hd:d=r->Bj){P:V->Prop}(c:∀x,k x=r->P (.top x)):P v:=Zh h c λe=>(hd e).elim
noncomputable def ja(v:V):AD (O):=V.rec (motive_1:=λ_=>AD (O)) (motive_2:=λ_=>DM) L (λ_=>L) (λ_=>L) (λ_=>L) (λ_ _ _=>L) (λ_=>L) G (λ_ _=>L) (λ_ _=>L) (λ_ _ _=>L) (λ_ _=>L) (λ_=>L) L () (λ_ _ _ _=>()) v
theorem wl{v:V}(q:¬v.ctorIdx=6):ja v=L:=by cases v<;>first|rfl|exact(q rfl).elim
noncomputable def DQ{J:Type}(v:V)(d:J)(k:O->J):J:=oS (ja v) d k
theorem Vf{J:Type}{v:V}{d:J}{k:O->J}{r:J}(h:DQ v d k=r){P:V->Prop}(c:∀x,k x=r->P (.ref x))(e:d=r->P v):P v:=if q:v.ctorIdx=6 then V.ref.elim (motive_1:=λv=>DQ v d k=r->P v) v q (λx h=>c x h) h else e (oV (wl q) h)
theorem EI{J:Type}{v:V}{d:J}{k:O->J}{r:J}(h:DQ v d k=r)(hd:d=r->Bj){P:V->Prop}(c:∀x,k x=r->P (.ref x)):P v:=Vf h c λe=>(hd e).elim
noncomputable def SY{J:Type}(v:V)(d:J)(k:O->O->J):J:=if h:v.ctorIdx=10 then V.IP.elim (motive_1:=λ_=>J) v h k else d
theorem wm{J:Type}{v:V}{d:J}{k:O->O->J}{r:J}(h:SY v d k=r){P:V->Prop}(c:∀x y,k x y=r->P (.IP x y))(e:d=r->P v):P v:=if q:v.ctorIdx=10 then V.IP.elim (motive_1:=λv=>SY v d k=r->P v) v q (λx y h=>c x y h) h else e ((D3 q).symm.trans h)
theorem jb{J:Type}{v:V}{d:J}{k:O->O->J}{r:J}(h:SY v d k=r)(hd:d=r->Bj){P:V->Prop}(c:∀x y,k x y=r->P (.IP x y)):P v:=wm h c λe=>(hd e).elim
noncomputable def Vg{J:Type}(v:V)(d:J)(k:O->J):J:=if h:v.ctorIdx=11 then V.Nz.elim (motive_1:=λ_=>J) v h k else d
theorem wn{J:Type}{v:V}{d:J}{k:O->J}{r:J}(h:Vg v d k=r){P:V->Prop}(c:∀x,k x=r->P (.Nz x))(e:d=r->P v):P v:=if q:v.ctorIdx=11 then V.Nz.elim (motive_1:=λv=>Vg v d k=r->P v) v q (λx h=>c x h) h else e ((D3 q).symm.trans h)
theorem wo{J:Type}{v:V}{d:J}{k:O->J}{r:J}(h:Vg v d k=r)(hd:d=r->Bj){P:V->Prop}(c:∀x,k x=r->P (.Nz x)):P v:=wn h c λe=>(hd e).elim
noncomputable def wq(v:A4):AD (D9):=if h:v.ctorIdx=8 then bq5 (motive:=λ_=>AD (D9)) v h G else L
noncomputable def Ku{J:Type}(v:A4)(d:J)(k:D9->J):J:=oS (wq v) d k
theorem jc{J:Type}{v:A4}{d:J}{k:D9->J}{r:J}(h:Ku v d k=r){P:A4->Prop}(c:∀x,k x=r->P (.type x))(e:d=r->P v):P v:=if q:v.ctorIdx=8 then bq5 (motive:=λv=>Ku v d k=r->P v) v q (λx h=>c x h) h else e (oV (D3 q) h)
theorem S_{J:Type}{v:A4}{d:J}{k:D9->J}{r:J}(h:Ku v d k=r)(hd:d=r->Bj){P:A4->Prop}(c:∀x,k x=r->P (.type x)):P v:=jc h c λe=>(hd e).elim
noncomputable def IS{J:Type}(v:V)(d k:J):J:=if v.ctorIdx=0 then k else d
theorem Zi{J:Type}{v:V}{d k r:J}(h:IS v d k=r){P:V->Prop}(c:k=r->P .none)(e:d=r->P v):P v:=if q:v.ctorIdx=0 then V.none.elim (motive_1:=λv=>IS v d k=r->P v) v q c h else e ((CS q).symm.trans h)
theorem Pz{J:Type}{v:V}{d k r:J}(h:IS v d k=r)(hd:d=r->Bj){P:V->Prop}(c:k=r->P .none):P v:=Zi h c λe=>(hd e).elim
noncomputable def wt{J:Type}(v:V)(d:J)(k:AX->AX->J):J:=if h:v.ctorIdx=7 then V.H9.elim (motive_1:=λ_=>J) v h k else d
noncomputable def Vh{J:Type}(v:V)(d:J)(k:O->O->J):J:=if h:v.ctorIdx=8 then V.B'.elim (motive_1:=λ_=>J) v h k else d
theorem wu{J:Type}{v:V}{d:J}{k:O->O->J}{r:J}(h:Vh v d k=r){P:V->Prop}(c:∀x y,k x y=r->P (.B' x y))(e:d=r->P v):P v:=if q:v.ctorIdx=8 then V.B'.elim (motive_1:=λv=>Vh v d k=r->P v) v q (λx y h=>c x y h) h else e ((D3 q).symm.trans h)
theorem ww{J:Type}{v:V}{d:J}{k:O->O->J}{r:J}(h:Vh v d k=r)(hd:d=r->Bj){P:V->Prop}(c:∀x y,k x y=r->P (.B' x y)):P v:=wu h c λe=>(hd e).elim
noncomputable def wx(v:A4):AD (A8):=if h:v.ctorIdx=10 then bq6 (motive:=λ_=>AD (A8)) v h G else L
noncomputable def Kv{J:Type}(v:A4)(d:J)(k:A8->J):J:=oS (wx v) d k
theorem wy{J:Type}{v:A4}{d:J}{k:A8->J}{r:J}(h:Kv v d k=r){P:A4->Prop}(c:∀x,k x=r->P (.ref x))(e:d=r->P v):P v:=if q:v.ctorIdx=10 then bq6 (motive:=λv=>Kv v d k=r->P v) v q (λx h=>c x h) h else e (oV (D3 q) h)
theorem Q0{J:Type}{v:A4}{d:J}{k:A8->J}{r:J}(h:Kv v d k=r)(hd:d=r->Bj){P:A4->Prop}(c:∀x,k x=r->P (.ref x)):P v:=wy h c λe=>(hd e).elim
noncomputable def wz(v:A4):AD (D9):=if h:v.ctorIdx=9 then bq7 (motive:=λ_=>AD (D9)) v h G else L
noncomputable def Zj{J:Type}(v:A4)(d:J)(k:D9->J):J:=oS (wz v) d k
theorem x7{J:Type}{v:A4}{d:J}{k:D9->J}{r:J}(h:Zj v d k=r){P:A4->Prop}(c:∀x,k x=r->P (.builtin x))(e:d=r->P v):P v:=if q:v.ctorIdx=9 then bq7 (motive:=λv=>Zj v d k=r->P v) v q (λx h=>c x h) h else e (oV (D3 q) h)
inductive Sg where|it(l:I Tx)|tx(t:Tx)|run(p a b:Tx)
inductive Ob where|list(Y:I V)|dict(N:I (V×V))|HT|inst(c:A8)(d:O)|EY(N:I (U×V))|B3(N:I (V×V))|rows(r:O)(Y:I Sg)deriving Inhabited
noncomputable def xB(v:Ob):AD (I V):=if h:v.ctorIdx=0 then Ob.list.elim (motive:=λ_=>AD (I V)) v h G else L
noncomputable def EJ{J:Type}(v:Ob)(d:J)(k:I V->J):J:=oS (xB v) d k
theorem Jz{J:Type}{v:Ob}{d:J}{k:I V->J}{r:J}(h:EJ v d k=r){P:Ob->Prop}(c:∀x,k x=r->P (.list x))(e:d=r->P v):P v:=if q:v.ctorIdx=0 then Ob.list.elim (motive:=λv=>EJ v d k=r->P v) v q (λx h=>c x h) h else e (oV (D3 q) h)
theorem IT{J:Type}{v:Ob}{d:J}{k:I V->J}{r:J}(h:EJ v d k=r)(hd:d=r->Bj){P:Ob->Prop}(c:∀x,k x=r->P (.list x)):P v:=Jz h c λe=>(hd e).elim
noncomputable def xC(v:Ob):AD (I (V×V)):=if h:v.ctorIdx=1 then Ob.dict.elim (motive:=λ_=>AD (I (V×V))) v h G else L
noncomputable def FV{J:Type}(v:Ob)(d:J)(k:I (V×V)->J):J:=oS (xC v) d k
theorem Sa{J:Type}{v:Ob}{d:J}{k:I (V×V)->J}{r:J}(h:FV v d k=r){P:Ob->Prop}(c:∀x,k x=r->P (.dict x))(e:d=r->P v):P v:=if q:v.ctorIdx=1 then Ob.dict.elim (motive:=λv=>FV v d k=r->P v) v q (λx h=>c x h) h else e (oV (D3 q) h)
theorem JD{J:Type}{v:Ob}{d:J}{k:I (V×V)->J}{r:J}(h:FV v d k=r)(hd:d=r->Bj){P:Ob->Prop}(c:∀x,k x=r->P (.dict x)):P v:=Sa h c λe=>(hd e).elim
noncomputable def MG{J:Type}(v:Ob)(d:J)(k:I (V×V)->J):J:=if h:v.ctorIdx=5 then Ob.B3.elim (motive:=λ_=>J) v h k else d
theorem xF{J:Type}{v:Ob}{d:J}{k:I (V×V)->J}{r:J}(h:MG v d k=r){P:Ob->Prop}(c:∀x,k x=r->P (.B3 x))(e:d=r->P v):P v:=if q:v.ctorIdx=5 then Ob.B3.elim (motive:=λv=>MG v d k=r->P v) v q (λx h=>c x h) h else e ((D3 q).symm.trans h)
theorem Sb{J:Type}{v:Ob}{d:J}{k:I (V×V)->J}{r:J}(h:MG v d k=r)(hd:d=r->Bj){P:Ob->Prop}(c:∀x,k x=r->P (.B3 x)):P v:=xF h c λe=>(hd e).elim
noncomputable def Q1{J:Type}(v:Ob)(d k:J):J:=if v.ctorIdx=2 then k else d
theorem jd{J:Type}{v:Ob}{d k r:J}(h:Q1 v d k=r){P:Ob->Prop}(c:k=r->P .HT)(e:d=r->P v):P v:=if q:v.ctorIdx=2 then Ob.HT.elim (motive:=λv=>Q1 v d k=r->P v) v q c h else e ((CS q).symm.trans h)
theorem xG{J:Type}{v:Ob}{d k r:J}(h:Q1 v d k=r)(hd:d=r->Bj){P:Ob->Prop}(c:k=r->P .HT):P v:=jd h c λe=>(hd e).elim
noncomputable def xH(v:Ob):AD (A8×O):=if h:v.ctorIdx=3 then Ob.inst.elim (motive:=λ_=>AD (A8×O)) v h (λa0 a1=>G (a0,a1))else L
noncomputable def Q2{J:Type}(v:Ob)(d:J)(k:A8->O->J):J:=oS (xH v) d (H6 k)
theorem je{J:Type}{v:Ob}{d:J}{k:A8->O->J}{r:J}(h:Q2 v d k=r){P:Ob->Prop}(c:∀x y,k x y=r->P (.inst x y))(e:d=r->P v):P v:=if q:v.ctorIdx=3 then Ob.inst.elim (motive:=λv=>Q2 v d k=r->P v) v q (λx y h=>c x y h) h else e (oV (D3 q) h)
theorem jf{J:Type}{v:Ob}{d:J}{k:A8->O->J}{r:J}(h:Q2 v d k=r)(hd:d=r->Bj){P:Ob->Prop}(c:∀x y,k x y=r->P (.inst x y)):P v:=je h c λe=>(hd e).elim
noncomputable def xI(v:Ob):AD (I (U×V)):=if h:v.ctorIdx=4 then Ob.EY.elim (motive:=λ_=>AD (I (U×V))) v h G else L
noncomputable def Q3{J:Type}(v:Ob)(d:J)(k:I (U×V)->J):J:=oS (xI v) d k
theorem xJ{J:Type}{v:Ob}{d:J}{k:I (U×V)->J}{r:J}(h:Q3 v d k=r){P:Ob->Prop}(c:∀x,k x=r->P (.EY x))(e:d=r->P v):P v:=if q:v.ctorIdx=4 then Ob.EY.elim (motive:=λv=>Q3 v d k=r->P v) v q (λx h=>c x h) h else e (oV (D3 q) h)
theorem Zk{J:Type}{v:Ob}{d:J}{k:I (U×V)->J}{r:J}(h:Q3 v d k=r)(hd:d=r->Bj){P:Ob->Prop}(c:∀x,k x=r->P (.EY x)):P v:=xJ h c λe=>(hd e).elim
noncomputable def Q4{J:Type}(v:Ob)(d:J)(k:O->I Sg->J):J:=if h:v.ctorIdx=6 then Ob.rows.elim (motive:=λ_=>J) v h k else d
theorem jg{J:Type}{v:Ob}{d:J}{k:O->I Sg->J}{r:J}(h:Q4 v d k=r){P:Ob->Prop}(c:∀x y,k x y=r->P (.rows x y))(e:d=r->P v):P v:=if q:v.ctorIdx=6 then Ob.rows.elim (motive:=λv=>Q4 v d k=r->P v) v q (λx y h=>c x y h) h else e ((D3 q).symm.trans h)
theorem jh{J:Type}{v:Ob}{d:J}{k:O->I Sg->J}{r:J}(h:Q4 v d k=r)(hd:d=r->Bj){P:Ob->Prop}(c:∀x y,k x y=r->P (.rows x y)):P v:=jg h c λe=>(hd e).elim
structure St where
 env:I (U×V)h:I (O×Ob)n:O deriving Inhabited
inductive Fl where|next|brk|cont|ret(v:V)
inductive AS where|v(v:V)|vs(l:I V)|b(b:AK)|f(f:Fl)|ps(l:I (V×V))
structure Fn where
 sc:BU
 ps:I U
 va:AD U
 body:I As
 dflt:I V
structure Kx where
 sc:BU
 d:O
noncomputable def Cw(a b:U):AK:=CU a.cps.toList b.cps.toList
noncomputable def EZ:Tx->Tx->AK
 |_,[]=>A6|[],_::_=>M|a::x,b::y=>match BC a b with|true=>EZ x y|false=>G0 a b
noncomputable def Ah{C:Type}(l:I (U×C))(x:U):AD C:=Ke (motive:=λ_=>AD C) L (λp _ ih=>bC (Cw p.1 x) (G p.2) ih) l
noncomputable def E_{C:Type}(l:I (U×C))(x:U)(v:C):I (U×C):=Ke (motive:=λ_=>I (U×C)) [(x,v)] (λp l ih=>bC (Cw p.1 x) ((p.1,v)::l) (p::ih)) l
noncomputable def AL{C:Type}(l:I (O×C))(x:O):AD C:=Ke (motive:=λ_=>AD C) L (λp _ ih=>bC (BC p.1 x) (G p.2) ih) l
noncomputable def putN{C:Type}(l:I (O×C))(x:O)(v:C):I (O×C):=Ke (motive:=λ_=>I (O×C)) [] (λp l ih=>bC (BC p.1 x) ((p.1,v)::l) (p::ih)) l
noncomputable def Gq{C:Type}:I C->O->AD C
 |[],_=>L|a::l,n=>match n with|0=>G a|n+1=>Gq l n
noncomputable def K0(f:V->V->AD AK):I V->I V->AD AK
 |[],[]=>G M|a::x,b::y=>B' (f a b) λp=>B' (K0 f x y) λq=>G (p&&q)|[],_::_=>G A6|_::_,[]=>G A6
noncomputable def Q5(a b:V):AD AK:=vInt a (vStr a L λx=>vStr b L λy=>G (CU x y)) λx=>vInt b L λy=>G (decide (x=y))
noncomputable def G7(a b:V):AD AK:=vInt a (vStr a (FU a L λc x=>oN c L (FU b L λc' y=>oN c' L (K0 Q5 x y))) λx=>vStr b L λy=>G (CU x y)) λx=>vInt b L λy=>G (decide (x=y))
noncomputable def Zl(x y:I V):AD AK:=K0 G7 x y
noncomputable def JE:I AX->I AX->AK
 |a::x,b::y=>if a=b then JE x y else decide (a<b)|_,_=>A6
noncomputable def ji(v:V):AX:=vInt v 0 λi=>i
noncomputable def Sd(v w:V):AD AK:=FU v L λ_ l=>FU w L λ_ m=>G (JE (l.map ji) (m.map ji))
noncomputable def D':I (V×V)->V->AD V
 |[],_=>L|p::l,x=>match G7 p.1 x with|some M=>G p.2|_=>D' l x
noncomputable def En:I (V×V)->V->V->I (V×V)
 |[],x,v=>[(x,v)]|p::l,x,v=>match G7 p.1 x with|some M=>(p.1,v)::l|_=>p::En l x v
noncomputable def Ht:I Tx->I Tx
 |[]=>[]|x::l=>match(Ht l).any (CU x)with|true=>Ht l|false=>x::Ht l
noncomputable def Zm:V->I V->AD V
 |x,[]=>G x|x,y::l=>B' (Sd x y) λb=>Zm (bC b y x) l
noncomputable def Hu{C:Type}(l:I C)(lo hi:AD AX):I C:=let n:=l.length;let a:=match lo with|some i=>bq8 n i|none=>0;let b:=match hi with|some i=>bq8 n i|none=>n;(l.take b).drop a
noncomputable def Q6{C:Type}(l:I C)(i:AX):AD C:=if i<0 then(if i+l.length<0 then L else Gq l (i+l.length).toNat)else Gq l i.toNat
noncomputable def K1:Tx->Tx->AK
 |[],_=>M|_::_,[]=>A6|a::x,b::y=>match BC a b with|true=>K1 x y|false=>A6
noncomputable def Q7(n:O):Tx:=match G0 n 10 with|true=>[48+n]|false=>[48+n/10,48+n%10]
noncomputable def O1(i:AX):AK:=decide (0<=i)&&decide (i<100)
noncomputable def JF(i:AX):Tx:=Q7 i.toNat
noncomputable def HU:I V->AD (I Tx)
 |[]=>G []|v::l=>vStr v L λt=>B' (HU l) λr=>G (t::r)
noncomputable def CH{C:Type}(l:I C):AK:=EQ l.length 100000
noncomputable def truthy(v:V)(h:I (O×Ob)):AD AK:=IS v (vBool v (vInt v (vStr v (DQ v L λi=>B' (AL h i) λo=>EJ o L λY=>bT (CH Y) L (G (!Y.isEmpty))) λs=>bT (CH s) L (G (!s.isEmpty))) λi=>G (decide (i≠0))) G) (G A6)
noncomputable def Zn(i:AX):AK:=decide (0<=i)&&decide (i<=1000)
noncomputable def b2i(b:AK):AX:=if b then 1 else 0
noncomputable def jj(a b:V):AD V:=(vInt a L λa=>(vInt b L λb=>G (.int (a+b))).or (vBool b L λb=>G (.int (a+b2i b)))).or ((vBool a L λa=>(vInt b L λb=>G (.int (b2i a+b))).or (vBool b L λb=>G (.int (b2i a+b2i b)))).or (vStr a L λa=>vStr b L λb=>bT (CH (a++b)) L (G (.str (a++b)))))
noncomputable def Zo(b:AX):AK:=decide (0<b)&&decide (b<=1000000000)
noncomputable def Vi(m r:O)(b:AX):AK:=BC (m%b.toNat) 0&&G0 r m
noncomputable def jk(a b:V):AD V:=vInt b L λb=>bT (Zo b) L ((vInt a L λa=>G (.int (t3 a b))).or (SY a L λm r=>bT (Vi m r b) L (G (.IP (m/b.toNat) (r/b.toNat)))))
noncomputable def jl(a b:V):AD V:=vInt b L λb=>bT (Zo b) L ((vInt a L λa=>G (.int (t4 a b))).or (SY a L λm r=>G (match Vi m r b with|true=>.int (fW (r%b.toNat))|false=>.Nz b.toNat)))
noncomputable def jm(a b:V):AD V:=(vBool a L λa=>vBool b L λb=>G (.int (b2i a*b2i b))).or (vStr a L λa=>l1 a L λc=>vInt b L λn=>bT (Zn n) L (G (.str (Y2 n.toNat c))))
noncomputable def Zp(a b:V):AD V:=vInt a L λa=>vInt b L λb=>G (.int (a-b))
noncomputable def xK(a b:V):AD V:=(vInt a L λa=>vInt b L λb=>G (.int (a+b))).or (vStr a L λa=>vStr b L λb=>bT (CH (a++b)) L (G (.str (a++b))))
noncomputable def Zq(op:Jj)(a b:V):AD V:=if op=.Add then xK a b else if op=.Sub then Zp a b else L
noncomputable def De(N:I (V×V))(k:V):AK:=(vStr k A6 λ_=>l0 N (lC N A6 λp _=>vStr p.1 A6 λ_=>M) M)||(vInt k A6 λ_=>l0 N (lC N A6 λp _=>vInt p.1 A6 λ_=>M) M)
noncomputable def O2:I V->V->AD AK
 |[],v=>vStr v L λ_=>G A6|y::l,v=>vStr y L λb=>vStr v L λa=>B' (O2 l v) λr=>G (CU b a||r)
noncomputable def jn(a b:V)(h:I (O×Ob)):AD AK:=(vInt a L λx=>vInt b L λy=>G (decide (x=y))).or ((vStr a L λx=>vStr b L λy=>G (CU x y)).or (DQ a L λi=>DQ b L λj=>B' (AL h i) λo=>B' (AL h j) λo'=>EJ o L λx=>EJ o' L λy=>Zl x y))
noncomputable def xL(a b:V):AD AK:=(vInt a L λx=>vInt b L λy=>G (!decide (x=y))).or (vStr a L λx=>vStr b L λy=>G (!CU x y))
noncomputable def xM(a b:V):AD AK:=(vInt a L λx=>vInt b L λy=>G (decide (x<y))).or (vStr a L λx=>vStr b L λy=>G (EZ x y))
noncomputable def Vj(f:AX->AX->AK)(a b:V):AD AK:=vInt a L λx=>vInt b L λy=>G (f x y)
noncomputable def Zr(t:AK)(a b:V):AD AK:=IS b L ((IS a L (G t)).or ((vStr a L λ_=>G !t).or ((DQ a L λ_=>G !t).or (vInt a L λ_=>G !t))))
noncomputable def Sf(f:AK->AK)(a b:V)(h:I (O×Ob)):AD AK:=DQ b L λj=>B' (AL h j) λo=>(FV o L λN=>bT (De N a) L (G (f (D' N a).isSome))).or ((MG o L λN=>bT (De N a) L (G (f (D' N a).isSome))).or (EJ o L λY=>B' (O2 Y a) λr=>G (f r)))
noncomputable def Vk(op:PO)(a b:V)(h:I (O×Ob)):AD AK:=match op with
 |.Eq=>jn a b h|.NotEq=>xL a b|.Lt=>xM a b|.Gt=>Vj (λx y=>decide (y<x)) a b|.LtE=>Vj (λx y=>decide (x<=y)) a b|.GtE=>Vj (λx y=>decide (y<=x)) a b|.Is=>Zr M a b|.IsNot=>Zr A6 a b|.In=>Sf (λb=>b) a b h|.NotIn=>Sf (λb=>!b) a b h
noncomputable def O3:fG->AD V
 |.none=>G .none|.bool b=>G (.bool b)|.int i=>G (.int i)|.str s=>G (.str s.cps.toList)|_=>L
inductive It where|tup(Y:I V)|H9(lo hi:AX)|lst(k:O)|keys(k n:O)|K2(s:Tx)
noncomputable def JG(i:AX):AK:=decide (-1000000000<=i)&&decide (i<=1000000000)
noncomputable def Q8(v:V)(h:I (O×Ob)):AD It:=FU v (wt v (DQ v L λi=>B' (AL h i) λo=>EJ o (FV o L λN=>G (.keys i N.length)) λ_=>G (.lst i)) λlo hi=>bT (JG lo&&JG hi) L (G (.H9 lo hi))) λc Y=>oN c L (G (.tup Y))
noncomputable def IU(it:It)(i:O)(h:I (O×Ob)):AD (AD V):=match it with
 |.tup Y=>G (Gq Y i)|.H9 lo hi=>G (if lo+fW i<hi then G (.int (lo+fW i))else L)|.lst k=>B' (AL h k) λo=>EJ o L λY=>G (Gq Y i)|.keys k n=>B' (AL h k) λo=>FV o L λN=>bT (BC N.length n) L (G ((Gq N i).map (·.1)))|.K2 s=>G ((Gq s i).map λc=>.tup L [.int (fW i),.str [c]])
noncomputable def St.new(H:St)(o:Ob):V×St:=(.ref H.n,⟨H.env,(H.n,o)::H.h,H.n+1⟩)
noncomputable def St.set(H:St)(i:O)(o:Ob):St:=⟨H.env,putN H.h i o,H.n⟩
noncomputable def Sh(F:Fn)(args:I V):I V:=args.take F.ps.length++F.dflt.drop (F.dflt.length-(F.ps.length-args.length))
noncomputable def JH(F:Fn)(args:I V):AD (I (U×V)):=bT (EQ args.length (bC F.va.isSome 1000 F.ps.length)&&BC F.ps.length (Sh F args).length) L (G (F.ps.zip (Sh F args)++F.va.toList.map λx=>(x,V.tup L (args.drop F.ps.length))))
noncomputable def DG(e:Tx):I Tx->I Tx
 |[]=>[]|x::l=>match CU x e with|true=>DG e l|false=>x::l
noncomputable def D4:O->I Tx->I Tx->I Tx×I Tx
 |0,Y,ys=>(Y,ys)|_+1,[],ys=>([],ys)|_+1,Y,[]=>(Y,[])|n+1,e::Y,a::ys=>match EZ e a with
 |true=>let r:=D4 n (DG e Y) (a::ys);(e::r.1,r.2)|false=>match EZ a e with
 |true=>let r:=D4 n (e::Y) (DG a ys);(r.1,a::r.2)|false=>D4 n (DG e Y) (DG a ys)
inductive A0 where|ok(r:AS)(H:St)|bad
inductive MK where|str|lst|F1|fn(a:A8)|tup
inductive Cd where|e(x:AA)|N(l:I AA)|t(x:AA)|ts(and:AK)(l:I AA)|s(x:As)|ss(l:I As)|asg(t:AA)(v:V)|MH(ts:I AA)(vs:I V)|GR(ts:I AA)(v:V)|loop(t:AA)(it:It)(i:O)(body:I As)|MI(Zs:AA)(body:I As)|call(f:V)(args:I V)|HV(kd:MK)(o:V)(m:U)(args:I V)|GS(C_:AA)(g:FP)(gens:I FP)(it:It)(i:O)(Am:I V)|Si(k v:AA)(g:FP)(it:It)(i:O)(d:O)|pairs(ks:I (AD AA))(vs:I AA)(Am:I (V×V))
noncomputable abbrev OT:=Kx->St->AD A0
noncomputable def jp(fe:AA->OT)(fs:As->OT)(fc:V->I V->OT)(c:Cd):OT:=Cd.rec (motive:=λ_=>OT) fe (λ_ _ _=>L) (λ_ _ _=>L) (λ_ _ _ _=>L) fs (λ_ _ _=>L) (λ_ _ _ _=>L) (λ_ _ _ _=>L) (λ_ _ _ _=>L) (λ_ _ _ _ _ _=>L) (λ_ _ _ _=>L) fc (λ_ _ _ _ _ _=>L) (λ_ _ _ _ _ _ _ _=>L) (λ_ _ _ _ _ _ _ _=>L) (λ_ _ _ _ _=>L) c
structure Ctx where
 glob:I (U×V)fn:A8->AD Fn
 Bp:A8
 Sj:A8
 jq:A8
 Dl:A8
 Q9:A8
 Gr:A8
 Vl:AK
 HV:I (U×A8)CR:Kx->Cd->St->AD A0
noncomputable def A0.V(o:A0)(k:Mine.V->St->A0):A0:=A0.rec (motive:=λ_=>A0) (λr H=>AS.rec (motive:=λ_=>A0) (λv=>k v H) (λ_=>.bad) (λ_=>.bad) (λ_=>.bad) (λ_=>.bad) r) .bad o
noncomputable def A0.A1(o:A0)(k:I Mine.V->St->A0):A0:=A0.rec (motive:=λ_=>A0) (λr H=>AS.rec (motive:=λ_=>A0) (λ_=>.bad) (λv=>k v H) (λ_=>.bad) (λ_=>.bad) (λ_=>.bad) r) .bad o
noncomputable def A0.B(o:A0)(k:AK->St->A0):A0:=A0.rec (motive:=λ_=>A0) (λr H=>AS.rec (motive:=λ_=>A0) (λ_=>.bad) (λ_=>.bad) (λv=>k v H) (λ_=>.bad) (λ_=>.bad) r) .bad o
noncomputable def A0.F(o:A0)(k:Fl->St->A0):A0:=A0.rec (motive:=λ_=>A0) (λr H=>AS.rec (motive:=λ_=>A0) (λ_=>.bad) (λ_=>.bad) (λ_=>.bad) (λv=>k v H) (λ_=>.bad) r) .bad o
noncomputable def A0.of{C:Type}(o:AD C)(k:C->A0):A0:=fF (motive:=λ_=>A0) .bad k o
noncomputable def A0.lst(h:I (O×Ob))(v:Mine.V)(k:O->I Mine.V->A0):A0:=DQ v .bad λi=>oS (AL h i) .bad λo=>EJ o .bad (k i)
noncomputable def A0.F1(h:I (O×Ob))(v:Mine.V)(k:O->I (Mine.V×Mine.V)->A0):A0:=DQ v .bad λi=>oS (AL h i) .bad λo=>FV o .bad (k i)
noncomputable def Dm:O:=1000000
noncomputable def jr(v:Mine.V):AD (I Tx):=FU v L λo vs=>oN o L (HU vs)
noncomputable def Vm(v:Mine.V):AD Sg:=vStr v (B' (jr v) λl=>G (.it l)) λt=>G (.tx t)
noncomputable def QA:I Mine.V->AD (I Sg)
 |[]=>G []|v::l=>B' (Vm v) λt=>B' (QA l) λr=>G (t::r)
noncomputable def FW(o:Ob):AD (O×I Sg):=EJ o (Q4 o L λr Y=>G (r,Y)) λY=>bT (CH Y) L (B' (QA Y) λl=>G (Dm-Y.length,l))
noncomputable def A0.iff(b:AK)(o:A0):A0:=PP (motive:=λ_=>A0) .bad o b
noncomputable def O4(x:AA)(n:D9):AK:=DO x A6 λid _=>Cw id (Ev n)
noncomputable def Sk(x:AA):AD AA:=ED x L λf a k _=>l1 a L λx=>l0 k L (bT (O4 f "enumerate") L (G x))
noncomputable def QB:U:=⟨⟨[115,111,114,116,101,100]⟩⟩
noncomputable def Zt:U:=⟨⟨[115,101,116]⟩⟩
noncomputable def Zu:U:=⟨⟨[108,105,115,116]⟩⟩
noncomputable def Zv:U:=⟨⟨[109,97,112]⟩⟩
noncomputable def Sl:U:=⟨⟨[77,97,116,99,104]⟩⟩
noncomputable def Zw(f:AA)(a:I AA):AD AA:=l1 a L λc=>ED c L λg a k _=>l1 a L λx=>l0 k L (bT (O4 f "sorted"&&O4 g "set") L (G x))
noncomputable def Zx(f:AA)(a:I AA):AD AA:=l1 a L λc=>ED c L λg a k _=>lC a L λm a=>l1 a L λx=>H7 m L λo a _=>l0 k L (bT (O4 f "list"&&(O4 g "map"&&(O4 o "Match"&&Cw a (Ev "_make")))) L (G x))
noncomputable def Sm(sc:BU)(x:U):AD E3:=Ah sc.names x
noncomputable def isIn(l:I E3)(o:AD E3):AK:=o.any l.contains
noncomputable def G8(sc:BU)(x:U):AK:=isIn [.local,.cell] (Sm sc x)
noncomputable def D0(sc:BU)(x:U):AK:=isIn [.local,.cell,.free] (Sm sc x)
noncomputable def Di(sc:BU)(x:U):AK:=isIn [.globalImplicit] (Sm sc x)
noncomputable def QC(sc:BU):AK:=sc.names.all λp=>!Cw p.1 (Ev "__debug__")&&!Cw p.1 (Ev "__classdict__")
noncomputable def Zy(sc:BU)(x:U):AK:=isIn [.cell,.free] (Sm sc x)
noncomputable def Sn{C:Type}:I (U×C)->AK
 |[]=>M|p::l=>match Ah l p.1 with|none=>Sn l|some _=>A6
noncomputable def Kw(sc IV:BU)(env:I (U×Mine.V)):AK:=(match IV.kind with|.function=>M|_=>A6)&&QC IV&&Sn IV.names&&IV.names.all λx=>match x.2 with
 |.local=>(match Ah env x.1 with|none=>M|some _=>A6)|.free=>Zy sc x.1|.globalImplicit=>M|_=>A6
noncomputable def Vn(o:AA):AK:=ED o M λ_ args _ _=>!args.isEmpty
noncomputable def CP(e:AA):AK:=!(BC e.ctorIdx 22||BC e.ctorIdx 7)
noncomputable def MJ(g:FP):AK:=CP g.iter&&match g.is_async with|.ofNat 0=>M|_=>A6
noncomputable def xN:I FP->AK
 |[]=>M|g::_=>MJ g
noncomputable def Zz(ih:Cd->St->A0)(l:I AA)(H:St):A0:=match l with
 |[]=>.ok (.b M) H|[c]=>ih (.t c) H|_=>.bad
section
variable(A3:Ctx)
noncomputable def Fk(v:AD V)(H:St):A0:=A0.of v λv=>.ok (.v v) H
noncomputable def a5(v:AD AK)(H:St):A0:=A0.of v λv=>.ok (.b v) H
noncomputable def FX(p:V×St):A0:=.ok (.v p.1) p.2
noncomputable def QD(x:Tx):I Tx->I Tx
 |[]=>[x]|y::l=>match EZ x y with|true=>x::y::l|false=>y::QD x l
noncomputable def Ea:I Tx->I Tx
 |[]=>[]|x::l=>QD x (Ea l)
noncomputable def O5(Y:I V)(H:St):A0:=A0.of (HU Y) λl=>A0.iff (G0 l.length 60) (FX (H.new (.list ((Ea l).map .str))))
noncomputable def O6(v:V):AK:=FU v A6 λo l=>oN o A6 (lC l A6 λa l=>lC l A6 λb l=>l1 l A6 λc=>vInt a A6 λ_=>vInt b A6 λ_=>vInt c A6 λ_=>M)
noncomputable def JI(v:V):AK:=FU v A6 λo l=>oS o A6 λ_=>lC l A6 λa l=>lC l A6 λb l=>l1 l A6 λc=>vInt a A6 λ_=>vInt b A6 λ_=>vInt c A6 λ_=>M
noncomputable def js(v:V)(H:St):A0:=bC (JI v) (.ok (.v (.int 3)) H) (vStr v (A0.lst H.h v λ_ Y=>A0.iff (CH Y) (.ok (.v (.int Y.length)) H)) λs=>A0.iff (CH s) (.ok (.v (.int s.length)) H))
noncomputable def jt(v:V)(H:St):A0:=A0.lst H.h v λ_ Y=>lC Y .bad λx Y=>A0.iff (O6 x&&Y.all O6&&CH Y) (Fk (Zm x Y) H)
noncomputable def ju(i:O)(H:St):A0:=A0.of (AL H.h i) λo=>EJ o (FV o (MG o .bad λN=>O5 (N.map (·.1)) H) λN=>O5 (N.map (·.1)) H) λY=>O5 Y H
noncomputable def Vo(v:V):AK:=BC v.ctorIdx 3||BC v.ctorIdx 9
noncomputable def jv(v:V)(t:D9)(H:St):A0:=A0.iff (t=="str"||t=="bytes") (DQ v (A0.iff (Vo v) (.ok (.v (.bool (t=="str"))) H)) λi=>A0.of (AL H.h i) λo=>A0.iff (FV o (MG o A6 λ_=>M) (λ_=>M)&&t=="str") (.ok (.v (.bool A6)) H))
noncomputable def a6(id:D9)(args:I V)(H:St):A0:=if id="len"then l1 args .bad λv=>js v H else if id="min"then lC args .bad λa l=>l1 l .bad λb=>vInt a .bad λa=>vInt b .bad λb=>.ok (.v (.int (if b<a then b else a))) H else if id="max"then l1 args .bad λv=>jt v H else if id="sorted"then l1 args .bad λv=>DQ v .bad λi=>ju i H else if id="isinstance"then lC args .bad λv l=>l1 l .bad λt=>IR t .bad λt=>Ku t .bad λt=>jv v t H else if id="issubclass"then lC args .bad λt l=>l1 l .bad λp=>IR t .bad λt=>Ku t .bad λt=>FU p .bad λo l=>oN o .bad (lC l .bad λa l=>l1 l .bad λb=>IR a .bad λa=>Ku a .bad λa=>IR b .bad λb=>Ku b .bad λb=>bT (decide (t="str")&&(decide (a="str")&&decide (b="bytes"))) .bad (.ok (.v (.bool M)) H))else .bad
noncomputable def a7(t:D9)(args:I V)(H:St):A0:=if t="type"then l1 args .bad λv=>vStr v .bad λ_=>.ok (.v (.top (.type "str"))) H else if t="range"then Yq args .bad (λn=>vInt n .bad λn=>.ok (.v (.H9 0 n)) H) λa b=>vInt a .bad λa=>vInt b .bad λb=>.ok (.v (.H9 a b)) H else if t="set"then l0 args .bad (FX (H.new .HT))else if t="str"then l1 args .bad λv=>vInt v .bad λi=>A0.iff (O1 i) (.ok (.v (.str (JF i))) H)else .bad
inductive SK where|sw|ew|split|rfind|rstrip|fmt|join
inductive LK where|append|pop|sort
inductive DK where|So|get
noncomputable def Vp:I (U×SK):=[(⟨⟨[115,116,97,114,116,115,119,105,116,104]⟩⟩,.sw),(⟨⟨[101,110,100,115,119,105,116,104]⟩⟩,.ew),(⟨⟨[115,112,108,105,116]⟩⟩,.split),(⟨⟨[114,102,105,110,100]⟩⟩,.rfind),(⟨⟨[114,115,116,114,105,112]⟩⟩,.rstrip),(⟨⟨[102,111,114,109,97,116]⟩⟩,.fmt),(⟨⟨[106,111,105,110]⟩⟩,.join)]
noncomputable def Sp(m:U):AD SK:=Ah Vp m
noncomputable def Vq:I (U×LK):=[(⟨⟨[97,112,112,101,110,100]⟩⟩,.append),(⟨⟨[112,111,112]⟩⟩,.pop),(⟨⟨[115,111,114,116]⟩⟩,.sort)]
noncomputable def Vr(m:U):AD LK:=Ah Vq m
noncomputable def Vs:I (U×DK):=[(⟨⟨[115,101,116,100,101,102,97,117,108,116]⟩⟩,.So),(⟨⟨[103,101,116]⟩⟩,.get)]
noncomputable def Vt(m:U):AD DK:=Ah Vs m
noncomputable def jw(s:Tx)(k:SK)(args:I V)(H:St):A0:=A0.iff (CH s)<|match k with
 |.sw=>l1 args .bad λp=>vStr p .bad λp=>.ok (.v (.bool (K1 p s))) H|.ew=>l1 args .bad λp=>vStr p .bad λp=>.ok (.v (.bool (Txt.endswith ⟨⟨s⟩⟩ ⟨⟨p⟩⟩))) H|.split=>l1 args .bad λp=>vStr p .bad λp=>l1 p .bad λc=>FX (H.new (.list ((Y3 ⟨⟨s⟩⟩ ⟨⟨[c]⟩⟩).map λx=>.str x.cps.toList)))|.rfind=>l1 args .bad λp=>vStr p .bad λp=>.ok (.v (.int (Txt.rfind ⟨⟨s⟩⟩ ⟨⟨p⟩⟩))) H|.rstrip=>l1 args .bad λp=>vStr p .bad λp=>.ok (.v (.str (Txt.rstripChars ⟨⟨s⟩⟩ ⟨⟨p⟩⟩).cps.toList)) H|.fmt=>Yq args .bad (λv=>vInt v .bad λi=>A0.iff (CU s [123,125]&&O1 i) (.ok (.v (.str (JF i))) H)) λv w=>vInt v .bad λi=>vInt w .bad λj=>A0.iff (CU s [123,125,44,123,125]&&(O1 i&&O1 j)) (.ok (.v (.str (JF i++44::JF j))) H)|.join=>l1 args .bad λv=>A0.lst H.h v λ_ Y=>A0.of (HU Y) λl=>A0.iff (PySem.JoinOk ⟨⟨s⟩⟩ (l.map λx=>⟨⟨x⟩⟩)) (.ok (.v (.str (Txt.join ⟨⟨s⟩⟩ (l.map λx=>⟨⟨x⟩⟩)).cps.toList)) H)
noncomputable def a8{J:Type}(lt:O->O->AD AK)(t:KasT J):AD J:=KasT.rec (motive:=λ_=>AD J) G (λi j _ ih=>(lt i j).bind ih) t
noncomputable def jx(Y:I V)(i j:O):AD AK:=bT (JI (Y.getD i .none)&&JI (Y.getD j .none)) L (Sd (Y.getD i .none) (Y.getD j .none))
noncomputable def a9(Y:I V):AD (I V):=bT (G0 Y.length 64) L (bC (G0 Y.length 2) (G Y) (B' (a8 (jx Y) (kas_sort Y.length)) λp=>bT (G0 p.size 64) L (G (p.toList.map λi=>Y.getD i .none))))
noncomputable def xO(i:O)(Y:I V)(m:LK)(args:I V)(H:St):A0:=match m with
 |.append=>l1 args .bad λv=>A0.iff (CH Y) (.ok (.v .none) (H.set i (.list (Y++[v]))))|.pop=>l0 args .bad (A0.iff (CH Y) (A0.of Y.getLast? λx=>.ok (.v x) (H.set i (.list Y.dropLast))))|.sort=>l0 args .bad (A0.iff (Y.all JI) (A0.of (a9 Y) λl=>.ok (.v .none) (H.set i (.list l))))
noncomputable def O7(i:O)(N:I (V×V))(m:DK)(args:I V)(H:St):A0:=l2 args .bad λk d=>match m with
 |.So=>A0.iff (De N k&&CH N) (match D' N k with
 |some v=>.ok (.v v) H|none=>.ok (.v d) (H.set i (.dict (En N k d))))|.get=>A0.iff (De N k) (.ok (.v ((D' N k).getD d)) H)
noncomputable def xP:V->AK|.str s=>IN.any (CU s)|_=>A6
noncomputable def xQ(Y:I V)(k:V)(H:St):A0:=vInt k (Vg k .bad λn=>A0.iff (BC n Y.length&&(EQ n 1000&&Y.all xP)) (.ok (.v .any) H)) λk=>A0.iff (JG k&&CH Y) (Fk (Q6 Y k) H)
noncomputable def jy(a:O)(k:V)(H:St):A0:=A0.of (AL H.h a) λo=>EJ o (FV o (MG o .bad λN=>A0.iff (De N k) (Fk (D' N k) H)) λN=>A0.iff (De N k) (Fk (D' N k) H)) λY=>xQ Y k H
noncomputable def aA(o i:V)(H:St):A0:=vStr o (FU o (DQ o .bad λa=>jy a i H) λc Y=>oN c .bad (vInt i .bad λk=>A0.iff (JG k&&CH Y) (Fk (Q6 Y k) H))) λs=>vInt i .bad λk=>A0.iff (JG k&&CH s) (Fk ((Q6 s k).map λc=>.str [c]) H)
noncomputable def Sq(v:V):AD (AD AX):=IS v (vInt v L λi=>bT (JG i) L (G (G i))) (G L)
noncomputable def aB(o lo hi:V)(H:St):A0:=A0.of (Sq lo) λa=>A0.of (Sq hi) λb=>vStr o (A0.lst H.h o λ_ Y=>A0.iff (CH Y) (FX (H.new (.list (Hu Y a b))))) λs=>A0.iff (CH s) (.ok (.v (.str (Hu s a b))) H)
noncomputable def jz:V->AK|.top _=>A6|_=>M
noncomputable def aC:I U:=[⟨⟨[105,115,106,117,110,107]⟩⟩,⟨⟨[97]⟩⟩,⟨⟨[98]⟩⟩,⟨⟨[97,117,116,111,106,117,110,107]⟩⟩,⟨⟨[109,97,116,99,104,105,110,103,95,98,108,111,99,107,115]⟩⟩,⟨⟨[111,112,99,111,100,101,115]⟩⟩,⟨⟨[102,117,108,108,98,99,111,117,110,116]⟩⟩,⟨⟨[98,50,106]⟩⟩,⟨⟨[98,106,117,110,107]⟩⟩,⟨⟨[98,112,111,112,117,108,97,114]⟩⟩]
noncomputable def Sr(a:U):AK:=aC.any (Cw a)
noncomputable def k3(o:V)(a:U)(H:St):A0:=DQ o .bad λi=>A0.of (AL H.h i) λob=>Q2 ob (Q1 ob (FV ob .bad λ_=>A0.iff (Cw a (Ev "get")) (.ok (.v (.B' 1 i)) H)) (A0.iff (Cw a (Ev "__contains__")) (.ok (.v (.B' 0 i)) H))) λc d=>A0.iff (BC c A3.Dl&&Sr a) (A0.of (AL H.h d) λo=>Q3 o .bad λN=>A0.of (Ah N a) λv=>A0.iff (jz v) (.ok (.v v) H))
noncomputable def Ss(i j:O)(H:St):A0:=A0.of (AL H.h i) λo=>A0.of (AL H.h j) λo'=>let rr:=A0.of (FW o) λx=>A0.of (FW o') λy=>A0.iff (EQ Dm (x.1+y.1)) (FX (H.new (.rows (x.1+y.1-Dm) (x.2++y.2))));EJ o rr λx=>EJ o' rr λy=>A0.iff (CH (x++y)) (FX (H.new (.list (x++y))))
noncomputable def Vu(op:Jj)(a b:V)(H:St):A0:=if op=.Add then DQ a (Fk (jj a b) H) λi=>DQ b .bad λj=>Ss i j H else if op=.Sub then Fk (Zp a b) H else if op=.FloorDiv then Fk (jk a b) H else if op=.Mod then Fk (jl a b) H else if op=.Mult then Fk (jm a b) H else .bad
noncomputable def xR(m:U):AK:=(Sp m).isSome
noncomputable def k5(m:U):AK:=(Vr m).isSome
noncomputable def xS(m:U):AK:=(Vt m).isSome
noncomputable def xT(o:Ob)(m:U)(h:I (O×Ob)):AD MK:=EJ o (Q4 o (FV o (Q2 o L λc d=>bT (BC c A3.Dl) L (B' (AL h d) λo=>Q3 o L λN=>oN (Ah N m) L (B' (Ah A3.HV m) λa=>G (.fn a)))) λ_=>bT (xS m) L (G .F1)) λ_ _=>bT (k5 m) L (G .lst)) λ_=>bT (k5 m) L (G .lst)
noncomputable def QE(v:V)(m:U)(h:I (O×Ob)):AD MK:=vStr v (IR v (DQ v L λi=>B' (AL h i) λo=>xT A3 o m h) λw=>Ku w L λt=>bT (decide (t="tuple")&&Cw m (Ev "__new__")) L (G .tup)) λ_=>bT (xR m) L (G .str)
noncomputable def ML:I (AD AA)->I AA->AD (I (V×V))
 |[],vs=>l0 vs L (G [])|k::ks,vs=>oS k L λx=>HR x L λc _ _=>lC vs L λy vs=>HR y L λc' _ _=>B' (O3 c) λk=>B' (O3 c') λv=>B' (ML ks vs) λl=>G ((k,v)::l)
noncomputable def Su(N:I (V×V)):AK:=N.all λp=>match p.1 with|.str _=>M|_=>A6
noncomputable def Ky:I (V×V)->I (V×V)->AD (I (V×V))
 |[],Am=>G Am|p::l,Am=>bC (De Am p.1&&CH Am) (Ky l (En Am p.1 p.2)) L
noncomputable def Sv(l:AA)(op:Jj)(r:AA):AD (Tx×U×Tx×Tx):=HR l L λc _ _=>Po c L λc=>ED r L λf a k pos=>H7 f L λo m Fo=>DO o L λid _=>lC a L λy a=>l1 a L λz=>HR y L λy _ _=>Po y L λy=>HR z L λz _ _=>Po z L λz=>l0 k L (bT (decide (op=.Add)&&(Cw m (⟨⟨[114,101,112,108,97,99,101]⟩⟩:U)&&BC Fo.endLine pos.line)) L (G (c.cps.toList,id,y.cps.toList,z.cps.toList)))
noncomputable def Vv(N Am:I (V×V)):AD (I (V×V)):=match Su N&&Su Am with|true=>Ky N Am|false=>L
noncomputable def JJ(K:Kx)(Ao:Kx->Cd->St->A0)(F:Fn)(args:I V)(H:St):A0:=A0.of (JH F args) λb=>match K.d with
 |0=>.bad|d+1=>(Ao ⟨F.sc,d⟩ (.ss F.body) ⟨b,H.h,H.n⟩).F λf A7=>match f with
 |.ret v=>.ok (.v v) ⟨H.env,A7.h,A7.n⟩|.next=>.ok (.v .none) ⟨H.env,A7.h,A7.n⟩|_=>.bad
noncomputable def Vw(K:Kx)(Ao:Kx->Cd->St->A0)(i:O):O->O->I V->St->A0
 |0,_,_,_=>.bad|m+1,k,Am,H=>A0.of (IU (.lst i) k H.h) λr=>match r with
 |none=>.ok (.vs Am) H|some x=>(A0.of (A3.fn A3.jq) λfn=>JJ K Ao fn [.top (.ref A3.Bp),x] H).V λv H=>Vw K Ao i m (k+1) (Am++[v]) H
noncomputable def xU(ks:I (AD AA))(vs:I AA):AD (AA×AA×AA):=l2 ks L λa b=>oN a L (oS b L λk=>l2 vs L λv0 v=>G (v0,k,v))
noncomputable def xV(Ao:Kx->Cd->St->A0)(K:Kx)(v0 k v:AA)(H:St):A0:=let ih:=Ao K;(ih (.e v0) (H.new (.dict [])).2).V λw AB=>A0.F1 AB.h w λwi N=>A0.iff (!BC wi H.n)<|A0.F1 AB.h (.ref H.n) λ_ Am=>A0.of (Vv N Am) λAm=>(ih (.e k) ((AB.set H.n (.dict Am)).new (.dict [])).2).V λkv Bc=>(ih (.e v) Bc).V λvv Bc=>A0.F1 Bc.h (.ref AB.n) λ_ sub=>A0.iff (De sub kv&&CH sub)<|A0.F1 Bc.h (.ref H.n) λ_ Am=>A0.of (Vv (En sub kv vv) Am) λAm=>.ok (.v (.ref H.n)) ((Bc.set AB.n (.dict (En sub kv vv))).set H.n (.dict Am))
noncomputable def HW:(Ctx->Kx->(Kx->Cd->St->A0)->St->A0)×DM:=⟨λ_ _ _ _=>.bad,()⟩
noncomputable def xW(K:Kx)(H:St)(p:Tx×U×Tx×Tx):A0:=A0.iff (D0 K.sc p.2.1&&CH p.1) (A0.of (Ah H.env p.2.1) λv=>vStr v .bad λs=>A0.iff (CH s&&!CU p.2.2.1 p.2.2.2&&EQ p.2.2.2.length 100&&CH (p.1++(bq9 ⟨⟨s⟩⟩ ⟨⟨p.2.2.1⟩⟩ ⟨⟨p.2.2.2⟩⟩).cps.toList)) (.ok (.v (.str (p.1++(bq9 ⟨⟨s⟩⟩ ⟨⟨p.2.2.1⟩⟩ ⟨⟨p.2.2.2⟩⟩).cps.toList))) H))
noncomputable abbrev IH:=Kx->Cd->St->A0
noncomputable abbrev ST:=Ctx->Kx->IH->St->A0
noncomputable def xX(A3:Ctx)(K:Kx)(Ao:IH)(x:AA)(H:St):A0:=A0.iff (Di K.sc Zu&&Di K.sc Zv&&Di K.sc Sl&&CP x)<|(Ao K (.e x) H).V λv H=>A0.lst H.h v λi Y=>A0.iff (CH Y)<|match K.d with
 |d+1=>(Vw A3 ⟨K.sc,d⟩ Ao i 60 0 [] H).A1 λl H=>FX (H.new (.list l))|0=>.bad
noncomputable def xY(K:Kx)(ih:Cd->St->A0)(x:AA)(H:St):A0:=A0.iff (Di K.sc QB&&Di K.sc Zt&&CP x)<|(ih (.e x) H).V λv H=>A0.lst H.h v λ_ Y=>A0.of (HU Y) λl=>A0.iff (G0 l.length 60) (FX (H.new (.list ((Ea (Ht l)).map .str))))
noncomputable def k6(x:AA):ST×DM:=bQ1 (motive_1:=λ_=>ST×DM) x (λop Y _=>⟨λ_ K Ao H=>bT (decide (op=.Or)) .bad (l2 Y .bad λa b=>(Ao K (.e a) H).V λv H=>A0.of (truthy v H.h) λt=>bC t (.ok (.v v) H) (Ao K (.e b) H)),()⟩) (λ_ _ _=>HW) (λl op r _=>⟨λ_ K Ao H=>oS (Sv l op r) ((Ao K (.e l) H).V λa H=>(Ao K (.e r) H).V λb H=>Vu op a b H) λp=>xW K H p,()⟩) (λop x _=>⟨λ_ K Ao H=>match op with
 |.USub=>(Ao K (.e x) H).V λv H=>vInt v .bad λi=>.ok (.v (.int (-i))) H|.Not=>(Ao K (.e x) H).V λv H=>A0.of (truthy v H.h) λb=>.ok (.v (.bool !b)) H|_=>.bad,()⟩) (λ_ _ _ _=>HW) (λt a b _=>⟨λ_ K Ao H=>(Ao K (.t t) H).B λc H=>bC c (Ao K (.e a) H) (Ao K (.e b) H),()⟩) (λks vs _=>⟨λ_ K Ao H=>bC (ks.isEmpty&&vs.isEmpty) (FX (H.new (.dict [])))<|oS (xU ks vs) (A0.of (ML ks vs) λps=>A0.iff (EQ ps.length 15) (A0.of (Ky ps []) λN=>FX (H.new (.dict N)))) λp=>xV Ao K p.1 p.2.1 p.2.2 H,()⟩) (λ_ _ _=>HW) (λC_ gs IV _=>⟨λ_ K Ao H=>lC gs .bad λg gens=>A0.iff (MJ g) ((Ao K (.e g.iter) H).V λit H=>A0.iff (Kw K.sc IV H.env) (A0.of (Q8 it H.h) λit=>(Ao ⟨IV,K.d⟩ (.GS C_ g gens it 0 []) H).A1 λl A7=>FX (St.new ⟨H.env,A7.h,A7.n⟩ (.list l)))),()⟩) (λ_ _ _ _=>HW) (λk v gs IV _=>⟨λ_ K Ao H=>l1 gs .bad λg=>A0.iff (MJ g) ((Ao K (.e g.iter) H).V λit H=>A0.iff (Kw K.sc IV H.env) (A0.of (Q8 it H.h) λit=>(Ao ⟨IV,K.d⟩ (.Si k v g it 0 H.n) (H.new (.dict [])).2).F λ_ A7=>.ok (.v (.ref H.n)) ⟨H.env,A7.h,A7.n⟩)),()⟩) (λ_ _ _ _=>HW) (λ_ _=>HW) (λ_ _=>HW) (λ_ _=>HW) (λl CN rs _=>⟨λ_ K Ao H=>l1 CN .bad λop=>l1 rs .bad λr=>A0.iff (!t5 op r)<|(Ao K (.e l) H).V λa H=>(Ao K (.e r) H).V λb H=>A0.of (Vk op a b H.h) λb=>.ok (.v (.bool b)) H,()⟩) (λf args kw pos=>⟨λA3 K Ao H=>l0 kw .bad<|A0.iff (args.all CP)<|H7 f (oS (Zw f args) (oS (Zx f args) ((Ao K (.e f) H).V λfv H=>(Ao K (.N args) H).A1 λvs H=>Ao K (.call fv vs) H) λx=>xX A3 K Ao x H) λx=>xY K (Ao K) x H) λo m Fo=>A0.iff (Vn o&&BC Fo.endLine pos.line&&G0 args.length 30) ((Ao K (.e o) H).V λv H=>A0.of (QE A3 v m H.h) λkd=>(Ao K (.N args) H).A1 λvs H=>Ao K (.HV kd v m vs) H),()⟩) (λ_ _ _ _=>HW) (λ_ _=>HW) (λk _ _=>⟨λ_ _ _ H=>Fk (O3 k) H,()⟩) (λo a _=>⟨λA3 K Ao H=>A0.iff (Vn o) ((Ao K (.e o) H).V λv H=>k3 A3 v a H),()⟩) (λo i _=>⟨λ_ K Ao H=>(Ao K (.e o) H).V λv H=>Nl i ((Ao K (.e i) H).V λk H=>aA v k H) λlo hi st _=>oN st .bad<|(oS lo (A0.ok (.v .none) H) λx=>Ao K (.e x) H).V λa H=>(oS hi (A0.ok (.v .none) H) λx=>Ao K (.e x) H).V λb H=>aB v a b H,()⟩) (λ_ _=>HW) (λid _=>⟨λA3 K _ H=>bC (D0 K.sc id) (Fk (Ah H.env id) H) (bC (Di K.sc id) (Fk (Ah A3.glob id) H) .bad),()⟩) (λY _=>⟨λ_ K Ao H=>(Ao K (.N Y) H).A1 λvs H=>A0.iff (CH vs) (FX (H.new (.list vs))),()⟩) (λY _ _=>⟨λ_ K Ao H=>(Ao K (.N Y) H).A1 λvs H=>A0.iff (CH vs) (.ok (.v (.tup L vs)) H),()⟩) (λ_ _ _ _=>HW)
noncomputable def Fp(K:Kx)(Ao:IH)(x:AA)(H:St):A0:=(k6 x).1 A3 K Ao H
noncomputable def stepT(K:Kx)(Ao:Kx->Cd->St->A0)(a:A8)(args:I V)(H:St):A0:=bC (BC a A3.Dl) (nS K.d .bad λd=>(A0.of (A3.fn A3.Q9) λfn=>JJ ⟨K.sc,d⟩ Ao fn (.ref (H.n+1)::args) ⟨H.env,(H.n+1,.inst a H.n)::(H.n,.EY [])::H.h,H.n+2⟩).V λr A7=>IS r .bad (.ok (.v (.ref (H.n+1))) A7))<|bC (BC a A3.Gr&&A3.Vl) (l2 args .bad λx y=>A0.lst H.h x λi Y=>A0.lst H.h y λj ys=>A0.iff (!BC i j&&CH Y&&CH ys&&G0 0 K.d)<|A0.of (HU Y) λY=>A0.of (HU ys) λys=>.ok (.v (.tup L [.ref H.n,.ref (H.n+1)])) ((H.new (.list ((D4 (Y.length+ys.length) Y ys).1.map V.str))).2.new (.list ((D4 (Y.length+ys.length) Y ys).2.map V.str))).2)<|bC (BC a A3.Bp) (nS K.d .bad λd=>(A0.of (A3.fn A3.Sj) λF=>JJ ⟨K.sc,d⟩ Ao F (.top (.ref A3.Bp)::args) H).V λr A7=>FU r .bad λo Y=>oS o .bad λc=>lC args .bad λ_ l=>l2 l .bad λ_ _=>A0.iff (BC c A3.Bp) (.ok (.v (.tup (G c) Y)) A7))<|A0.of (A3.fn a) λF=>JJ K Ao F args H
noncomputable def k8(K:Kx)(Ao:Kx->Cd->St->A0)(f:V)(args:I V)(H:St):A0:=IR f (Vh f .bad λk i=>if k=0 then l1 args .bad λv=>vStr v .bad λ_=>A0.of (AL H.h i) λo=>Q1 o .bad (.ok (.v (.bool A6)) H)else if k=1 then A0.F1 H.h (.ref i) λi N=>O7 i N .get args H else .bad) λw=>Zj w (Ku w (Kv w .bad λa=>stepT A3 K Ao a args H) λt=>a7 t args H) λid=>a6 id args H
noncomputable def k9(K:Kx)(Ao:Kx->Cd->St->A0)(kd:MK)(o:V)(m:U)(args:I V)(H:St):A0:=match kd with
 |.str=>vStr o .bad λs=>A0.of (Sp m) λk=>jw s k args H|.lst=>DQ o .bad λi=>A0.of (AL H.h i) λob=>A0.of (Vr m) λk=>EJ ob (Q4 ob .bad λr Y=>match k with
 |.append=>l1 args .bad λv=>nS r .bad λr=>A0.of (Vm v) λl=>.ok (.v .none) (H.set i (.rows r (Y++[l])))|.pop=>.bad|.sort=>.bad) λY=>xO i Y k args H|.F1=>DQ o .bad λi=>A0.of (Vt m) λk=>A0.F1 H.h (.ref i) λi N=>O7 i N k args H|.fn a=>Ao K (.call (.top (.ref a)) (o::args)) H|.tup=>l2 args .bad λa b=>IR a .bad λw=>Kv w .bad λc=>FU b .bad λo Y=>oN o .bad (A0.iff (BC c A3.Bp&&CH Y) (.ok (.v (.tup (G c) Y)) H))
noncomputable def xZ(K:Kx)(Ao:Kx->Cd->St->A0)(t:AA)(v:V)(H:St):A0:=Jt t (H7 t (J9 t .bad λo i _=>(Ao K (.e o) H).V λw H=>(Ao K (.e i) H).V λk H=>DQ w .bad λa=>A0.of (AL H.h a) λob=>EJ ob (FV ob .bad λN=>A0.iff (De N k&&CH N) (.ok (.f .next) (H.set a (.dict (En N k v))))) λY=>vInt k .bad λk=>A0.iff (JG k&&decide (0<=k)&&decide (k<Y.length)) (.ok (.f .next) (H.set a (.list (Y.set k.toNat v))))) λo a _=>(Ao K (.e o) H).V λw H=>DQ w .bad λi=>A0.of (AL H.h i) λob=>Q2 ob .bad λc d=>A0.iff (BC c A3.Dl&&Sr a) (A0.of (AL H.h d) λo=>Q3 o .bad λN=>A0.iff (CH N) (.ok (.f .next) (H.set d (.EY (E_ N a v)))))) λts _ _=>FU v .bad λ_ vs=>A0.iff (BC vs.length ts.length&&ts.all CP) (Ao K (.MH ts vs) H)
noncomputable def Kz(K:Kx)(Ao:Kx->Cd->St->A0)(t:AA)(v:V)(H:St):A0:=DO t (xZ A3 K Ao t v H) λid _=>A0.iff (G8 K.sc id) (.ok (.f .next) ⟨E_ H.env id v,H.h,H.n⟩)
noncomputable def JK(e:AA):AK:=BC e.ctorIdx 8||(BC e.ctorIdx 9||BC e.ctorIdx 10)
noncomputable def MM(ts:I AA)(e:AA):AK:=l1 ts A6 λt=>Jt e A6 λ_ _ _=>BC t.ctorIdx 25||BC t.ctorIdx 24
noncomputable def x_(ts:I AA)(e:AA):AK:=l1 ts A6 λt=>DO t A6 λ_ _=>IK e A6 λ_ _ _ _=>M
noncomputable def MN:O->AA->AK
 |_,.Call ..=>M|_,.Attribute ..=>M|_,.Name id _=>!Cw id ⟨⟨[95,95,100,101,98,117,103,95,95]⟩⟩|n+1,.BinOp l _ r _=>MN n l||MN n r|n+1,.UnaryOp _ e _=>MN n e|n+1,.Subscript v _ _=>MN n v|_,_=>A6
noncomputable def Sw:I AA->AD (I U)
 |[]=>G []|t::l=>DO t L λid _=>B' (Sw l) λl=>G (id::l)
noncomputable def QF:I U->AK
 |[]=>M|x::l=>!l.any (Cw x)&&QF l
noncomputable def putAll:I (U×V)->I U->I V->I (U×V)
 |env,x::Y,v::vs=>putAll (E_ env x v) Y vs|env,_,_=>env
noncomputable def Vx(ts:I AA)(e:AA):AD (I U):=l1 ts L λt=>Jt t L λts _ _=>Jt e L λvs _ _=>bT (vs.any (MN 4)) L (Sw ts)
noncomputable def A0.nx(o:A0):A0:=o.F λ_ H=>.ok (.f .next) H
noncomputable abbrev SS:=Kx->IH->St->A0
noncomputable def GU:SS×DM:=⟨λ_ _ _=>.bad,()⟩
noncomputable def kC(x:As):SS×DM:=Stmt.casesOn (motive_2:=λ_=>SS×DM) x (λ_ _ _ _ _ _ _ _ _ _=>GU) (λ_ _ _ _ _ _ _ _ _ _=>GU) (λ_ _ _ _ _ _ _ _ _ _ _=>GU) (λe _=>⟨λK Ao H=>oS e (.ok (.f (.ret .none)) H) λe=>(Ao K (.e e) H).V λv H=>.ok (.f (.ret v)) H,()⟩) (λ_ _=>GU) (λts e _=>⟨λK Ao H=>bC (MM ts e) (A0.of (Vx ts e) λBf=>(Ao K (.e e) H).V λv H=>FU v .bad λo vs=>oN o .bad (A0.iff (BC Bf.length vs.length&&Bf.all (G8 K.sc)&&QF Bf) (.ok (.f .next) ⟨putAll H.env Bf vs,H.h,H.n⟩))) (A0.iff (!JK e||x_ ts e) ((Ao K (.e e) H).V λv H=>(Ao K (.GR ts v) H).nx)),()⟩) (λ_ _ _ _ _ _ _=>GU) (λt op e _=>⟨λK Ao H=>DO t .bad λid p=>A0.iff (D0 K.sc id)<|A0.of (Ah H.env id) λa=>(Ao K (.e e) H).V λb H=>A0.of (Zq op a b) λv=>(Ao K (.asg (.Name id p) v) H).nx,()⟩) (λ_ _ _ _ _=>GU) (λt it b e _=>⟨λK Ao H=>l0 e .bad<|oS (Sk it) (A0.iff (CP it) ((Ao K (.e it) H).V λv H=>A0.of (Q8 v H.h) λit=>Ao K (.loop t it 0 b) H)) λx=>Jt t .bad λts k p=>A0.iff (Di K.sc ⟨⟨[101,110,117,109,101,114,97,116,101]⟩⟩&&CP x) ((Ao K (.e x) H).V λv H=>vStr v .bad λs=>A0.iff (s.all λc=>G0 c 128) (Ao K (.loop (.Tuple ts k p) (.K2 s) 0 b) H)),()⟩) (λ_ _ _ _ _=>GU) (λt b e _=>⟨λK Ao H=>l0 e .bad (Ao K (.MI t b) H),()⟩) (λt a b _=>⟨λK Ao H=>(Ao K (.t t) H).B λc H=>bC c (Ao K (.ss a) H) (Ao K (.ss b) H),()⟩) (λ_ _ _=>GU) (λ_ _ _=>GU) (λ_ _ _=>GU) (λ_ _ _=>GU) (λbody hs e f _=>⟨λK Ao H=>lC hs .bad λ_ _=>l0 e .bad (l0 f .bad (Ao K (.ss body) H)),()⟩) (λ_ _ _ _ _=>GU) (λ_ _ _=>GU) (λ_ _=>GU) (λ_ _ _ _=>GU) (λ_ _=>GU) (λ_ _=>GU) (λe _=>⟨λK Ao H=>A0.iff (!JK e)<|(Ao K (.e e) H).V λ_ H=>.ok (.f .next) H,()⟩) (λ_=>⟨λ_ _ H=>.ok (.f .next) H,()⟩) (λ_=>⟨λ_ _ H=>.ok (.f .brk) H,()⟩) (λ_=>⟨λ_ _ H=>.ok (.f .cont) H,()⟩)
noncomputable def IW(K:Kx)(Ao:IH)(x:As)(H:St):A0:=(kC x).1 K Ao H
noncomputable def tV(x:AA):ST×DM:=match x with
 |.UnaryOp .Not x _=>⟨λ_ K Ao H=>(Ao K (.t x) H).B λb H=>.ok (.b !b) H,()⟩|.BoolOp op Y _=>⟨λ_ K Ao H=>Ao K (.ts (match op with|.And=>M|.Or=>A6) Y) H,()⟩|.IfExp ..=>HW|.Compare l [op] [r] _=>⟨λ_ K Ao H=>A0.iff (!t5 op r)<|(Ao K (.e l) H).V λa H=>(Ao K (.e r) H).V λb H=>a5 (Vk op a b H.h) H,()⟩|.Compare ..=>HW|x=>⟨λ_ K Ao H=>(Ao K (.e x) H).V λv H=>a5 (truthy v H.h) H,()⟩
noncomputable def kD(c:Cd):ST:=Cd.rec (motive:=λ_=>ST) (λx A3 K Ao H=>(k6 x).1 A3 K Ao H) (λl _ K Ao H=>lC l (.ok (.vs []) H) λx l=>A0.iff (CP x) ((Ao K (.e x) H).V λv H=>(Ao K (.N l) H).A1 λvs H=>.ok (.vs (v::vs)) H)) (λx A3 K Ao H=>(tV x).1 A3 K Ao H) (λand l _ K Ao H=>lC l (.ok (.b and) H) λx l=>(Ao K (.t x) H).B λb H=>if b==and then Ao K (.ts and l) H else .ok (.b b) H) (λx _ K Ao H=>(kC x).1 K Ao H) (λl _ K Ao H=>lC l (.ok (.f .next) H) λx l=>(Ao K (.s x) H).F λf H=>match f with
 |.next=>Ao K (.ss l) H|f=>.ok (.f f) H) (λt v A3 K Ao H=>Kz A3 K Ao t v H) (λts vs _ K Ao H=>match ts,vs with
 |[],[]=>.ok (.f .next) H|t::ts,v::vs=>A0.iff (CP t) ((Ao K (.asg t v) H).F λ_ H=>Ao K (.MH ts vs) H)|_,_=>.bad) (λts v _ K Ao H=>lC ts (.ok (.f .next) H) λt ts=>A0.iff (CP t) ((Ao K (.asg t v) H).F λ_ H=>Ao K (.GR ts v) H)) (λt it i body _ K Ao H=>A0.of (IU it i H.h) λr=>oS r (.ok (.f .next) H) λx=>(Ao K (.asg t x) H).F λ_ H=>(Ao K (.ss body) H).F λf H=>match f with
 |.brk=>.ok (.f .next) H|.ret v=>.ok (.f (.ret v)) H|_=>Ao K (.loop t it (i+1) body) H) (λZs body _ K Ao H=>(Ao K (.t Zs) H).B λb H=>bC b ((Ao K (.ss body) H).F λf H=>match f with
 |.brk=>.ok (.f .next) H|.ret v=>.ok (.f (.ret v)) H|_=>Ao K (.MI Zs body) H) (.ok (.f .next) H)) (λf args A3 K Ao H=>k8 A3 K Ao f args H) (λkd o m args A3 K Ao H=>k9 A3 K Ao kd o m args H) (λC_ g gens it i Am _ K Ao H=>A0.of (IU it i H.h) λr=>oS r (.ok (.vs Am) H) λx=>A0.iff (CH Am&&xN gens) ((Ao K (.asg g.target x) H).F λ_ H=>(Zz (Ao K) g.ifs H).B λb H=>bC b (match gens with
 |[]=>(Ao K (.e C_) H).V λv H=>Ao K (.GS C_ g gens it (i+1) (Am++[v])) H|g'::kE=>(Ao K (.e g'.iter) H).V λw H=>A0.of (Q8 w H.h) λVy=>(Ao K (.GS C_ g' kE Vy 0 Am) H).A1 λAm H=>Ao K (.GS C_ g gens it (i+1) Am) H) (Ao K (.GS C_ g gens it (i+1) Am) H))) (λk v g it i d _ K Ao H=>A0.of (IU it i H.h) λr=>oS r (.ok (.f .next) H) λx=>(Ao K (.asg g.target x) H).F λ_ H=>(Zz (Ao K) g.ifs H).B λb H=>bC b ((Ao K (.e k) H).V λkv H=>(Ao K (.e v) H).V λvv H=>A0.F1 H.h (.ref d) λ_ Am=>A0.iff (De Am kv&&CH Am) (Ao K (.Si k v g it (i+1) d) (H.set d (.dict (En Am kv vv))))) (Ao K (.Si k v g it (i+1) d) H)) (λks vs Am _ K Ao H=>match ks,vs with
 |[],[]=>FX (H.new (.dict Am))|none::ks,v::vs=>(Ao K (.e v) H).V λw H=>A0.F1 H.h w λ_ N=>Ao K (.pairs ks vs (N.foldl (λa p=>En a p.1 p.2) Am)) H|some k::ks,v::vs=>(Ao K (.e k) H).V λkv H=>(Ao K (.e v) H).V λvv H=>A0.iff (De Am kv) (Ao K (.pairs ks vs (En Am kv vv)) H)|_,_=>.bad) c
noncomputable def step(K:Kx)(Ao:IH)(c:Cd)(H:St):A0:=kD c A3 K Ao H
noncomputable def ev(n:O):IH:=RS (motive:=λ_=>IH) (λ_ _ _=>.bad) (λ_ ih K c H=>oS (A3.CR K c H) (kD c A3 K ih H) λo=>o) n
end
theorem Ac{r:Mine.AS}{H:Mine.St}(h:A0.bad=.ok r H):Bj:=A0.noConfusion h
theorem BE{J:Type}{x:J}(h:L=G x):Bj:=by contradiction
theorem E5(h:A6=M):Bj:=Ul h
end
local macro_rules |`(tactic|show$t)=>`(tactic|refine(?_:$t))
local macro_rules |`(tactic|omega)=>`(tactic|first|with_reducible(first|exact Nat.zero_le _|exact Nat.le_refl _|exact Nat.le_add_left _ _)|omega(config:={}))
noncomputable def kF:AD A8->A4
 |none=>.type "tuple"|some c=>.ref c
noncomputable def xa:O->D9
 |0=>"set.__contains__"|_=>"dict.get"
noncomputable def Vz:A4->AK
 |.type t=>t=="tuple"||t=="builtin_function_or_method"||t=="range"|.ref c=>c==135|_=>A6
noncomputable def W0:AD A8->AK
 |none=>M|some c=>c==135
noncomputable def C2(o:Bi):AK:=Vz o.cls&&match o.data with|.seq ..=>M|.fields ..=>M|_=>A6
noncomputable def xc(c:AD A8)(o:Bi):Prop:=W0 c=M/\(c=L->o.dict=L/\o.slots=#[])
theorem xd{c:AD A8}(h:W0 c=M):Vz (kF c)=M:=by cases c with
 |none=>rfl|some c=>exact h
mutual
noncomputable def VR(h:BK)(C:I A8):V->A4->Prop
 |.none,u=>u=.none|.bool b,u=>u=.bool b|.int i,u=>∃t,u=.int i t|.str s,u=>∃t,u=.str ⟨⟨s⟩⟩ t|.sym _ s _,u=>∃t,u=.str ⟨⟨s⟩⟩ t|.IP m r,u=>∃AG t,u=.int AG t/\AG%(m:AX)=r|.Nz m,u=>∃AG t,u=.int AG t/\0<=AG/\AG<(m:AX)|.any,u=>∃s t,u=.str ⟨⟨s⟩⟩ t/\s∈IN|.top v,u=>u=v|.ref i,u=>∃a,C[i]?=G a/\u=.ref a|.H9 lo hi,u=>∃a t t' HA,u=.ref a/\h.get? a=G {cls:=.type "range",data:=.fields #[.int lo t,.int hi t',.int 1 HA]}|.B' k i,u=>∃a d,u=.ref a/\C[i]?=G d/\h.get? a=G {cls:=.type "builtin_function_or_method",data:=.fields #[.builtin (xa k),.ref d]}|.tup c Y,u=>∃a o us n,u=.ref a/\h.get? a=G o/\xc c o/\o.cls=kF c/\o.data=.seq us n/\Aa h C Y us.toList
noncomputable def Aa(h:BK)(C:I A8):I V->I A4->Prop
 |[],l=>l=[]|x::Y,l=>∃u us,l=u::us/\VR h C x u/\Aa h C Y us
end
noncomputable def Dw(h Q:BK):Prop:=∀b o,h.get? b=G o->C2 o=M->Q.get? b=G o
theorem Dw.refl(h:BK):Dw h h:=λ_ _ e _=>e
theorem Dw.trans{AP BD C3:BK}(x:Dw AP BD)(y:Dw BD C3):Dw AP C3:=λb o e c=>y b o (x b o e c) c
theorem FY{C J:I A8}{i:O}{a:A8}(h:C[i]?=G a):(C++J)[i]?=G a:=by
 refine xE (HL.mp h) ?_;intro hl _;rw[Y4 hl];exact h
theorem Aa.cons{h:BK}{C:I A8}{v:V}{u:A4}{vs:I V}{us:I A4}(a:VR h C v u)(b:Aa h C vs us):Aa h C (v::vs) (u::us):=⟨u,us,rfl,a,b⟩
theorem Aa.Sx{h:BK}{C:I A8}{v:V}{vs:I V}{us:I A4}(r:Aa h C (v::vs) us){P:I A4->Prop}(k:∀u us,VR h C v u->Aa h C vs us->P (u::us)):P us:=Bv r λu us e a b=>e▸k u us a b
theorem Aa.ind{h:BK}{C:I A8}{P:I V->I A4->Prop}(n:P [] [])(c:∀v u vs us,VR h C v u->Aa h C vs us->P vs us->P (v::vs) (u::us)){vs:I V}:∀{us:I A4},Aa h C vs us->P vs us:=by induction vs with
 |nil=>intro us e;cases e;exact n|cons v vs ih=>intro us r;exact r.Sx λu us a b=>c v u vs us a b (ih b)
theorem Aa.imp{h Q:BK}{C J:I A8}{vs:I V}{us:I A4}(r:Aa h C vs us):(∀v∈vs,∀u,VR h C v u->VR Q J v u)->Aa Q J vs us:=Aa.ind (P:=λvs us=>(∀v∈vs,∀u,VR h C v u->VR Q J v u)->Aa Q J vs us) (λ_=>rfl) (λv u vs us a _ ih k=>.cons (k v Co u a) (ih λw m=>k w (Cp _ m))) r
theorem V.ind{P:V->Prop}(a:∀v,(∀h C Q J u,VR h C v u->VR Q J v u)->P v)(r:∀lo hi,P (.H9 lo hi))(b:∀i,P (.ref i))(c:∀k i,P (.B' k i))(d:∀c Y,(∀v∈Y,P v)->P (.tup c Y))(v:V):P v:=V.rec (motive_1:=P) (motive_2:=λY=>∀v∈Y,P v) (a _ λ_ _ _ _ _ e=>e) (λ_=>a _ λ_ _ _ _ _ e=>e) (λ_=>a _ λ_ _ _ _ _ e=>e) (λ_=>a _ λ_ _ _ _ _ e=>e) (λc Y ih=>d c Y ih) (λ_=>a _ λ_ _ _ _ _ e=>e) b r c (λ_ _ _=>a _ λ_ _ _ _ _ e=>e) (λ_ _=>a _ λ_ _ _ _ _ e=>e) (λ_=>a _ λ_ _ _ _ _ e=>e) (a _ λ_ _ _ _ _ e=>e) (λ_ m=>nomatch m) (λ_ _ x y _ m=>(Cj.mp m).elim (λe=>e▸x) (y _)) v
theorem VR.mono{h Q:BK}{C J:I A8}(hi:Dw h Q){v:V}{u:A4}:VR h C v u->VR Q (C++J) v u:=V.ind (P:=λv=>∀u,VR h C v u->VR Q (C++J) v u) (λ_ k u e=>k _ _ _ _ u e) (λ_ _ _ e=>Jw e λa t t' HA q z=>⟨a,t,t',HA,q,hi _ _ z rfl⟩) (λ_ _ e=>AC e λa e q=>⟨a,FY e,q⟩) (λ_ _ _ e=>Bv e λa d q e z=>⟨a,d,q,FY e,hi _ _ z rfl⟩) (λ_ _ ih _ e=>Kt e λa o us n q e t c d x=>⟨a,o,us,n,q,hi _ _ e (by unfold C2;rw[c,d,xd t.1];rfl),t,c,d,x.imp ih⟩) v u
theorem Aa.mono{h Q:BK}{C J:I A8}(hi:Dw h Q){v:I V}{u:I A4}(r:Aa h C v u):Aa Q (C++J) v u:=r.imp λ_ _ _=>VR.mono hi
theorem Eb{J:Type}{b:AK}{x y r:J}(h:bC b x y=r){P:Prop}(l:b=M->x=r->P)(m:b=A6->y=r->P):P:=by cases b with
 |true=>exact l rfl h|false=>exact m rfl h
theorem Sy{C:Type}{p:U×C}{l:I (U×C)}{x:U}:Ah (p::l) x=bC (Cw p.1 x) (G p.2) (Ah l x):=rfl
theorem IX{C:Type}{p:O×C}{l:I (O×C)}{x:O}:AL (p::l) x=bC (BC p.1 x) (G p.2) (AL l x):=rfl
theorem xe{C:Type}{p:U×C}{l:I (U×C)}{x:U}{v:C}:E_ (p::l) x v=bC (Cw p.1 x) ((p.1,v)::l) (p::E_ l x v):=rfl
theorem QG{C:Type}{p:O×C}{l:I (O×C)}{x:O}{v:C}:putN (p::l) x v=bC (BC p.1 x) ((p.1,v)::l) (p::putN l x v):=rfl
theorem JL{C:Type}{i:O}{o:C}{l:I (O×C)}:AL ((i,o)::l) i=G o:=by rw[IX,J1];rfl
theorem W1{i j:O}(h:i≠j):BC i j=A6:=t6.mpr λq=>h (CD q)
theorem IY{C:Type}{i j:O}(h:i≠j){o:C}{l:I (O×C)}:AL ((i,o)::l) j=AL l j:=by rw[IX,W1 h];rfl
theorem aD{C:Type}{i j:O}{o w:C}{l:I (O×C)}(h:AL ((i,o)::l) j=G w){P:O->C->Prop}(a:P i o)(b:i≠j->AL l j=G w->P j w):P j w:=by
 refine Eb (show bC (BC i j) (G o) (AL l j)=G w from h) (λq e=>?_) λq e=>b (Nat.ne_of_beq_eq_false q) e;have :=CD q;clear q b h;subst this;exact Br e a
theorem Sz{J:Type}{x:O}{v:J}{l:I (O×J)}:AL l x=G v->(x,v)∈l:=by induction l with
 |nil=>exactλh=>(AF h).elim|cons p l ih=>exactλh=>aD (P:=λx v=>(x,v)∈p::l) h Co λ_ e=>Cp _ (ih e)
theorem MO{J:Type}{i:O}{o w:J}{h:I (O×J)}:AL h i=G w->AL (putN h i o) i=G o:=by induction h with
 |nil=>exactλh=>(AF h).elim|cons p h ih=>
 intro e;rw[IX]at e;rw[QG];refine Eb e (λq _=>?_) λq e=>?_;. rw[q];show bC (BC p.1 i) _ _=_;rw[q];rfl
 . rw[q];show bC (BC p.1 i) _ _=_;rw[q];exact ih e
theorem xf{J:Type}{i:O}{x y:J}{h:I (O×J)}:putN (putN h i x) i y=putN h i y:=by induction h with
 |nil=>rfl|cons p h ih=>
 rw[QG,QG];cases q:BC p.1 i with
 |true=>show bC (BC p.1 i) _ _=_;rw[q];rfl|false=>show bC (BC p.1 i) _ _=_;rw[q];exact congrArg (p::·) ih
theorem MP{J:Type}{i j:O}{o:J}(hj:j≠i){l:I (O×J)}:AL (putN l i o) j=AL l j:=by induction l with
 |nil=>rfl|cons p l ih=>
 rw[QG,IX];cases q:BC p.1 i with
 |true=>
  show bC (BC p.1 j) _ _=_;rw[W1 λz=>hj (z.symm.trans (CD q))];rfl|false=>exact congrArg (bC (BC p.1 j) (G p.2)) ih
theorem xg{J:Type}{i:O}{o:J}{h:I (O×J)}:AL h i=G o->putN h i o=h:=by induction h with
 |nil=>exactλh=>(AF h).elim|cons p h ih=>
 intro e;rw[IX]at e;rw[QG];refine Eb e (λq e=>?_) λq e=>?_;. rw[q];exact congrArg (·::h) (NQ rfl (Bm e).symm)
 . rw[q];exact congrArg (p::·) (ih e)
noncomputable def rV{J:Type}(r:AS)(d:J)(k:V->J):J:=match r with|.v v=>k v|.vs _=>d|.b _=>d|.f _=>d|.ps _=>d
theorem xh{J:Type}{x:AS}{d:J}{k:V->J}{r:J}(h:rV x d k=r)(hd:d=r->Bj){P:AS->Prop}(c:∀v,k v=r->P (.v v)):P x:=by cases x with
 |v v=>exact c v h|_=>exact(hd h).elim
noncomputable def rF{J:Type}(r:AS)(d:J)(k:Fl->J):J:=match r with|.f f=>k f|.vs _=>d|.b _=>d|.v _=>d|.ps _=>d
theorem xj{J:Type}{x:AS}{d:J}{k:Fl->J}{r:J}(h:rF x d k=r)(hd:d=r->Bj){P:AS->Prop}(c:∀v,k v=r->P (.f v)):P x:=by cases x with
 |f v=>exact c v h|_=>exact(hd h).elim
noncomputable def kI{J:Type}(f:Fl)(d k:J):J:=match f with|.next=>k|.brk=>d|.cont=>d|.ret _=>d
theorem xk{J:Type}{f:Fl}{d k r:J}(h:kI f d k=r)(hd:d=r->Bj){P:Fl->Prop}(c:k=r->P .next):P f:=by cases f with
 |next=>exact c h|_=>exact(hd h).elim
noncomputable def aE{J:Type}(o:A0)(d:J)(k:AS->Mine.St->J):J:=match o with|.ok r H=>k r H|.bad=>d
theorem kJ{J:Type}{o:A0}{d:J}{k:AS->Mine.St->J}{r:J}(h:aE o d k=r)(hd:d=r->Bj){P:A0->Prop}(c:∀x H,k x H=r->P (.ok x H)):P o:=by cases o with
 |bad=>exact(hd h).elim|ok x H=>exact c x H h
noncomputable def K3{J:Type}(o:A0)(d:J)(k:V->Mine.St->J):J:=aE o d λr H=>rV r d λv=>k v H
theorem W2{J:Type}{o:A0}{d:J}{k:V->Mine.St->J}{r:J}(h:K3 o d k=r)(hd:d=r->Bj){P:A0->Prop}(c:∀v H,k v H=r->P (.ok (.v v) H)):P o:=by apply kJ h hd;intro x H h;exact xh (P:=λx=>P (.ok x H)) h hd λv h=>c v H h
theorem W3{J:Type}{o:A0}{d:J}{k:V->Mine.St->J}{r:J}(h:K3 o d k=r)(hd:d=r->Bj){P:Prop}(c:∀v H,o=.ok (.v v) H->k v H=r->P):P:=W2 (P:=λo'=>o=o'->P) h hd (λv H h e=>c v H e h) rfl
theorem aF{h:BK}{C:I A8}{us:I A4}(rs:Aa h C [] us){P:I A4->Prop}(k:P []):P us:=by cases rs;exact k
theorem MQ{h:BK}{C:I A8}{v:V}{us:I A4}(rs:Aa h C [v] us){P:I A4->Prop}(k:∀u,VR h C v u->P [u]):P us:=by refine Bv rs ?_;(try clear rs);intro u l Aw r e;subst Aw;cases e;exact k u r
theorem T1{h:BK}{C:I A8}{v w:V}{us:I A4}(rs:Aa h C [v,w] us){P:I A4->Prop}(k:∀u u',VR h C v u->VR h C w u'->P [u,u']):P us:=by refine S7 rs ?_;(try clear rs);intro u l B6 r u' l' BJ r' e;subst B6;subst BJ;cases e;exact k u u' r r'
theorem QH{h:BK}{C:I A8}{x:Tx}{us:I A4}(rs:Aa h C [.str x] us){P:I A4->Prop}(k:∀t,P [.str ⟨⟨x⟩⟩ t]):P us:=MQ rs λu r=>by refine xE r ?_;(try clear r);intro t BP;subst BP;exact k t
theorem aG{h:BK}{C:I A8}{x:AX}{us:I A4}(rs:Aa h C [.int x] us){P:I A4->Prop}(k:∀t,P [.int x t]):P us:=MQ rs λu r=>by refine xE r ?_;(try clear r);intro t Bq;subst Bq;exact k t
theorem kK{h:BK}{C:I A8}{x y:AX}{us:I A4}(rs:Aa h C [.int x,.int y] us){P:I A4->Prop}(k:∀t t',P [.int x t,.int y t']):P us:=T1 rs λu u' r r'=>by refine xE r ?_;(try clear r);intro t Bg;subst Bg;refine xE r' ?_;(try clear r');intro t' Bu;subst Bu;exact k t t'
theorem Aa.length{h:BK}{C:I A8}{v:I V}{u:I A4}(r:Aa h C v u):v.length=u.length:=Aa.ind (P:=λv u=>v.length=u.length) rfl (λ_ _ _ _ _ _ ih=>congrArg (·+1) ih) r
theorem Aa.get{h:BK}{C:I A8}{v:I V}{u:I A4}{i:O}{x:V}(r:Aa h C v u)(e:v[i]?=G x):∃y,u[i]?=G y/\VR h C x y:=by
 revert i;refine Aa.ind (P:=λv u=>∀{i},v[i]?=G x->∃y,u[i]?=G y/\VR h C x y) (λe=>(AF e).elim) (λv u vs us a _ ih i q=>?_) r;cases i with
 |zero=>exact Br q (P:=λx=>∃y,G u=G y/\VR h C x y) ⟨u,rfl,a⟩|succ i=>exact ih q
theorem Aa.app{h:BK}{C:I A8}{v v':I V}{u u':I A4}(x:Aa h C v u)(y:Aa h C v' u'):Aa h C (v++v') (u++u'):=Aa.ind (P:=λv u=>Aa h C (v++v') (u++u')) y (λ_ _ _ _ a _ ih=>.cons a ih) x
noncomputable def W4(BN N:I (V×V)):Prop:=BN.Perm N/\PS
noncomputable def aH:Tx->Tx->O
 |a::x,b::y=>match BC a b with|true=>aH x y+1|false=>0
 |_,_=>0
noncomputable def kL(a:Tx)(i:O):Tx->O->O×O×O->O×O×O
 |[],_,r=>r|c::y,j,r=>kL a i y (j+1) (match G0 r.1 (aH a (c::y))with|true=>(aH a (c::y),i,j)|false=>r)
noncomputable def kM(b:Tx):Tx->O->O×O×O->O×O×O
 |[],_,r=>r|c::x,i,r=>kM b x (i+1) (kL (c::x) i b 0 r)
noncomputable def aI:O->Tx->Tx->O->O->I (O×O×O)
 |0,_,_,_,_=>[]|n+1,a,b,p,q=>match kM b a 0 (0,0,0)with
 |(0,_,_)=>[]|(k+1,i,j)=>aI n (a.take i) (b.take j) p q++(k+1,p+i,q+j)::aI n (a.drop (i+k+1)) (b.drop (j+k+1)) (p+i+k+1) (q+j+k+1)
noncomputable def W5(s n:O):Tx:=match n with
 |0=>Q7 s++[44,48]|1=>Q7 (s+1)|n=>Q7 (s+1)++44::Q7 n
noncomputable def kN(i j i' j':O):I (I Tx):=let f:=W5 i (i'-i);let g:=W5 j (j'-j);match i'-i,j'-j with
 |0,0=>[]|0,_=>[[[105,110,115,101,114,116],f,g]]|_,0=>[[[100,101,108,101,116,101],f,g]]|_,_=>[[[114,101,112,108,97,99,101],f,g]]
noncomputable def kO(la lb:O):I (O×O×O)->O->O->I (I Tx)
 |[],i,j=>kN i j la lb|(k,p,q)::l,i,j=>kN i j p q++kO la lb l (p+k) (q+k)
noncomputable def C8(a b:Tx):I (I Tx):=kO a.length b.length (aI 20 a b 0 0) 0 0
noncomputable def O8(p:Tx):I Tx->V
 |t::r=>.tup L (.str t::.str p::r.map .str)|[]=>.tup L [.str p]
noncomputable def IZ:Sg->I V
 |.it l=>[.tup L (l.map .str)]|.tx t=>[.str t]|.run p a b=>(C8 a b).map (O8 p)
noncomputable def DS(l:I Sg):I V:=l.flatMap IZ
section
variable(prog:He)(w:EC)
noncomputable def DR{K:Type}(key:K->V)(h:BK)(C:I A8):I (V×V)->I (K×A4)->Prop
 |[],l=>l=[]|e::N,l=>∃k u r,l=(k,u)::r/\e.1=key k/\VR h C e.2 u/\DR key h C N r
noncomputable def GV(x:U):V:=.str x.cps.toList
noncomputable def T3(i:AX):V:=.int i
noncomputable def Dn(h:BK)(C:I A8)(a:A8)(N:I (V×V)):Prop:=(∃Az,h.DictAt (strKind prog w) a Az Az.length/\DR GV h C N Az)\/(∃Az,h.DictAt (intKind prog w) a Az Az.length/\DR T3 h C N Az)
noncomputable def Ca(h:BK)(C:I A8)(a:A8):Ob->Prop
 |.list Y=>∃us,h.PlainList a us/\Aa h C Y us.toList|.dict N=>Dn prog w h C a N|.B3 N=>∃BN,W4 BN N/\Dn prog w h C a BN|.EY N=>∃m,h.Ns1 a m/\∀x,match Ah N x with|some v=>∃u,m x=G u/\VR h C v u|none=>m x=L
 |.rows r Y=>∃us,h.PlainList a us/\Aa h C (DS Y) us.toList/\(DS Y).length+r<=Dm|.HT=>∃led,h.get? a=G {cls:=.type "set",dict:=L,data:=.set #[] 0 (.fresh 0 0 led)}|.inst c d=>∃da,C[d]?=G da/\h.get? a=G {cls:=.ref c,dict:=G da,data:=.plain}
end
theorem DR.cons{K:Type}{key:K->V}{h:BK}{C:I A8}{k:K}{v:V}{u:A4}{N:I (V×V)}{r:I (K×A4)}(a:VR h C v u)(d:DR key h C N r):DR key h C ((key k,v)::N) ((k,u)::r):=⟨k,u,r,rfl,rfl,a,d⟩
theorem DR.ind{K:Type}{key:K->V}{h:BK}{C:I A8}{P:I (V×V)->I (K×A4)->Prop}(n:P [] [])(c:∀k v u N r,VR h C v u->DR key h C N r->P N r->P ((key k,v)::N) ((k,u)::r)){N:I (V×V)}:∀{l:I (K×A4)},DR key h C N l->P N l:=by induction N with
 |nil=>intro l e;cases e;exact n|cons e N ih=>
 intro l e';refine JA e' ?_;clear e';intro k u r q e1 a d;subst q;rw[show e=(key k,e.2)from NQ e1 rfl];exact c k e.2 u N r a d (ih d)
theorem DR.mono{K:Type}{key:K->V}{h Q:BK}{C J:I A8}(hi:Dw h Q){N:I (V×V)}{l:I (K×A4)}(d:DR key h C N l):DR key Q (C++J) N l:=DR.ind (P:=DR key Q (C++J)) rfl (λ_ _ _ _ _ a _ ih=>DR.cons (a.mono hi) ih) d
theorem Dn.mono{prog:He}{w:EC}{h Q:BK}{C J:I A8}{a:A8}{N:I (V×V)}(hi:Dw h Q)(ha:∀x,h.get? a=G x->Q.get? a=G x)(x:Dn prog w h C a N):Dn prog w Q (C++J) a N:=by
 rcases x with C9|Ck;refine AC C9 ?_;(try clear C9);intro Az D8 v;obtain⟨o,BN,e,r⟩:=D8;rotate_left;refine AC Ck ?_;(try clear Ck);intro Az DX v;obtain⟨o,BN,e,r⟩:=DX;rotate_left;. exact .inl ⟨Az,⟨o,BN,ha _ e,r⟩,v.mono hi⟩
 . exact .inr ⟨Az,⟨o,BN,ha _ e,r⟩,v.mono hi⟩
theorem Ca.mono{prog:He}{w:EC}{h Q:BK}{C J:I A8}{a:A8}{o:Ob}(hi:Dw h Q)(ha:∀x,h.get? a=G x->Q.get? a=G x)(x:Ca prog w h C a o):Ca prog w Q (C++J) a o:=by cases o with
 |list Y=>refine AC x ?_;(try clear x);intro us p v;exact⟨us,p.at ha,v.mono hi⟩|dict N=>exact Dn.mono hi ha x|B3 N=>refine AC x ?_;(try clear x);intro BN p y;exact⟨BN,p,y.mono hi ha⟩|EY N=>
  refine AC x ?_;(try clear x);intro m ns r;refine⟨m,ns.at ha,λy=>?_⟩;have :=r y;revert this;split;. rintro⟨u,e,v⟩;exact⟨u,e,v.mono hi⟩
  . exact id|rows r Y=>refine CZ x ?_;(try clear x);intro us p v l;exact⟨us,p.at ha,v.mono hi,l⟩|HT=>refine xE x ?_;(try clear x);intro l e;exact⟨l,ha _ e⟩|inst c d=>refine AC x ?_;(try clear x);intro da e g;exact⟨da,FY e,ha _ g⟩
noncomputable def HB(o:Bi):AK:=match o.data with|.dict ..=>M|_=>A6
structure Nx(AM AZ:I A8)(h Q:BK)(C AT:I A8):Prop where
 pre:∃J,AT=C++J/\∀b∈J,h.get? b=L
 live:∀b o,h.get? b=G o->∃o',Q.get? b=G o'
 Bw:Dw h Q
 same:∀b o,h.get? b=G o->b∉C->b∉AZ->∃sl,Q.get? b=G {o with slots:=sl}/\((b∈AM->HB o=A6)->sl=o.slots)
theorem Nx.refl(AM AZ:I A8)(h:BK)(C:I A8):Nx AM AZ h h C C:=⟨⟨[],by simp,λ_ hb=>by simp at hb⟩,λ_ o e=>⟨o,e⟩,Dw.refl h,λ_ o e _ _=>⟨o.slots,e,λ_=>rfl⟩⟩
theorem Nx.data{AZ:I A8}{h Q:BK}{C AT:I A8}(x:Nx AM AZ h Q C AT)(b:A8)(o:Bi)(e:h.get? b=G o)(n:b∉C)(m:b∉AZ):∃sl,Q.get? b=G {o with slots:=sl}:=let⟨sl,q,_⟩:=x.same b o e n m;⟨sl,q⟩
theorem Nx.keep{AZ:I A8}{h Q:BK}{C AT:I A8}(x:Nx AM AZ h Q C AT)(b:A8)(o:Bi)(e:h.get? b=G o)(n:b∉C)(m:b∉AZ)(z:b∈AM->HB o=A6):Q.get? b=G o:=by
 refine AC (x.same b o e n m) ?_;intro sl q r;rw[r z]at q;exact q
theorem HC{h Q:BK}{b:A8}(l:∀b o,h.get? b=G o->∃o',Q.get? b=G o')(n:Q.get? b=L):h.get? b=L:=by cases e:h.get? b with
 |none=>rfl|some o=>refine xE (l b o e) ?_;intro o' e';rw[n]at e';cases e'
theorem Nx.out{AZ:I A8}{h Q:BK}{C AT:I A8}(x:Nx AM AZ h Q C AT){b:A8}{o:Bi}(g:h.get? b=G o)(n:b∉C):b∉AT:=by
 refine AC x.pre ?_;intro J e hb;intro m;rw[e]at m;rcases Dr.mp m with m|m;. exact n m
 . rw[hb b m]at g;cases g
theorem Nx.trans{AZ:I A8}{AP BD C3:BK}{A_ Au BS:I A8}(x:Nx AM AZ AP BD A_ Au)(y:Nx AM AZ BD C3 Au BS):Nx AM AZ AP C3 A_ BS:=by
 refine AC x.pre ?_;intro J e hb;refine AC y.pre ?_;intro EH e' hc;refine⟨⟨J++EH,by rw[e',e,Uo],λb m=>?_⟩,λb o g=>?_,x.Bw.trans y.Bw,λb o g n m=>?_⟩
 . rcases Dr.mp m with m|m;. exact hb b m
   . exact HC x.live (hc b m)
 . refine xE (x.live b o g) ?_;intro o' g';exact y.live b o' g'
 . refine AC (x.same b o g n m) ?_;intro s1 q1 r1;refine AC (y.same b _ q1 (x.out g n) m) ?_;intro s2 q2 r2;exact⟨s2,q2,λz=>by have e2:=r2 z;rw[r1 z]at e2;exact e2⟩
theorem VR.nx{AZ:I A8}{h Q:BK}{C AT:I A8}(x:Nx AM AZ h Q C AT){v:V}{u:A4}(r:VR h C v u):VR Q AT v u:=by refine AC x.pre ?_;intro J e _;rw[e];exact r.mono x.Bw
theorem Aa.nx{AZ:I A8}{h Q:BK}{C AT:I A8}(x:Nx AM AZ h Q C AT){v:I V}{u:I A4}(r:Aa h C v u):Aa Q AT v u:=by refine AC x.pre ?_;intro J e _;rw[e];exact r.mono x.Bw
structure Fm where
 env:Gh
 AZ:I A8
 outs:I Gh
noncomputable def Fm.D(F:Fm):I A8:=F.outs.filterMap (·.frame)
structure Bs where
 prog:He
 w:EC
 base:BK
 os:H4
 gens:BW fX
noncomputable def K4(F:Fm)(x:U):Prop:=F.env.kindOf x=G .local\/F.env.kindOf x=G .cell\/F.env.kindOf x=G .free
noncomputable def T4(F:Fm)(h:BK)(m:U->AD A4)(x:U)(u:A4):Prop:=(F.env.kindOf x=G .local->m x=G u)/\(F.env.kindOf x=G .cell\/F.env.kindOf x=G .free->∃c,F.env.cells.lookup x=G c/\h.IsCell c (G u))
noncomputable def Cf(F:Fm)(h:BK)(C:I A8)(env:I (U×V)):Prop:=∃m,h.Ns F.env.locals m/\(∀c∈F.env.cells,∃u,h.IsCell c.2 u)/\∀x v,Ah env x=G v->K4 F x->∃u,T4 F h m x u/\VR h C v u
noncomputable def kP(F:Fm)(x:U):E3->Prop
 |.local=>F.env.kindOf x=G .local|.cell=>F.env.kindOf x=G .cell/\∃c,F.env.cells.lookup x=G c/\c∈F.AZ|.free=>(F.env.kindOf x=G .cell\/F.env.kindOf x=G .free)/\∃c,F.env.cells.lookup x=G c|.globalImplicit=>F.env.kindOf x=G .globalImplicit|.globalExplicit=>PS
structure G9(K:Kx)(F:Fm):Prop where
 fn:F.env.scope.kind=.function
 sc:QC K.sc=M
 kd:∀x k,Ah K.sc.names x=G k->kP F x k
 g3:F.env.globals=3b0:F.env.builtins=0cells:F.env.cells.Pairwise λx y=>x.2≠y.2I_:F.env.locals∈F.AZ
 MR:∀c∈F.env.cells,c.2≠F.env.locals
theorem W6{l:I E3}{o:AD E3}(h:isIn l o=M){P:E3->Prop}(c:∀k∈l,P k):∃k,o=G k/\P k:=by cases o with
 |none=>exact(B0 h).elim|some k=>exact⟨k,rfl,c k (List.elem_iff.mp h)⟩
theorem G9.at{K:Kx}{F:Fm}(g:G9 K F){l:I E3}{x:U}(h:isIn l (Sm K.sc x)=M){P:Prop}(c:∀k∈l,kP F x k->P):P:=AC (W6 h c) λk e c=>c (g.kd x k e)
theorem G9.loc{K:Kx}{F:Fm}(g:G9 K F)(x:U)(h:D0 K.sc x=M):K4 F x:=g.at h (all_cons .inl (all_cons (λz=>.inr (.inl z.1)) (all_cons (λz=>.inr z.1) EE)))
theorem G9.own{K:Kx}{F:Fm}(g:G9 K F)(x:U)(h:G8 K.sc x=M):F.env.kindOf x=G .local\/(F.env.kindOf x=G .cell/\∃c,F.env.cells.lookup x=G c/\c∈F.AZ):=g.at h (all_cons .inl (all_cons .inr EE))
theorem G9.glob{K:Kx}{F:Fm}(g:G9 K F)(x:U)(h:Di K.sc x=M):F.env.kindOf x=G .globalImplicit:=g.at h (all_cons id EE)
theorem G9.cf{K:Kx}{F:Fm}(g:G9 K F)(x:U)(h:Zy K.sc x=M):(F.env.kindOf x=G .cell\/F.env.kindOf x=G .free)/\∃c,F.env.cells.lookup x=G c:=g.at h (all_cons (λz=>⟨.inl z.1,AC z.2 λc e _=>⟨c,e⟩⟩) (all_cons id EE))
theorem T5{F:Fm}{x:U}(h:F.env.kindOf x=G .cell\/F.env.kindOf x=G .free)(z:F.env.kindOf x=G .local){P:Prop}:P:=h.elim (λe=>nomatch z.symm.trans e) λe=>nomatch z.symm.trans e
structure Gd(B:Bs)(F:Fm)(K:Kx)(A:CK)(H:St)(C:I A8)(s:AR):Prop where
 kinds:G9 K F
 len:C.length=H.n
 nodup:C.Nodup
 fresh:∀a∈C,B.base.get? a=L
 live:∀a∈C,∃o,s.heap.get? a=G o
 D5:∀a∈F.AZ,B.base.get? a=L/\a∉C/\∃o,s.heap.get? a=G o
 D1:∀c∈F.env.cells,c.2∉C/\∃o,s.heap.get? c.2=G o
 objs:∀i o,AL H.h i=G o->∃a,C[i]?=G a/\Ca B.prog B.w s.heap C a o
 env:Cf F s.heap C H.env
 base:B.base.StaysIn s.heap
 os:s.os=B.os
 gens:s.gens=B.gens
 frames:A.frames=G F.outs
 DT:s.heap.FunFrames B.base F.outs
 Cy:∀A1∈F.outs.filterMap (·.frame),A1∉C/\(A1∈F.AZ->A1=F.env.locals)/\∃o,s.heap.get? A1=G o/\HB o=M
 mods:∃o,B.base.get? NR=G o
 handled:A.handled=L
 depth:A.depth+3*K.d<900units:A.units+10*K.d<9000
theorem Gd.obj{B:Bs}{F:Fm}{K:Kx}{A:CK}{H:St}{C:I A8}{s:AR}(g:Gd B F K A H C s){i:O}{o:Ob}(h:AL H.h i=G o){a:A8}(ha:C[i]?=G a):Ca B.prog B.w s.heap C a o:=AC (g.objs i o h) λ_ e r=>Bm (e.symm.trans ha)▸r
variable{C AT BG A_ AZ Au AM:I A8}{h Q Af:BK}{v v' k:Mine.V}{A A':CK}{s s' AJ:AR}{A7 H AB Bc DI:Mine.St}{i n d j r m tk ep kd k0 depth:O}{B:Bs}{K K':Kx}{F F':Fm}{u u' ku vu fu c fl fv du:A4}{A3:Mine.Ctx}{E A2:A4->AR->Prop}{a AE D z TI a0 E1:A8}{J T EH:Type}{pos p p2 p1 p3 p4:B9}{us first:I A4}{N ps BN:I (Mine.V×Mine.V)}{x id name:U}{prog:He}{w:EC}{f:Fl}{t t':EP}{Y args vs Am ys MT:I Mine.V}{env:Gh}{A1 l AG An CL L0 L1:I Tx}{P:Dq}{b led ex on:AK}{o ob o':Ob}{Kf:Gg}{sc:BU}{BA:O->O}{B7 rs Dx:I O}{Av:fY}{A9 JM JN K5 ext2 brk tf L2:As}{y q:Tx}{fd:Kg}{g:FP}{ts:I AA}{e C_:AA}{it:It}{BF hp:I (O×Ob)}{gens:I FP}{C4:I Gh}{names:I U}{Cb:BW A4}{op:Jj}{pl:Dz AK}{ord:I (AX×A4)}{CV K6:I (U×Mine.V)}
theorem Ec{a b:Tx}:CU a b=M↔a=b:=by induction a generalizing b with
 |nil=>cases b with
  |nil=>exact⟨λ_=>rfl,λ_=>rfl⟩|cons y t=>exact⟨λh=>(B0 h).elim,λh=>nomatch h⟩
 |cons x l ih=>cases b with
 |nil=>exact⟨λh=>(B0 h).elim,λh=>nomatch h⟩|cons y t=>
  refine⟨λh=>Ce (k:=CU l t) h B0 λe h=>by rw[CD e,ih.mp h],λh=>?_⟩;injection h with h1 h2;subst h1;show bT (BC x x) A6 (CU l t)=M;rw[J1,ih.mpr h2];rfl
theorem kQ{a b:Tx}:CU a b=A6↔a≠b:=by rw[<-br0,Ec]
theorem E2{a b:U}:Cw a b=M↔a=b:=by
 unfold Cw;rw[Ec];constructor;. intro e;cases a;cases b;simp only[br1];exact t7.mp e
 . intro e;rw[e]
theorem aJ{a b:U}(h:Cw a b=M){P:U->Prop}(k:P b):P a:=E2.mp h▸k
theorem xl{a b:U}(h:Cw a b=M){P:U->Prop}(k:P a):P b:=E2.mp h▸k
theorem L3{a b:U}:Cw a b=A6↔a≠b:=by rw[<-br0,E2]
theorem QI{C:Type}{v:C}{y:U}{l:I (U×C)}:Ah (E_ l x v) y=if x=y then G v else Ah l y:=by induction l with
 |nil=>
  show bC (Cw x y) (G v) L=_;by_cases h:x=y;. rw[DA h,E2.mpr h];rfl
  . rw[CS h,L3.mpr h];rfl|cons p l ih=>
  rw[xe,Sy];by_cases h:p.1=x
  . rw[E2.mpr h];show bC (Cw p.1 y) (G v) (Ah l y)=_;rw[h];by_cases Q:x=y;. rw[DA Q,E2.mpr Q];rfl
    . rw[CS Q,L3.mpr Q];rfl
  . rw[L3.mpr h];show bC (Cw p.1 y) (G p.2) (Ah (E_ l x v) y)=_;by_cases Q:p.1=y;. rw[E2.mpr Q,CS λq=>h (Q.trans q.symm)];rfl
    . rw[L3.mpr Q];exact ih
theorem aK{C:Type}{v:C}{l:I (O×C)}:∀{w:C},AL (putN l i v) j=G w->(j=i/\w=v)\/(j≠i/\AL l j=G w):=by induction l with
 |nil=>exactλh=>(AF h).elim|cons p l ih=>
 intro w h;rw[QG]at h;rw[IX];by_cases e:p.1=i
 . rw[show BC p.1 i=M from e▸J1 _]at h;by_cases q:p.1=j
   . subst q;rw[show bC M ((p.1,v)::l) (p::putN l i v)=(p.1,v)::l from rfl,JL]at h;exact .inl ⟨e,(Bm h).symm⟩
   . rw[show bC M ((p.1,v)::l) (p::putN l i v)=(p.1,v)::l from rfl,IY q]at h;rw[W1 q];exact .inr ⟨λz=>q (e.trans z.symm),h⟩
 . rw[W1 e]at h;have h:bC (BC p.1 j) (G p.2) (AL (putN l i v) j)=G w:=h;refine Eb h (λq e'=>.inr ⟨λz=>e ((CD q).trans z),by rw[q];exact e'⟩) λq e'=>?_;rw[q];exact ih e'
theorem Nx.ext(k:∀b o,h.get? b=G o->Q.get? b=G o):Nx AM AZ h Q C C:=⟨⟨[],by simp,λ_ hb=>by simp at hb⟩,λb o e=>⟨o,k b o e⟩,λb o e _=>k b o e,λb o e _ _=>⟨o.slots,k b o e,λ_=>rfl⟩⟩
theorem Nx.add(J:I A8)(k:∀b o,h.get? b=G o->Q.get? b=G o)(n:∀b∈J,h.get? b=L):Nx AM AZ h Q C (C++J):=⟨⟨J,rfl,n⟩,λb o e=>⟨o,k b o e⟩,λb o e _=>k b o e,λb o e _ _=>⟨o.slots,k b o e,λ_=>rfl⟩⟩
theorem Nx.but(ha:a∈C\/a∈AZ)(k:Ds a h Q)(hc:∀o,h.get? a=G o->C2 o=A6)(hl:∃o,Q.get? a=G o):Nx AM AZ h Q C C:=by
 refine⟨⟨[],by simp,λ_ hb=>by simp at hb⟩,λb o e=>?_,λb o e c=>?_,λb o e n m=>⟨o.slots,?_,λ_=>rfl⟩⟩
 . by_cases q:b=a;. clear ha hc k;subst q;exact hl
   . exact⟨o,k b o q e⟩
 . by_cases q:b=a;. clear ha hl k;subst q;rw[hc o e]at c;exact(E5 c).elim
   . exact k b o q e
 . exact k b o (λq=>by clear hc hl k;subst q;exact ha.elim n m) e
section
theorem Gd.of(g:Gd B F K A H C s){J:I A8}(x:Nx F.D F.AZ s.heap Q C (C++J))(GA:J.Nodup)(hn:∀b∈J,s.heap.get? b=L)(hl:∀b∈J,∃o,Q.get? b=G o)(len:(C++J).length=A7.n)(objs:∀i o,AL A7.h i=G o->∃a,(C++J)[i]?=G a/\Ca B.prog B.w Q (C++J) a o)(env:Cf F Q (C++J) A7.env)(base:B.base.StaysIn Q):Gd B F K A A7 (C++J) {s with heap:=Q,toks:=tk}:=by
 have bn:∀b∈J,B.base.get? b=L:=λb m=>by cases e:B.base.get? b with
 |none=>rfl|some o=>have :=g.base b o e;rw[hn b m]at this;exact(BE this).elim
 refine⟨g.kinds,len,?_,?_,?_,?_,λc m=>⟨x.out (g.D1 c m).2.choose_spec (g.D1 c m).1,x.live _ _ (g.D1 c m).2.choose_spec⟩,objs,env,base,g.os,g.gens,g.frames,?_,?_,g.mods,g.handled,g.depth,g.units⟩
 . refine ID.mpr ⟨g.nodup,GA,λa ha b hb e=>?_⟩;subst e;refine xE (g.live a ha) ?_;intro o q;rw[hn a hb]at q;exact(BE q).elim
 . intro a m;rcases Dr.mp m with m|m;. exact g.fresh a m
   . exact bn a m
 . intro a m;rcases Dr.mp m with m|m;. refine xE (g.live a m) ?_;intro o q;exact x.live a o q
   . exact hl a m
 . intro a m;refine IM (g.D5 a m) ?_;intro q r o l;exact⟨q,x.out l r,x.live a o l⟩
 . have hL:=g.DT;have fd:=g.Cy;refine CZ env ?_;(try clear env);intro mm ns _ _;revert hL fd;generalize F.outs=l;intro hL fd;show Q.FunFrames B.base l;induction l with
 |nil=>trivial|cons e r ih=>
     refine G5 hL ?_;(try clear hL);intro hk Aw hr;refine HS Aw ?_;(try clear Aw);intro A1 o hf hb ho hd;have fL:=fd A1 (by simp[hf]);refine⟨hk,?_,ih hr λL' m'=>fd L' (by rw[RW,hf];exact Cp _ m')⟩;by_cases q:A1∈F.AZ
     . have e:=fL.2.1 q;refine Gp ns ?_;(try clear ns);intro oL N ep hL aL _;rw[<-e]at hL;exact⟨A1,oL,hf,hb,hL,λvs z=>by rw[aL]at z;(exfalso;cases z)⟩
     . refine xE (x.data A1 o ho fL.1 q) ?_;intro sl z;exact⟨A1,_,hf,hb,z,hd⟩
 . intro A1 m;refine Pp (g.Cy A1 m) ?_;intro q r o ho hd;refine⟨x.out ho q,r,?_⟩;by_cases z:A1∈F.AZ
   . refine AC env ?_;(try clear env);intro mm B6 _;refine Gp B6 ?_;(try clear B6);intro oL N ep hL aL _;rw[<-r z]at hL;exact⟨oL,hL,by unfold HB;rw[aL]⟩
   . refine xE (x.data A1 o ho q z) ?_;(try clear z);intro sl z;exact⟨_,z,hd⟩
theorem Cf.imp{env:I (U×V)}(x:Cf F h C env)(ns:∀m,h.Ns F.env.locals m->Q.Ns F.env.locals m)(ce:∀n c u,(n,c)∈F.env.cells->h.IsCell c u->Q.IsCell c u)(vr:∀v u,VR h C v u->VR Q AT v u):Cf F Q AT env:=CZ x λm n xm r=>⟨m,ns m n,λc hc=>xE (xm c hc) λu q=>⟨u,ce c.1 c.2 u hc q⟩,λx v e q=>AC (r x v e q) λu s r=>⟨u,⟨s.1,λz=>AC (s.2 z) λc e f=>⟨c,e,ce x c _ (mem_of_lookup e) f⟩⟩,vr v u r⟩⟩
theorem Cf.ext{env:I (U×V)}{J:I A8}(k:∀b o,h.get? b=G o->Q.get? b=G o)(x:Cf F h C env):Cf F Q (C++J) env:=x.imp (λ_ ns=>ns.at' λo e=>k _ o e) (λ_ _ _ _ q=>q.keeps k) λ_ _ r=>r.mono λb o e _=>k b o e
theorem Gd.tok(g:Gd B F K A H C s)(tk:O):Gd B F K A H C {s with toks:=tk}:=⟨g.kinds,g.len,g.nodup,g.fresh,g.live,g.D5,g.D1,g.objs,g.env,g.base,g.os,g.gens,g.frames,g.DT,g.Cy,g.mods,g.handled,g.depth,g.units⟩
theorem Gd.ext(g:Gd B F K A H C s)(k:∀b o,s.heap.get? b=G o->Q.get? b=G o):Gd B F K A H C {s with heap:=Q,toks:=tk}:=by
 have :=g.of (A7:=H) (Q:=Q) (tk:=tk) (J:=[]) (Nx.add [] k (λ_ hb=>by simp at hb)) HM (λ_ hb=>by simp at hb) (λ_ hb=>by simp at hb) (by simpa using g.len) (λi o e=>by refine AC (g.objs i o e) ?_;intro a p q;exact⟨a,by simpa using p,q.mono (λb o e _=>k b o e) (k a)⟩) (g.env.ext k) (λb o e=>k b o (g.base b o e));simpa using this
theorem Gd.new(g:Gd B F K A H C s)(k:∀b o,s.heap.get? b=G o->Q.get? b=G o)(hn:s.heap.get? a=L)(hl:∃o,Q.get? a=G o)(ho:Ca B.prog B.w Q (C++[a]) a o):Gd B F K A (H.new o).2 (C++[a]) {s with heap:=Q,toks:=tk}:=by
 have O9:∀b∈[a],s.heap.get? b=L:=λb hb=>by rw[CI.mp hb];exact hn
 refine g.of (Nx.add [a] k O9) (by simp) O9 (λb hb=>by rw[CI.mp hb];exact hl) (by simp[Mine.St.new,g.len]) (λi o' e=>?_) (g.env.ext k) (λb o e=>k b o (g.base b o e));simp only[Mine.St.new,AL]at e;cases q:BC H.n i with
 |true=>
  rw[q]at e;injection e with e;subst e;have :=CD q;exact⟨a,by rw[<-this,<-g.len];simp,ho⟩|false=>
  rw[q]at e;refine AC (g.objs i o' e) ?_;intro b p r;exact⟨b,FY p,r.mono (λb o e _=>k b o e) (k b)⟩
theorem T6{p:I A8->Prop}(h:p (C++[])):p C:=by simpa using h
theorem Cf.but{env:I (U×V)}(ha:a≠F.env.locals)(hc:∀c∈F.env.cells,c.2≠a)(k:Ds a h Q)(hi:Dw h Q)(x:Cf F h C env):Cf F Q C env:=x.imp (λ_ ns=>ns.extBut k (CX ha)) (λn c u m q=>AC q λo e d=>⟨o,k _ _ (hc _ m) e,d⟩) λv u r=>T6 (p:=λJ=>VR Q J v u) (r.mono hi)
theorem Gd.aM(g:Gd B F K A H C s)(x:Nx F.D F.AZ s.heap Q C C)(len:A7.n=H.n)(objs:∀i o,AL A7.h i=G o->∃a,C[i]?=G a/\Ca B.prog B.w Q C a o)(env:Cf F Q C A7.env)(base:B.base.StaysIn Q):Gd B F K A A7 C {s with heap:=Q,toks:=tk}:=by
 have e:C++[]=C:=HN C;have :=g.of (A7:=A7) (Q:=Q) (tk:=tk) (J:=[]) (by rw[e];exact x) HM (λ_ hb=>by simp at hb) (λ_ hb=>by simp at hb) (by rw[e,len];exact g.len) (by rw[e];exact objs) (by rw[e];exact env) base;rwa[e]at this
theorem Ca.C2(r:Ca prog w h C a o)(hi:∀c d,o=.inst c d->c≠135):∀x,h.get? a=G x->C2 x=A6:=by
 intro x e;cases o with
 |list Y=>refine AC r ?_;(try clear r);intro us BJ _;refine xE BJ ?_;(try clear BJ);intro n q;rw[q]at e;injection e with e;subst e;rfl|dict N=>(rcases r with Bu|C9;refine AC Bu ?_;(try clear Bu);intro _ FE _;obtain⟨o,_,q,⟨c,_⟩,_⟩:=FE;rotate_left;refine AC C9 ?_;(try clear C9);intro _ GB _;obtain⟨o,_,q,⟨c,_⟩,_⟩:=GB;rotate_left)<;>(rw[q]at e;injection e with e;subst e;unfold Mine.C2;rw[c];rfl)|B3 N=>
  refine AC r ?_;(try clear r);intro _ _ r;(rcases r with Ck|D8;refine AC Ck ?_;(try clear Ck);intro _ HD _;obtain⟨o,_,q,⟨c,_⟩,_⟩:=HD;rotate_left;refine AC D8 ?_;(try clear D8);intro _ Hv _;obtain⟨o,_,q,⟨c,_⟩,_⟩:=Hv;rotate_left)<;>(rw[q]at e;injection e with e;subst e;unfold Mine.C2;rw[c];rfl)|EY N=>refine AC r ?_;(try clear r);intro m BP _;refine Gp BP ?_;(try clear BP);intro o _ _ q d _;rw[q]at e;injection e with e;subst e;unfold Mine.C2;rw[d];simp|rows k Y=>refine AC r ?_;(try clear r);intro us Bq _;refine xE Bq ?_;(try clear Bq);intro n q;rw[q]at e;injection e with e;subst e;rfl|HT=>refine xE r ?_;(try clear r);intro l q;rw[q]at e;injection e with e;subst e;rfl|inst c d=>
  refine AC r ?_;(try clear r);intro da _ q;rw[q]at e;injection e with e;subst e;have :=hi c d rfl;show(c==135&&A6)=A6;simp
theorem Gd.set(g:Gd B F K A H C s)(hi:C[i]?=G a)(W7:AL H.h i=G o)(Cc:∀c d,o≠.inst c d)(k:Ds a s.heap Q)(hl:∃o,Q.get? a=G o)(ho:∀x:Dw s.heap Q,Ca B.prog B.w Q C a o'):Gd B F K A (H.set i o') C {s with heap:=Q,toks:=tk}/\Nx F.D [] s.heap Q C C:=by
 have ha:a∈C:=Ew hi;refine AC (g.objs i o W7) ?_;intro a' QJ r;rw[hi]at QJ;injection QJ with QJ;subst QJ;have x:Nx F.D F.AZ s.heap Q C C:=Nx.but (.inl ha) k (r.C2 λc d e=>absurd e (Cc c d)) hl;have x0:Nx F.D [] s.heap Q C C:=Nx.but (.inl ha) k (r.C2 λc d e=>absurd e (Cc c d)) hl;refine⟨g.aM x rfl (λj p e=>?_) (g.env.but ?_ ?_ k x.Bw) (λb p e=>?_),x0⟩
 . rcases aK e with DX|Ed;refine xA DX ?_;(try clear DX);intro L4 L5;subst L4;subst L5;rotate_left;refine xA Ed ?_;(try clear Ed);intro hj e;rotate_left;. exact⟨a,hi,ho x.Bw⟩
   . refine AC (g.objs j p e) ?_;intro b q r;refine⟨b,q,?_⟩;have hb:b≠a:=λz=>by
      clear ha hl ho k;subst z;refine xE (HL.mp hi) ?_;intro l1 q1;refine xE (HL.mp q) ?_;intro l2 q2;exact hj ((RX l2 g.nodup).mp (q.trans hi.symm))
     have :=r.mono (J:=[]) x.Bw λy=>k b y hb;simpa using this
 . exactλz=>(g.D5 _ g.kinds.I_).2.1 (z▸ha)
 . exactλc m z=>(g.D1 c m).1 (z▸ha)
 . refine k b p (λz=>?_) (g.base b p e);clear hi hl ho k r;subst z;rw[g.fresh b ha]at e;exact(BE e).elim
theorem Gd.aN(g:Gd B F K A H C s)(ha:a∉C)(k:Ds a s.heap Q)(x:Dw s.heap Q):∀i o,AL H.h i=G o->∃a,C[i]?=G a/\Ca B.prog B.w Q C a o:=λi o e=>by
 refine AC (g.objs i o e) ?_;intro b q r;have :=r.mono (J:=[]) x λy=>k b y (λz=>ha (z▸Ew q));exact⟨b,q,by simpa using this⟩
theorem Gd.xn(g:Gd B F K A H C s):∀o,s.heap.get? F.env.locals=G o->∃N ep,o.data=.dict N ep:=λo e=>by
 refine CZ g.env ?_;intro m Bg _ _;refine Gp Bg ?_;(try clear Bg);intro o' N ep q d _;rw[q]at e;injection e with e;subst e;exact⟨N,ep,d⟩
theorem Gd.kR(g:Gd B F K A H C s){m:U->AD A4}(hx:F.env.kindOf x=G .local)(hv:VR s.heap C v u)(er:∀y w,Ah H.env y=G w->K4 F y->∃u,T4 F s.heap m y u/\VR s.heap C w u)(hn:Q.Ns F.env.locals (λy=>if y=x then G u else m y))(k:E4 F.env.locals s.heap Q):Gd B F K A ⟨E_ H.env x v,H.h,H.n⟩ C {s with heap:=Q,toks:=tk}/\Nx F.D F.AZ s.heap Q C C:=by
 refine G5 (g.D5 _ g.kinds.I_) ?_;intro aO ha _;have xx:Nx F.D F.AZ s.heap Q C C:=Nx.but (.inr g.kinds.I_) k.extBut (λo e=>by
   refine DB (g.xn o e) ?_;intro N ep d;unfold C2;rw[d];simp) (by refine Hp hn ?_;(try clear hn);intro o _ _ e _;exact⟨o,e⟩);have hi:∀{v:V}{u:A4},VR s.heap C v u->VR Q C v u:=λq=>q.nx xx;refine⟨g.aM xx rfl (g.aN ha k.extBut xx.Bw) ⟨_,hn,λc m=>let⟨_,_,ce,_⟩:=g.env;let⟨u,e⟩:=ce c m;⟨u,e.sameBut k (g.kinds.MR c m)⟩,λy w l fr=>?_⟩ (λb p e=>k.extBut b p (λz=>by rw[z,aO]at e;exact(BE e).elim) (g.base b p e)),xx⟩;rw[QI]at l;by_cases q:x=y
 . rw[DA q]at l;exact⟨u,⟨λ_=>DA q.symm,λz=>T5 z (q▸hx)⟩,Bm l▸hi hv⟩
 . rw[CS q]at l;refine AC (er y w l fr) ?_;intro u' sl z;exact⟨u',⟨λz=>(CS λe=>q e.symm).trans (sl.1 z),λz=>AC (sl.2 z) λc e f=>⟨c,e,f.sameBut k (g.kinds.MR _ (mem_of_lookup e))⟩⟩,hi z⟩
theorem Gd.kS(g:Gd B F K A H C s){c:A8}{T7:AD A4}(hx:F.env.kindOf x=G .cell)(hc:F.env.cells.lookup x=G c)(hw:c∈F.AZ)(hv:VR s.heap C v u)(W7:s.heap.IsCell c T7)(hn:Q.IsCell c (G u))(k:E4 c s.heap Q):Gd B F K A ⟨E_ H.env x v,H.h,H.n⟩ C {s with heap:=Q,toks:=tk}/\Nx F.D F.AZ s.heap Q C C:=by
 refine G5 (g.D5 _ hw) ?_;intro aO ha _;have xx:Nx F.D F.AZ s.heap Q C C:=Nx.but (.inr hw) k.extBut (λo e=>by
   refine AC W7 ?_;(try clear W7);intro o' e' d;rw[e']at e;injection e with e;subst e;unfold C2;rw[d];simp) (by refine AC hn ?_;(try clear hn);intro o e _;exact⟨o,e⟩);have hi:∀{v:V}{u:A4},VR s.heap C v u->VR Q C v u:=λq=>q.nx xx;refine CZ g.env ?_;intro kT ns ce r;have hL:F.env.locals≠c:=λz=>g.kinds.MR _ (mem_of_lookup hc) z.symm;refine⟨g.aM xx rfl (g.aN ha k.extBut xx.Bw) ⟨kT,ns.sameBut k hL,λc' m'=>if z:c'.2=c then⟨_,z▸hn⟩else let⟨u,e⟩:=ce c' m';⟨u,e.sameBut k z⟩,λy w l fr=>?_⟩ (λb p e=>k.extBut b p (λz=>?_) (g.base b p e)),xx⟩
 . rw[QI]at l;by_cases q:x=y
   . rw[DA q]at l;exact⟨u,⟨λz=>T5 (.inl (q▸hx)) z,λ_=>⟨c,q▸hc,hn⟩⟩,Bm l▸hi hv⟩
   . rw[CS q]at l;refine AC (r y w l fr) ?_;intro u' sl z;exact⟨u',⟨sl.1,λz=>AC (sl.2 z) λc' e f=>⟨c',e,f.sameBut k λz=>q (name_of_addr g.kinds.cells (mem_of_lookup hc) (z▸mem_of_lookup e))⟩⟩,hi z⟩
 . rw[z,aO]at e;exact(BE e).elim
end
noncomputable def W8(AZ:I A8)(B:Bs)(F:Fm)(K:Kx)(A:CK)(A7:Mine.St)(C:I A8)(s:AR)(t:Dz J)(Ia:BK->I A8->J->Prop):Prop:=∀(A2:J->AR->Prop)(E:A4->AR->Prop),(∀u AT s',Gd B F K A A7 AT s'->Nx F.D AZ s.heap s'.heap C AT->Ia s'.heap AT u->A2 u s')->AH (AQ B.prog B.w) A t A2 E s
noncomputable abbrev CJ(B:Bs)(F:Fm)(K:Kx)(A:CK)(A7:Mine.St)(C:I A8)(s:AR)(t:Dz J)(Ia:BK->I A8->J->Prop):Prop:=W8 F.AZ B F K A A7 C s t Ia
noncomputable abbrev Ae(B:Bs)(F:Fm)(K:Kx)(A:CK)(A7:Mine.St)(C:I A8)(s:AR)(t:Dz J)(Ia:BK->I A8->J->Prop):Prop:=W8 [] B F K A A7 C s t Ia
theorem Nx.FZ(x:Nx AM [] h Q C AT):Nx AM AZ h Q C AT:=⟨x.pre,x.live,x.Bw,λb o e n _=>x.same b o e n (by simp)⟩
theorem W8.T8{t:Dz J}{Ia:BK->I A8->J->Prop}(d:Ae B F K A A7 C s t Ia):CJ B F K A A7 C s t Ia:=λA2 E k=>d A2 E λu AT s' g x r=>k u AT s' g x.FZ r
noncomputable abbrev RV(v:V):BK->I A8->A4->Prop:=λh C u=>VR h C v u
noncomputable abbrev OA(v:I V):BK->I A8->I A4->Prop:=λh C u=>Aa h C v u
noncomputable abbrev RB(b:AK):BK->I A8->AK->Prop:=λ_ _ u=>u=b
noncomputable abbrev RU:BK->I A8->DM->Prop:=λ_ _ _=>PS
noncomputable def FR(f:Fl):BK->I A8->HO->Prop:=λh C u=>match f with
 |.next=>u=.next|.brk=>u=.brk|.cont=>u=.cont|.ret v=>∃x,u=.ret x/\VR h C v x
section
theorem CJ.pure{b:J}{Ia:BK->I A8->J->Prop}(g:Gd B F K A H C s)(r:Ia s.heap C b):W8 AZ B F K A H C s (Pure.pure b) Ia:=λ_ _ k=>AW (k b C s g (Nx.refl ..) r)
theorem FF{v:J}{l:I (U×J)}:Ah l x=G v->(x,v)∈l:=by induction l with
 |nil=>exactλh=>(AF h).elim|cons p l ih=>
 intro h;refine Eb (Sy.symm.trans h) (λq h=>?_) λ_ h=>Cp _ (ih h);rw[<-E2.mp q,<-Bm h];exact Co
theorem T9{l:I (U×J)}{env:I (U×EH)}{f:J->EH}(h:l.map (λp=>Ah env p.1)=l.map λp=>G (f p.2)){v:J}(e:Ah l x=G v):Ah env x=G (f v):=H5.mp h _ (FF e)
theorem aP(h:QC sc=M)(hl:D0 sc x=M):(x==("__debug__":U))=A6/\(x==("__classdict__":U))=A6:=by
 refine AC (W6 (P:=λ_=>PS) hl λ_ _=>trivial) ?_;intro k q _;have :=(Bn.mp h) _ (FF q);simp only[D6,PT,L3]at this;exact⟨Ln.mpr this.1,Ln.mpr this.2⟩
theorem aQ(g:Gd B F K A H C s)(hl:D0 K.sc x=M)(hv:Ah H.env x=G v)(k:∀u,VR s.heap C v u->A2 u s):AH (AQ B.prog B.w) A' (loadName F.env x) A2 E s:=by
 refine CZ g.env ?_;intro m ns _ r;refine AC (r x v hv (g.kinds.loc x hl)) ?_;intro u sl z;have ku:=k u z;rcases g.kinds.loc x hl with q|q|q;. exact wpAny_loadName_local g.kinds.fn q ns (sl.1 q) ku
 . exact AC (sl.2 (.inl q)) λc e f=>wpAny_loadName_cell g.kinds.fn q e f ku
 . exact AC (sl.2 (.inr q)) λc e f=>wpAny_loadName_free g.kinds.fn q e f ku (aP g.kinds.sc hl).2
theorem kU(g:Gd B F K A H C s)(hl:D0 K.sc id=M)(hv:Ah H.env id=G v):Ae B F K A H C s (loadName F.env id) (RV v):=λA2 E k=>aQ g hl hv λu z=>k u C s g (Nx.refl ..) z
theorem aR(g:Gd B F K A H C s)(hl:D0 K.sc id=M)(hv:Ah H.env id=G v):Ae B F K A H C s (eval (.Name id pos) F.env) (RV v):=λA2 E k=>wpAny_Name (kU g hl hv A2 E k) (aP g.kinds.sc hl).1
theorem W9{c:fG}{L6:O}(g:Gd B F K A H C s)(hv:O3 c=G v):Ae B F K A H C s (eval (.Constant c L6 pos) F.env) (RV v):=by cases c with
 |none=>refine Br (P:=λv=>Ae B F K A H C s _ (RV v)) hv ?_;exactλ_ _ k=>wpAny_Constant_none (k _ C s g (Nx.refl ..) rfl)|bool b=>refine Br (P:=λv=>Ae B F K A H C s _ (RV v)) hv ?_;exactλ_ _ k=>t8 (k _ C s g (Nx.refl ..) rfl)|int i=>refine Br (P:=λv=>Ae B F K A H C s _ (RV v)) hv ?_;exactλ_ _ k=>br2 (k _ C _ (g.tok _) (Nx.refl ..) ⟨_,rfl⟩)|str x=>refine Br (P:=λv=>Ae B F K A H C s _ (RV v)) hv ?_;exactλ_ _ k=>fZ (k _ C _ (g.tok _) (Nx.refl ..) ⟨_,rfl⟩)|_=>exact(AF hv).elim
end
structure CM(B:Bs)(F:Fm)(C:I A8)(h:BK)(AE:A8):Prop where
 C:AE∉C
 w:AE∉F.AZ
 cells:∀c∈F.env.cells,c.2≠AE
 base:B.base.get? AE=L
 outs:AE∉F.outs.filterMap (·.frame)live:∃o,h.get? AE=G o
section
noncomputable def E6(h:BK)(C:I A8)(it:It)(i:O)(AE:A8):Prop:=match it with
 |.tup Y=>∃T us,T≠AE/\h.IsTupleIter AE T i/\h.IsTuple T us/\Aa h C Y us.toList|.H9 lo hi=>∃left,IsRangeIter h AE (lo+(i:AX)) left 1/\left=max (hi-lo) 0-(i:AX)|.lst k=>∃a,C[k]?=G a/\h.IsListIter AE a i|.keys k n=>∃a,C[k]?=G a/\h.IsKeyIter AE a i n n|.K2 _=>Bj
end
theorem FG{r r':AS}(h:A0.ok r H=.ok r' A7):r=r'/\H=A7:=by injection h with a b;exact⟨a,b⟩
theorem B5{v v':Mine.V}(h:A0.ok (.v v) H=.ok (.v v') A7){P:Mine.V->Mine.St->Prop}(k:P v H):P v' A7:=by injection h with a b;injection a with a;subst a;subst b;exact k
theorem BX{v v':Fl}(h:A0.ok (.f v) H=.ok (.f v') A7){P:Fl->Mine.St->Prop}(k:P v H):P v' A7:=by injection h with a b;injection a with a;subst a;subst b;exact k
theorem OB{r r':AS}(h:A0.ok r H=.ok r' A7){P:Mine.St->Prop}(k:P H):P A7:=(FG h).2▸k
theorem BY{v v':I Mine.V}(h:A0.ok (.vs v) H=.ok (.vs v') A7){P:I Mine.V->Mine.St->Prop}(k:P v H):P v' A7:=by injection h with a b;injection a with a;subst a;subst b;exact k
theorem BZ{v v':AK}(h:A0.ok (.b v) H=.ok (.b v') A7){P:AK->Mine.St->Prop}(k:P v H):P v' A7:=by injection h with a b;injection a with a;subst a;subst b;exact k
theorem A0.Cg{o:A0}{k:Mine.V->Mine.St->A0}{r:AS}(h:o.V k=.ok r A7){P:Prop}(c:∀v AB,o=.ok (.v v) AB->k v AB=.ok r A7->P):P:=by cases o with
 |bad=>exact(Ac h).elim|ok x AB=>cases x with
 |v v=>exact c v AB rfl h|_=>exact(Ac h).elim
theorem A0.L7{o:A0}{k:I Mine.V->Mine.St->A0}{r:AS}(h:o.A1 k=.ok r A7){P:Prop}(c:∀v AB,o=.ok (.vs v) AB->k v AB=.ok r A7->P):P:=by cases o with
 |bad=>exact(Ac h).elim|ok x AB=>cases x with
 |vs v=>exact c v AB rfl h|_=>exact(Ac h).elim
theorem A0.OC{o:A0}{k:AK->Mine.St->A0}{r:AS}(h:o.B k=.ok r A7){P:Prop}(c:∀v AB,o=.ok (.b v) AB->k v AB=.ok r A7->P):P:=by cases o with
 |bad=>exact(Ac h).elim|ok x AB=>cases x with
 |b v=>exact c v AB rfl h|_=>exact(Ac h).elim
theorem A0.Hw{o:A0}{k:Fl->Mine.St->A0}{r:AS}(h:o.F k=.ok r A7){P:Prop}(c:∀v AB,o=.ok (.f v) AB->k v AB=.ok r A7->P):P:=by cases o with
 |bad=>exact(Ac h).elim|ok x AB=>cases x with
 |f v=>exact c v AB rfl h|_=>exact(Ac h).elim
theorem A0.kV{o:A0}(h:o.nx=.ok (.f f) A7):f=.next/\∃f',o=.ok (.f f') A7:=A0.Hw h λf' _ e h=>BX h (P:=λf A7=>f=.next/\∃f',o=.ok (.f f') A7) ⟨rfl,f',e⟩
theorem A0.xo{o:A0}{k:Mine.V->Mine.St->A0}(h:(o.V λv H=>(k v H).nx)=.ok (.f f) A7):f=.next/\∃f',o.V k=.ok (.f f') A7:=A0.Cg h λv H e h=>by rw[e];exact A0.kV h
theorem A0.Bx{o:AD J}{k:J->A0}{r:AS}(h:A0.of o k=.ok r A7){P:Prop}(c:∀v,o=G v->k v=.ok r A7->P):P:=by cases o with
 |none=>exact(Ac h).elim|some v=>exact c v rfl h
theorem A0.Be{o:A0}{r:AS}(h:A0.iff b o=.ok r A7){P:Prop}(c:b=M->o=.ok r A7->P):P:=by cases b with
 |false=>exact(Ac h).elim|true=>exact c rfl h
theorem A0.MU{v:Mine.V}{k:O->I Mine.V->A0}{r:AS}(h:A0.lst hp v k=.ok r A7){P:Mine.V->Prop}(c:∀i Y,AL hp i=G (.list Y)->k i Y=.ok r A7->P (.ref i)):P v:=by
 apply EI h Ac;intro i h;cases e:AL hp i with
 |none=>rw[e]at h;exact(Ac h).elim|some o=>rw[e]at h;cases o with
 |list Y=>exact c i Y e h|_=>exact(Ac h).elim
theorem A0.OD{k:O->I (Mine.V×Mine.V)->A0}{r:AS}(h:A0.F1 hp (.ref i) k=.ok r A7){P:Prop}(c:∀Y,AL hp i=G (.dict Y)->k i Y=.ok r A7->P):P:=by
 have h:(oS (AL hp i) .bad λo=>FV o .bad (k i))=A0.ok r A7:=h;cases e:AL hp i with
 |none=>rw[e]at h;exact(Ac h).elim|some o=>rw[e]at h;cases o with
 |dict Y=>exact c Y e h|_=>exact(Ac h).elim
theorem A0.xp{v:Mine.V}{k:O->I (Mine.V×Mine.V)->A0}{r:AS}(h:A0.F1 hp v k=.ok r A7){P:Mine.V->Prop}(c:∀i Y,AL hp i=G (.dict Y)->k i Y=.ok r A7->P (.ref i)):P v:=EI h Ac λi h=>A0.OD (hp:=hp) (i:=i) (k:=k) h (c i)
theorem MW{x:AD V}(h:Fk x H=.ok (.v v) A7):x=G v/\A7=H:=by
 refine A0.Bx h λw e h=>?_;apply B5 h;exact⟨e,rfl⟩
structure C5(B:Bs)(A3:Mine.Ctx)(n:O):Prop where
 e:∀{K:Kx}{x:AA}{H A7:Mine.St}{v:V},ev A3 n K (.e x) H=.ok (.v v) A7->∀{F:Fm}{A:CK}{C:I A8}{s:AR},Gd B F K A H C s->Ae B F K A A7 C s (eval x F.env) (RV v)N:∀{K:Kx}{l:I AA}{H A7:Mine.St}{v:I V},ev A3 n K (.N l) H=.ok (.vs v) A7->∀{F:Fm}{A:CK}{C:I A8}{s:AR}(pos:B9),Gd B F K A H C s->Ae B F K A A7 C s (Lp (F9 pos (E' l F.env))) (OA v)t:∀{K:Kx}{x:AA}{H A7:Mine.St}{v:AK},ev A3 n K (.t x) H=.ok (.b v) A7->∀{F:Fm}{A:CK}{C:I A8}{s:AR},Gd B F K A H C s->Ae B F K A A7 C s (NS x F.env (eval x F.env)) (RB v)ts:∀{K:Kx}{a:AK}{l:I AA}{H A7:Mine.St}{v:AK},ev A3 n K (.ts a l) H=.ok (.b v) A7->∀{F:Fm}{A:CK}{C:I A8}{s:AR},Gd B F K A H C s->Ae B F K A A7 C s (allTrue (if a then .And else .Or) l F.env) (RB v)s:∀{K:Kx}{x:As}{H A7:Mine.St}{f:Fl},ev A3 n K (.s x) H=.ok (.f f) A7->∀{F:Fm}{A:CK}{C:I A8}{s:AR},Gd B F K A H C s->CJ B F K A A7 C s (exec x F.env) (FR f)ss:∀{K:Kx}{l:I As}{H A7:Mine.St}{f:Fl},ev A3 n K (.ss l) H=.ok (.f f) A7->∀{F:Fm}{A:CK}{C:I A8}{s:AR},Gd B F K A H C s->CJ B F K A A7 C s (J2 l F.env) (FR f)asg:∀{K:Kx}{t:AA}{v:V}{H A7:Mine.St}{f:Fl},ev A3 n K (.asg t v) H=.ok (.f f) A7->∀{F:Fm}{A:CK}{C:I A8}{s:AR}{u:A4},Gd B F K A H C s->VR s.heap C v u->CJ B F K A A7 C s (Ex t F.env u) RU
 MH:∀{K:Kx}{ts:I AA}{vs:I V}{H A7:Mine.St}{f:Fl},ev A3 n K (.MH ts vs) H=.ok (.f f) A7->∀{F:Fm}{A:CK}{C:I A8}{s:AR}{us:I A4},Gd B F K A H C s->Aa s.heap C vs us->CJ B F K A A7 C s (NT ((GJ ts F.env).map (·.2)) us) RU
 GR:∀{K:Kx}{ts:I AA}{v:V}{H A7:Mine.St}{f:Fl},ev A3 n K (.GR ts v) H=.ok (.f f) A7->∀{F:Fm}{A:CK}{C:I A8}{s:AR}{u:A4},Gd B F K A H C s->VR s.heap C v u->CJ B F K A A7 C s (f_ u ((GJ ts F.env).map (·.2))) RU
 xq:∀{K:Kx}{v:V}{H A7:Mine.St}{r:AS},ev A3 n K (.GR [] v) H=.ok r A7->A7=H
 xr:∀{K:Kx}{id:U}{pos:B9}{v:V}{H A7:Mine.St}{f:Fl},ev A3 n K (.asg (.Name id pos) v) H=.ok (.f f) A7->∀{F:Fm}{A:CK}{C:I A8}{s:AR}{u:A4},Gd B F K A H C s->VR s.heap C v u->CJ B F K A A7 C s (fa F.env id u) RU
 call:∀{K:Kx}{f:V}{args:I V}{H A7:Mine.St}{v:V},ev A3 n K (.call f args) H=.ok (.v v) A7->∀{F:Fm}{A:CK}{C:I A8}{s:AR}{fu:A4}{us:I A4},Gd B F K A H C s->VR s.heap C f fu->Aa s.heap C args us->Ae B F K A A7 C s (CE fu us) (RV v)MI:∀{K:Kx}{t:AA}{b:I As}{H A7:Mine.St}{f:Fl},ev A3 n K (.MI t b) H=.ok (.f f) A7->∀{F:Fm}{A:CK}{C:I A8}{s:AR}{AS:Dt->AR->Prop},Gd B F K A H C s->(∀u AT s',Gd B F K A A7 AT s'->Nx F.D F.AZ s.heap s'.heap C AT->FR f s'.heap AT u->AS (.ok u) s')->D7 (AQ B.prog B.w) A (.whileLoop t b [] F.env) AS s
 loop:∀{K:Kx}{t:AA}{it:It}{i:O}{b:I As}{H A7:Mine.St}{f:Fl},ev A3 n K (.loop t it i b) H=.ok (.f f) A7->∀{F:Fm}{A:CK}{C BG:I A8}{s:AR}{Af:BK}{AE:A8}{AS:Dt->AR->Prop},Gd B F K A H C s->Nx F.D F.AZ Af s.heap BG C->Af.get? AE=L->CM B F C s.heap AE->E6 s.heap C it i AE->(∀u AT s',Gd B F K A A7 AT s'->Nx F.D F.AZ Af s'.heap BG AT->FR f s'.heap AT u->AS (.ok u) s')->D7 (AQ B.prog B.w) A (.forLoop t (.ref AE) b [] F.env) AS s
theorem C5.eW(A9:C5 B A3 n){x:AA}(h:ev A3 n K (.e x) H=.ok (.v v) A7)(g:Gd B F K A H C s):CJ B F K A A7 C s (eval x F.env) (RV v):=(A9.e h g).T8
theorem C5.tW(A9:C5 B A3 n){x:AA}{v:AK}(h:ev A3 n K (.t x) H=.ok (.b v) A7)(g:Gd B F K A H C s):CJ B F K A A7 C s (NS x F.env (eval x F.env)) (RB v):=(A9.t h g).T8
section
theorem xs(A9:C5 B A3 n){t a b:AA}(h:Fp A3 K (ev A3 n) (.IfExp t a b pos) H=.ok (.v v) A7)(g:Gd B F K A H C s):Ae B F K A A7 C s (eval (.IfExp t a b pos) F.env) (RV v):=by
 refine A0.OC h ?_;intro c AB AP BD;intro A2 E k;refine wpAny_IfExp (A9.t AP g _ _ λu A_ AJ AN Ab Aq=>?_);clear AP;subst Aq;cases u;. exact A9.e BD AN _ _ λu Au Ai AU Al BB=>k u Au Ai AU (Ab.trans Al) BB
 . exact A9.e BD AN _ _ λu Au Ai AU Al BB=>k u Au Ai AU (Ab.trans Al) BB
theorem aS{x:AA}(h:CP x=M):(∀l env,E' (x::l) env=(A6,eval x env)::E' l env)/\(∀ts env,GJ (x::ts) env=(A6,Ex x env)::GJ ts env)/\∀env v,t9 x env v=pure v:=by cases x<;>first|exact⟨λ_ _=>rfl,λ_ _=>rfl,λ_ _=>rfl⟩|exact(E5 h).elim
theorem K7{x:AA}(h:CP x=M){l:I AA}:E' (x::l) env=(A6,eval x env)::E' l env:=(aS h).1 l env
theorem aT{t:AA}(h:CP t=M):GJ (t::ts) env=(A6,Ex t env)::GJ ts env:=(aS h).2.1 ts env
theorem QK(h:CP e=M)(x:A4):t9 e env x=pure x:=(aS h).2.2 env x
theorem xt(A9:C5 B A3 n){l:I AA}{v:I V}(h:step A3 K (ev A3 n) (.N l) H=.ok (.vs v) A7)(pos:B9)(g:Gd B F K A H C s):Ae B F K A A7 C s (Lp (F9 pos (E' l F.env))) (OA v):=by
 intro A2 E k;cases l with
 |nil=>
  (first|(revert k;(first|apply BX h|apply B5 h|apply BY h|apply BZ h|apply B_ h);intro k)|apply BX h|apply B5 h|apply BY h|apply BZ h|apply B_ h);exact Up (k [] C s g (Nx.refl ..) rfl)|cons x l=>
  refine A0.Be h ?_;clear h;intro hp h;refine A0.Cg h ?_;clear h;intro a AB AP h;refine A0.L7 h ?_;clear h;intro b Bc BD h;(first|(revert k;(first|apply BX h|apply B5 h|apply BY h|apply BZ h|apply B_ h);intro k)|apply BX h|apply B5 h|apply BY h|apply BZ h|apply B_ h);refine Lq (A9.e AP g _ _ λu A_ AJ AN Ab Aq=>A9.N BD pos AN _ _ λus Au Ai AU Al BB=>k _ Au Ai AU (Ab.trans Al) ⟨u,us,rfl,Aq.nx Al,BB⟩) (K7 hp)
theorem xu(A9:C5 B A3 n){l:I As}(h:step A3 K (ev A3 n) (.ss l) H=.ok (.f f) A7)(g:Gd B F K A H C s):CJ B F K A A7 C s (J2 l F.env) (FR f):=by
 intro A2 E k;cases l with
 |nil=>
  (first|(revert k;(first|apply BX h|apply B5 h|apply BY h|apply BZ h|apply B_ h);intro k)|apply BX h|apply B5 h|apply BY h|apply BZ h|apply B_ h);exact G1 (k .next C s g (Nx.refl ..) rfl)|cons x l=>
  refine A0.Hw h ?_;clear h;intro a AB AP h;refine DH (A9.s AP g _ _ λu A_ AJ AN Ab Aq=>?_);cases a with
 |next=>
   cases Aq;exact A9.ss h AN _ _ λus Au Ai AU Al BB=>k _ Au Ai AU (Ab.trans Al) BB|brk=>
   cases Aq;(first|(revert k;(first|apply BX h|apply B5 h|apply BY h|apply BZ h|apply B_ h);intro k)|apply BX h|apply B5 h|apply BY h|apply BZ h|apply B_ h);exact k _ A_ AJ AN Ab rfl|cont=>
   cases Aq;(first|(revert k;(first|apply BX h|apply B5 h|apply BY h|apply BZ h|apply B_ h);intro k)|apply BX h|apply B5 h|apply BY h|apply BZ h|apply B_ h);exact k _ A_ AJ AN Ab rfl|ret v=>
   refine AC Aq ?_;(try clear Aq);intro y Bg Aq;subst Bg;(first|(revert k;(first|apply BX h|apply B5 h|apply BY h|apply BZ h|apply B_ h);intro k)|apply BX h|apply B5 h|apply BY h|apply BZ h|apply B_ h);exact k _ A_ AJ AN Ab ⟨y,rfl,Aq⟩
structure Lf(B:Bs):Prop where
 truthy:∀{F:Fm}{K:Kx}{A:CK}{H:Mine.St}{C:I A8}{s:AR}{v:V}{u:A4}{b:AK},Gd B F K A H C s->VR s.heap C v u->Mine.truthy v H.h=G b->Ae B F K A H C s (tA u) (RB b)cmp:∀{F:Fm}{K:Kx}{A:CK}{H:Mine.St}{C:I A8}{s:AR}{op:PO}{v v':V}{u u':A4}{b:AK},Gd B F K A H C s->VR s.heap C v u->VR s.heap C v' u'->Vk op v v' H.h=G b->Ae B F K A H C s (Db op u u') (λ_ _ r=>r=.bool b)xv:∀{F:Fm}{K:Kx}{A:CK}{H:Mine.St}{C:I A8}{s:AR}{op:Jj}{v v' r:V}{u u':A4},Gd B F K A H C s->VR s.heap C v u->VR s.heap C v' u'->Zq op v v'=G r->Ae B F K A H C s (inplaceOp op u u') (RV r)bin:∀{F:Fm}{K:Kx}{A:CK}{H A7:Mine.St}{C:I A8}{s:AR}{op:Jj}{v v' r:V}{u u':A4},Gd B F K A H C s->VR s.heap C v u->VR s.heap C v' u'->Vu op v v' H=.ok (.v r) A7->Ae B F K A A7 C s (Ey op u u') (RV r)
theorem xw(A9:C5 B A3 n)(Lo:Lf B){l r:AA}(hr:Sv l op r=L)(h:Fp A3 K (ev A3 n) (.BinOp l op r pos) H=.ok (.v v) A7)(g:Gd B F K A H C s):Ae B F K A A7 C s (eval (.BinOp l op r pos) F.env) (RV v):=by
 refine M6 h (λx e _=>by rw[hr]at e;exact(AF e).elim) λ_ h=>?_;refine A0.Cg h ?_;clear h;intro a AB AP h;refine A0.Cg h ?_;clear h;intro b Bc BD h;intro A2 E k;exact tB (A9.e AP g _ _ λu A_ AJ AN Ab Aq=>A9.e BD AN _ _ λu' Au Ai AU Al BB=>Lo.bin AU (Aq.nx Al) BB h _ _ λy BS Ax Ap B8 BQ=>k y BS Ax Ap (Ab.trans (Al.trans B8)) BQ)
theorem xz(A9:C5 B A3 n)(Lo:Lf B){l r:AA}{op:PO}(h:Fp A3 K (ev A3 n) (.Compare l [op] [r] pos) H=.ok (.v v) A7)(g:Gd B F K A H C s):Ae B F K A A7 C s (eval (.Compare l [op] [r] pos) F.env) (RV v):=by
 refine A0.Be h ?_;clear h;intro hm h;refine A0.Cg h ?_;clear h;intro a AB AP h;refine A0.Cg h ?_;clear h;intro b Bc BD h;refine A0.Bx h ?_;clear h;intro c C3 h;(first|(revert k;(first|apply BX h|apply B5 h|apply BY h|apply BZ h|apply B_ h);intro k)|apply BX h|apply B5 h|apply BY h|apply BZ h|apply B_ h);intro A2 E k;refine br3 (A9.e AP g _ _ λu A_ AJ AN Ab Aq=>A9.e BD AN _ _ λu' Au Ai AU Al BB=>Lo.cmp AU (Aq.nx Al) BB C3 _ _ λy BS Ax Ap B8 BQ=>k y BS Ax Ap (Ab.trans (Al.trans B8)) BQ) (by simpa using hm)
theorem y0(A9:C5 B A3 n)(Lo:Lf B){a b:AA}(h:Fp A3 K (ev A3 n) (.BoolOp .Or [a,b] pos) H=.ok (.v v) A7)(g:Gd B F K A H C s):Ae B F K A A7 C s (eval (.BoolOp .Or [a,b] pos) F.env) (RV v):=by
 refine A0.Cg h ?_;clear h;intro x AB AP h;refine A0.Bx h ?_;clear h;intro c C3 h;intro A2 E k;refine wpAny_Or2 (A9.e AP g _ _ λu A_ AJ AN Ab Aq=>Lo.truthy AN Aq C3 _ _ λy BS Ax Ap B8 BQ=>?_);clear C3;subst BQ;cases y with
 |true=>
  (first|(revert k;(first|apply BX h|apply B5 h|apply BY h|apply BZ h|apply B_ h);intro k)|apply BX h|apply B5 h|apply BY h|apply BZ h|apply B_ h);exact k u BS Ax Ap (Ab.trans B8) (Aq.nx B8)|false=>exact A9.e h Ap _ _ λu' Au Ai AU Al BB=>k u' Au Ai AU (Ab.trans (B8.trans Al)) BB
theorem y1(A9:C5 B A3 n){l:I AA}(h:Fp A3 K (ev A3 n) (.Tuple l kd pos) H=.ok (.v v) A7)(g:Gd B F K A H C s):Ae B F K A A7 C s (eval (.Tuple l kd pos) F.env) (RV v):=by
 refine A0.L7 h ?_;clear h;intro a AB AP h;refine A0.Be h ?_;clear h;intro hf h;(first|(revert k;(first|apply BX h|apply B5 h|apply BY h|apply BZ h|apply B_ h);intro k)|apply BX h|apply B5 h|apply BY h|apply BZ h|apply B_ h);intro A2 E k;refine wpAny_Tuple (A9.N AP pos g _ _ λus A_ AJ AN Ab Aq=>⟨?_,?_⟩)
 . rw[<-Aq.length];exact B4 (Dk hf) (by decide)
 . have kp:∀b o,AJ.heap.get? b=G o->(AJ.heap.push {cls:=.type "tuple",data:=.seq us.toArray}).get? b=G o:=λb o e=>C1 _ e;refine k _ A_ _ (AN.ext (tk:=AJ.toks) kp) (Ab.trans (Nx.ext kp)) ⟨_,_,us.toArray,0,rfl,CY _ rfl,⟨rfl,λ_=>⟨rfl,rfl⟩⟩,rfl,rfl,?_⟩;have :=Aq.mono (J:=[]) (Q:=AJ.heap.push {cls:=.type "tuple",data:=.seq us.toArray}) (λb o e _=>kp b o e);simpa using this
theorem y2(A9:C5 B A3 n){l:I AA}(h:Fp A3 K (ev A3 n) (.List l pos) H=.ok (.v v) A7)(g:Gd B F K A H C s):Ae B F K A A7 C s (eval (.List l pos) F.env) (RV v):=by
 refine A0.L7 h ?_;clear h;intro a AB AP h;refine A0.Be h ?_;clear h;intro hf h;(first|(revert k;(first|apply BX h|apply B5 h|apply BY h|apply BZ h|apply B_ h);intro k)|apply BX h|apply B5 h|apply BY h|apply BZ h|apply B_ h);intro A2 E k;refine wpAny_List (A9.N AP pos g _ _ λus A_ AJ AN Ab Aq=>⟨?_,?_⟩)
 . rw[<-Aq.length];exact B4 (Dk hf) (by decide)
 . have kp:∀b o,AJ.heap.get? b=G o->(AJ.heap.push {cls:=.type "list",data:=.seq us.toArray}).get? b=G o:=λb o e=>C1 _ e;have hn:AJ.heap.get? AJ.heap.objs.size=L:=by cases e:AJ.heap.get? AJ.heap.objs.size with
 |none=>rfl|some o=>exact absurd (Dh e) (J0 _)
   have hg:=CY AJ.heap (o:={cls:=.type "list",data:=.seq us.toArray}) rfl;refine k _ (A_++[AJ.heap.objs.size]) _ (AN.new (tk:=AJ.toks) kp hn ⟨_,hg⟩ (o:=.list a) ⟨us.toArray,⟨_,hg⟩,?_⟩) (Ab.trans (Nx.add [_] kp λb hb=>by rw[CI.mp hb];exact hn)) ⟨_,?_,rfl⟩;. exact Aq.mono (λb o e _=>kp b o e)
   . rw[<-AN.len];simp
end
section
theorem y3(A9:C5 B A3 n){a:AK}{l:I AA}{v:AK}(h:step A3 K (ev A3 n) (.ts a l) H=.ok (.b v) A7)(g:Gd B F K A H C s):Ae B F K A A7 C s (allTrue (if a then .And else .Or) l F.env) (RB v):=by
 intro A2 E k;cases l with
 |nil=>
  (first|(revert k;(first|apply BX h|apply B5 h|apply BY h|apply BZ h|apply B_ h);intro k)|apply BX h|apply B5 h|apply BY h|apply BZ h|apply B_ h);cases a;. exact wpAny_allTrue_Or_nil (k _ C s g (Nx.refl ..) rfl)
  . exact wpAny_allTrue_And_nil (k _ C s g (Nx.refl ..) rfl)|cons x l=>
  refine A0.OC h ?_;clear h;intro b AB AP h;cases a
  . refine wpAny_allTrue_Or_cons (A9.t AP g _ _ λu A_ AJ AN Ab Aq=>?_);clear AP;subst Aq;cases u;. exact A9.ts (a:=A6) h AN _ _ λu' Au Ai AU Al BB=>k u' Au Ai AU (Ab.trans Al) BB
    . (first|(revert k;(first|apply BX h|apply B5 h|apply BY h|apply BZ h|apply B_ h);intro k)|apply BX h|apply B5 h|apply BY h|apply BZ h|apply B_ h);exact k _ A_ AJ AN Ab rfl
  . refine wpAny_allTrue_And_cons (A9.t AP g _ _ λu A_ AJ AN Ab Aq=>?_);clear AP;subst Aq;cases u
    . (first|(revert k;(first|apply BX h|apply B5 h|apply BY h|apply BZ h|apply B_ h);intro k)|apply BX h|apply B5 h|apply BY h|apply BZ h|apply B_ h);exact k _ A_ AJ AN Ab rfl
    . exact A9.ts (a:=M) h AN _ _ λu' Au Ai AU Al BB=>k u' Au Ai AU (Ab.trans Al) BB
theorem kW(A9:C5 B A3 n)(Lo:Lf B){x:AA}{v:AK}(h:((ev A3 n K (.e x) H).V λv H=>a5 (truthy v H.h) H)=.ok (.b v) A7)(g:Gd B F K A H C s)(he:NS x F.env (eval x F.env)=(do let v<-eval x F.env;Kh x.pos;Hf [v] (tA v))):Ae B F K A A7 C s (NS x F.env (eval x F.env)) (RB v):=by
 intro A2 E k;refine A0.Cg h ?_;clear h;intro a AB AP h;refine A0.Bx h ?_;clear h;intro b BD h;(first|(revert k;(first|apply BX h|apply B5 h|apply BY h|apply BZ h|apply B_ h);intro k)|apply BX h|apply B5 h|apply BY h|apply BZ h|apply B_ h);exact tC (A9.e AP g _ _ λu A_ AJ AN Ab Aq=>Lo.truthy AN Aq BD _ _ λy Au Ai AU Al BB=>k y Au Ai AU (Ab.trans Al) BB) he
theorem y4(A9:C5 B A3 n)(Lo:Lf B){x:AA}{v:AK}(h:step A3 K (ev A3 n) (.t x) H=.ok (.b v) A7)(g:Gd B F K A H C s):Ae B F K A A7 C s (NS x F.env (eval x F.env)) (RB v):=by cases x with
 |UnaryOp op x pos=>cases op with
  |Not=>
   intro A2 E k;refine A0.OC h ?_;clear h;intro b AB AP h;(first|(revert k;(first|apply BX h|apply B5 h|apply BY h|apply BZ h|apply B_ h);intro k)|apply BX h|apply B5 h|apply BY h|apply BZ h|apply B_ h);refine wpAny_isTrue_Not (A9.t AP g _ _ λu A_ AJ AN Ab Aq=>?_);clear h AP;subst Aq;exact k _ A_ AJ AN Ab rfl|_=>exact kW A9 Lo h g rfl
 |BoolOp op Y pos=>
  intro A2 E k;refine wpAny_isTrue_BoolOp ?_;have :=A9.ts h g A2 E k;cases op<;>exact this|IfExp=>exact(Ac h).elim|Compare l CN rs pos=>cases CN with
  |nil=>exact(Ac h).elim|cons op CN=>cases CN with
  |cons _ _=>exact(Ac h).elim|nil=>cases rs with
  |nil=>exact(Ac h).elim|cons r rs=>cases rs with
  |cons _ _=>exact(Ac h).elim|nil=>
   refine A0.Be h ?_;clear h;intro hm h;refine A0.Cg h ?_;clear h;intro a AB AP h;refine A0.Cg h ?_;clear h;intro b Bc BD h;refine A0.Bx h ?_;clear h;intro c C3 h;(first|(revert k;(first|apply BX h|apply B5 h|apply BY h|apply BZ h|apply B_ h);intro k)|apply BX h|apply B5 h|apply BY h|apply BZ h|apply B_ h);intro A2 E k;refine fb (A9.e AP g _ _ λu A_ AJ AN Ab Aq=>A9.e BD AN _ _ λu' Au Ai AU Al BB=>Lo.cmp AU (Aq.nx Al) BB C3 _ _ λy BS Ax Ap B8 BQ=>?_) (by simpa using hm);subst BQ;exact NU (k _ BS Ax Ap (Ab.trans (Al.trans B8)) rfl)
 |_=>exact kW A9 Lo h g rfl
theorem y5(A9:C5 B A3 n){t:AA}{a b:I As}(h:IW K (ev A3 n) (.If t a b pos) H=.ok (.f f) A7)(g:Gd B F K A H C s):CJ B F K A A7 C s (exec (.If t a b pos) F.env) (FR f):=by
 refine A0.OC h ?_;intro c AB AP BD;intro A2 E k;refine tD (A9.tW AP g _ _ λu A_ AJ AN Ab Aq=>?_);clear AP;subst Aq;cases u;. exact A9.ss BD AN _ _ λu Au Ai AU Al BB=>k u Au Ai AU (Ab.trans Al) BB
 . exact A9.ss BD AN _ _ λu Au Ai AU Al BB=>k u Au Ai AU (Ab.trans Al) BB
theorem y6(A9:C5 B A3 n)(h:IW K (ev A3 n) (.Return (G e) pos) H=.ok (.f f) A7)(g:Gd B F K A H C s):CJ B F K A A7 C s (exec (.Return (G e) pos) F.env) (FR f):=by
 refine A0.Cg h ?_;clear h;intro a AB AP h;(first|(revert k;(first|apply BX h|apply B5 h|apply BY h|apply BZ h|apply B_ h);intro k)|apply BX h|apply B5 h|apply BY h|apply BZ h|apply B_ h);intro A2 E k;exact tE (A9.eW AP g _ _ λu A_ AJ AN Ab Aq=>k _ A_ AJ AN Ab ⟨u,rfl,Aq⟩)
theorem y7(h:IW K (ev A3 n) (.Return L pos) H=.ok (.f f) A7)(g:Gd B F K A H C s):CJ B F K A A7 C s (exec (.Return L pos) F.env) (FR f):=by
 (first|(revert k;(first|apply BX h|apply B5 h|apply BY h|apply BZ h|apply B_ h);intro k)|apply BX h|apply B5 h|apply BY h|apply BZ h|apply B_ h);intro A2 E k;exact wpAny_Return_none (k _ C s g (Nx.refl ..) ⟨.none,rfl,rfl⟩)
theorem y8(h:IW K (ev A3 n) (.Pass pos) H=.ok (.f f) A7)(g:Gd B F K A H C s):CJ B F K A A7 C s (exec (.Pass pos) F.env) (FR f):=by
 (first|(revert k;(first|apply BX h|apply B5 h|apply BY h|apply BZ h|apply B_ h);intro k)|apply BX h|apply B5 h|apply BY h|apply BZ h|apply B_ h);exactλA2 E k=>wpAny_Pass (k _ C s g (Nx.refl ..) rfl)
theorem y9(h:IW K (ev A3 n) (.Break pos) H=.ok (.f f) A7)(g:Gd B F K A H C s):CJ B F K A A7 C s (exec (.Break pos) F.env) (FR f):=by
 (first|(revert k;(first|apply BX h|apply B5 h|apply BY h|apply BZ h|apply B_ h);intro k)|apply BX h|apply B5 h|apply BY h|apply BZ h|apply B_ h);exactλA2 E k=>wpAny_Break (k _ C s g (Nx.refl ..) rfl)
theorem yA(h:IW K (ev A3 n) (.Continue pos) H=.ok (.f f) A7)(g:Gd B F K A H C s):CJ B F K A A7 C s (exec (.Continue pos) F.env) (FR f):=by
 (first|(revert k;(first|apply BX h|apply B5 h|apply BY h|apply BZ h|apply B_ h);intro k)|apply BX h|apply B5 h|apply BY h|apply BZ h|apply B_ h);exactλA2 E k=>wpAny_Continue (k _ C s g (Nx.refl ..) rfl)
theorem kX(g:Gd B F K A H C s):(F.env.scope.kind==.class||(F.env.scope.kind==.module&&F.env.locals !=F.env.globals))=A6:=by rw[g.kinds.fn];rfl
theorem aU(h:Kz A3 K (ev A3 n) (.Name id pos) v H=.ok (.f f) A7)(g:Gd B F K A H C s)(r:VR s.heap C v u):CJ B F K A A7 C s (fa F.env id u) RU:=by
 intro A2 E k;refine A0.Be (b:=G8 K.sc id) h ?_;clear h;intro ho h;(first|(revert k;apply OB h;intro k)|apply OB h);refine CZ g.env ?_;intro m ns ce er;rcases g.kinds.own id ho with q|Aw;rotate_left;refine Ho Aw ?_;(try clear Aw);intro q c hc hw;rotate_left
 . refine br4 q ns (λQ hn hs=>?_) (kX g);refine xA (g.kR (Q:=Q) (tk:=s.toks+1) q r er hn hs) ?_;intro g' x';exact k () C _ g' x' trivial
 . have hv:∃T7,s.heap.IsCell c T7:=ce _ (mem_of_lookup hc);refine xE hv ?_;(try clear hv);intro T7 hv;refine br5 g.kinds.fn q hc hv (λQ hn hs=>?_);refine xA (g.kS (Q:=Q) (tk:=s.toks) q hc hw r hv hn hs) ?_;intro g' x';exact k () C _ g' x' trivial
end
theorem WA:(GJ ts env).length=ts.length:=by induction ts with
 |nil=>rfl|cons t ts ih=>cases t<;>exact congrArg Nat.succ ih
section
theorem yB(A9:C5 B A3 n)(h:step A3 K (ev A3 n) (.MH ts vs) H=.ok (.f f) A7)(g:Gd B F K A H C s)(r:Aa s.heap C vs us):CJ B F K A A7 C s (NT ((GJ ts F.env).map (·.2)) us) RU:=by
 intro A2 E k;cases ts with
 |nil=>cases vs with
  |cons _ _=>exact(Ac h).elim|nil=>
  (first|(revert k;apply OB h;intro k)|apply OB h);cases r;exact AW (k () C s g (Nx.refl ..) trivial)
 |cons t ts=>cases vs with
 |nil=>exact(Ac h).elim|cons v vs=>
  refine A0.Be h ?_;clear h;intro hp h;refine A0.Hw h ?_;clear h;intro _ AB AP h;refine Bv r ?_;(try clear r);intro u us B6 r rs;subst B6;rw[aT hp];show AH _ A (do Hf us (Ex t F.env u);NT ((GJ ts F.env).map (·.2)) us) A2 E s;exact A5 (C0 (A9.asg AP g r _ _ λ_ A_ AJ AN Ab _=>A9.MH h AN (rs.nx Ab) _ _ λ_ Au Ai AU Al _=>k () Au Ai AU (Ab.trans Al) trivial))
theorem yE(A9:C5 B A3 n)(h:step A3 K (ev A3 n) (.GR ts v) H=.ok (.f f) A7)(g:Gd B F K A H C s)(r:VR s.heap C v u):CJ B F K A A7 C s (f_ u ((GJ ts F.env).map (·.2))) RU:=by
 intro A2 E k;cases ts with
 |nil=>
  (first|(revert k;apply OB h;intro k)|apply OB h);exact AW (k () C s g (Nx.refl ..) trivial)|cons t ts=>
  refine A0.Be h ?_;clear h;intro hp h;refine A0.Hw h ?_;clear h;intro _ AB AP h;rw[aT hp];cases ts with
 |nil=>
   show AH _ A (Ex t F.env u) A2 E s;refine A9.asg AP g r _ _ λ_ A_ AJ AN Ab _=>?_;obtain rfl:=A9.xq h;exact k () A_ AJ AN Ab trivial|cons t' ts=>
   have e':((A6,Ex t F.env)::GJ (t'::ts) F.env).map (·.2)=Ex t F.env::(GJ (t'::ts) F.env).map (·.2):=rfl;rw[e'];have Cc:∃y ys,(GJ (t'::ts) F.env).map (·.2)=y::ys:=by
    have :=WA (ts:=t'::ts) (env:=F.env);cases q:GJ (t'::ts) F.env with
 |nil=>rw[q]at this;(exfalso;cases this)|cons y ys=>exact⟨_,_,rfl⟩
   have step:f_ u (Ex t F.env::(GJ (t'::ts) F.env).map (·.2))=(do Hf [u] (Ex t F.env u);f_ u ((GJ (t'::ts) F.env).map (·.2))):=by
    refine DB Cc ?_;(try clear Cc);intro y ys q;rw[q];rfl
   rw[step];exact A5 (C0 (A9.asg AP g r _ _ λ_ A_ AJ AN Ab _=>A9.GR h AN (r.nx Ab) _ _ λ_ Au Ai AU Al _=>k () Au Ai AU (Ab.trans Al) trivial))
theorem QL(r:VR h C (.tup L Y) u):∃a us,u=.ref a/\h.IsTuple a us/\Aa h C Y us.toList:=by
 refine Kt r ?_;(try clear r);intro a o us n BP e _ c d v;subst BP;exact⟨a,us,rfl,⟨o,e,c,n,d⟩,v⟩
theorem WB:∀{ts:I AA},ts.all CP=M->(GJ ts env).findIdx? (·.1)=L
 |[],_=>rfl|t::ts,h=>by
  simp only[tF,D6]at h;rw[aT h.1,List.findIdx?_cons];simp[WB h.2]
theorem yL(A9:C5 B A3 n)(h:Kz A3 K (ev A3 n) (.Tuple ts kd pos) (.tup L Y) H=.ok (.f f) A7)(g:Gd B F K A H C s)(r:VR s.heap C (.tup L Y) u):CJ B F K A A7 C s (Ex (.Tuple ts kd pos) F.env u) RU:=by
 refine A0.Be h ?_;clear h;intro hl h;simp only[D6]at hl;refine xA hl ?_;(try clear hl);intro hl hp;have hl:=CD hl;refine Bv (QL r) ?_;intro a us Bq ht rs;clear r;subst Bq;intro A2 E k;have Ch:ts.length=us.size:=by rw[<-hl,rs.length];simp
 refine br6 g.handled ht (by rw[WA,Ch]) (WB hp) λQ hx=>?_;have kp:∀b o,s.heap.get? b=G o->Q.get? b=G o:=λb o e=>hx b o (ER (Dh e)) e;have Ab:Nx F.D F.AZ s.heap Q C C:=Nx.ext kp;exact A9.MH h (g.ext (tk:=s.toks) kp) (rs.nx Ab) _ _ λ_ Au Ai AU Al _=>k () Au Ai AU (Ab.trans Al) trivial
theorem WC{t:AA}{b:I As}{AS:Dt->AR->Prop}(h:AH (AQ prog w) A (NS t env (eval t env)) (λc AJ=>if c then AH (AQ prog w) A (J2 b env) (λf Ai=>match f with
 |.next|.cont=>D7 (AQ prog w) A (.whileLoop t b [] env) AS Ai|.brk=>AS (.ok .next) Ai|.ret v=>AS (.ok (.ret v)) Ai) (RY (AQ prog w) A env λe s'=>AS (.error e) s') AJ else AS (.ok .next) AJ) (RY (AQ prog w) A env λe s'=>AS (.error e) s') s):D7 (AQ prog w) A (.whileLoop t b [] env) AS s:=by
 refine ff rfl (λ_ s'=>s'=s) (λn s' e=>?_) 0 rfl;subst e;show AH _ A ((br7 t b [] env).onRaise (λx=>do IE x env;fg x)) _ _ _;refine fh ?_;simp only[br7];refine A5 (Fg h (λc AJ AP=>?_) λ_ _ Q=>Q);cases c with
 |false=>exact A5 (G1 (AW AP))|true=>
 refine A5 (Fg AP (λf Ai BD=>?_) λ_ _ Q=>Q);cases f with
 |next=>exact AW (.inr ⟨rfl,BD⟩)|cont=>exact AW (.inr ⟨rfl,BD⟩)|brk=>exact AW BD|ret v=>exact AW BD
theorem yM(A9:C5 B A3 n){t:AA}{b:I As}(h:step A3 K (ev A3 n) (.MI t b) H=.ok (.f f) A7){AS:Dt->AR->Prop}(g:Gd B F K A H C s)(k:∀u AT s',Gd B F K A A7 AT s'->Nx F.D F.AZ s.heap s'.heap C AT->FR f s'.heap AT u->AS (.ok u) s'):D7 (AQ B.prog B.w) A (.whileLoop t b [] F.env) AS s:=by
 refine A0.OC h ?_;clear h;intro c AB AP h;refine WC (A9.tW AP g _ _ λu A_ AJ AN Ab Aq=>?_);clear AP;subst Aq;cases u with
 |false=>
  (first|(revert k;(first|apply BX h|apply B5 h|apply BY h|apply BZ h|apply B_ h);intro k)|apply BX h|apply B5 h|apply BY h|apply BZ h|apply B_ h);exact k _ A_ AJ AN Ab rfl|true=>
  refine A0.Hw h ?_;clear h;intro d Bc BD h;refine A9.ss BD AN _ _ λu Au Ai AU Al BB=>?_;cases d with
 |next=>cases BB;exact A9.MI h AU λu BS Ax Ap B8 BQ=>k u BS Ax Ap (Ab.trans (Al.trans B8)) BQ|cont=>cases BB;exact A9.MI h AU λu BS Ax Ap B8 BQ=>k u BS Ax Ap (Ab.trans (Al.trans B8)) BQ|brk=>
   cases BB;(first|(revert k;(first|apply BX h|apply B5 h|apply BY h|apply BZ h|apply B_ h);intro k)|apply BX h|apply B5 h|apply BY h|apply BZ h|apply B_ h);exact k _ Au Ai AU (Ab.trans Al) rfl|ret v=>
   refine AC BB ?_;(try clear BB);intro y C9 BB;subst C9;(first|(revert k;(first|apply BX h|apply B5 h|apply BY h|apply BZ h|apply B_ h);intro k)|apply BX h|apply B5 h|apply BY h|apply BZ h|apply B_ h);exact k _ Au Ai AU (Ab.trans Al) ⟨y,rfl,BB⟩
theorem yN(A9:C5 B A3 n){t:AA}{b:I As}(h:IW K (ev A3 n) (.While t b [] pos) H=.ok (.f f) A7)(g:Gd B F K A H C s):CJ B F K A A7 C s (exec (.While t b [] pos) F.env) (FR f):=λA2 E k=>tG (A9.MI h g λu AT s' g' x' r'=>k u AT s' g' x' r')
end
theorem Nx.kY{W':I A8}(x:Nx AM AZ h Q C AT)(hw:∀b,b∈AZ->b∈W'):Nx AM W' h Q C AT:=⟨x.pre,x.live,x.Bw,λb o e n m=>x.same b o e n λq=>m (hw b q)⟩
section
theorem Gd.freeOf(g:Gd B F K A H C s)(hI:s.heap.get? AE=L)(hl:∃o,Q.get? AE=G o):CM B F C Q AE where
 C:=λm=>by refine xE (g.live AE m) ?_;intro o e;rw[hI]at e;exact(BE e).elim
 w:=λm=>by refine IM (g.D5 AE m) ?_;intro _ _ o e;rw[hI]at e;exact(BE e).elim
 cells:=λc m z=>by refine H8 (g.D1 c m) ?_;intro _ o e;rw[z,hI]at e;exact(BE e).elim
 base:=by cases e:B.base.get? AE with
 |none=>rfl|some o=>have :=g.base AE o e;rw[hI]at this;exact(BE this).elim
 outs:=λm=>by refine Ho (g.DT.mem m) ?_;intro _ o e _;rw[hI]at e;exact(BE e).elim
 live:=hl
theorem CM.nx(f:CM B F C h AE)(x:Nx AM AZ h Q C AT):CM B F AT Q AE:=by
 refine xE f.live ?_;intro o e;exact⟨x.out e f.C,f.w,f.cells,f.base,f.outs,x.live AE o e⟩
theorem Gd.move(g:Gd B F K A H C s)(f:CM B F C s.heap AE)(k:Ds AE s.heap Q)(hc:∀o,s.heap.get? AE=G o->C2 o=A6):Gd B F K A H C {s with heap:=Q,toks:=tk}:=by
 have xi:Dw s.heap Q:=λb o e c=>k b o (λz=>by clear f k;subst z;rw[hc o e]at c;exact(E5 c).elim) e;have hL:AE≠F.env.locals:=λz=>f.w (z▸g.kinds.I_);refine⟨g.kinds,g.len,g.nodup,g.fresh,λa m=>?_,λa m=>?_,λc m=>?_,g.aN f.C k xi,g.env.but hL f.cells k xi,λb o e=>?_,g.os,g.gens,g.frames,?_,λA1 m=>?_,g.mods,g.handled,g.depth,g.units⟩;. refine xE (g.live a m) ?_;intro o e;exact⟨o,k _ _ (λz=>f.C (z▸m)) e⟩
 . refine IM (g.D5 a m) ?_;intro p q o e;exact⟨p,q,o,k _ _ (λz=>f.w (z▸m)) e⟩
 . refine H8 (g.D1 c m) ?_;intro q o e;exact⟨q,o,k _ _ (f.cells c m) e⟩
 . exact k b o (λz=>by rw[z,f.base]at e;exact(BE e).elim) (g.base b o e)
 . have hf:=f.outs;have hL:=g.DT;revert hf hL;generalize F.outs=l;intro hf hL;show Q.FunFrames B.base l;induction l with
 |nil=>trivial|cons e r ih=>
   refine G5 hL ?_;(try clear hL);intro hk Aw hr;refine HS Aw ?_;(try clear Aw);intro A1 o D2 hb ho hd;rw[RW,D2]at hf;exact⟨hk,⟨A1,o,D2,hb,k A1 o (λz=>hf (z▸Co)) ho,hd⟩,ih (λm=>hf (Cp _ m)) hr⟩
 . refine Pp (g.Cy A1 m) ?_;intro p q o e d;exact⟨p,q,o,k _ _ (λz=>f.outs (z▸m)) e,d⟩
theorem Nx.F2(x:Nx AM AZ Af h BG C)(k:Ds AE h Q)(hI:Af.get? AE=L):Nx AM AZ Af Q BG C:=by
 have ne:∀{b:A8}{o:Bi},Af.get? b=G o->b≠AE:=λe z=>by rw[z,hI]at e;exact(BE e).elim
 refine⟨x.pre,λb o e=>?_,λb o e c=>k b o (ne e) (x.Bw b o e c),λb o e n m=>let⟨sl,q,r⟩:=x.same b o e n m;⟨sl,k b _ (ne e) q,r⟩⟩;. refine xE (x.live b o e) ?_;intro o' e';exact⟨o',k b o' (ne e) e'⟩
theorem MX{t:AA}{it:A4}{b:I As}{AS:Dt->AR->Prop}(h:AH (AQ prog w) A (ES it) (λr AJ=>match r with
 |none=>AS (.ok .next) AJ|some v=>AH (AQ prog w) A (Y5 t it v) (λ_ WD=>AH (AQ prog w) A (Ex t env v) (λ_ Ai=>AH (AQ prog w) A (J2 b env) (λf Ax=>match f with
 |.next|.cont=>D7 (AQ prog w) A (.forLoop t it b [] env) AS Ax|.brk=>AS (.ok .next) Ax|.ret v=>AS (.ok (.ret v)) Ax) (RY (AQ prog w) A env λe s'=>AS (.error e) s') Ai) (RY (AQ prog w) A env λe s'=>AS (.error e) s') WD) (RY (AQ prog w) A env λe s'=>AS (.error e) s') AJ) (RY (AQ prog w) A env λe s'=>AS (.error e) s') s):D7 (AQ prog w) A (.forLoop t it b [] env) AS s:=by
 refine ff rfl (λ_ s'=>s'=s) (λn s' e=>?_) 0 rfl;subst e;show AH _ A ((br8 t it b [] env).onRaise (λx=>do IE x env;fg x)) _ _ _;refine fh ?_;simp only[br8];refine A5 (El (A5 (Y6 (Fg h (λr AJ AP=>?_) λ_ _ Q=>El Q))));cases r with
 |none=>exact AW (.inr ⟨rfl,codeAny_block (G1 AP)⟩)|some v=>
 refine A5 (Fg AP (λ_ WD yO=>A5 (Fg yO (λ_ Ai BD=>A5 (Fg BD (λf Ax C3=>?_) λ_ _ Q=>Q)) λ_ _ Q=>Q)) λ_ _ Q=>Q);cases f with
 |next=>exact AW (.inr ⟨rfl,C3⟩)|cont=>exact AW (.inr ⟨rfl,C3⟩)|brk=>exact AW C3|ret v=>exact AW C3
theorem HX:∀{l:I J}{i:O},Gq l i=l[i]?
 |[],i=>by cases i<;>rfl|a::l,0=>rfl|a::l,i+1=>HX (l:=l) (i:=i)
theorem E6.nx(r:E6 h C it i AE)(x:Nx AM AZ h Q C AT)(Dj:AE∉C)(hw:AE∉AZ):E6 Q AT it i AE:=by
 refine AC (id x.pre) ?_;intro J e _;cases it with
 |tup Y=>
  refine HS r ?_;(try clear r);intro T us ne B6 BJ v;refine CZ B6 ?_;(try clear B6);intro o ho hc hd;refine Pq BJ ?_;(try clear BJ);intro o' Ib GC n GW;refine⟨T,us,ne,⟨o,x.keep AE o ho Dj hw (λ_=>by unfold HB;rw[hd]),hc,hd⟩,⟨o',x.Bw T o' Ib (by unfold C2;rw[GC,GW];rfl),GC,n,GW⟩,v.nx x⟩|H9 lo hi=>
  refine AC r ?_;(try clear r);intro l a b;exact⟨l,x.keep AE _ a Dj hw (λ_=>rfl),b⟩|lst k=>
  refine VP r ?_;(try clear r);intro a q o ho hc hd;exact⟨a,by rw[e];exact FY q,o,x.keep AE o ho Dj hw (λ_=>by unfold HB;rw[hd]),hc,hd⟩|keys k n=>
  refine VP r ?_;(try clear r);intro a q o ho hc hd;exact⟨a,by rw[e];exact FY q,o,x.keep AE o ho Dj hw (λ_=>by unfold HB;rw[hd]),hc,hd⟩|K2 s=>exact r
end
section
theorem Gs(k:Ds AE h Q)(hc:∀o,h.get? AE=G o->C2 o=A6):Dw h Q:=λb o e c=>k b o (λz=>by clear k;subst z;rw[hc o e]at c;exact(E5 c).elim) e
theorem VR.Bw(r:VR h C v u)(x:Dw h Q):VR Q C v u:=by
 have :=r.mono (J:=[]) x;simpa using this
theorem Aa.Bw{v:I V}{u:I A4}(r:Aa h C v u)(x:Dw h Q):Aa Q C v u:=by
 have :=r.mono (J:=[]) x;simpa using this
theorem CM.at(f:CM B F C h AE)(l:∃o,Q.get? AE=G o):CM B F C Q AE:=⟨f.C,f.w,f.cells,f.base,f.outs,l⟩
theorem Aa.none{v:I V}{u:I A4}(r:Aa h C v u)(e:v[i]?=L):u[i]?=L:=by
 rw[fj]at e ⊢;rw[<-r.length];exact e
theorem DR.length{key:T->V}{l:I (T×A4)}(d:DR key h C N l):l.length=N.length:=DR.ind (P:=λN l=>l.length=N.length) rfl (λ_ _ _ _ _ _ _ ih=>congrArg (·+1) ih) d
theorem DR.get{key:T->V}{l:I (T×A4)}{p:V×V}(d:DR key h C N l)(q:N[i]?=G p):∃k u,l[i]?=G (k,u)/\p.1=key k/\VR h C p.2 u:=by
 revert i;refine DR.ind (P:=λN l=>∀{i},N[i]?=G p->∃k u,l[i]?=G (k,u)/\p.1=key k/\VR h C p.2 u) (λe=>(AF e).elim) (λk v u N r a _ ih i q=>?_) d;cases i with
 |zero=>exact Br q (P:=λp=>∃k' u',G (k,u)=G (k',u')/\p.1=key k'/\VR h C p.2 u') ⟨k,u,rfl,rfl,a⟩|succ i=>exact ih q
theorem kZ[DecidableEq T]{By:KeyKind B.prog B.w T}{key:T->V}(g:Gd B F K A H C s)(f:CM B F C s.heap AE){Az:I (T×A4)}(ha:a≠AE)(hr:∀k u h,By.is k u=M->VR h C (key k) u)(hi:s.heap.IsKeyIter AE a i m m)(hm:s.heap.DictAt By a Az Az.length)(hd:DR key s.heap C N Az)(hl:N.length=m){A2:AD A4->AR->Prop}(ks:∀x,N[i]?=G x->∀u Q tk,Gd B F K A H C {s with heap:=Q,toks:=tk}->Ds AE s.heap Q->CM B F C Q AE->Q.IsKeyIter AE a (i+1) m m->VR Q C x.1 u->A2 (G u) {s with heap:=Q,toks:=tk})(kn:N[i]?=L->∀Q tk,Gd B F K A H C {s with heap:=Q,toks:=tk}->Ds AE s.heap Q->A2 L {s with heap:=Q,toks:=tk}):AH (AQ B.prog B.w) A (ES (.ref AE)) A2 E s:=by
 have yP:Az.length=m:=by rw[hd.length,hl]
 have hc:∀o,s.heap.get? AE=G o->C2 o=A6:=λo e=>by
  refine CZ hi ?_;(try clear hi);intro o' e' c _;rw[e']at e;injection e with e;subst e;unfold C2;rw[c];rfl
 clear hl;subst yP;cases q:N[i]? with
 |some x=>
  refine Bv (hd.get q) ?_;intro k u hk e1 _;refine wpAny_pyNext_dict_item hi hm hk λkv Q yR Bz hs=>?_;exact ks x q kv Q s.toks (g.move f hs.extBut hc) hs.extBut (f.at (by refine AC Bz ?_;(try clear Bz);intro o e _;exact⟨o,e⟩)) Bz (by rw[e1];exact hr k kv Q yR)|none=>
  have :Az[i]?=L:=by
   rw[fj]at q ⊢;rw[hd.length];exact q
  exact wpAny_pyNext_dict_end g.handled hi hm this λQ hs=>kn q Q s.toks (g.move f hs hc) hs
set_option tactic.hygienic true in
theorem K8(g:Gd B F K A H C s)(f:CM B F C s.heap AE)(r:E6 s.heap C it i AE){o:AD V}(h:IU it i H.h=G o){A2:AD A4->AR->Prop}(ks:∀x,o=G x->∀u Q tk,Gd B F K A H C {s with heap:=Q,toks:=tk}->Ds AE s.heap Q->CM B F C Q AE->E6 Q C it (i+1) AE->VR Q C x u->A2 (G u) {s with heap:=Q,toks:=tk})(kn:o=L->∀Q tk,Gd B F K A H C {s with heap:=Q,toks:=tk}->Ds AE s.heap Q->A2 L {s with heap:=Q,toks:=tk}):AH (AQ B.prog B.w) A (ES (.ref AE)) A2 E s:=by cases it with
 |tup Y=>
  injection h with h;rw[HX]at h;refine HS r ?_;(try clear r);intro T us ne hi ht v;have hc:∀o,s.heap.get? AE=G o->C2 o=A6:=λo e=>by
    refine CZ hi ?_;(try clear hi);intro o' e' c _;rw[e']at e;injection e with e;subst e;unfold C2;rw[c];rfl
  cases o with
  |some x=>
    refine AC (v.get h) ?_;intro u e w;refine wpAny_pyNext_tuple_item hi ht (by simpa using e) λQ Bz hs=>?_;have im:=Gs hs.extBut hc;exact ks x rfl u Q s.toks (g.move f hs.extBut hc) hs.extBut (f.at (by refine AC Bz ?_;(try clear Bz);intro o e _;exact⟨o,e⟩)) ⟨T,us,ne,Bz,ht.extBut hs.extBut ne,v.Bw im⟩ (w.Bw im)|none=>exact wpAny_pyNext_tuple_end g.handled hi ht (by have :=v.none h;simpa using this) λQ hs=>kn rfl Q s.toks (g.move f hs hc) hs
 |H9 lo hi=>
  refine AC r ?_;(try clear r);intro left hr hl;injection h with h;have hc:∀o,s.heap.get? AE=G o->C2 o=A6:=λo e=>by rw[hr]at e;injection e with e;subst e;rfl
  split at h
  . rename_i lt;clear kn;subst h;have lt':lo+(i:AX)<hi:=lt;refine wpAny_pyNext_range_item hr (by(with_reducible exact Mine.vk (by assumption) (by assumption))) λQ Bz hs=>?_;have e1:lo+((i+1:O):AX)=lo+(i:AX)+1:=by(with_reducible exact Mine.vy)
    exact ks _ rfl _ Q (s.toks+1) (g.move f hs.extBut hc) hs.extBut (f.at ⟨_,Bz⟩) ⟨left-1,e1▸Bz,by(with_reducible exact Mine.vx (by assumption))⟩ ⟨_,rfl⟩
  . rename_i lt;clear ks;subst h;have lt':¬lo+(i:AX)<hi:=lt;exact wpAny_pyNext_range_end g.handled hr (by(with_reducible exact Mine.wA (by assumption) (by assumption))) λQ hs=>kn rfl Q s.toks (g.move f hs hc) hs|lst k=>
  refine AC r ?_;(try clear r);intro a ha hi;refine BI h λob hx h=>?_;revert hx;apply IT h AF
  . intro Y h hx;injection h with h;rw[HX]at h;refine AC (g.obj hx ha) ?_;intro us hp v;have ne:a≠AE:=λz=>f.C (z▸Ew ha);have hc:∀o,s.heap.get? AE=G o->C2 o=A6:=λo e=>by
      refine CZ hi ?_;(try clear hi);intro o' e' c _;rw[e']at e;injection e with e;subst e;unfold C2;rw[c];rfl
    cases o with
  |some x=>
      refine AC (v.get h) ?_;intro u e w;refine tH hi hp.isList (by simpa using e) λQ Bz hs=>?_;exact ks x rfl u Q s.toks (g.move f hs.extBut hc) hs.extBut (f.at (by refine AC Bz ?_;(try clear Bz);intro o e _;exact⟨o,e⟩)) ⟨a,ha,Bz⟩ (w.Bw (Gs hs.extBut hc))|none=>exact br9 g.handled hi hp.isList (by have :=v.none h;simpa using this) λQ hs=>kn rfl Q s.toks (g.move f hs hc) hs
 |keys k m=>
  refine AC r ?_;(try clear r);intro a ha hi;refine BI h λob hx h=>?_;revert hx;apply JD h AF
  . intro N h hx;refine Ce h AF λhl h=>?_
    . have hl:=CD hl;injection h with h;rw[HX]at h;have ne:a≠AE:=λz=>f.C (z▸Ew ha);have hp:=g.obj hx ha;rcases hp with BJ|BP;refine AC BJ ?_;(try clear BJ);intro Az hm hd;rotate_left;refine AC BP ?_;(try clear BP);intro Az hm hd;rotate_left
      . refine kZ (key:=GV) g f ne (λk u h hk=>?_) hi hm hd hl (λx hx u Q tk g' e' f' i' v'=>ks x.1 (by rw[<-h,hx];rfl) u Q tk g' e' f' ⟨a,ha,i'⟩ v') λhx Q tk g' e'=>kn (by rw[<-h,hx];rfl) Q tk g' e';refine xE (Value.isStrOf_shape hk) ?_;intro t Aw;clear hk;subst Aw;exact⟨t,by cases k;rfl⟩
      . refine kZ (key:=T3) g f ne (λk u h hk=>?_) hi hm hd hl (λx hx u Q tk g' e' f' i' v'=>ks x.1 (by rw[<-h,hx];rfl) u Q tk g' e' f' ⟨a,ha,i'⟩ v') λhx Q tk g' e'=>kn (by rw[<-h,hx];rfl) Q tk g' e';refine xE (Value.isInt_shape hk) ?_;intro t B6;clear hk;subst B6;exact⟨t,rfl⟩|K2 s=>exact r.elim
end
section
theorem GD(h:BK):h.get? h.objs.size=L:=by cases e:h.get? h.objs.size with
 |none=>rfl|some o=>exact absurd (Dh e) (J0 _)
theorem OE(g:Gd B F K A H C s)(r:VR s.heap C v u)(h:Q8 v H.h=G it)(k:∀AE Q tk,Gd B F K A H C {s with heap:=Q,toks:=tk}->Nx F.D [] s.heap Q C C->s.heap.get? AE=L->CM B F C Q AE->E6 Q C it 0 AE->A2 (.ref AE) {s with heap:=Q,toks:=tk}):AH (AQ B.prog B.w) A (PU u) A2 E s:=by
 have put:∀(o:Bi),o.isFreed=A6->(∀Q,Q=s.heap.push o->E6 Q C it 0 s.heap.objs.size)->A2 (.ref s.heap.objs.size) {s with heap:=s.heap.push o}:=λo hf hr=>by
  have kp:∀b x,s.heap.get? b=G x->(s.heap.push o).get? b=G x:=λb x e=>C1 _ e;exact k _ _ s.toks (g.ext kp) (Nx.ext kp) (GD _) (g.freeOf (GD _) ⟨o,CY _ hf⟩) (hr _ rfl)
 cases v with
 |tup c Y=>cases c with
  |some _=>exact(BE h).elim|none=>
    injection h with h;clear k;subst h;refine Bv (QL r) ?_;intro T us Aw ht rs;clear r;subst Aw;refine wpAny_pyIter_tuple ht (put _ rfl λQ e=>?_);subst e;refine⟨T,us,?_,⟨_,CY _ rfl,rfl,rfl⟩,ht.push _,rs.Bw λb x e _=>C1 _ e⟩;refine AC ht ?_;(try clear ht);intro o e _;exact ER (Dh e)
 |H9 lo hi=>
  refine Ce h AF λhb h=>?_
  . injection h with h;clear k;subst h;simp only[JG,D6,PV]at hb;refine Jw r ?_;(try clear r);intro a t t' HA B6 ha;subst B6;refine wpAny_pyIter_range ha (small_one (by omega) (by omega) (by omega) (by omega)) ?_;rw[rangeSize_one];refine put _ rfl λQ e=>?_;subst e;refine⟨if lo<hi then hi-lo else 0,?_,?_⟩
    . have :lo+((0:O):AX)=lo:=by omega
      rw[this];exact CY _ rfl
    . split<;>omega|ref i=>
  refine AC r ?_;(try clear r);intro a ha BJ;subst BJ;refine BI h λob hx h=>?_;revert hx;apply Jz h
  . intro Y h hx;injection h with h;clear k;subst h;refine AC (g.obj hx ha) ?_;intro us hp _;refine fk hp.isList (put _ rfl λQ e=>?_);subst e;exact⟨a,ha,_,CY _ rfl,rfl,rfl⟩
  . intro h;apply JD h AF;intro N h hx;injection h with h;clear k;subst h;have hp:=g.obj hx ha;have hd:(a==NR)=A6:=by
      refine xE g.mods ?_;intro o e;have :=g.fresh a (Ew ha);exact Ln.mpr λz=>by rw[z,e]at this;(exfalso;cases this)
    rcases hp with Bu|C9;refine AC Bu ?_;(try clear Bu);intro Az hm GW;rotate_left;refine AC C9 ?_;(try clear C9);intro Az hm GW;rotate_left
    . refine bs0 hd hm (put _ rfl λQ e=>?_);subst e;exact⟨a,ha,_,CY _ rfl,rfl,by rw[GW.length];rfl⟩
    . refine bs0 hd hm (put _ rfl λQ e=>?_);subst e;exact⟨a,ha,_,CY _ rfl,rfl,by rw[GW.length];rfl⟩|_=>exact(BE h).elim
theorem E6.cls(r:E6 h C it i AE):∃o nm vs,h.get? AE=G o/\o.cls=.type nm/\o.data=.fields vs/\(nm="tuple_iterator"\/nm="range_iterator"\/nm="list_iterator"\/nm="dict_keyiterator"):=by cases it with
 |tup Y=>refine Bv r ?_;(try clear r);intro T us _ BP _;refine CZ BP ?_;(try clear BP);intro o e c d;exact⟨o,_,_,e,c,d,.inl rfl⟩|H9 lo hi=>refine AC r ?_;(try clear r);intro l e _;exact⟨_,_,_,e,rfl,rfl,.inr (.inl rfl)⟩|lst k=>refine VP r ?_;(try clear r);intro a _ o e c d;exact⟨o,_,_,e,c,d,.inr (.inr (.inl rfl))⟩|keys k n=>refine VP r ?_;(try clear r);intro a _ o e c d;exact⟨o,_,_,e,c,d,.inr (.inr (.inr rfl))⟩|K2 s=>exact r.elim
theorem QM(r:E6 s.heap C it i AE){t:AA}{v:A4}{A2:DM->AR->Prop}(h:A2 () s):AH Av A (Y5 t (.ref AE) v) A2 E s:=by
 refine JA r.cls ?_;intro o nm vs e c d hn;have main:∀x,AH Av A (do
 let o<-load AE match o.cls,o.data with
 |.type n,.fields vs=>if(["enumerate","zip","dict_itemiterator","dict_reverseitemiterator","odict_iterator","itertools.zip_longest","itertools.pairwise"].contains n&&vs.any (·==ET x))=M then RZ "x"else pure ()|_,_=>pure ()) A2 E s:=λx=>by
  refine A5 (NV e ?_);rw[c,d];rcases hn with rfl|rfl|rfl|rfl<;>exact AW h
 cases t<;>first|exact AW h|skip
 all_goals
  cases v<;>first|exact AW h|skip
  unfold Y5;refine A5 (NV e ?_);rw[c,d];rcases hn with rfl|rfl|rfl|rfl<;>exact AW h
theorem yY(A9:C5 B A3 n){t:AA}{b:I As}(h:step A3 K (ev A3 n) (.loop t it i b) H=.ok (.f f) A7){AS:Dt->AR->Prop}(g:Gd B F K A H C s)(Cq:Nx F.D F.AZ Af s.heap BG C)(hI:Af.get? AE=L)(fr:CM B F C s.heap AE)(r:E6 s.heap C it i AE)(k:∀u AT s',Gd B F K A A7 AT s'->Nx F.D F.AZ Af s'.heap BG AT->FR f s'.heap AT u->AS (.ok u) s'):D7 (AQ B.prog B.w) A (.forLoop t (.ref AE) b [] F.env) AS s:=by
 refine A0.Bx h ?_;clear h;intro o AP h;refine MX (K8 g fr r AP (λx hx u Q tk AN DU Eo Aq Hx=>?_) λhx Q tk AN DU=>?_)
 . clear AP;subst hx;refine A0.Hw h ?_;clear h;intro _ Bc BD h;refine A0.Hw h ?_;clear h;intro d GX C3 h;have L8:=Cq.F2 DU hI;refine QM Aq (A9.asg BD AN Hx _ _ λ_ Au Ai AU Al _=>A9.ss C3 AU _ _ λMY BS Ax Ap B8 BQ=>?_);have xx:=Al.trans B8;have EF:=Eo.nx xx;have Gu:=Aq.nx xx Eo.C Eo.w;have Ep:=L8.trans xx;cases d with
 |next=>cases BQ;exact A9.loop h Ap Ep hI EF Gu k|cont=>cases BQ;exact A9.loop h Ap Ep hI EF Gu k|brk=>
    cases BQ;(first|(revert k;(first|apply BX h|apply B5 h|apply BY h|apply BZ h|apply B_ h);intro k)|apply BX h|apply B5 h|apply BY h|apply BZ h|apply B_ h);exact k _ BS Ax Ap Ep rfl|ret v=>
    refine AC BQ ?_;(try clear BQ);intro y Bg BQ;subst Bg;(first|(revert k;(first|apply BX h|apply B5 h|apply BY h|apply BZ h|apply B_ h);intro k)|apply BX h|apply B5 h|apply BY h|apply BZ h|apply B_ h);exact k _ BS Ax Ap Ep ⟨y,rfl,BQ⟩
 . clear AP;subst hx;(first|(revert k;(first|apply BX h|apply B5 h|apply BY h|apply BZ h|apply B_ h);intro k)|apply BX h|apply B5 h|apply BY h|apply BZ h|apply B_ h);exact k _ C _ AN (Cq.F2 DU hI) rfl
theorem yZ(A9:C5 B A3 n){t it:AA}{b:I As}(he:Sk it=L)(h:IW K (ev A3 n) (.For t it b [] pos) H=.ok (.f f) A7)(g:Gd B F K A H C s):CJ B F K A A7 C s (exec (.For t it b [] pos) F.env) (FR f):=by
 refine M6 h (λx e _=>by rw[he]at e;exact(AF e).elim) λ_ h=>?_;refine A0.Be h ?_;clear h;intro hp h;refine A0.Cg h ?_;clear h;intro v AB AP h;refine A0.Bx h ?_;clear h;intro i BD h;intro A2 E k;refine Y7 (A9.eW AP g _ _ λu A_ AJ AN Ab Aq=>OE AN Aq BD λAE Q tk AU Al hI K9 TA=>A9.loop h AU Al.FZ hI K9 TA λu BS Ax Ap B8 BQ=>k u BS Ax Ap (Ab.trans B8) BQ) ?_;exact QK hp
end
section
theorem TB{t:AD AA}{l:O}(h:JK e=A6):Y8 e t l env=pure A6:=by cases e<;>first|rfl|(exfalso;cases h)
theorem y_(A9:C5 B A3 n)(h:IW K (ev A3 n) (.Expr e pos) H=.ok (.f f) A7)(g:Gd B F K A H C s):CJ B F K A A7 C s (exec (.Expr e pos) F.env) (FR f):=by
 refine A0.Be h ?_;clear h;intro hc h;refine A0.Cg h ?_;clear h;intro v AB AP h;(first|(revert k;(first|apply BX h|apply B5 h|apply BY h|apply BZ h|apply B_ h);intro k)|apply BX h|apply B5 h|apply BY h|apply BZ h|apply B_ h);intro A2 E k;refine bs1 (A9.eW AP g _ _ λu A_ AJ AN Ab _=>k _ A_ AJ AN Ab rfl) ?_ (TB (by simpa using hc));have :=g.kinds.fn;unfold interactive;simp[this]
theorem ya(h:Kz A3 K (ev A3 n) (.Name id pos) v H=.ok (.f f) A7)(g:Gd B F K A H C s)(r:VR s.heap C v u):CJ B F K A A7 C s (Ex (.Name id pos) F.env u) RU:=λA2 E k=>bs2 (aU h g r A2 E k)
theorem yb(A9:C5 B A3 n)(Lo:Lf B)(h:IW K (ev A3 n) (.AugAssign (.Name id p) op e pos) H=.ok (.f f) A7)(g:Gd B F K A H C s):CJ B F K A A7 C s (exec (.AugAssign (.Name id p) op e pos) F.env) (FR f):=by
 refine A0.Be h ?_;clear h;intro hl h;refine A0.Bx h ?_;clear h;intro a AP h;refine A0.Cg h ?_;clear h;intro b Bc BD h;refine A0.Bx h ?_;clear h;intro v C3 h;refine H8 (A0.kV h) ?_;clear h;intro hf f' h;subst hf;intro A2 E k;exact bs3 ((kU g hl AP).T8 _ _ λu A_ AJ AN Ab Aq=>A9.eW BD AN _ _ λu' Au Ai AU Al BB=>(Lo.xv AU (Aq.nx Al) BB C3).T8 _ _ λy BS Ax Ap B8 BQ=>A9.xr h Ap BQ _ _ λ_ Ic EG CA Cz _=>k _ Ic EG CA (Ab.trans (Al.trans (B8.trans Cz))) rfl)
theorem aV(h:MM ts e=A6):fq ts e env=pure L:=by cases ts with
 |nil=>rfl|cons t ts=>cases ts with
 |cons _ _=>cases t<;>rfl|nil=>cases t<;>first|rfl|(cases e<;>first|rfl|exact(Ul h))
theorem yc(A9:C5 B A3 n)(hc:JK e=A6)(ht:MM ts e=A6)(h:((ev A3 n K (.e e) H).V λv H=>ev A3 n K (.GR ts v) H)=.ok (.f f) A7)(g:Gd B F K A H C s):CJ B F K A A7 C s (exec (.Assign ts e pos) F.env) (FR .next):=by
 refine A0.Cg h ?_;clear h;intro v AB AP h;intro A2 E k;refine fw (A9.eW AP g _ _ λu A_ AJ AN Ab Aq=>A9.GR h AN Aq _ _ λ_ Au Ai AU Al _=>k _ Au Ai AU (Ab.trans Al) rfl) ?_ (aV ht);cases ts with
 |nil=>rfl|cons t ts=>cases ts with
 |nil=>exact TB hc|cons _ _=>rfl
end
theorem aW{l:I (U×J)}:Ah l x=l.lookup x:=by induction l with
 |nil=>rfl|cons p l ih=>
 obtain⟨k,v⟩:=p;show bC (Cw k x) (G v) (Ah l x)=_;rw[PW,ih];cases q:Cw k x with
 |true=>have :=E2.mp q;subst this;simp;rfl|false=>
 have :(x==k)=A6:=Ln.mpr λz=>L3.mp q z.symm;rw[this];rfl
section
theorem Ns.slots{m:U->AD A4}(x:h.Ns a m)(k:∀o,h.get? a=G o->∃sl,Q.get? a=G {o with slots:=sl}):Q.Ns a m:=by
 refine Gp x ?_;(try clear x);intro o N ep e d r;refine xE (k o e) ?_;intro sl e';exact⟨_,N,ep,e',d,r⟩
theorem Cf.Gv{env:I (U×V)}(g:Gd B F K A H C s)(y:Cf F s.heap C env)(x:Nx F.D [] s.heap s'.heap C AT):Cf F s'.heap AT env:=by
 refine G5 (g.D5 _ g.kinds.I_) ?_;intro _ hL _;exact y.imp (λ_ ns=>Ns.slots ns λo e=>x.data _ o e hL (λm=>nomatch m)) (λn c u hm q=>AC q λo e d=>xE (x.data _ o e (g.D1 _ hm).1 (λm=>nomatch m)) λsl e'=>⟨_,e',d⟩) λ_ _ r=>r.nx x
theorem FunFrames.Gv{l:I Gh}(hl:s.heap.FunFrames B.base l)(hn:∀A1∈l.filterMap (·.frame),A1∉C)(x:Nx F.D [] s.heap s'.heap C AT):s'.heap.FunFrames B.base l:=by induction l with
 |nil=>trivial|cons e r ih=>
 refine G5 hl ?_;(try clear hl);intro hk Aw hr;refine HS Aw ?_;(try clear Aw);intro A1 o hf hb ho hd;refine xE (x.data A1 o ho (hn A1 (by simp[hf])) (by simp)) ?_;intro sl z;exact⟨hk,⟨A1,_,hf,hb,z,hd⟩,ih hr λL' m=>hn L' (by rw[RW,hf];exact Cp _ m)⟩
theorem Fm.yd{b:A8}(hf:env.frame=G env.locals)(hb:b≠env.locals)(z:b∈Fm.D ⟨env,AZ,env::F.outs⟩):b∈F.D:=by
 unfold Fm.D at z ⊢;rw[RW,hf]at z;exact(Cj.mp z).resolve_left hb
theorem Gd.back(g:Gd B F K A H C s)(x:Nx F.D [] s.heap s'.heap C AT)(len:AT.length=A7.n)(nodup:AT.Nodup)(fresh:∀a∈AT,B.base.get? a=L)(live:∀a∈AT,∃o,s'.heap.get? a=G o)(objs:∀i o,AL A7.h i=G o->∃a,AT[i]?=G a/\Ca B.prog B.w s'.heap AT a o)(base:B.base.StaysIn s'.heap)(os:s'.os=B.os)(gens:s'.gens=B.gens)(env:Cf F s'.heap AT A7.env):Gd B F K A A7 AT s' where
 kinds:=g.kinds;len:=len;nodup:=nodup;fresh:=fresh;live:=live;D5:=λa m=>by refine IM (g.D5 a m) ?_;intro p q o e;exact⟨p,x.out e q,x.live a o e⟩
 D1:=λc m=>by refine H8 (g.D1 c m) ?_;intro q o e;exact⟨x.out e q,x.live _ o e⟩
 objs:=objs;env:=env;base:=base;os:=os;gens:=gens;frames:=g.frames;DT:=FunFrames.Gv g.DT (λA1 m=>(g.Cy A1 m).1) x;Cy:=λA1 m=>by
  refine Pp (g.Cy A1 m) ?_;intro q r o ho hd;refine xE (x.data A1 o ho q (by simp)) ?_;intro sl z;exact⟨x.out ho q,r,_,z,hd⟩
 mods:=g.mods;handled:=g.handled;depth:=g.depth;units:=g.units
end
theorem aX:∀(names:I (U×E3))(n:O)(Am:I (U×A8))(x:U)(c:A8),(x,c)∈Am->(x,c)∈Jk n names Am
 |[],_,_,_,_,h=>h|(name,kind)::r,n,Am,x,c,h=>by
  unfold Jk;split;. exact aX r (n+1) _ x c (Cp _ h)
  . exact aX r n _ x c h
theorem TC:∀(names:I (U×E3))(n:O)(Am:I (U×A8))(x:U),(x,.cell)∈names->∃c,(x,c)∈Jk n names Am
 |(name,kind)::r,n,Am,x,h=>by
  unfold Jk;rcases Cj.mp h with q|q
  . injection q with q q';subst q;subst q';skip;exact⟨n,aX r (n+1) _ _ _ Co⟩
  . split;. exact TC r (n+1) _ x q
    . exact TC r n _ x q
theorem aY:∀(names:I (U×E3))(n:O)(Am:I (U×A8)),(names.map (·.1)).Nodup->(Am.map (·.1)).Nodup->(∀x∈names.map (·.1),x∉Am.map (·.1))->((Jk n names Am).map (·.1)).Nodup
 |[],_,_,_,h,_=>h|(name,kind)::r,n,Am,hn,ha,hd=>by
  unfold Jk;refine xA (EU.mp hn) ?_;intro h1 h2;split
  . refine aY r (n+1) _ h2 (EU.mpr ⟨hd name Co,ha⟩) λx hx hm=>?_;rcases Cj.mp hm with q|q;. exact h1 (q▸hx)
    . exact hd x (Cp _ hx) q
  . exact aY r n _ h2 ha λx hx=>hd x (Cp _ hx)
theorem aZ:∀{l:I (U×J)}{x:U}{c:J},(l.map (·.1)).Nodup->(x,c)∈l->l.lookup x=G c
 |(k,v)::r,x,c,hn,h=>by
  refine xA (EU.mp hn) ?_;intro h1 h2;rw[PW];rcases Cj.mp h with q|q;. injection q with q q';subst q;subst q';simp
  . have :(x==k)=A6:=Ln.mpr λz=>h1 (E0.mpr ⟨_,q,z⟩);rw[this];exact aZ h2 q
theorem WE{names:I (U×E3)}{c:A8}(hn:(names.map (·.1)).Nodup)(h:(x,c)∈Jk n names []):(Jk n names []).lookup x=G c:=aZ (aY names n [] hn HM λ_ _ hm=>by simp at hm) h
noncomputable def BR(h:BK)(C:I A8):I (U×V)->I (U×A4)->Prop
 |[],l=>l=[]|p::b,l=>∃u r,l=(p.1,u)::r/\VR h C p.2 u/\BR h C b r
theorem BR.cons{b:I (U×V)}{r:I (U×A4)}(a:VR h C v u)(y:BR h C b r):BR h C ((x,v)::b) ((x,u)::r):=⟨u,r,rfl,a,y⟩
theorem BR.ind{P:I (U×V)->I (U×A4)->Prop}(n:P [] [])(c:∀x v u b r,VR h C v u->BR h C b r->P b r->P ((x,v)::b) ((x,u)::r)){b:I (U×V)}:∀{l:I (U×A4)},BR h C b l->P b l:=by induction b with
 |nil=>intro l e;cases e;exact n|cons p b ih=>intro l e;refine Bv e ?_;clear e;intro u r q a y;subst q;exact c p.1 p.2 u b r a y (ih y)
theorem BR.nx(x:Nx AM AZ h Q C AT){b:I (U×V)}{l:I (U×A4)}(r:BR h C b l):BR Q AT b l:=BR.ind (P:=BR Q AT) rfl (λ_ _ _ _ _ a _ ih=>.cons (a.nx x) ih) r
theorem BR.keys{b:I (U×V)}{l:I (U×A4)}(r:BR h C b l):l.map (·.1)=b.map (·.1):=BR.ind (P:=λb l=>l.map (·.1)=b.map (·.1)) rfl (λx _ _ _ _ _ _ ih=>congrArg (x::·) ih) r
theorem k_{kd:U->AD E3}:∀{l:I (U×A4)}{m:U->AD A4},x∉l.map (·.1)->R_ kd l m x=m x
 |[],_,_=>rfl|(n,v)::r,m,h=>by
  unfold R_;have h1:x≠n:=λe=>h (by rw[e];simp);have h2:x∉r.map (·.1):=λe=>h (by simp only[J3];exact Cp _ e);rw[k_ h2];split;. simp[h1]
  . rfl
theorem ka{kd:U->AD E3}:∀{l:I (U×A4)}{m:U->AD A4},x∉l.map (·.1)->Ra kd l m x=m x
 |[],_,_=>rfl|(n,v)::r,m,h=>by
  unfold Ra;have h1:x≠n:=λe=>h (by rw[e];simp);have h2:x∉r.map (·.1):=λe=>h (by simp only[J3];exact Cp _ e);rw[ka h2];split;. rfl
  . simp[h1]
theorem BR.local{kd:U->AD E3}(hx:kd x=G .local){b:I (U×V)}{l:I (U×A4)}(r:BR h C b l):∀{m:U->AD A4}{v:V},(b.map (·.1)).Nodup->Ah b x=G v->∃u,R_ kd l m x=G u/\VR h C v u:=BR.ind (P:=λb l=>∀{m:U->AD A4}{v:V},(b.map (·.1)).Nodup->Ah b x=G v->∃u,R_ kd l m x=G u/\VR h C v u) (λ_ e=>(AF e).elim) (λx' w u b r a y ih m v hn hl=>by
 have hn:=EU.mp hn;rw[Sy]at hl;refine Eb hl (λq e=>?_) λ_ e=>ih hn.2 e;clear hl;have :=E2.mp q;subst this;refine Br e (P:=λv=>∃u',R_ kd ((x',u)::r) m x'=G u'/\VR h C v u') ⟨u,?_,a⟩;unfold R_;rw[DA hx,k_ (by rw[y.keys];exact hn.1)];exact DA rfl) r
theorem BR.cell{kd:U->AD E3}(hx:kd x≠G .local){b:I (U×V)}{l:I (U×A4)}(r:BR h C b l):∀{m:U->AD A4}{v:V},(b.map (·.1)).Nodup->Ah b x=G v->∃u,Ra kd l m x=G u/\VR h C v u:=BR.ind (P:=λb l=>∀{m:U->AD A4}{v:V},(b.map (·.1)).Nodup->Ah b x=G v->∃u,Ra kd l m x=G u/\VR h C v u) (λ_ e=>(AF e).elim) (λx' w u b r a y ih m v hn hl=>by
 have hn:=EU.mp hn;rw[Sy]at hl;refine Eb hl (λq e=>?_) λ_ e=>ih hn.2 e;clear hl;have :=E2.mp q;subst this;refine Br e (P:=λv=>∃u',Ra kd ((x',u)::r) m x'=G u'/\VR h C v u') ⟨u,?_,a⟩;unfold Ra;rw[CS hx,ka (by rw[y.keys];exact hn.1)];exact DA rfl) r
structure FnAt(B:Bs)(a:A8)(fn:Fn)(o:Bi)(fd:Kg):Prop where
 get:B.base.get? a=G o
 data:o.data=.func fd
 sc:fd.scope=fn.sc
 body:fd.body=.stmts fn.body
 closure:fd.closure=[]co:fd.scope.isCoroutine=A6
 gen:fd.scope.isGenerator=A6
 kind:fd.scope.kind=.function
 g3:fd.globals=3b0:fd.builtins=0ye:QC fn.sc=M
 nodup:(fn.sc.names.map (·.1)).Nodup
 kc:∀x,fn.sc.names.lookup x≠G .free
 code:B.base.CodeRec fd.code fd.qualname
 lim:B.base.NoLimit
 bind:∀{args:I V}{b:I (U×V)},JH fn args=G b->(b.map (·.1)).Nodup/\(∀x∈b.map (·.1),fn.sc.names.lookup x=G .local\/fn.sc.names.lookup x=G .cell)/\∀{s:AR}{C:I A8}{us:I A4},B.base.StaysIn s.heap->Aa s.heap C args us->∀{Av:fY}{A:CK}{A2:I (U×A4)->AR->Prop}{E:A4->AR->Prop},(∀KA Q,(∀b o,s.heap.get? b=G o->Q.get? b=G o)->BR Q C b KA->A2 KA {s with heap:=Q})->AH Av A (fx fd ⟨us,[]⟩) A2 E s
structure Ga(B:Bs)(F:Fm)(K:Kx)(A:CK)(H:St)(C:I A8)(s:AR):Prop where
 len:C.length=H.n
 nodup:C.Nodup
 fresh:∀a∈C,B.base.get? a=L
 live:∀a∈C,∃o,s.heap.get? a=G o
 objs:∀i o,AL H.h i=G o->∃a,C[i]?=G a/\Ca B.prog B.w s.heap C a o
 base:B.base.StaysIn s.heap
 os:s.os=B.os
 gens:s.gens=B.gens
 frames:A.frames=G F.outs
 DT:s.heap.FunFrames B.base F.outs
 Cy:∀A1∈F.outs.filterMap (·.frame),A1∉C/\(A1∈F.AZ->A1=F.env.locals)/\∃o,s.heap.get? A1=G o/\HB o=M
 mods:∃o,B.base.get? NR=G o
 handled:A.handled=L
 depth:A.depth+3*K.d<900units:A.units+10*K.d<9000
section
theorem KC(ha:h.objs.size<=a):h.get? a=L:=by cases e:h.get? a with
 |none=>rfl|some o=>exact absurd (Dh e) (Uq.mpr ha)
theorem Gd.ga(g:Gd B F K A H C s):Ga B F K A H C s:=⟨g.len,g.nodup,g.fresh,g.live,g.objs,g.base,g.os,g.gens,g.frames,g.DT,g.Cy,g.mods,g.handled,g.depth,g.units⟩
theorem Ga.enter(g:Ga B F K A H C s)(hd:K.d=d+1){fn:Fn}{o:Bi}(ok:FnAt B a fn o fd){b:I (U×V)}{KA:I (U×A4)}(hn:(b.map (·.1)).Nodup)(hk:∀x∈b.map (·.1),fn.sc.names.lookup x=G .local\/fn.sc.names.lookup x=G .cell)(L6:∀b o,s.heap.get? b=G o->Af.get? b=G o)(hb:BR Af C b KA)(he:env=newEnv fd.scope Af.objs.size fd.globals (Jk (Af.objs.size+1) fd.scope.names []) (fd.qualname++".<locals>.") (G a) fd.code L fd.builtins)(x:InCallC {s with heap:=Af} env.locals (R_ env.kindOf KA λ_=>L) env.cells (Ra env.kindOf KA λ_=>L) AJ):Gd B ⟨env,env.locals::env.cells.map (·.2),env::F.outs⟩ ⟨fn.sc,d⟩ (A.deeper env) ⟨b,H.h,H.n⟩ C AJ/\(∀b o,s.heap.get? b=G o->AJ.heap.get? b=G o)/\env.frame=G env.locals/\∀w∈env.locals::env.cells.map (·.2),s.heap.get? w=L:=by
 refine DB x.toInCall.same ?_;intro AP tk Aw;subst Aw;have kf:∀b o,Af.get? b=G o->AP.get? b=G o:=x.toInCall.keep;have keep:∀b o,s.heap.get? b=G o->AP.get? b=G o:=λb o e=>kf b o (L6 b o e);have TD:env.scope=fn.sc:=by rw[he];exact ok.sc
 have EK:env.cells=Jk (Af.objs.size+1) fn.sc.names []:=by rw[he];show Jk _ fd.scope.names []=_;rw[ok.sc]
 have hL:env.locals=Af.objs.size:=by rw[he];rfl
 have a_:∀y,env.kindOf y=fn.sc.names.lookup y:=λy=>by show env.scope.names.lookup y=_;rw[TD]
 have D2:env.frame=G env.locals:=by rw[he];rfl
 have kg:∀c∈env.cells,env.locals<c.2:=λc m=>x.above c.1 c.2 m;have new:∀w∈env.locals::env.cells.map (·.2),s.heap.get? w=L:=λw m=>by
  have :Af.get? w=L:=by
   refine KC ?_;rw[<-hL];rcases Cj.mp m with e|m;. exact Ek e.symm
   . refine AC (E0.mp m) ?_;intro c hc B6;clear m;subst B6;exact Gi (kg c hc)
  cases e:s.heap.get? w with
 |none=>rfl|some o=>rw[L6 _ _ e]at this;(exfalso;cases this)
 have cl:∀c∈env.cells,∃u,AP.IsCell c.2 u:=λc m=>by
  rw[EK]at m;have :=WE ok.nodup m;rw[<-EK]at this;exact⟨_,x.cell _ _ this⟩
 have im:Dw s.heap AP:=λb o e _=>keep b o e;have nb:∀w,s.heap.get? w=L->B.base.get? w=L:=λw hw=>by cases e:B.base.get? w with
 |none=>rfl|some o=>rw[g.base w o e]at hw;(exfalso;cases hw)
 have aa:∀w,s.heap.get? w=L->w∉C:=λw hw m=>by refine xE (g.live w m) ?_;intro o e;rw[hw]at e;exact(BE e).elim
 have xb:Nx F.D [] Af AP C C:=Nx.ext kf;have GY:=hb.nx xb;refine Gp (id x.toInCall.ns) ?_;intro oL N ep KD yf _;refine⟨?_,keep,D2,new⟩;exact{
  kinds:={
   fn:=by rw[TD,<-ok.sc];exact ok.kind
   sc:=ok.ye
   kd:=λy k hy=>by
     rw[aW]at hy;have e:env.kindOf y=G k:=(a_ y).trans hy;revert e hy;cases k with
 |«local»=>exactλ_ e=>e|cell=>exactλhy e=>⟨e,xE (TC fn.sc.names (Af.objs.size+1) [] y (mem_of_lookup hy)) λc hc=>⟨c,EK▸WE ok.nodup hc,Cp _ (E0.mpr ⟨_,EK▸hc,rfl⟩)⟩⟩|free=>exactλhy _=>absurd hy (ok.kc y)|globalImplicit=>exactλ_ e=>e|globalExplicit=>exactλ_ _=>trivial
   g3:=by rw[he];exact ok.g3
   b0:=by rw[he];exact ok.b0
   cells:=x.apart
   I_:=Co
   MR:=λc m=>PX (kg c m)}
  len:=g.len
  nodup:=g.nodup
  fresh:=g.fresh
  live:=λw m=>by refine xE (g.live w m) ?_;intro o e;exact⟨o,keep w o e⟩
  D5:=λw m=>⟨nb w (new w m),aa w (new w m),by
   rcases Cj.mp m with e|m;. rw[e];exact⟨_,KD⟩
   . refine AC (E0.mp m) ?_;intro c hc BJ;clear m;subst BJ;refine EX (cl c hc) ?_;intro u o e _;exact⟨o,e⟩⟩
  D1:=λc m=>⟨aa _ (new _ (Cp _ (E0.mpr ⟨c,m,rfl⟩))),by refine EX (cl c m) ?_;intro u o e _;exact⟨o,e⟩⟩
  objs:=λi o e=>by
   refine AC (g.objs i o e) ?_;intro a p r;have :=r.mono (J:=[]) im (keep a);exact⟨a,p,by simpa using this⟩
  env:=⟨_,x.toInCall.ns,cl,λy v l fr=>by
   rcases fr with q|q|q;. exact AC (GY.local q hn l) λu e r=>⟨u,⟨λ_=>e,λz=>T5 z q⟩,r⟩
   . refine AC (GY.cell (kd:=env.kindOf) (m:=λ_=>L) (λz=>T5 (.inl q) z) hn l) ?_;intro u e r;refine xE (TC fn.sc.names (Af.objs.size+1) [] y (mem_of_lookup ((a_ y).symm.trans q))) ?_;intro c hc;have e':=WE ok.nodup hc;rw[<-EK]at e';exact⟨u,⟨λz=>T5 (.inl q) z,λ_=>⟨c,e',e▸x.cell _ _ e'⟩⟩,r⟩
   . exact absurd ((a_ y).symm.trans q) (ok.kc y)⟩
  base:=λw o e=>keep w o (g.base w o e)
  os:=g.os
  gens:=g.gens
  frames:=by show A.frames.map _=_;rw[g.frames];rfl
  DT:=by
   refine bQ2 (by rw[TD,<-ok.sc,ok.kind];decide) D2 x.toInCall.ns (nb _ (new _ Co)) ?_;exact bs4 (λb o e _=>⟨o,keep b o e,rfl⟩) g.DT
  Cy:=λA1 m=>by
   show A1∉C/\(A1∈env.locals::env.cells.map (·.2)->A1=env.locals)/\_;rw[RW,D2]at m;rcases Cj.mp m with e|m;. exact⟨e▸aa _ (new _ Co),λ_=>e,_,e▸KD,by unfold HB;rw[yf]⟩
   . refine Pp (g.Cy A1 m) ?_;intro q _ o ho hd;exact⟨q,λz=>(by rw[new A1 z]at ho;exact(BE ho).elim),o,keep _ _ ho,hd⟩
  mods:=g.mods
  handled:=g.handled
  depth:=by have :=g.depth;show A.depth+1+3*d<900;(with_reducible exact Mine.yK (by assumption) (by assumption) (by decide))
  units:=by have :=g.units;show A.units+3+10*d<9000;(with_reducible exact Mine.yK (by assumption) (by assumption) (by decide))}
theorem Ga.into(g:Ga B F K A H C s)(hd:K.d=d+1){fn:Fn}{o:Bi}(ok:FnAt B a fn o fd){b:I (U×V)}(hb:JH fn args=G b)(rs:Aa s.heap C args us){AS:Dt->AR->Prop}(D:∀{env:Gh}{AJ:AR},Gd B ⟨env,env.locals::env.cells.map (·.2),env::F.outs⟩ ⟨fn.sc,d⟩ (A.deeper env) ⟨b,H.h,H.n⟩ C AJ->(∀b o,s.heap.get? b=G o->AJ.heap.get? b=G o)->env.frame=G env.locals->(∀w∈env.locals::env.cells.map (·.2),s.heap.get? w=L)->D7 (AQ B.prog B.w) A (.func fn.body env) AS AJ):D7 (AQ B.prog B.w) A (.call (.ref a) ⟨us,[]⟩) AS s:=by
 refine G5 (ok.bind hb) ?_;intro hn hk bd;have yg:A.depth<recursionLimit:=by have :=g.depth;exact J' (show _<900 by(with_reducible exact H2 (H3 _ _) (by assumption))) (by decide)
 refine codeAny_call_function yg (g.base a o ok.get) ok.data ok.co ok.gen ok.body (ok.code.keeps g.base) (bd g.base rs λKA Af L6 kh=>?_);rw[ok.closure];refine wpAny_newFunctionEnv_cells ok.kind (λx hx=>?_) λenv he AJ x=>?_
 . have JO:x.1∈b.map (·.1):=by rw[<-kh.keys];exact E0.mpr ⟨x,hx,rfl⟩
   rw[ok.sc];rcases hk x.1 JO with q|q;. exact .inl q
   . refine xE (TC fn.sc.names (Af.objs.size+1) [] x.1 (mem_of_lookup q)) ?_;intro c hc;refine .inr ⟨q,?_⟩;show((Jk (Af.objs.size+1) fn.sc.names []).lookup x.1).isSome=M;rw[WE ok.nodup hc];rfl
 . refine M8 (g.enter hd ok hn hk L6 kh he x) ?_;intro AN keep D2 new;exact⟨ok.lim.keeps λw o e=>keep w o (g.base w o e),D AN keep D2 new⟩
theorem ab{fn:Fn}{o:Bi}(ok:FnAt B a fn o fd){b:I (U×V)}(hb:JH fn args=G b)(hd:K.d=d+1)(hf:f=.next/\v=.none\/f=.ret v)(D:∀{F:Fm}{A:CK}{C:I A8}{s:AR}{C4:I Gh},F.outs=F.env::C4->F.env.frame=G F.env.locals->Gd B F ⟨fn.sc,d⟩ A ⟨b,H.h,H.n⟩ C s->CJ B F ⟨fn.sc,d⟩ A AB C s (J2 fn.body F.env) (FR f))(g:Gd B F K A H C s)(rs:Aa s.heap C args us){AS:Dt->AR->Prop}(k:∀u AT s',Gd B F K A ⟨H.env,AB.h,AB.n⟩ AT s'->Nx F.D [] s.heap s'.heap C AT->VR s'.heap AT v u->AS (.ok (.ret u)) s'):D7 (AQ B.prog B.w) A (.call (.ref a) ⟨us,[]⟩) AS s:=by
 refine g.ga.into hd ok hb rs λ{env AJ}AN keep D2 new=>codeAny_func (D (C4:=F.outs) rfl D2 AN _ _ λu Au Ai AU Al BB=>?_);have xx:Nx F.D [] s.heap Ai.heap C Au:=by
   have y:=(Nx.ext (AM:=Fm.D ⟨env,env.locals::env.cells.map (·.2),env::F.outs⟩) (AZ:=[]) (C:=C) keep).kY (W':=env.locals::env.cells.map (·.2)) (λb m=>nomatch m)|>.trans Al;exact⟨y.pre,y.live,y.Bw,λb o e m _=>AC (y.same b o e m (λz=>by rw[new b z]at e;exact(BE e).elim)) λsl q r=>⟨sl,q,λhz=>r λz=>hz (Fm.yd D2 (λw=>by rw[new b (w▸Co)]at e;exact(BE e).elim) z)⟩⟩
 have gg:Gd B F K A ⟨H.env,AB.h,AB.n⟩ Au Ai:=g.back (A7:=⟨H.env,AB.h,AB.n⟩) xx AU.len AU.nodup AU.fresh AU.live AU.objs AU.base AU.os AU.gens (Cf.Gv g g.env xx);rcases hf with C9|rfl;refine xA C9 ?_;(try clear C9);intro Ck D8;subst Ck;subst D8;rotate_left;rotate_left;. exact k _ Au Ai gg xx (by cases BB;rfl)
 . refine AC BB ?_;(try clear BB);intro y B6 BB;subst B6;exact k _ Au Ai gg xx BB
theorem ae(A9:C5 B A3 n){fn:Fn}{o:Bi}(ok:FnAt B a fn o fd)(h:JJ K (ev A3 n) fn args H=.ok (.v v) A7)(g:Gd B F K A H C s)(rs:Aa s.heap C args us){AS:Dt->AR->Prop}(k:∀u AT s',Gd B F K A A7 AT s'->Nx F.D [] s.heap s'.heap C AT->VR s'.heap AT v u->AS (.ok (.ret u)) s'):D7 (AQ B.prog B.w) A (.call (.ref a) ⟨us,[]⟩) AS s:=by
 refine A0.Bx h ?_;clear h;intro b hb h;have key:∃d f AB,K.d=d+1/\ev A3 n ⟨fn.sc,d⟩ (.ss fn.body) ⟨b,H.h,H.n⟩=.ok (.f f) AB/\(f=.next/\v=.none\/f=.ret v)/\A7=⟨H.env,AB.h,AB.n⟩:=by cases hd:K.d with
 |zero=>rw[hd]at h;exact(Ac h).elim|succ d=>
  rw[hd]at h;refine A0.Hw h ?_;clear h;intro f AB AP h;cases f with
 |ret w=>(first|(revert k;(first|apply BX h|apply B5 h|apply BY h|apply BZ h|apply B_ h);intro k)|apply BX h|apply B5 h|apply BY h|apply BZ h|apply B_ h);exact⟨d,_,AB,rfl,AP,.inr rfl,rfl⟩|next=>refine xA (FG h) ?_;intro q Bq;clear h k;subst Bq;injection q with q;exact⟨d,_,AB,rfl,AP,.inl ⟨rfl,q.symm⟩,rfl⟩|brk=>exact(Ac h).elim|cont=>exact(Ac h).elim
 refine JA key ?_;(try clear key);intro d f AB hd AP hf Bg;clear h;subst Bg;exact ab ok hb hd hf (λ_ _ g=>A9.ss AP g) g rs k
theorem ki(A9:C5 B A3 n){fn:Fn}{o:Bi}(ok:FnAt B a fn o fd)(h:JJ K (ev A3 n) fn args H=.ok (.v v) A7)(g:Gd B F K A H C s)(rs:Aa s.heap C args us):Ae B F K A A7 C s (CE (.ref a) us) (RV v):=λA2 E k=>HP (ae A9 ok h g rs λu AT s' g' x' r'=>k u AT s' g' x' r')
end
noncomputable def MV:MK->U->A4->A4->I A4->Prop
 |.str,m,u,f,first=>f=.builtin ("str."++m.toString)/\first=[u]|.lst,m,u,f,first=>f=.builtin ("list."++m.toString)/\first=[u]|.F1,m,u,f,first=>f=.builtin ("dict."++m.toString)/\first=[u]|.fn a,_,u,f,first=>f=.ref a/\first=[u]|.tup,_,_,f,first=>f=.builtin "tuple.__new__"/\first=[]
noncomputable def CW(Av:fY)(h:BK)(f:A4):Prop:=∃k,(k=Keeper.frame\/k=Keeper.machine\/k=Keeper.boundFrame)/\Gj Av h (keeperOf f) k
theorem CW.builtin{id:D9}:CW Av h (.builtin id):=⟨.machine,.inr (.inl rfl),bs5 rfl⟩
theorem CW.type{id:D9}:CW Av h (.type id):=⟨.machine,.inr (.inl rfl),bs5 rfl⟩
theorem CW.func{o:Bi}(e:h.get? a=G o)(d:o.data=.func fd):CW Av h (.ref a):=⟨.frame,.inl rfl,(Ki (part:=L) e).andThen (by rw[d];exact .now)⟩
structure TE(B:Bs)(A3:Mine.Ctx)(n:O):Prop where
 MZ:∀{K:Kx}{f:V}{args:I V}{H A7:Mine.St}{v:V},ev A3 n K (.call f args) H=.ok (.v v) A7->∀{F:Fm}{A:CK}{C:I A8}{s:AR}{fu:A4},Gd B F K A H C s->VR s.heap C f fu->CW (AQ B.prog B.w) s.heap fu
 kj:∀{K:Kx}{kd:MK}{o:V}{m:U}{args:I V}{H A7:Mine.St}{v:V},ev A3 n K (.HV kd o m args) H=.ok (.v v) A7->∀{F:Fm}{A:CK}{C:I A8}{s:AR}{u fv:A4}{first:I A4},Gd B F K A H C s->MV kd m u fv first->CW (AQ B.prog B.w) s.heap fv
 HV:∀{K:Kx}{kd:MK}{o:V}{m:U}{args:I V}{H A7:Mine.St}{v:V},ev A3 n K (.HV kd o m args) H=.ok (.v v) A7->∀{F:Fm}{A:CK}{C:I A8}{s:AR}{u fv:A4}{first us:I A4},Gd B F K A H C s->MV kd m u fv first->VR s.heap C o u->Aa s.heap C args us->Ae B F K A A7 C s (CE fv (first++us)) (RV v)
noncomputable def kl(B:Bs)(A3:Mine.Ctx):Prop:=∀{F:Fm}{K:Kx}{A:CK}{H:Mine.St}{C:I A8}{s:AR}{v:V}{u:A4}{m:U}{kd:MK},Gd B F K A H C s->VR s.heap C v u->QE A3 v m H.h=G kd->∀pl A2 E,(∀fv first s',Gd B F K A H C s'->Nx F.D [] s.heap s'.heap C C->MV kd m u fv first->A2 (fv,first) s')->AH (AQ B.prog B.w) A (Jl u m pl) A2 E s
section
theorem WF:∀{l:I AA},l.all CP=M->(F9 pos (E' l env)).any (·.1)=A6
 |[],_=>rfl|x::l,h=>by
  rw[K7 (B1 h)];exact WF (l:=l) (Ak h)
theorem af{f:A4}{A2:Args->AR->Prop}(h:AH Av A (Lp []) (λvs s'=>A2 ⟨vs,[]⟩ s') E s):AH Av A (evalArgs f M [] []) A2 E s:=by
 unfold evalArgs;show AH Av A (Lp []>>=_) A2 E s;refine A5 (Fg h (λvs s' Q=>?_) λ_ _ x=>x);refine A5 (AW ?_);refine C0 ?_;exact A5 (AW (A5 (AW (AW Q))))
theorem km{args:I AA}(hp:args.all CP=M)(h:∀p,Ae B F K A AB C s (Lp (F9 p (E' args F.env))) (OA vs))(hc:∀us A_ AJ,Gd B F K A AB A_ AJ->Nx F.D [] s.heap AJ.heap C A_->Aa AJ.heap A_ vs us->CW (AQ B.prog B.w) AJ.heap fv/\Ae B F K A A7 A_ AJ (CE fv (first++us)) (RV v)):Ae B F K A A7 C s (PY pos fv first (F9 pos (E' args F.env)) []) (RV v):=by
 intro A2 E k;refine fy (P:=λh=>CW (AQ B.prog B.w) h fv) (by rw[WF hp];rfl) (λh x=>x) ?_;have done:∀us A_ AJ,Gd B F K A AB A_ AJ->Nx F.D [] s.heap AJ.heap C A_->Aa AJ.heap A_ vs us->CW (AQ B.prog B.w) AJ.heap fv/\AH (AQ B.prog B.w) A (CE fv (first++us)) A2 E AJ:=λus A_ AJ AN Ab Aq=>by
  refine xA (hc us A_ AJ AN Ab Aq) ?_;intro c d;exact⟨c,d _ _ λu Au Ai AU Al BB=>k u Au Ai AU (Ab.trans Al) BB⟩
 cases args with
 |nil=>exact af (h pos _ E done)|cons x l=>
  have :=h pos _ E done;rw[K7 (B1 hp)]at this ⊢;exact tI this
set_option tactic.hygienic true in
theorem ag{o:AA}{a:U}{w:Dz A4}(h:Vn o=M):attributeBase o a env w=w:=by
 cases o<;>first|rfl|skip
 rename_i f args kw pos;cases args with
 |nil=>exact(B0 h).elim|cons a l=>cases f<;>rfl
theorem yh(A9:C5 B A3 n)(Sc:TE B A3 n)(AS:kl B A3){o:AA}{m:U}{Fo:B9}{args:I AA}(h:Fp A3 K (ev A3 n) (.Call (.Attribute o m Fo) args [] pos) H=.ok (.v v) A7)(g:Gd B F K A H C s):Ae B F K A A7 C s (eval (.Call (.Attribute o m Fo) args [] pos) F.env) (RV v):=by
 refine A0.Be h ?_;clear h;intro hp h;refine A0.Be h ?_;clear h;intro hq h;simp only[D6]at hq;refine xA hq ?_;(try clear hq);intro Aw yi;refine xA Aw ?_;(try clear Aw);intro hs hl;refine A0.Cg h ?_;clear h;intro ov AB AP h;refine A0.Bx h ?_;clear h;intro kd BD h;refine A0.L7 h ?_;clear h;intro vs Bc C3 h;intro A2 E k;rw[bs6,ag hs];refine A5 (A9.e AP g _ _ λu A_ AJ AN Ab Aq=>A5 (El ?_));have CH:bs7 (args.length+0) (F9 pos (E' args F.env)) (Ur pos (Us [] F.env))=M:=by
  have e1:=WF (pos:=pos) (env:=F.env) hp;have e2:(F9 pos (E' args F.env)).all (λx=>!x.1)=M:=by
   rw[Bn];intro x hx;rw[Y9]at e1;have :=e1 x hx;simpa using this
  have e3:args.length<30:=by have :=yi;simp only[G0]at this;exact Dk this
  show((F9 pos (E' args F.env)).all (λx=>!x.1)&&M&&decide (args.length+0+0<30))=M;rw[e2];simp[e3]
 show AH _ A (PZ o m Fo pos F.env u (args.length+0) (F9 pos (E' args F.env)) (Ur pos (Us [] F.env))) A2 E AJ;unfold PZ;rw[CH];refine A5 (C0 ?_);show AH _ A (Jl u m _) _ E AJ;refine AS AN Aq BD _ _ _ λfv first WD yj ko mv=>?_;show AH _ A (Jm M o F.env Fo pos>>=λp=>PY p fv first (F9 pos (E' args F.env)) []) A2 E WD;have OF:Jm M o F.env Fo pos=pure pos:=by
  unfold Jm;have :(Fo.endLine==pos.line)=M:=by simpa using hl
  rw[this];rfl
 rw[OF];refine A5 (AW ?_);exact km (A7:=A7) hp (λp=>A9.N C3 p yj) (λus Au Ai AU Al BB=>⟨Sc.kj h AU mv,(Sc.HV h AU mv ((Aq.nx ko).nx Al) BB)⟩) A2 E λy BS Ax Ap B8 BQ=>k y BS Ax Ap (Ab.trans (ko.trans B8)) BQ
theorem yk(A9:C5 B A3 n)(Sc:TE B A3 n){f:AA}{args:I AA}(hf:∀o m p,f≠.Attribute o m p)(hp:args.all CP=M)(h:((ev A3 n K (.e f) H).V λfv H=>(ev A3 n K (.N args) H).A1 λvs H=>ev A3 n K (.call fv vs) H)=.ok (.v v) A7)(g:Gd B F K A H C s):Ae B F K A A7 C s (eval (.Call f args [] pos) F.env) (RV v):=by
 refine A0.Cg h ?_;clear h;intro fv AB AP h;refine A0.L7 h ?_;clear h;intro vs Bc BD h;intro A2 E k;have e:eval (.Call f args [] pos) F.env=(do PY pos (<-eval f F.env) [] (F9 pos (E' args F.env)) []):=by cases f<;>first|rfl|exact absurd rfl (hf _ _ _)
 rw[e];refine A5 (A9.e AP g _ _ λu A_ AJ AN Ab Aq=>?_);exact km (A7:=A7) (first:=[]) hp (λp=>A9.N BD p AN) (λus Au Ai AU Al BB=>⟨Sc.MZ h AU (Aq.nx Al),(A9.call h AU (Aq.nx Al) BB)⟩) A2 E λy BS Ax Ap B8 BQ=>k y BS Ax Ap (Ab.trans B8) BQ
end
noncomputable def kq(C_:AA)(gens:I FP)(sc:BU)(pos:B9)(depth:O)(it Am:A4)(env:Gh)(g':FP)(x:A4):Dz Fin:=Hf [x] (if g'.is_async !=0 then asyncIter x else PU x)>>=λVy=>runOwn (.compStart (.ListComp C_ gens sc pos) (depth+1) Vy Am env) env>>=λ_=>Kj (.compLoop (.ListComp C_ gens sc pos) depth it Am env)
noncomputable def ah(C_:AA)(gens:I FP)(sc:BU)(pos:B9)(depth:O)(it Am:A4)(env:Gh)(o:AD FP)(ok:AK):Dz Fin:=if ok then(match o with
 |some g'=>eval g'.iter env>>=λx=>Kh g'.iter.pos>>=λ_=>if g'.is_async !=0 then foldedIterable g'.iter x>>=kq C_ gens sc pos depth it Am env g' else t9 g'.iter env x>>=kq C_ gens sc pos depth it Am env g'|none=>do
 (do let _<-call (.builtin "list.append") [Am,<-eval C_ env])Kj (.compLoop (.ListComp C_ gens sc pos) depth it Am env))else Kj (.compLoop (.ListComp C_ gens sc pos) depth it Am env)
theorem kr{it Am:A4}(hg:gens[depth]?=G g)(ha:g.is_async=0):Ut (.ListComp C_ gens sc pos) depth it Am env=(Kh g.iter.pos>>=λ_=>ES it>>=λr=>match r with
 |none=>pure (.done .next)|some v=>Y5 g.target it v>>=λ_=>Ex g.target env v>>=λ_=>forIn g.ifs M (λc r=>if r=M then do let ok<-NS c env (eval c env);pure (G2 ok)else pure (G2 r))>>=ah C_ gens sc pos depth it Am env gens[depth+1]?):=by
 unfold Ut;simp only[hg,ha];rfl
section
theorem kt(A9:C5 B A3 n){l:I AA}(h:Zz (ev A3 n K) l H=.ok (.b b) A7)(g:Gd B F K A H C s):Ae B F K A A7 C s (forIn l M λc r=>if r=M then do let ok<-bs8 c F.env (eval c F.env);pure (G2 ok)else pure (G2 r)) (RB b):=by
 intro A2 E k;cases l with
 |nil=>
  (first|(revert k;(first|apply BX h|apply B5 h|apply BY h|apply BZ h|apply B_ h);intro k)|apply BX h|apply B5 h|apply BY h|apply BZ h|apply B_ h);exact wpAny_tests_nil (k _ C s g (Nx.refl ..) rfl)|cons c l=>cases l with
 |cons _ _=>exact(Ac h).elim|nil=>exact wpAny_tests_one (A9.t h g _ _ k)
theorem ky(r:E6 s.heap C it i AE)(h:A2 (.ref AE) s):AH (AQ B.prog B.w) A (PU (.ref AE)) A2 E s:=by cases it with
 |tup Y=>refine Bv r ?_;(try clear r);intro T us _ hi _;exact wpAny_pyIter_tupleiter hi h|H9 lo hi=>refine AC r ?_;(try clear r);intro l hi _;exact wpAny_pyIter_rangeiter hi h|lst k=>refine AC r ?_;(try clear r);intro a _ hi;exact wpAny_pyIter_listiter hi h|keys k n=>refine AC r ?_;(try clear r);intro a _ hi;exact wpAny_pyIter_keyiter hi h|K2 s=>exact r.elim
theorem kz{Am:A4}{AS:Dt->AR->Prop}(hg:gens[depth]?=G g)(ha:g.is_async=0)(r:E6 s.heap C it i AE)(h:D7 (AQ B.prog B.w) A (.compLoop (.ListComp C_ gens sc pos) depth (.ref AE) Am env) AS s):D7 (AQ B.prog B.w) A (.compStart (.ListComp C_ gens sc pos) depth (.ref AE) Am env) AS s:=by
 refine Rb ?_;show AH _ A ((g0 (.ListComp C_ gens sc pos) depth (.ref AE) Am env).onRaise (λx=>do IE x env;Kh bs9)) _ _ s;refine bt0 ?_;unfold g0;have e:(clausesOf (.ListComp C_ gens sc pos))[depth]?=G g:=hg;simp only[e,bt1,ha,YA,Kk,Kl];refine A5 (Rc (g4 ?_));split;. exact AW (Rd rfl h)
 . exact A5 (Gk (A5 (El (A5 (ky r (AW (Rd rfl h)))))))
noncomputable def Gw(B:Bs)(F:Fm)(C:I A8)(h:BK)(D:A8)(Am:I V):Prop:=CM B F C h D/\∃us,h.PlainList D us/\Aa h C Am us.toList
theorem Gw.nx(f:Gw B F C h D Am)(x:Nx AM AZ h Q C AT)(hw:D∉AZ):Gw B F AT Q D Am:=by
 refine Ho f ?_;(try clear f);intro fr us B6 v;refine xE B6 ?_;(try clear B6);intro n e;exact⟨fr.nx x,us,⟨n,x.keep D _ e fr.C hw (λ_=>rfl)⟩,v.nx x⟩
theorem Gw.but(f:Gw B F C h D Am)(k:Ds AE h Q)(im:Dw h Q)(ne:D≠AE):Gw B F C Q D Am:=by
 refine Ho f ?_;(try clear f);intro fr us BJ v;refine xE BJ ?_;(try clear BJ);intro n e;exact⟨fr.at ⟨_,k D _ ne e⟩,us,⟨n,k D _ ne e⟩,v.Bw im⟩
structure OG(B:Bs)(A3:Mine.Ctx)(n:O):Prop where GS:∀{K:Kx}{C_:AA}{g:FP}{gens:I FP}{it:It}{i:O}{Am l:I V}{H A7:Mine.St},ev A3 n K (.GS C_ g gens it i Am) H=.ok (.vs l) A7->∀{GZ:I FP}{sc:BU}{pos:B9}{depth:O},GZ.drop depth=g::gens->g.is_async=0->∀{F:Fm}{A:CK}{C BG:I A8}{s:AR}{Af:BK}{AE D:A8}{AS:Dt->AR->Prop},Gd B F K A H C s->Nx F.D (D::F.AZ) Af s.heap BG C->Af.get? AE=L->CM B F C s.heap AE->E6 s.heap C it i AE->Gw B F C s.heap D Am->D≠AE->(∀AT s',Gd B F K A A7 AT s'->Nx F.D (D::F.AZ) Af s'.heap BG AT->Gw B F AT s'.heap D l->AS (.ok .next) s')->D7 (AQ B.prog B.w) A (.compLoop (.ListComp C_ GZ sc pos) depth (.ref AE) (.ref D) F.env) AS s
set_option tactic.hygienic true in
theorem QN(h:MJ g=M):CP g.iter=M/\g.is_async=0:=by
 unfold MJ at h;simp only[D6]at h;refine⟨h.1,?_⟩;have :=h.2;split at this;. rename_i e;exact e
 . exact(E5 this).elim
theorem yl(x:Nx AM AZ h Q C AT):Nx AM (D::AZ) h Q C AT:=x.kY λ_ m=>Cp _ m
theorem ym(A9:C5 B A3 n)(SL:OG B A3 n){l:I V}(h:step A3 K (ev A3 n) (.GS C_ g gens it i Am) H=.ok (.vs l) A7){GZ:I FP}(hd:GZ.drop depth=g::gens)(ha:g.is_async=0){AS:Dt->AR->Prop}(Bl:Gd B F K A H C s)(Cq:Nx F.D (D::F.AZ) Af s.heap BG C)(hI:Af.get? AE=L)(fr:CM B F C s.heap AE)(r:E6 s.heap C it i AE)(ac:Gw B F C s.heap D Am)(ne:D≠AE)(k:∀AT s',Gd B F K A A7 AT s'->Nx F.D (D::F.AZ) Af s'.heap BG AT->Gw B F AT s'.heap D l->AS (.ok .next) s'):D7 (AQ B.prog B.w) A (.compLoop (.ListComp C_ GZ sc pos) depth (.ref AE) (.ref D) F.env) AS s:=by
 have hg:GZ[depth]?=G g:=by have :=congrArg (·[0]?) hd;simpa using this
 have l3:GZ[depth+1]?=gens[0]?:=by have :=congrArg (·[1]?) hd;simpa using this
 have yn:GZ.drop (depth+1)=gens:=by have :=congrArg (bt2 1) hd;simpa[bt3]using this
 refine A0.Bx h ?_;clear h;intro o AP h;refine ff rfl (λ_ s'=>s'=s) (λn s' e=>?_) 0 rfl;subst e;show AH _ A ((Ut (.ListComp C_ GZ sc pos) depth (.ref AE) (.ref D) F.env).onRaise (λx=>do IE x F.env;fg x)) _ _ _;refine fh ?_;cases o with
 |none=>
  (first|(revert k;(first|apply BX h|apply B5 h|apply BY h|apply BZ h|apply B_ h);intro k)|apply BX h|apply B5 h|apply BY h|apply BZ h|apply B_ h);have fin:∀Q tk,Gd B F K A H C {s' with heap:=Q,toks:=tk}->Ds AE s'.heap Q->AS (.ok .next) {s' with heap:=Q,toks:=tk}:=λQ tk AN DU=>by
   have hc:∀o,s'.heap.get? AE=G o->C2 o=A6:=λo e=>by
    refine JA r.cls ?_;intro o' nm vs e' c d hn;rw[e']at e;injection e with e;subst e;unfold C2;rw[c];rcases hn with rfl|rfl|rfl|rfl<;>rfl
   exact k C _ AN (Cq.F2 DU hI) (ac.but DU (Gs DU hc) ne)
  rw[kr hg ha];exact A5 (El (A5 (K8 Bl fr r AP (λx hx=>by exact(BE hx).elim) λ_ Q tk AN DU=>AW (fin Q tk AN DU))))|some x=>
  refine A0.Be h ?_;clear h;intro hf h;simp only[D6]at hf;refine xA hf ?_;(try clear hf);intro hf yo;refine A0.Hw h ?_;clear h;intro _ Bc BD h;refine A0.OC h ?_;clear h;intro b GX C3 h;have hc:∀o,s'.heap.get? AE=G o->C2 o=A6:=λo e=>by
   refine JA r.cls ?_;intro o' nm vs e' c d hn;rw[e']at e;injection e with e;subst e;unfold C2;rw[c];rcases hn with rfl|rfl|rfl|rfl<;>rfl
  have l4:AE∉D::F.AZ:=λm=>by
   rcases Cj.mp m with e|e;. exact ne e.symm
   . exact fr.w e
  rw[kr hg ha];refine A5 (El (A5 (K8 Bl fr r AP (λy hy u Q tk AN DU Eo Aq Hx=>?_) λhx=>by(exfalso;cases hx))));injection hy with hy;subst hy;refine A5 (QM Aq (A5 (A9.asg BD AN Hx _ _ λ_ Au Ai AU Al _=>?_)));refine A5 (kt A9 C3 AU _ _ λMY BS Ax Ap B8 BQ=>?_);clear C3;subst BQ;have xx:=Al.trans B8.FZ;have Ep:=(Cq.F2 DU hI).trans (yl xx);have EF:=Eo.nx xx;have BQ:=Aq.nx xx Eo.C Eo.w;have WG:=(ac.but DU (Gs DU hc) ne).nx xx (ac.but DU (Gs DU hc) ne).1.w;cases MY with
 |false=>exact AW (.inr ⟨rfl,SL.GS h hd ha Ap Ep hI EF BQ WG ne k⟩)|true=>cases gens with
 |nil=>
    rw[show GZ[depth+1]?=L from l3,show ah C_ GZ sc pos depth (.ref AE) (.ref D) F.env L M=_ from DA rfl];refine A0.Cg h ?_;clear h;intro v l5 FH h;refine A5 (A5 (A9.e FH Ap _ _ λu Ic EG CA Cz JP=>?_));have l6:=WG.nx Cz (by simp);have L9:=EF.nx Cz;have HY:=BQ.nx Cz EF.C (by simp);refine Ho l6 ?_;(try clear l6);intro fD us hp vr;have Ee:us.size<=FA:=by
     have e1:=vr.length;have e2:Am.length<=100000:=Dk hf;simp at e1;exact B4 (show _<=100000 by(with_reducible exact Mine.yS (by assumption) (by assumption))) (by decide)
    refine A5 (wpAny_list_append_plain hp (λQ FI Df=>AW (AW ?_)) Ee);have TF:∀o,EG.heap.get? D=G o->C2 o=A6:=λo e=>by refine xE hp ?_;(try clear hp);intro m e';rw[e']at e;injection e with e;subst e;rfl
    have im:=Gs Df.extBut TF;have Cn:=CA.move (Q:=Q) (tk:=EG.toks) fD Df.extBut TF;have xD:Nx F.D (D::F.AZ) EG.heap Q Ic Ic:=Nx.but (.inr Co) Df.extBut TF (by refine xE FI ?_;(try clear FI);intro m e;exact⟨_,e⟩);have yp:=(Ep.trans Cz.FZ).trans xD;refine .inr ⟨rfl,SL.GS h hd ha Cn yp hI (L9.nx xD) (HY.nx xD L9.C l4) ⟨fD.nx xD,_,FI,?_⟩ ne k⟩;have :=(vr.Bw im).app (v':=[v]) (u':=[u]) ⟨u,[],rfl,JP.Bw im,rfl⟩;simpa using this|cons g' kE=>
    refine xA (QN yo) ?_;intro FI Fq;refine A0.Cg h ?_;clear h;intro w l5 FH h;refine A0.Bx h ?_;clear h;intro Vy M_ h;refine A0.L7 h ?_;clear h;intro Ie bN1 TG h;have hl:GZ[depth+1]?=G g':=by rw[l3];rfl
    rw[hl];rw[show ah C_ GZ sc pos depth (.ref AE) (.ref D) F.env (G g') M=_ from DA rfl];have na:¬(g'.is_async !=0)=M:=by rw[Fq];exact NW
    refine A5 (A9.e FH Ap _ _ λu Ic EG CA Cz JP=>A5 (El (P_ (λz=>absurd z na) λ_=>A5 (NX (QK FI u) (A5 (C0 (P_ (λz=>absurd z na) λ_=>OE CA JP M_ λI' Q tk Cn EL WH WI WJ=>?_)))))));have yq:=(WG.nx Cz (by simp)).nx EL (by simp);have Ma:D≠I':=λz=>by refine xE ((WG.nx Cz (by simp)).1.live) ?_;intro o e;rw[z,WH]at e;exact(BE e).elim
    refine A5 (Y6 (wpAny_run (kz (A:=A) hl Fq WJ (SL.GS TG (GZ:=GZ) (depth:=depth+1) yn Fq (Af:=EG.heap) (BG:=Ic) Cn (EL.FZ) WH WI WJ yq Ma λWK TH G_ GF yr=>?_))));have L9:=EF.nx Cz;have HY:=BQ.nx Cz EF.C (by simp);exact AW (.inr ⟨rfl,SL.GS h hd ha G_ ((Ep.trans Cz.FZ).trans GF) hI (L9.nx GF) (HY.nx GF L9.C l4) yr ne k⟩)
end
set_option tactic.hygienic true in
theorem ak:∀{l:I (U×J)},Sn l=M->(l.map (·.1)).Nodup
 |[],_=>HM|p::l,h=>by
  unfold Sn at h;split at h
  . rename_i e;refine EU.mpr ⟨λm=>?_,ak h⟩;refine AC (E0.mp m) ?_;intro q hq e';rw[aW]at e;have :∀{r:I (U×J)},q∈r->r.lookup p.1≠L:=λ{r}hr=>by induction r with
 |nil=>(exfalso;cases hr)|cons a r ih=>
     obtain⟨k,v⟩:=a;rw[PW];cases hb:p.1==k with
 |true=>simp|false=>
     rcases Cj.mp hr with z|z;. rw[z]at e';simp only at e';rw[e']at hb;simp at hb
     . exact ih z
    exact this hq e
  . exact(E5 h).elim
noncomputable def Er(env:Gh):I (U×E3)->I (U×A8)->I (U×A8)
 |[],Am=>Am|(x,k)::r,Am=>if k==.free then Er env r ((x,(env.cells.lookup x).getD 0)::Am)else Er env r Am
theorem al:∀(names:I (U×E3))(Am:I (U×A8)),(∀x,(x,GK)∈names->∃c,env.cells.lookup x=G c)->(forIn names Am λ(x:U×E3)(cs:I (U×A8))=>(if(x.2==.free)=M then(do let c<-Uu env x.1;pure (G2 ((x.1,c)::cs)))else pure (G2 cs):Dz (tJ (I (U×A8)))))=pure (Er env names Am)
 |[],Am,_=>by simp[Er]|(x,k)::r,Am,h=>by
  have hr:=λy(m:(y,GK)∈r)=>h y (Cp _ m);rw[Rf];unfold Er;by_cases q:k=.free
  . subst q;refine xE (h x Co) ?_;intro c e;have e1:Uu env x=pure c:=by unfold Uu;rw[e]
    simp only[g5,Km,e1,e,Option.getD_some];exact al r _ hr
  . have q':(k==GK)=A6:=by simpa using q
    simp only[q',Kk,Kl];exact al r _ hr
theorem WL(h:∀x,(x,GK)∈sc.names->∃c,env.cells.lookup x=G c):closureFor sc env=pure (Er env sc.names []):=by
 have :=al sc.names [] h;unfold closureFor;show(forIn sc.names [] (λ(x:U×E3)(cs:I (U×A8))=>match x with|(name,kind)=>if(kind==GK)=M then(do let c<-Uu env name;pure (G2 ((name,c)::cs)))else pure (G2 cs))>>=λcs=>pure cs)=_;have e:(λ(x:U×E3)(cs:I (U×A8))=>(match x with|(name,kind)=>if(kind==.free)=M then(do let c<-Uu env name;pure (G2 ((name,c)::cs)))else pure (G2 cs):Dz (tJ (I (U×A8)))))=λx cs=>if(x.2==.free)=M then(do let c<-Uu env x.1;pure (G2 ((x.1,c)::cs)))else pure (G2 cs):=by funext x cs;obtain⟨n,k⟩:=x;rfl
 rw[e,this];rfl
set_option tactic.hygienic true in
theorem QO:∀{names:I (U×E3)}{Am:I (U×A8)}{x:U}{c:A8},(∀x,(x,GK)∈names->∃c,env.cells.lookup x=G c)->(x,c)∈Er env names Am->(x,c)∈Am\/env.cells.lookup x=G c
 |[],_,_,_,_,h=>.inl h|(y,k)::r,Am,x,c,hh,h=>by
  have hr:=λy(m:(y,GK)∈r)=>hh y (Cp _ m);unfold Er at h;split at h
  . rename_i q;have q:k=.free:=by simpa using q
    subst q;rcases QO hr h with z|z
    . rcases Cj.mp z with e|e
      . injection e with e1 e2;subst e1;subst e2;refine xE (hh x Co) ?_;intro c e;rw[e];exact .inr rfl
      . exact .inl e
    . exact .inr z
  . exact QO hr h
theorem am:∀{names:I (U×E3)}{Am:I (U×A8)}{p:U×A8},p∈Am->p∈Er env names Am
 |[],_,_,h=>h|(y,k)::r,Am,p,h=>by
  unfold Er;split;. exact am (Cp _ h)
  . exact am h
theorem ao:∀{names:I (U×E3)}{Am:I (U×A8)}{x:U},(x,GK)∈names->∃c,(x,c)∈Er env names Am
 |(y,k)::r,Am,x,h=>by
  unfold Er;rcases Cj.mp h with e|e
  . injection e with e1 e2;subst e1;subst e2;skip;exact⟨_,am Co⟩
  . split;. exact ao e
    . exact ao e
theorem aq:∀{names:I (U×E3)}{Am:I (U×A8)},(names.map (·.1)).Nodup->(Am.map (·.1)).Nodup->(∀x∈names.map (·.1),x∉Am.map (·.1))->((Er env names Am).map (·.1)).Nodup
 |[],_,_,h,_=>h|(y,k)::r,Am,hn,ha,hd=>by
  refine xA (EU.mp hn) ?_;intro h1 h2;unfold Er;split
  . refine aq h2 (EU.mpr ⟨hd y Co,ha⟩) λx hx hm=>?_;rcases Cj.mp hm with q|q;. exact h1 (q▸hx)
    . exact hd x (Cp _ hx) q
  . exact aq h2 ha λx hx=>hd x (Cp _ hx)
theorem l7:∀{l:I (U×J)}{x:U}{c:J},(x,c)∈l->∃c',l.lookup x=G c'
 |(k,v)::r,x,c,h=>by
  rw[PW];cases hb:x==k with
 |true=>exact⟨v,rfl⟩|false=>
  rcases Cj.mp h with q|q;. injection q with q _;subst q;simp at hb
  . exact l7 q
theorem ar{env:Gh}{x:U}:∀{names:I (U×E3)},(names.map λ(n,k)=>if(k==GK&&env.scope.kind==.function&&env.kindOf n==G .cell)then(n,bt4)else(n,k)).lookup x=match names.lookup x with
  |none=>L|some k=>G (if(k==GK&&env.scope.kind==.function&&env.kindOf x==G .cell)then .cell else k)
 |[]=>rfl|(n,k)::r=>by
  have ih:=ar (env:=env) (x:=x) (names:=r);skip;show g6 x ((if(k==GK&&env.scope.kind==.function&&env.kindOf n==G .cell)=M then(n,bt4)else(n,k))::_)=_;by_cases hx:x=n
  . subst hx;by_cases hc:(k==GK&&env.scope.kind==.function&&env.kindOf x==G .cell)=M;. rw[DA hc];simp[PW,hc]
    . rw[CS hc];simp[PW,hc]
  . have JO:(x==n)=A6:=by simpa using hx
    by_cases hc:(k==GK&&env.scope.kind==.function&&env.kindOf n==G .cell)=M;. rw[DA hc];simp only[PW,JO];exact ih
    . rw[CS hc];simp only[PW,JO];exact ih
section
theorem Gd.leave(AN:Gd B F K A H A_ AJ){A1:A8}(hW:F'.AZ=[A1])(g':Gd B F' K' A' A7 AT s')(TJ:AJ.heap.get? A1=L)(TK:AJ.heap.get? D=L)(x:Nx F.D (D::F'.AZ) AJ.heap s'.heap A_ AT)(fD:CM B F' AT s'.heap D)(hs:E4 A1 s'.heap Q)(Hz:∀o,s'.heap.get? A1=G o->C2 o=A6)(ho:Ca B.prog B.w Q (AT++[D]) D o):Gd B F K A (Mine.St.new ⟨H.env,A7.h,A7.n⟩ o).2 (AT++[D]) {s' with heap:=Q}/\Nx F.D [] AJ.heap Q A_ (AT++[D]):=by
 refine G5 (g'.D5 A1 (by rw[hW];simp)) ?_;intro QP OH _;have KG:D≠A1:=λz=>fD.w (by rw[hW,z];simp);have k:Ds A1 s'.heap Q:=hs.extBut;have im:=Gs k Hz;have ne:∀{b:A8}{o:Bi},AJ.heap.get? b=G o->b≠A1/\b≠D:=λe=>⟨λz=>by(rw[z,TJ]at e;exact(BE e).elim),λz=>by(rw[z,TK]at e;exact(BE e).elim)⟩;have nW:∀{b:A8}{o:Bi},AJ.heap.get? b=G o->b∉D::F'.AZ:=λe m=>by
   rw[hW]at m;rcases Cj.mp m with z|z;. exact(ne e).2 z
   . exact(ne e).1 (CI.mp z)
 have xx:Nx F.D [] AJ.heap Q A_ (AT++[D]):=by
   refine AC x.pre ?_;intro J e hb;refine⟨⟨J++[D],by rw[e,Uo],λb m=>?_⟩,λb o q=>?_,λb o q c=>k b o (ne q).1 (x.Bw b o q c),λb o q m _=>let⟨sl,z,r⟩:=x.same b o q m (nW q);⟨sl,k b _ (ne q).1 z,r⟩⟩
   . rcases Dr.mp m with m|m;. exact hb b m
     . rw[CI.mp m];exact TK
   . refine xE (x.live b o q) ?_;intro o' q';exact⟨o',k b o' (ne q).1 q'⟩
 refine xE fD.live ?_;intro oD eD;refine⟨AN.back (s':={s' with heap:=Q}) (A7:=(Mine.St.new ⟨H.env,A7.h,A7.n⟩ o).2) xx (by simp[Mine.St.new,g'.len]) ?_ ?_ ?_ ?_ (λb p e=>k b p (λz=>by rw[z,QP]at e;exact(BE e).elim) (g'.base b p e)) g'.os g'.gens (Cf.Gv AN AN.env xx),xx⟩
 . refine ID.mpr ⟨g'.nodup,by simp,λa ha b hb e=>?_⟩;rw[CI.mp hb]at e;exact fD.C (e▸ha)
 . intro a m;rcases Dr.mp m with m|m;. exact g'.fresh a m
   . rw[CI.mp m];exact fD.base
 . intro a m;rcases Dr.mp m with m|m;. refine xE (g'.live a m) ?_;intro p e;exact⟨p,k a p (λz=>OH (z▸m)) e⟩
   . rw[CI.mp m];exact⟨oD,k D oD KG eD⟩
 . intro i p e;simp only[Mine.St.new,AL]at e;cases q:BC A7.n i with
 |true=>
     rw[q]at e;injection e with e;subst e;have :=CD q;exact⟨D,by rw[<-this,<-g'.len];simp,ho⟩|false=>
     rw[q]at e;refine AC (g'.objs i p e) ?_;intro b q r;exact⟨b,FY q,r.mono im λy=>k b y λz=>OH (z▸Ew q)⟩
theorem G9.comp(kd:G9 K F){env:I (U×V)}(hs:Kw K.sc sc env=M){A1:A8}{CV:Gh}(he:CV={scope:=tK sc F.env,locals:=A1,globals:=F.env.globals,cells:=Er F.env sc.names [],qual:=F.env.qual,func:=L,code:=F.env.code,frame:=F.env.frame,builtins:=F.env.builtins})(hL:∀c∈F.env.cells,c.2≠A1):G9 ⟨sc,K.d⟩ ⟨CV,[A1],F.outs⟩/\sc.kind=.function/\(∀x∈sc.names,x.2≠.cell)/\(∀x,(x,GK)∈sc.names->∃c,F.env.cells.lookup x=G c)/\(∀x∈sc.names,x.2=.local->sc.names.lookup x.1=G .local)/\(∀x,sc.names.lookup x=G .local->Ah env x=L)/\(∀x,sc.names.lookup x=G .free->(F.env.kindOf x=G .cell\/F.env.kindOf x=G .free)/\∃c,F.env.cells.lookup x=G c/\(Er F.env sc.names []).lookup x=G c):=by
 unfold Kw at hs;simp only[D6]at hs;refine xA hs ?_;(try clear hs);intro Aw OI;refine xA Aw ?_;(try clear Aw);intro GB QQ;obtain⟨hk,LA⟩:=GB;have hk:sc.kind=.function:=by
   revert hk;cases sc.kind<;>intro hk<;>first|rfl|exact(E5 hk).elim
 have QQ:=ak QQ;have all:∀x k,(x,k)∈sc.names->(k=.local/\Ah env x=L)\/(k=.free/\Zy K.sc x=M)\/k=.globalImplicit:=λx k m=>by
   have :=(Bn.mp OI) _ m;cases k<;>simp only at this;all_goals first|(first|exact(E5 this).elim|cases this)|skip
   . left;refine⟨rfl,?_⟩;split at this<;>first|assumption|exact(E5 this).elim
   . right;left;exact⟨rfl,this⟩
   . right;right;rfl
 have free:∀x,(x,GK)∈sc.names->(F.env.kindOf x=G .cell\/F.env.kindOf x=G .free)/\∃c,F.env.cells.lookup x=G c:=λx m=>by
   rcases all x _ m with B6|BJ|q;refine xA B6 ?_;(try clear B6);intro q _;rotate_left;refine xA BJ ?_;(try clear BJ);intro _ q;rotate_left;rotate_left;. (exfalso;cases q)
   . exact kd.cf x q
   . (exfalso;cases q)
 have D2:∀x,(x,GK)∈sc.names->∃c,F.env.cells.lookup x=G c:=λx m=>(free x m).2;have cl:∀x c,(x,c)∈Er F.env sc.names []->F.env.cells.lookup x=G c:=λx c m=>by
   rcases QO D2 m with z|z;. simp at z
   . exact z
 have l8:∀x,(x,GK)∈sc.names->∃c,F.env.cells.lookup x=G c/\(Er F.env sc.names []).lookup x=G c:=λx m=>by
   refine xE (ao (env:=F.env) (Am:=[]) m) ?_;intro c hc;refine xE (l7 hc) ?_;intro c' GC;exact⟨c',cl x c' (mem_of_lookup GC),GC⟩
 have kdOf:∀x,CV.kindOf x=match sc.names.lookup x with
 |none=>L|some k=>G (if(k==GK&&F.env.scope.kind==.function&&F.env.kindOf x==G .cell)then .cell else k):=λx=>by rw[he];exact ar
 refine⟨{
   fn:=by rw[he];exact hk
   sc:=LA
   kd:=λx k hx=>?_
   g3:=by rw[he];exact kd.g3
   b0:=by rw[he];exact kd.b0
   cells:=?_
   I_:=by rw[he];simp
   MR:=λc m=>by rw[he]at m ⊢;exact hL _ (mem_of_lookup (cl c.1 c.2 m))},hk,λx m z=>?_,D2,λx m z=>?_,λx hx=>?_,λx hx=>⟨(free x (mem_of_lookup hx)).1,l8 x (mem_of_lookup hx)⟩⟩
 . rw[aW]at hx;have e:=kdOf x;rw[hx]at e;refine(all x k (mem_of_lookup hx)).elim (λz=>?_) λz=>z.elim (λz=>?_) λz=>?_;. rw[z.1]at e ⊢;exact e
   . rw[z.1]at e hx ⊢;refine AC (l8 x (mem_of_lookup hx)) ?_;intro c _ hc;refine⟨?_,c,by rw[he];exact hc⟩;dsimp only at e;split at e;. exact .inl e
     . exact .inr e
   . rw[z]at e ⊢;exact e
 . rw[he];show(Er F.env sc.names []).Pairwise λx y=>x.2≠y.2;have KH:=aq (env:=F.env) (Am:=[]) QQ HM λ_ _ m=>by simp at m
   have hp:(Er F.env sc.names []).Pairwise λx y=>x.1≠y.1:=g7.mp KH;refine bQ3 (λ{a b}ha hb Gb z=>?_) hp;exact Gb (name_of_addr kd.cells (mem_of_lookup (cl a.1 a.2 ha)) (by rw[z];exact mem_of_lookup (cl b.1 b.2 hb)))
 . obtain⟨y,k⟩:=x;simp only at z;subst z;(rcases all y _ m with D8|DX|q;refine xA D8 ?_;(try clear D8);intro q _;rotate_left;refine xA DX ?_;(try clear DX);intro q _;rotate_left;rotate_left)<;>(exfalso;cases q)
 . obtain⟨y,k⟩:=x;simp only at z ⊢;subst z;exact aZ QQ m
 . rcases all x _ (mem_of_lookup hx)with Ed|FE|q;refine xA Ed ?_;(try clear Ed);intro _ q;rotate_left;refine xA FE ?_;(try clear FE);intro q _;rotate_left;rotate_left;. exact q
   . (exfalso;cases q)
   . (exfalso;cases q)
end
section
noncomputable def TL(F:Fm)(sc:BU)(A1:A8):Gh:={scope:=tK sc F.env,locals:=A1,globals:=F.env.globals,cells:=Er F.env sc.names [],qual:=F.env.qual,func:=L,code:=F.env.code,frame:=F.env.frame,builtins:=F.env.builtins}
noncomputable def I0(F:Fm)(sc:BU)(A1:A8):Fm:=⟨TL F sc A1,[A1],F.outs⟩
theorem Gd.comp(g:Gd B F K A H C s)(hs:Kw K.sc sc H.env=M){A1:A8}(hL:s.heap.get? A1=L)(k:∀b o,s.heap.get? b=G o->Q.get? b=G o)(ns:Q.Ns A1 λ_=>L):Gd B (I0 F sc A1) ⟨sc,K.d⟩ A H C {s with heap:=Q,toks:=tk}:=by
 have new:∀{b:A8}{o:Bi},s.heap.get? b=G o->b≠A1:=λe z=>by rw[z,hL]at e;exact(BE e).elim
 have QP:B.base.get? A1=L:=by cases e:B.base.get? A1 with
 |none=>rfl|some o=>have :=g.base A1 o e;rw[hL]at this;exact(BE this).elim
 have WM:∀c∈F.env.cells,c.2≠A1:=λc m=>by refine H8 (g.D1 c m) ?_;intro _ o e;exact new e
 refine iI (g.kinds.comp hs (A1:=A1) rfl WM) ?_;intro kd hk Mb D2 Mc OJ yt;have cl:∀x c,(x,c)∈Er F.env sc.names []->F.env.cells.lookup x=G c:=λx c m=>by
  rcases QO D2 m with z|z;. simp at z
  . exact z
 have im:Dw s.heap Q:=λb o e _=>k b o e;refine Hp (id ns) ?_;intro oL _ _ eL _;refine CZ g.env ?_;intro m _ ce r;exact{
  kinds:=kd
  len:=g.len
  nodup:=g.nodup
  fresh:=g.fresh
  live:=λa m=>by refine xE (g.live a m) ?_;intro o e;exact⟨o,k a o e⟩
  D5:=λa m=>by
   rw[CI.mp m];exact⟨QP,λz=>by(refine xE (g.live A1 z) ?_;intro o e;exact new e rfl),oL,eL⟩
  D1:=λc m=>by
   refine H8 (g.D1 c (mem_of_lookup (cl c.1 c.2 m))) ?_;intro q o e;exact⟨q,o,k _ _ e⟩
  objs:=λi o e=>by
   refine AC (g.objs i o e) ?_;intro a p r;have :=r.mono (J:=[]) im (k a);exact⟨a,p,by simpa using this⟩
  env:=⟨_,ns,λc m=>by refine xE (ce _ (mem_of_lookup (cl c.1 c.2 m))) ?_;intro u q;exact⟨u,q.keeps k⟩,λx v hl fr=>by
   have kdOf:(TL F sc A1).kindOf x=match sc.names.lookup x with
 |none=>L|some k=>G (if(k==GK&&F.env.scope.kind==.function&&F.env.kindOf x==G .cell)then .cell else k):=ar;have yu:(TL F sc A1).kindOf x=G .local\/(TL F sc A1).kindOf x=G .cell\/(TL F sc A1).kindOf x=G .free:=fr;revert yu;rw[kdOf];cases q:sc.names.lookup x with
 |none=>intro z;exact absurd z (by simp)|some kk=>cases kk with
 |«local»=>rw[OJ x q]at hl;exact(BE hl).elim|cell=>exact absurd rfl (Mb _ (mem_of_lookup q))|free=>
    intro _;refine Ho (yt x q) ?_;intro KH c hc GC;refine AC (r x v hl (.inr KH)) ?_;intro u sl e3;refine AC (sl.2 KH) ?_;intro c' e1 e2;have e1:=Bm (e1.symm.trans hc);refine⟨u,⟨λz=>?_,λ_=>⟨c,GC,e1▸e2.keeps k⟩⟩,e3.Bw im⟩;exfalso;have z:=kdOf.symm.trans z;rw[q]at z;dsimp only at z;split at z<;>(exfalso;cases z)|globalImplicit=>intro z;exact absurd z (by simp)|globalExplicit=>intro z;exact absurd z (by simp)⟩
  base:=λb o e=>k b o (g.base b o e)
  os:=g.os
  gens:=g.gens
  frames:=g.frames
  DT:=bs4 (λb o e _=>⟨o,k b o e,rfl⟩) g.DT
  Cy:=λb m=>let⟨q,_,o,ho,hd⟩:=g.Cy b m;⟨q,λz=>CI.mp z,o,k _ _ ho,hd⟩
  mods:=g.mods
  handled:=g.handled
  depth:=g.depth
  units:=g.units}
theorem CM.comp(fr:CM B F C s.heap AE)(g:Gd B F K A H C s)(hs:Kw K.sc sc H.env=M){A1:A8}(yv:AE≠A1)(hl:∃o,Q.get? AE=G o)(hL:∀c∈F.env.cells,c.2≠A1):CM B (I0 F sc A1) C Q AE where
 C:=fr.C;w:=λm=>yv (CI.mp m);cells:=λc m=>by
  refine VO (g.kinds.comp hs (A1:=A1) rfl hL) ?_;intro _ _ _ D2 _;rcases QO D2 m with z|z;. simp at z
  . exact fr.cells _ (mem_of_lookup z)
 base:=fr.base;outs:=fr.outs;live:=hl
theorem au(SL:OG B A3 n){x:A4}{l:I V}(Ig:MJ g=M)(AN:Gd B F K A AB A_ AJ)(hs:Kw K.sc sc AB.env=M)(Aq:VR AJ.heap A_ v x)(hi:Q8 v AB.h=G it)(h:ev A3 n ⟨sc,K.d⟩ (.GS C_ g gens it 0 []) AB=.ok (.vs l) Bc){RR:A4->A8->Dt->AR->Prop}(k:∀A1 D AT s',Gd B (I0 F sc A1) ⟨sc,K.d⟩ A Bc AT s'->AJ.heap.get? A1=L->AJ.heap.get? D=L->Nx F.D (D::[A1]) AJ.heap s'.heap A_ AT->Gw B (I0 F sc A1) AT s'.heap D l->RR (.ref D) A1 (.ok .next) s'):AH (AQ B.prog B.w) A (PU x) (λit Ai=>AH (AQ B.prog B.w) A (tL []) (λAm Ax=>AH (AQ B.prog B.w) A (newFunctionEnv sc F.env.globals (Er F.env sc.names []) [] F.env.qual L .none (G F.env)) (λl9 EG=>D7 (AQ B.prog B.w) A (.compStart (.ListComp C_ (g::gens) sc pos) 0 it Am {l9 with scope:=tK sc F.env}) (RR Am l9.locals) EG) E Ax) E Ai) E AJ:=by
 refine xA (QN Ig) ?_;intro hp ha;refine OE AN Aq hi λAE BD tk AU Al hI K9 TA=>?_;refine IF ?_;have WM:∀c∈F.env.cells,∃o,BD.get? c.2=G o:=λc m=>(AU.D1 c m).2;refine M8 (AU.kinds.comp hs (A1:=BD.objs.size) rfl λc m z=>by refine xE (WM c m) ?_;intro o e;rw[z,GD]at e;exact(BE e).elim) ?_;intro _ hk Mb _;skip;generalize hH:BD.push {cls:=.type "list",dict:=L,data:=.seq ([]:I A4).toArray}=BF;have sz:BF.objs.size=BD.objs.size+1:=by rw[<-hH,IG]
 have KI:∀b o,BD.get? b=G o->BF.get? b=G o:=λb o e=>by rw[<-hH];exact C1 _ e
 refine bt5 Mb (λy hy=>by simp at hy) (λFH ns QR=>?_) hk;dsimp only at ns QR ⊢;have Md:BD.get? BF.objs.size=L:=KC (by rw[sz];exact PQ _);have Me:BD.get? BD.objs.size=L:=KC (DF _);have OK:∀b o,BD.get? b=G o->FH.get? b=G o:=λb o e=>QR.extBut b o (λz=>by rw[z,Md]at e;exact(BE e).elim) (C1 _ (KI b o e));have up:∀{b:A8},BD.get? b=L->AJ.heap.get? b=L:=λ{b}e=>HC Al.live e;have KG:BD.objs.size≠BF.objs.size:=by rw[sz];exact ER (PR _)
 have pD:FH.PlainList BD.objs.size #[]:=⟨_,QR.extBut _ _ KG (C1 _ (hH▸CY _ rfl))⟩;have CA:=AU.comp (tk:=tk+([]:I (U×A4)).length) hs Md OK ns;have WN:∀{b:A8},BD.get? b=L->∀c∈F.env.cells,c.2≠b:=λe c m z=>by refine xE (WM c m) ?_;intro o q;rw[z,e]at q;exact(BE q).elim
 have L9:CM B (I0 F sc BF.objs.size) A_ FH AE:=K9.comp AU hs (λz=>by refine xE K9.live ?_;intro o e;rw[z,Md]at e;exact(BE e).elim) (by refine xE K9.live ?_;intro o e;exact⟨o,OK _ _ e⟩) (WN Md);have fD:CM B (I0 F sc BF.objs.size) A_ FH BD.objs.size:=(AU.freeOf (Q:=BD.push {cls:=.type "list",data:=.seq #[]}) Me ⟨_,CY _ rfl⟩|>.at (Q:=FH) (by refine xE pD ?_;(try clear pD);intro m e;exact⟨_,e⟩))|>λq=>
 {C:=q.C,w:=λm=>KG (CI.mp m),cells:=λc m=>by
   refine VO (AU.kinds.comp hs (A1:=BF.objs.size) rfl (WN Md)) ?_;intro _ _ _ D2 _;rcases QO D2 m with z|z;. simp at z
   . exact q.cells _ (mem_of_lookup z),base:=q.base,outs:=q.outs,live:=q.live};have Cz:Nx F.D ([]:I A8) BD FH A_ A_:=Nx.ext OK;have HY:=TA.nx Cz K9.C (by simp);have Ma:BD.objs.size≠AE:=λz=>by refine xE K9.live ?_;intro o e;rw[<-z,Me]at e;exact(BE e).elim
 refine kz (depth:=0) rfl ha HY (SL.GS h (GZ:=g::gens) (depth:=0) rfl ha (F:=I0 F sc BF.objs.size) (Af:=AJ.heap) (BG:=A_) CA (Al.trans Cz).FZ hI L9 HY ⟨fD,#[],pD,rfl⟩ Ma λAT s' g' x' a'=>?_);exact k _ _ AT s' g' (up Md) (up Me) x' a'
theorem lA(A9:C5 B A3 n)(SL:OG B A3 n)(h:Fp A3 K (ev A3 n) (.ListComp C_ (g::gens) sc pos) H=.ok (.v v) A7)(Bl:Gd B F K A H C s):Ae B F K A A7 C s (eval (.ListComp C_ (g::gens) sc pos) F.env) (RV v):=by
 refine A0.Be h ?_;clear h;intro Ig h;refine A0.Cg h ?_;clear h;intro w AB AP h;refine A0.Be h ?_;clear h;intro hs h;refine A0.Bx h ?_;clear h;intro it BD h;refine A0.L7 h ?_;clear h;intro l Bc C3 h;(first|(revert k;(first|apply BX h|apply B5 h|apply BY h|apply BZ h|apply B_ h);intro k)|apply BX h|apply B5 h|apply BY h|apply BZ h|apply B_ h);refine xA (QN Ig) ?_;intro hp ha;intro A2 E kk;refine S5 (Bl.kinds.comp hs (A1:=s.heap.objs.size) rfl λc m z=>by refine H8 (Bl.D1 c m) ?_;intro _ o e;rw[z,GD]at e;exact(BE e).elim) ?_;intro _ hk Mb D2 Mc _;rw[bt6];have OL:Uv (g::gens)=A6:=by obtain⟨_,_,_,k⟩:=g;show(k !=0)=A6;simp only at ha;rw[ha];rfl
 have OM:Uw (g::gens) F.env=eval g.iter F.env:=by obtain⟨_,_,_,_⟩:=g;rfl
 rw[OL,OM];refine g8 (use:=L) (g:=g) (gs:=gens) rfl (λx=>QK hp x) (WL D2) hk Mc ?_;refine A9.e AP Bl _ _ λu A_ AJ AN Ab Aq=>?_;refine au (RR:=λAm A1=>tM (AQ B.prog B.w) A E L A2 Am A1) SL Ig AN hs Aq BD C3 λA1 D AT s' g' hL hD x' a'=>?_;refine AC (id g'.env) ?_;intro m ns _;refine⟨m,ns,λQ Df=>?_⟩;refine Ho a' ?_;(try clear a');intro fD us F_ vr;have Hz:∀o,s'.heap.get? A1=G o->C2 o=A6:=λo e=>by
  refine Gp ns ?_;(try clear ns);intro o' N ep e' d _;have e':s'.heap.get? A1=G o':=e';rw[e']at e;injection e with e;subst e;unfold C2;rw[d];simp
 have KG:D≠A1:=λz=>fD.w (by rw[z];exact CI.mpr rfl);have im:=Gs Df.extBut Hz;refine xA (AN.leave (F':=I0 F sc A1) rfl g' hL hD x' fD Df Hz (o:=.list l) ⟨us,F_.extBut Df.extBut KG,vr.mono im⟩) ?_;intro gg xx;refine kk _ _ _ gg (Ab.trans xx) ⟨D,?_,rfl⟩;have :=g'.len;rw[<-this];simp
end
section
theorem yw{A1:A8}(g':Gd B F' K' A' A7 AT s')(hW:F'.AZ=[A1])(AN:Gd B F K A H A_ AJ)(hL:AJ.heap.get? A1=L)(Dj:A1∉Au)(hl:∃o,h.get? A1=G o):CM B F Au h A1 where
 C:=Dj;w:=λm=>by refine IM (AN.D5 A1 m) ?_;intro _ _ o e;rw[hL]at e;exact(BE e).elim
 cells:=λc m z=>by refine H8 (AN.D1 c m) ?_;intro _ o e;rw[z,hL]at e;exact(BE e).elim
 base:=(g'.D5 A1 (by rw[hW];simp)).1;outs:=λm=>by refine Ho (AN.DT.mem m) ?_;intro _ o e _;rw[hL]at e;exact(BE e).elim
 live:=hl
theorem yx(WO:C5 B A3 m)(SL:OG B A3 m)(A9:C5 B A3 n){KJ:B9}(av:Y8 (.ListComp C_ (g::gens) sc KJ) (G (.Name id p)) pos.line F.env=pure M)(h:((Fp A3 K (ev A3 m) (.ListComp C_ (g::gens) sc KJ) H).V λv H=>ev A3 n K (.GR [.Name id p] v) H)=.ok (.f f) A7)(Bl:Gd B F K A H C s):CJ B F K A A7 C s (exec (.Assign [.Name id p] (.ListComp C_ (g::gens) sc KJ) pos) F.env) (FR .next):=by
 refine A0.Cg h ?_;clear h;intro v GX h FH;refine A0.Be h ?_;clear h;intro Ig h;refine A0.Cg h ?_;clear h;intro w AB AP h;refine A0.Be h ?_;clear h;intro hs h;refine A0.Bx h ?_;clear h;intro it BD h;refine A0.L7 h ?_;clear h;intro l Bc C3 h;refine xA (FG h) ?_;intro q Aw;subst Aw;injection q with q;subst q;refine xA (QN Ig) ?_;intro hp ha;intro A2 E kk;rw[exec_Assign_Name_used _ _ _ _ av];refine A5 (El (A5 ?_));show AH _ A (do let _<-bt7 (.ListComp C_ (g::gens) sc KJ) sc F.env _ (tL []) (Uv (g::gens)) (Uw (g::gens) F.env) (G (Ex (.Name id p) F.env))) _ _ s;have OL:Uv (g::gens)=A6:=by obtain⟨_,_,_,k⟩:=g;show(k !=0)=A6;simp only at ha;rw[ha];rfl
 have OM:Uw (g::gens) F.env=eval g.iter F.env:=by obtain⟨_,_,_,_⟩:=g;rfl
 rw[OL,OM];refine A5 (Fg (Q:=λ_ s'=>A2 .next s') ?_ (λ_ s' hq=>AW (AW hq)) λ_ _ e=>e);refine S5 (Bl.kinds.comp hs (A1:=s.heap.objs.size) rfl λc m z=>by refine H8 (Bl.D1 c m) ?_;intro _ o e;rw[z,GD]at e;exact(BE e).elim) ?_;intro _ hk Mb D2 Mc _;refine g8 (use:=G (Ex (.Name id p) F.env)) (Q:=λ_ s'=>A2 .next s') (g:=g) (gs:=gens) rfl (λx=>QK hp x) (WL D2) hk Mc ?_;refine WO.e AP Bl _ _ λu A_ AJ AN Ab Aq=>?_
 . refine au (RR:=λAm A1=>tM (AQ B.prog B.w) A E (G (Ex (.Name id p) F.env)) (λ_ s'=>A2 .next s') Am A1) SL Ig AN hs Aq BD C3 λA1 D AT s' g' hL hD x' a'=>?_;refine AC ((λx=>x) g'.env) ?_;intro mm ns _;refine Ho a' ?_;(try clear a');intro fD us F_ vr;have Hz:∀o,s'.heap.get? A1=G o->C2 o=A6:=λo e=>by
    refine Gp ns ?_;(try clear ns);intro o' N ep e' d _;have e':s'.heap.get? A1=G o':=e';rw[e']at e;injection e with e;subst e;unfold C2;rw[d];simp
   have KG:D≠A1:=λz=>fD.w (by rw[z];exact CI.mpr rfl);have sb:E4 A1 s'.heap s'.heap:=g9 ..;refine xA (AN.leave (F':=I0 F sc A1) rfl g' hL hD x' fD sb Hz (o:=.list l) ⟨us,F_,vr.mono (λ_ _ e _=>e)⟩) ?_;intro gg xx;have rD:VR s'.heap (AT++[D]) (.ref Bc.n) (.ref D):=⟨D,by rw[<-g'.len];simp,rfl⟩;refine G5 (g'.D5 A1 (by show A1∈[A1];simp)) ?_;intro QP OH _;have lB:A1∉AT++[D]:=λz=>by
    rcases Dr.mp z with z|z;. exact OH z
    . exact KG (CI.mp z).symm
   show AH _ A (Ex (.Name id p) F.env (.ref D)) _ E s';refine A9.GR FH gg rD _ _ λ_ Au Ai AU Al _=>?_;have yy:A1∉F.AZ:=λm=>by refine IM (AN.D5 A1 m) ?_;intro _ _ o e;rw[hL]at e;exact(BE e).elim
   have TM:Ai.heap.Ns A1 mm:=Ns.slots ns λo e=>Al.data A1 o e lB yy;refine⟨mm,TM,λQ Df=>?_⟩;have yz:∀o,Ai.heap.get? A1=G o->C2 o=A6:=λo e=>by
    refine Gp TM ?_;(try clear TM);intro o' N ep e' d _;rw[e']at e;injection e with e;subst e;unfold C2;rw[d];simp
   have Md:A1∉Au:=by
    refine Gp ns ?_;(try clear ns);intro o' N ep e' d _;exact Al.out e' lB
   have fL:CM B F Au Ai.heap A1:=yw g' rfl AN hL Md (by refine Gp TM ?_;(try clear TM);intro o' N ep e' d _;exact⟨_,e'⟩);refine kk _ Au _ (AU.move (tk:=Ai.toks) fL Df.extBut yz) ?_ rfl;exact((Ab.trans xx).FZ.trans Al).F2 Df.extBut (HC Ab.live hL)
theorem z0{l:O}:∃b,Y8 e (G (.Name id p)) l env=pure b:=by
 unfold Y8;split<;>exact⟨_,rfl⟩
theorem z8(WO:C5 B A3 m)(SL:OG B A3 m)(A9:C5 B A3 n){KJ:B9}(h:((Fp A3 K (ev A3 m) (.ListComp C_ (g::gens) sc KJ) H).V λv H=>ev A3 n K (.GR [.Name id p] v) H)=.ok (.f f) A7)(Bl:Gd B F K A H C s):CJ B F K A A7 C s (exec (.Assign [.Name id p] (.ListComp C_ (g::gens) sc KJ) pos) F.env) (FR .next):=by
 refine xE (z0 (e:=.ListComp C_ (g::gens) sc KJ) (id:=id) (p:=p) (l:=pos.line) (env:=F.env)) ?_;intro b hb;cases b with
 |true=>exact yx WO SL A9 hb h Bl|false=>
 refine A0.Cg h ?_;clear h;intro v AB AP h;intro A2 E k;exact fw (((lA WO SL AP Bl).T8) _ _ λu A_ AJ AN Ab Aq=>A9.GR h AN Aq _ _ λ_ Au Ai AU Al _=>k _ Au Ai AU (Ab.trans Al) rfl) hb rfl
end
section
theorem Ef{l:I J}(h:CH l=M):l.length<=100000:=Dk h
theorem z9(g:Gd B F K A H C s)(r:VR s.heap C v u)(h:Mine.truthy v H.h=G b):Ae B F K A H C s (tA u) (RB b):=by
 intro A2 E k;cases v with
 |none=>cases r;injection h with h;subst h;exact bQ4 (k _ C s g (Nx.refl ..) rfl)|bool c=>cases r;injection h with h;subst h;exact NU (k _ C s g (Nx.refl ..) rfl)|int i=>
  refine xE r ?_;(try clear r);intro t Aw;subst Aw;injection h with h;subst h;refine PySem.P.truthy_int (k _ C s g (Nx.refl ..) ?_);show(i !=0)=decide (i≠0);by_cases q:i=0<;>simp[q]|str x=>
  refine xE r ?_;(try clear r);intro t B6;subst B6;refine Ce h AF λhf h=>?_
  . have :=Ef hf;injection h with h;subst h;have hl:(⟨⟨x⟩⟩:U).length=x.length:=rfl;refine PySem.P.truthy_str (by rw[hl];omega) (k _ C _ (g.tok _) (Nx.refl ..) ?_);show((x.length:AX)!=0)=!x.isEmpty;cases x<;>simp;omega|ref i=>
  refine AC r ?_;(try clear r);intro a ha BJ;subst BJ;refine BI h λob hx h=>?_;revert hx;apply IT h AF
  . intro Y h hx;refine Ce h AF λhf h=>?_
    . have :=Ef hf;injection h with h;subst h;refine AC (g.obj hx ha) ?_;intro us hp v;have hl:Y.length=us.size:=by rw[v.length];simp
      refine wpAny_truthy_list hp.isList (by omega) ?_;refine k _ C _ (g.tok _) (Nx.refl ..) ?_;show(!us.isEmpty)=!Y.isEmpty;unfold Array.isEmpty;cases Y<;>simp at hl<;>simp[<-hl]|_=>exact(BE h).elim
theorem lD(x y:Tx):(⟨⟨x⟩⟩:U)++⟨⟨y⟩⟩=⟨⟨x++y⟩⟩:=by
 show bt8 _ _=_;simp[bt8]
theorem zA{r:V}(g:Gd B F K A H C s)(hv:VR s.heap C v u)(Bh:VR s.heap C v' u')(h:Zq op v v'=G r):Ae B F K A H C s (inplaceOp op u u') (RV r):=by
 revert hv Bh;refine Fi h (λe h=>?_) λh=>Fi h (λe h=>?_) λh=>(AF h).elim
 . subst e;refine GO h (λh=>?_) λh=>?_
   . apply Cu h AF;intro a h;apply Cu h AF;intro b h hv Bh A2 E;apply Br h;intro k;refine xE hv ?_;(try clear hv);intro t BP;subst BP;refine xE Bh ?_;(try clear Bh);intro t' Bq;subst Bq;exact bt9 (k _ C _ (g.tok _) (Nx.refl ..) ⟨_,rfl⟩)
   . apply Dd h AF;intro x h;apply Dd h AF;intro y h hv Bh A2 E;refine Ce h AF λhf h=>?_;apply Br h;intro k;refine xE hv ?_;(try clear hv);intro t Bg;subst Bg;refine xE Bh ?_;(try clear Bh);intro t' Bu;subst Bu;have :=Ef hf;refine PySem.P.iadd_str ?_;skip;cases x with
 |nil=>exact k _ C _ g (Nx.refl ..) ⟨_,rfl⟩|cons a x=>cases y with
 |nil=>exact k _ C _ g (Nx.refl ..) ⟨t,by simp⟩|cons b y=>
     show(tN _).post A2 s;rw[lD];exact⟨B4 (show _<=100000 from this) (by decide),k _ C _ (g.tok _) (Nx.refl ..) ⟨_,rfl⟩⟩
 . subst e;apply Cu h AF;intro a h;apply Cu h AF;intro b h hv Bh A2 E;apply Br h;intro k;refine xE hv ?_;(try clear hv);intro t C9;subst C9;refine xE Bh ?_;(try clear Bh);intro t' Ck;subst Ck;exact bQ5 (k _ C _ (g.tok _) (Nx.refl ..) ⟨_,rfl⟩)
end
section
theorem lE{a b:AX}(g:Gd B F K A H C s)(hb:b>0):Ae B F K A H C s (Ey .Mod (.int a t) (.int b t')) (RV (.int (t4 a b))):=by
 intro A2 E k;have h0:¬(b==0)=M:=by simp only[Rg];(with_reducible exact bu0 (by assumption))
 exact bQ6 h0 (k (.int (t4 a b) s.toks) C _ (g.tok _) (Nx.refl ..) ⟨_,rfl⟩)
theorem zB{a b:AX}(g:Gd B F K A H C s):Ae B F K A H C s (Ey .Add (.int a t) (.int b t')) (RV (.int (a+b))):=λA2 E k=>bQ7 (k (.int (a+b) s.toks) C _ (g.tok _) (Nx.refl ..) ⟨_,rfl⟩)
theorem zC{a b:AX}(g:Gd B F K A H C s):Ae B F K A H C s (Ey .Sub (.int a t) (.int b t')) (RV (.int (a-b))):=λA2 E k=>bQ8 (k (.int (a-b) s.toks) C _ (g.tok _) (Nx.refl ..) ⟨_,rfl⟩)
theorem lF{a b:AX}(g:Gd B F K A H C s)(hb:0<b/\b<=1000000000):Ae B F K A H C s (Ey .FloorDiv (.int a t) (.int b t')) (RV (.int (t3 a b))):=by
 intro A2 E k;have h0:¬(b==0)=M:=by simp only[Rg];omega
 have h1:¬(bu1 a b)=M:=by
  unfold bu1;have hn:b.natAbs<=1000000000:=by(with_reducible exact Mine.wS (by assumption))
  have hl:b.natAbs.log2<30:=(bu2 (by omega)).mpr (by(with_reducible exact H2 (by assumption) (by decide)));have e:(b==0)=A6:=by simpa using h0
  simp only[e,Kk,Kl,D6,PV];intro h;have :=h.1;(with_reducible exact Mine.ve (by assumption) (by assumption))
 exact bQ9 h0 h1 (k (.int (t3 a b) s.toks) C _ (g.tok _) (Nx.refl ..) ⟨_,rfl⟩)
end
section
theorem zD{a:AK}(g:Gd B F K A H C s):Ae B F K A H C s (Ey .Add (.bool a) (.bool b)) (RV (.int (b2i a+b2i b))):=λA2 E k=>bR0 (k (.int (b2i a+b2i b) s.toks) C _ (g.tok _) (Nx.refl ..) ⟨_,rfl⟩)
theorem zE{a:AK}{b:AX}(g:Gd B F K A H C s):Ae B F K A H C s (Ey .Add (.bool a) (.int b t)) (RV (.int (b2i a+b))):=λA2 E k=>bR1 (k (.int (b2i a+b) s.toks) C _ (g.tok _) (Nx.refl ..) ⟨_,rfl⟩)
theorem zF{a:AX}(g:Gd B F K A H C s):Ae B F K A H C s (Ey .Add (.int a t) (.bool b)) (RV (.int (a+b2i b))):=λA2 E k=>PySem.add_int_bool (k (.int (a+b2i b) s.toks) C _ (g.tok _) (Nx.refl ..) ⟨_,rfl⟩)
theorem zG{a:AK}(g:Gd B F K A H C s):Ae B F K A H C s (Ey .Mult (.bool a) (.bool b)) (RV (.int (b2i a*b2i b))):=λA2 E k=>bR2 (k (.int (b2i a*b2i b) s.toks) C _ (g.tok _) (Nx.refl ..) ⟨_,rfl⟩)
theorem lG{x:Tx}(g:Gd B F K A H C s)(hf:CH (x++y)=M):Ae B F K A H C s (Ey .Add (.str ⟨⟨x⟩⟩ t) (.str ⟨⟨y⟩⟩ t')) (RV (.str (x++y))):=by
 intro A2 E k;have :=Ef hf;refine PySem.P.add_str ?_;have e1:(⟨⟨x⟩⟩:U).length=x.length:=rfl;have e2:(⟨⟨y⟩⟩:U).length=y.length:=rfl;skip;cases x with
 |nil=>exact k _ C _ g (Nx.refl ..) ⟨_,rfl⟩|cons a x=>cases y with
 |nil=>exact k _ C _ g (Nx.refl ..) ⟨t,by simp⟩|cons b y=>
 show(tN _).post A2 s;rw[lD];exact⟨B4 (show _<=100000 from this) (by decide),k _ C _ (g.tok _) (Nx.refl ..) ⟨_,rfl⟩⟩
theorem zH(g:Gd B F K A H C s)(hu:VR s.heap C (.ref i) u)(TN:VR s.heap C (.ref j) u')(hx:AL H.h i=G (.list Y))(hy:AL H.h j=G (.list ys))(hf:CH (Y++ys)=M):Ae B F K A (H.new (.list (Y++ys))).2 C s (Ey .Add u u') (RV (.ref H.n)):=by
 intro A2 E k;refine AC hu ?_;(try clear hu);intro a ha Aw;subst Aw;refine AC TN ?_;(try clear TN);intro b hb B6;subst B6;refine AC (g.obj hx ha) ?_;intro us BJ v;refine xE BJ ?_;(try clear BJ);intro n hl;refine AC (g.obj hy hb) ?_;intro ws BP v';refine xE BP ?_;(try clear BP);intro n' Ih;have Ee:us.size+ws.size<=FA:=by
   have :=Ef hf;have e1:=v.length;have e2:=v'.length;simp at this e1 e2;exact B4 (show _<=100000 by(with_reducible exact Mine.w8 (by assumption) (by assumption) (by assumption))) (by decide)
 refine concat_meets ⟨_,hl,rfl⟩ ⟨_,Ih,rfl⟩ bu3 seq_list_add bu4 bu5 (bu6 _ _) (bu7 a b us ws n n' L L #[] #[] Ee) ⟨hl,Ih,?_⟩;have kp:∀b o,s.heap.get? b=G o->(s.heap.push {cls:=.type "list",data:=.seq (us++ws)}).get? b=G o:=λb o e=>C1 _ e;have hn:s.heap.get? s.heap.objs.size=L:=by cases e:s.heap.get? s.heap.objs.size with
 |none=>rfl|some o=>exact absurd (Dh e) (J0 _)
 have hg:=CY s.heap (o:={cls:=.type "list",data:=.seq (us++ws)}) rfl;refine k _ (C++[s.heap.objs.size]) _ (g.new (tk:=s.toks) kp hn ⟨_,hg⟩ (o:=.list (Y++ys)) ⟨us++ws,⟨_,hg⟩,?_⟩) (Nx.add [_] kp λb hb=>by rw[CI.mp hb];exact hn) ⟨_,?_,rfl⟩
 . have :=(v.app v').mono (J:=[s.heap.objs.size]) (Q:=s.heap.push {cls:=.type "list",data:=.seq (us++ws)}) (λb o e _=>kp b o e);simpa using this
 . rw[<-g.len];simp
end
section
noncomputable abbrev Do(v:A4):BK->I A8->A4->Prop:=λ_ _ r=>r=v
theorem zI{a b:AX}(g:Gd B F K A H C s):Ae B F K A H C s (Db .Eq (.int a t) (.int b t')) (Do (.bool (decide (a=b)))):=λ_ _ k=>PySem.P.eq_int (k _ C s g (Nx.refl ..) (by show NY (a==b)=_;by_cases q:a=b<;>simp[q]))
theorem zJ{a b:AX}(g:Gd B F K A H C s):Ae B F K A H C s (Db .NotEq (.int a t) (.int b t')) (Do (.bool (!decide (a=b)))):=λ_ _ k=>PySem.P.ne_int (k _ C s g (Nx.refl ..) (by show NY (a !=b)=_;by_cases q:a=b<;>simp[q]))
theorem zK{a b:AX}(g:Gd B F K A H C s):Ae B F K A H C s (Db .Lt (.int a t) (.int b t')) (Do (.bool (decide (a<b)))):=λ_ _ k=>bu8 (k _ C s g (Nx.refl ..) rfl)
theorem zL{a b:AX}(g:Gd B F K A H C s):Ae B F K A H C s (Db .Gt (.int a t) (.int b t')) (Do (.bool (decide (b<a)))):=λ_ _ k=>bu9 (k _ C s g (Nx.refl ..) rfl)
theorem zM{a b:AX}(g:Gd B F K A H C s):Ae B F K A H C s (Db .LtE (.int a t) (.int b t')) (Do (.bool (decide (a<=b)))):=λ_ _ k=>PySem.P.le_int (k _ C s g (Nx.refl ..) rfl)
theorem zN{a b:AX}(g:Gd B F K A H C s):Ae B F K A H C s (Db .GtE (.int a t) (.int b t')) (Do (.bool (decide (b<=a)))):=λ_ _ k=>PySem.P.ge_int (k _ C s g (Nx.refl ..) rfl)
theorem TO{x:Tx}:(x==y)=CU x y:=by cases h:CU x y with
 |true=>simp[Ec.mp h]|false=>simpa using kQ.mp h
theorem zO{x:Tx}(g:Gd B F K A H C s):Ae B F K A H C s (Db .Eq (.str ⟨⟨x⟩⟩ t) (.str ⟨⟨y⟩⟩ t')) (Do (.bool (CU x y))):=λ_ _ k=>bv0 (k _ C s g (Nx.refl ..) (by show NY (x==y)=_;rw[TO]))
theorem zP{x:Tx}(g:Gd B F K A H C s):Ae B F K A H C s (Db .NotEq (.str ⟨⟨x⟩⟩ t) (.str ⟨⟨y⟩⟩ t')) (Do (.bool (!CU x y))):=λ_ _ k=>PySem.P.ne_str (k _ C s g (Nx.refl ..) (by show NY (x !=y)=_;rw[<-TO];rfl))
theorem TP:∀{x y:Tx},EZ x y=M↔x<y
 |x,[]=>by cases x<;>simp[EZ]|[],_::_=>by simp[EZ]|a::x,b::y=>by
  unfold EZ;cases h:BC a b with
 |true=>
   have :=CD h;clear h;subst this;simp[TP (x:=x) (y:=y)]|false=>
   have Cc:a≠b:=λe=>by subst e;simp at h
   simp[List.cons_lt_cons_iff,Cc,G0];try omega
theorem aw{x:Tx}:decide (x<y)=EZ x y:=by cases h:EZ x y with
 |true=>simpa using TP.mp h|false=>
 have :¬x<y:=λq=>by rw[TP.mpr q]at h;(exfalso;cases h)
 simpa using this
theorem zQ{x:Tx}(g:Gd B F K A H C s):Ae B F K A H C s (Db .Lt (.str ⟨⟨x⟩⟩ t) (.str ⟨⟨y⟩⟩ t')) (Do (.bool (EZ x y))):=λ_ _ k=>bv1 (k _ C s g (Nx.refl ..) (by show NY (decide (x<y))=_;rw[aw]))
end
section
variable[DecidableEq T]{By:KeyKind prog w T}
theorem lH{d:A8}{Az:I (T×A4)}{k:T}{key v:A4}{A2:DM->AR->Prop}(EM:By.is k key=M)(hm:s.heap.DictAt By d Az Az.length)(hQ:∀Q,Q.DictAt By d (FC Az k v) (FC Az k v).length->E4 d s.heap Q->A2 () {s with heap:=Q,toks:=s.toks+1})(Ee:Az.length<=FA):AH (AQ prog w) A (Rh d key v) A2 E s:=by
 refine M9 hm ?_;(try clear hm);intro o N ho hc hd hk hp hn;have Ch:N.size=Az.length:=by have :=hp.length;simpa using this
 have ON:(N.findIdx? λe=>By.is k e.key)=Az.findIdx? λkv=>decide (kv.1=k):=by rw[<-hp.findIdx k];obtain⟨l⟩:=N;simp
 unfold Rh;refine C0 (A5 (By.pyHash EM ?_));skip;refine C0 (A5 (tO (s:={s with toks:=s.toks+1}) EM ho hd hk ?_));cases hi:N.findIdx? λe=>By.is k e.key with
 |some i=>
  have HE:=bv2 (ON▸hi);have e1:FC Az k v=Az.map λkv=>if kv.1=k then(kv.1,v)else kv:=by rw[FC,DA HE]
  have hl:(N.toList.findIdx? λe=>By.is k e.key)=G i:=by rw[<-hi];obtain⟨l⟩:=N;simp
  have FI:=hp.modify hn hl v;refine A5 (Gk (A5 (bv3 (s:={s with toks:=s.toks+1}) ho hd (wpAny_point (hQ _ ?_ (Fh ..))))));refine⟨_,_,FS _ ho (YB (gA hd _)),hc.mapDict _,?_,hk.modify i v,?_,?_⟩;. rw[e1,Jn];exact gA hd _
  . rw[e1];obtain⟨l⟩:=N;simpa using FI
  . rw[e1,bv4];exact hn|none=>
  have TQ:k∉Az.map (·.1):=bv5 (ON▸hi);have TR:¬(Az.any λkv=>decide (kv.1=k))=M:=λh=>by
    refine AC (II.mp h) ?_;intro kv OO he;exact TQ (E0.mpr ⟨kv,OO,of_decide_eq_true he⟩)
  have e1:FC Az k v=Az++[(k,v)]:=by rw[FC,CS TR]
  refine A5 (Gk (tP (hz:=by(with_reducible exact Mine.yT (by assumption) (by assumption))) (s:={s with toks:=s.toks+1}) ho hd (hQ _ ?_ (Fh ..))));refine⟨_,_,FS _ ho (YB (Ux hd _)),hc.mapDictKeys _,?_,hk.push EM v,?_,?_⟩;. rw[e1,FD];exact Ux hd _
  . have :=hp.append EM (By.hash k) v;rw[e1];obtain⟨l⟩:=N;simpa using this
  . rw[e1,NZ,ID];refine⟨hn,by simp,λa ha b hb e=>?_⟩;simp only[J3,tQ,CI]at hb;exact TQ (hb▸e▸ha)
end
theorem zR{a b:U}:a.cps.toList=b.cps.toList↔a=b:=⟨λe=>by cases a;cases b;simp only[br1];exact t7.mp e,λe=>by rw[e]⟩
theorem WP(a b:U):G7 (GV a) (GV b)=G (decide (a=b)):=by
 show G (CU _ _)=_;cases h:CU a.cps.toList b.cps.toList with
 |true=>simp[zR.mp (Ec.mp h)]|false=>
 have :a≠b:=λe=>kQ.mp h (by rw[e]);simp[this]
theorem ax(a b:AX):G7 (T3 a) (T3 b)=G (decide (a=b)):=rfl
section
variable[DecidableEq T]{key:T->V}
theorem DR.look(hk:∀a b,G7 (key a) (key b)=G (decide (a=b))){k:T}{l:I (T×A4)}(d:DR key h C N l):(D' N (key k)=L/\Lr l k=L)\/∃v u,D' N (key k)=G v/\Lr l k=G u/\VR h C v u:=DR.ind (P:=λN l=>(D' N (key k)=L/\Lr l k=L)\/∃v u,D' N (key k)=G v/\Lr l k=G u/\VR h C v u) (.inl ⟨rfl,rfl⟩) (λk' v u N r hv _ ih=>by
 unfold D';rw[hk];by_cases z:k'=k
 . rw[Ri z];exact .inr ⟨_,u,rfl,by simp[Lr,bv6,z],hv⟩
 . rw[Rj z];have e2:Lr ((k',u)::r) k=Lr r k:=by simp[Lr,bv6,z]
   rw[e2];exact ih) d
theorem DR.put(hk:∀a b,G7 (key a) (key b)=G (decide (a=b))){k:T}(hv:VR h C v u):∀{N:I (V×V)}{l:I (T×A4)},DR key h C N l->(l.map (·.1)).Nodup->DR key h C (En N (key k) v) (FC l k u):=λ{N l}d=>DR.ind (P:=λN l=>(l.map (·.1)).Nodup->DR key h C (En N (key k) v) (FC l k u)) (λ_=>DR.cons (N:=[]) hv rfl) (λk' v' u' N r Bh hr ih hn=>by
 have O9:k'∉r.map (·.1)/\(r.map (·.1)).Nodup:=EU.mp hn;unfold En;rw[hk];by_cases z:k'=k
 . subst z;rw[Ri rfl];have e2:FC ((k',u')::r) k' u=(k',u)::r:=by
    rw[FC,DA (by simp)];simp only[J3,Km];rw[map_store_of_not_mem r k' u O9.1]
   rw[e2];exact DR.cons hv hr
 . rw[Rj z];have e2:FC ((k',u')::r) k u=(k',u')::FC r k u:=by
    unfold FC;simp only[sq,Rj z,bv7];split;. simp[z]
    . rfl
   rw[e2];exact DR.cons Bh (ih O9.2)) d
end
section
variable[DecidableEq T]{By:KeyKind prog w T}
theorem zS{d:A8}{Az:I (T×A4)}{k:T}{key v:A4}{A2:DM->AR->Prop}(EM:By.is k key=M)(hm:s.heap.DictAt By d Az Az.length)(hQ:∀Q,Q.DictAt By d (FC Az k v) (FC Az k v).length->E4 d s.heap Q->A2 () {s with heap:=Q,toks:=s.toks+1})(Ee:Az.length<=FA):AH (AQ prog w) A (Rk (.ref d) key v) A2 E s:=by
 have hT:=hm.dictOf.typeIs;skip;refine C0 (A5 (tR hT (by decide) ?_));refine A5 (Ls (name:=Ev "__setitem__") hT bv8 (Gm bv8 hT entry_dict_setitem ?_ (args_dict_setitem _ _ _)));show AH _ _ (bR3 "__setitem__" ⟨[.ref d,key,v],[]⟩>>=_) _ _ s;refine A5 (bv9 hT ?_);show AH _ _ (Rh d key v>>=_) _ _ s;exact A5 (lH EM hm (λQ HF Df=>AW ⟨.none,rfl,AW (hQ Q HF Df)⟩) Ee)
end
section
theorem lI{x:Tx}:(strKind prog w).is ⟨⟨x⟩⟩ (.str ⟨⟨x⟩⟩ t)=M:=strKind_is ..
theorem ay{CL:Type}[DecidableEq T][DecidableEq CL]{By:KeyKind B.prog B.w T}{zT:KeyKind B.prog B.w CL}(m:h.DictAt By a [] 0):h.DictAt zT a [] 0:=by
 refine M9 m ?_;intro o BN e1 e2 e3 _ e5 _;have e:BN=#[]:=bw0 e5.length;exact⟨o,#[],e1,e2,e▸e3,λ_ hm=>(nomatch(Array.not_mem_empty _ hm)),.nil,HM⟩
theorem WQ(hk:De N k=M)(r:Dn B.prog B.w h C a N)(rk:VR h C k ku){P:Prop}(c:∀{T:Type}[DecidableEq T](By:KeyKind B.prog B.w T)(key:T->V)(x:T)(Az:I (T×A4)),(∀a b,G7 (key a) (key b)=G (decide (a=b)))->(∀{Q:BK}{AT:I A8}{a':A8}{BN:I (V×V)}(az:I (T×A4)),Q.DictAt By a' az az.length->DR key Q AT BN az->Dn B.prog B.w Q AT a' BN)->k=key x->By.is x ku=M->h.DictAt By a Az Az.length->DR key h C N Az->P):P:=by
 revert c rk;refine Jv hk (λhk=>?_) λhk=>?_
 . apply Dd hk B0;intro x hk rk c;refine xE rk ?_;intro t q;rw[q]at c;have c:=c (strKind B.prog B.w) GV ⟨⟨x⟩⟩;refine r.elim (λr=>AC r λAz hm hd=>c Az WP (λ_ m d=>.inl ⟨_,m,d⟩) rfl lI hm hd) λr=>AC r λAz hm hd=>?_;cases N with
 |nil=>rw[show Az=[]from hd]at hm;exact c [] WP (λ_ m d=>.inl ⟨_,m,d⟩) rfl lI (ay hm) rfl|cons e N=>exact Gp hd λk' u r _ e1 _=>by have hk:vStr e.1 A6 (λ_=>M)=M:=hk;rw[e1]at hk;exact(B0 hk).elim
 . apply Cu hk B0;intro x hk rk c;refine xE rk ?_;intro t q;rw[q]at c;have c:=c (intKind B.prog B.w) T3 x;refine r.elim (λr=>AC r λAz hm hd=>?_) λr=>AC r λAz hm hd=>c Az ax (λ_ m d=>.inr ⟨_,m,d⟩) rfl (intKind_is ..) hm hd;cases N with
 |nil=>rw[show Az=[]from hd]at hm;exact c [] ax (λ_ m d=>.inr ⟨_,m,d⟩) rfl (intKind_is ..) (ay hm) rfl|cons e N=>exact Gp hd λk' u r _ e1 _=>by have hk:vInt e.1 A6 (λ_=>M)=M:=hk;rw[e1]at hk;exact(B0 hk).elim
end
section
theorem DictAt.live[DecidableEq T]{By:KeyKind prog w T}{Az:I (T×A4)}(x:h.DictAt By a Az ep):∃o,h.get? a=G o:=let⟨o,_,e,_⟩:=x;⟨o,e⟩
theorem zU(g:Gd B F K A H C s)(hd:AL H.h i=G (.dict N))(ru:VR s.heap C (.ref i) u)(rk:VR s.heap C k ku)(rv:VR s.heap C v vu)(hk:De N k=M)(hf:CH N=M):Ae B F K A (H.set i (.dict (En N k v))) C s (Rk u ku vu) RU:=by
 intro A2 E kk;refine AC ru ?_;(try clear ru);intro a ha Aw;subst Aw;have r:=g.obj hd ha;have hl:=Ef hf;refine WQ hk r rk λBy key x Az ke back q hx hm dr=>?_;rw[q]at kk;refine zS hx hm (λQ HF hs=>?_) (B4 (dr.length▸hl) (show 100000<=FA by decide));refine xA (g.set (Q:=Q) (tk:=s.toks+1) (o':=.dict (En N (key x) v)) ha hd (λ_ _ e=>by(exfalso;cases e)) hs.extBut (DictAt.live HF) λim=>back _ HF (T6 (p:=λJ=>DR key Q J _ _) ((dr.put ke (k:=x) rv (Uy hm)).mono (J:=[]) im))) ?_;intro g' x';exact kk () C _ g' x' trivial
end
section
theorem Gd.QS(g:Gd B F K A H C s)(ha:a∈C):(a==NR)=A6:=by
 refine xE g.mods ?_;intro o e;exact Ln.mpr λz=>by have :=g.fresh a ha;rw[z,e]at this;(exfalso;cases this)
theorem WR(g:Gd B F K A H C s)(hd:AL H.h i=G (.dict N))(ru:VR s.heap C (.ref i) u)(rk:VR s.heap C k ku)(hk:De N k=M){P:A4->Prop}(c:∀{T:Type}[DecidableEq T](By:KeyKind B.prog B.w T)(x:T)(f:T->AD A4)(a:A8),a∈C->By.is x ku=M->s.heap.MapOf By a f->(D' N k=L/\f x=L\/∃v w,D' N k=G v/\f x=G w/\VR s.heap C v w)->P (.ref a)):P u:=by
 refine AC ru ?_;intro a ha Aw;rw[Aw];refine AC (g.objs i _ hd) ?_;intro a' Fq r;rw[Bm (Fq.symm.trans ha)]at r;exact WQ hk r rk λBy key x Az ke _ q hx hm dr=>c By x _ a (Ew ha) hx hm.dictOf.mapOf (q▸dr.look ke)
theorem WS(g:Gd B F K A H C s)(hd:AL H.h i=G (.dict N))(ru:VR s.heap C (.ref i) u):s.TypeIs u "dict":=AC ru λa ha q=>q▸AC (g.objs i _ hd) λa' Fq r=>Bm (Fq.symm.trans ha)▸r.elim (λr=>AC r λ_ m _=>m.dictOf.mapOf.typeIs) λr=>AC r λ_ m _=>m.dictOf.mapOf.typeIs
theorem lJ(g:Gd B F K A H C s)(hd:AL H.h i=G (.dict N))(ru:VR s.heap C (.ref i) u)(rk:VR s.heap C k ku)(hk:De N k=M)(hv:D' N k=G v):Ae B F K A H C s (Pa u ku) (RV v):=WR (P:=λu=>Ae B F K A H C s (Pa u ku) (RV v)) g hd ru rk hk λBy x f a _ hx hm o A2 E kk=>o.elim (λh=>(AF (h.1.symm.trans hv)).elim) λo=>Bv o λv' w h hf r=>wpAny_getItem_of hx hm hf (kk w C _ (g.tok _) (Nx.refl ..) (Bm (h.symm.trans hv)▸r))
theorem lK{v:AD V}{f:AD A4}(o:v=L/\f=L\/∃v' w,v=G v'/\f=G w/\VR h C v' w):f.isSome=v.isSome:=o.elim (λo=>by rw[o.1,o.2];rfl) λo=>Bv o λ_ _ a b _=>by rw[a,b];rfl
theorem lL(g:Gd B F K A H C s)(hd:AL H.h i=G (.dict N))(ru:VR s.heap C (.ref i) u)(rk:VR s.heap C k ku)(hk:De N k=M):Ae B F K A H C s (Db .In ku u) (Do (.bool (D' N k).isSome)):=WR (P:=λu=>Ae B F K A H C s (Db .In ku u) (Do (.bool (D' N k).isSome))) g hd ru rk hk λBy x f a ha hx hm o A2 E kk=>wpAny_in_of hx (g.QS ha) hm (kk _ C _ (g.tok _) (Nx.refl ..) (congrArg NY (lK o)))
theorem lM(g:Gd B F K A H C s)(hd:AL H.h i=G (.dict N))(ru:VR s.heap C (.ref i) u)(rk:VR s.heap C k ku)(hk:De N k=M):Ae B F K A H C s (Db .NotIn ku u) (Do (.bool (!(D' N k).isSome))):=WR (P:=λu=>Ae B F K A H C s (Db .NotIn ku u) (Do (.bool (!(D' N k).isSome)))) g hd ru rk hk λBy x f a ha hx hm o A2 E kk=>wpAny_notIn_of hx (g.QS ha) hm (kk _ C _ (g.tok _) (Nx.refl ..) (congrArg (λb=>NY (!b)) (lK o)))
end
theorem Dn.C2(r:Dn prog w h C a N):∀x,h.get? a=G x->C2 x=A6:=Ca.C2 (o:=.dict N) r (λ_ _ e=>by(exfalso;cases e))
theorem Dn.live(r:Dn prog w h C a N):∃o,h.get? a=G o:=r.elim (λr=>AC r λ_ m _=>DictAt.live m) λr=>AC r λ_ m _=>DictAt.live m
section
theorem lN{Am:I (V×V)}(hk:De Am k=M)(r:Dn B.prog B.w s.heap C D Am)(rk:VR s.heap C k ku)(rv:VR s.heap C v vu)(hf:CH Am=M){A2:DM->AR->Prop}(kk:∀Q,E4 D s.heap Q->Dn B.prog B.w Q C D (En Am k v)->A2 () {s with heap:=Q,toks:=s.toks+1}):AH (AQ B.prog B.w) A (Rh D ku vu) A2 E s:=by
 have hl:=Ef hf;have hc:=r.C2;exact WQ hk r rk λBy key x Az ke back q hx hm dr=>lH hx hm (λQ HF hs=>kk Q hs (q▸back _ HF (T6 (p:=λJ=>DR key Q J _ _) ((dr.put ke (k:=x) rv (Uy hm)).mono (J:=[]) (Gs hs.extBut hc))))) (B4 (dr.length▸hl) (show 100000<=FA by decide))
theorem compTurn_dict{k v:AA}{it:A4}{d:A8}(ha:g.is_async=0):Ut (.DictComp k v [g] sc pos) 0 it (.ref d) env=(do
 Kh g.iter.pos match<-ES it with
 |none=>pure (.done .next)|some x=>
 Y5 g.target it x
 Ex g.target env x let ok<-forIn g.ifs M λc r=>if r=M then do let ok<-bs8 c env (eval c env);pure (G2 ok)else pure (G2 r)if ok=M then do
 (do
 let kv<-eval k env let vv<-Hf [kv] (eval v env)Kh {k.pos with endLine:=v.pos.endLine,endCol:=v.pos.endCol}Hf [kv,vv] (Rh d kv vv))Kj (.compLoop (.DictComp k v [g] sc pos) 0 it (.ref d) env)else Kj (.compLoop (.DictComp k v [g] sc pos) 0 it (.ref d) env)):=by
 unfold Ut;have e1:([g]:I FP)[0+1]?=L:=rfl;simp only[bw1,ha,YA,Kk,Kl,e1];rfl
structure b4(B:Bs)(A3:Mine.Ctx)(n:O):Prop where b5:∀{K:Kx}{k v:AA}{g:FP}{it:It}{i d:O}{H A7:Mine.St}{f:Fl},ev A3 n K (.Si k v g it i d) H=.ok (.f f) A7->∀{sc:BU}{pos:B9},g.is_async=0->∀{F:Fm}{A:CK}{C BG:I A8}{s:AR}{Af:BK}{AE D:A8}{AS:Dt->AR->Prop},Gd B F K A H C s->C[d]?=G D->Nx F.D F.AZ Af s.heap BG C->Af.get? AE=L->CM B F C s.heap AE->E6 s.heap C it i AE->(∀AT s',Gd B F K A A7 AT s'->Nx F.D F.AZ Af s'.heap BG AT->AT[d]?=G D->AS (.ok .next) s')->D7 (AQ B.prog B.w) A (.compLoop (.DictComp k v [g] sc pos) 0 (.ref AE) (.ref D) F.env) AS s
theorem zV(A9:C5 B A3 n)(SD:b4 B A3 n){k v:AA}(h:step A3 K (ev A3 n) (.Si k v g it i d) H=.ok (.f f) A7)(ha:g.is_async=0){AS:Dt->AR->Prop}(Bl:Gd B F K A H C s)(hD:C[d]?=G D)(Cq:Nx F.D F.AZ Af s.heap BG C)(hI:Af.get? AE=L)(fr:CM B F C s.heap AE)(r:E6 s.heap C it i AE)(kk:∀AT s',Gd B F K A A7 AT s'->Nx F.D F.AZ Af s'.heap BG AT->AT[d]?=G D->AS (.ok .next) s'):D7 (AQ B.prog B.w) A (.compLoop (.DictComp k v [g] sc pos) 0 (.ref AE) (.ref D) F.env) AS s:=by
 refine A0.Bx h ?_;clear h;intro o AP h;refine ff rfl (λ_ s'=>s'=s) (λn s' e=>?_) 0 rfl;subst e;show AH _ A ((Ut (.DictComp k v [g] sc pos) 0 (.ref AE) (.ref D) F.env).onRaise (λx=>do IE x F.env;fg x)) _ _ _;refine fh ?_;rw[compTurn_dict ha];have pre:∀{AM AZ:I A8}{h Q:BK}{A_ Au:I A8},Nx AM AZ h Q A_ Au->A_[d]?=G D->Au[d]?=G D:=λx e=>by refine AC x.pre ?_;intro J q _;rw[q];exact FY e
 refine A5 (El (A5 (K8 Bl fr r AP (λx hx u Q tk AN DU Eo Aq Hx=>?_) λhx Q tk AN DU=>?_)))
 . clear AP;subst hx;refine A0.Hw h ?_;clear h;intro _ Bc BD h;refine A0.OC h ?_;clear h;intro b GX C3 h;have L8:=Cq.F2 DU hI;refine A5 (QM Aq (A5 (A9.asg BD AN Hx _ _ λ_ Au Ai AU Al _=>?_)));refine A5 (kt A9 C3 AU _ _ λMY BS Ax Ap B8 BQ=>?_);clear C3;subst BQ;have xx:=Al.trans B8.FZ;have Ep:=L8.trans xx;have EF:=Eo.nx xx;have Gu:=Aq.nx xx Eo.C Eo.w;have lO:=pre xx hD;cases MY with
 |false=>exact AW (.inr ⟨rfl,SD.b5 h ha Ap lO Ep hI EF Gu kk⟩)|true=>
   refine A0.Cg h ?_;clear h;intro kv l5 FH h;refine A0.Cg h ?_;clear h;intro vv bN2 M_ h;refine A0.OD h ?_;clear h;intro Am hd h;refine A0.Be h ?_;clear h;intro TS h;simp only[D6]at TS;refine xA TS ?_;(try clear TS);intro TS hf;refine A5 (A5 (A9.e FH Ap _ _ λku Ic EG CA Cz JP=>A5 (C0 (A9.e M_ CA _ _ λvu QT Eg Cn EL Ii=>A5 (El (C0 ?_))))));have WT:=Cz.trans EL;have WI:=EF.nx WT;have WJ:=Gu.nx WT EF.C (by simp);have b6:=pre WT lO;have dr:=Cn.obj hd b6;refine lN TS dr (JP.nx EL) Ii hf λQ Df lP=>?_;refine xA (Cn.set (Q:=Q) (tk:=Eg.toks+1) (o':=.dict (En Am kv vv)) b6 hd (λ_ _ e=>by(exfalso;cases e)) Df.extBut lP.live λim=>lP) ?_;intro G_ GF;exact AW (.inr ⟨rfl,SD.b5 h ha G_ b6 (Ep.trans (WT.trans GF).FZ) hI (WI.nx GF) (WJ.nx GF WI.C (by simp)) kk⟩)
 . clear AP;subst hx;refine xA (FG h) ?_;intro q Aw;clear h;subst Aw;exact AW (kk C _ AN (Cq.F2 DU hI) hD)
theorem zW{k v:AA}{Am:A4}{AS:Dt->AR->Prop}(ha:g.is_async=0)(r:E6 s.heap C it i AE)(h:D7 (AQ B.prog B.w) A (.compLoop (.DictComp k v [g] sc pos) 0 (.ref AE) Am env) AS s):D7 (AQ B.prog B.w) A (.compStart (.DictComp k v [g] sc pos) 0 (.ref AE) Am env) AS s:=by
 refine Rb ?_;show AH _ A ((g0 (.DictComp k v [g] sc pos) 0 (.ref AE) Am env).onRaise (λx=>do IE x env;Kh bs9)) _ _ s;refine bt0 ?_;unfold g0;have e:(clausesOf (.DictComp k v [g] sc pos))[0]?=G g:=rfl;simp only[e,bt1,ha,YA,Kk,Kl];refine A5 (Rc (g4 ?_));split;. exact AW (Rd rfl h)
 . exact A5 (Gk (A5 (El (A5 (ky r (AW (Rd rfl h)))))))
end
theorem lQ(e:h.get? a=G {cls:=.type "dict",data:=.dict #[]}):Dn prog w h C a []:=.inl ⟨[],⟨_,#[],e,⟨rfl,rfl,rfl⟩,rfl,λ_ hm=>by simp at hm,by first|exact .nil|exact rfl|(simp[Pairs]),by simp⟩,rfl⟩
section
theorem Gd.zX(AN:Gd B F K A H A_ AJ){A1:A8}(hW:F'.AZ=[A1])(g':Gd B F' K' A' A7 AT s')(TJ:AJ.heap.get? A1=L)(x:Nx F.D F'.AZ AJ.heap s'.heap A_ AT)(hs:E4 A1 s'.heap Q)(Hz:∀o,s'.heap.get? A1=G o->C2 o=A6):Gd B F K A ⟨H.env,A7.h,A7.n⟩ AT {s' with heap:=Q}/\Nx F.D [] AJ.heap Q A_ AT:=by
 refine G5 (g'.D5 A1 (by rw[hW];simp)) ?_;intro QP OH _;have k:Ds A1 s'.heap Q:=hs.extBut;have im:=Gs k Hz;have ne:∀{b:A8}{o:Bi},AJ.heap.get? b=G o->b≠A1:=λe z=>by rw[z,TJ]at e;exact(BE e).elim
 have nW:∀{b:A8}{o:Bi},AJ.heap.get? b=G o->b∉F'.AZ:=λe m=>by rw[hW]at m;exact ne e (CI.mp m)
 have xx:Nx F.D [] AJ.heap Q A_ AT:=by
   refine⟨x.pre,λb o q=>?_,λb o q c=>k b o (ne q) (x.Bw b o q c),λb o q m _=>let⟨sl,z,r⟩:=x.same b o q m (nW q);⟨sl,k b _ (ne q) z,r⟩⟩;. refine xE (x.live b o q) ?_;intro o' q';exact⟨o',k b o' (ne q) q'⟩
 refine⟨AN.back (s':={s' with heap:=Q}) (A7:=⟨H.env,A7.h,A7.n⟩) xx g'.len g'.nodup g'.fresh (λa m=>?_) (λi p e=>?_) (λb p e=>k b p (λz=>by rw[z,QP]at e;exact(BE e).elim) (g'.base b p e)) g'.os g'.gens (Cf.Gv AN AN.env xx),xx⟩;. refine xE (g'.live a m) ?_;intro p e;exact⟨p,k a p (λz=>OH (z▸m)) e⟩
 . refine AC (g'.objs i p e) ?_;intro b q r;have :=r.mono (J:=[]) im λy=>k b y λz=>OH (z▸Ew q);exact⟨b,q,by simpa using this⟩
theorem zY{k v:AA}:eval (.DictComp k v gens sc pos) env=bt7 (.DictComp k v gens sc pos) sc env (firstIterPos gens pos) newDict (Uv gens) (Uw gens env):=rfl
theorem zZ(A9:C5 B A3 n)(SD:b4 B A3 n){k v:AA}{r:V}(h:Fp A3 K (ev A3 n) (.DictComp k v [g] sc pos) H=.ok (.v r) A7)(Bl:Gd B F K A H C s):Ae B F K A A7 C s (eval (.DictComp k v [g] sc pos) F.env) (RV r):=by
 refine A0.Be h ?_;clear h;intro Ig h;refine A0.Cg h ?_;clear h;intro w AB AP h;refine A0.Be h ?_;clear h;intro hs h;refine A0.Bx h ?_;clear h;intro it BD h;refine A0.Hw h ?_;clear h;intro _ Bc C3 h;refine xA (FG h) ?_;intro q Aw;subst Aw;injection q with q;subst q;refine xA (QN Ig) ?_;intro hp ha;intro A2 E kk;refine S5 (Bl.kinds.comp hs (A1:=s.heap.objs.size) rfl λc m z=>by refine H8 (Bl.D1 c m) ?_;intro _ o e;rw[z,GD]at e;exact(BE e).elim) ?_;intro _ hk Mb D2 Mc _;rw[zY];have OL:Uv [g]=A6:=by obtain⟨_,_,_,k⟩:=g;show(k !=0)=A6;simp only at ha;rw[ha];rfl
 have OM:Uw [g] F.env=eval g.iter F.env:=by obtain⟨_,_,_,_⟩:=g;rfl
 rw[OL,OM];refine g8 (use:=L) (g:=g) (gs:=[]) rfl (λx=>QK hp x) (WL D2) hk Mc ?_;refine A9.e AP Bl _ _ λu A_ AJ AN Ab Aq=>?_;refine OE AN Aq BD λAE BD tk AU Al hI K9 TA=>?_;refine IF ?_;skip;generalize hH:BD.push {cls:=.type "dict",dict:=L,data:=.dict #[]}=BF;have sz:BF.objs.size=BD.objs.size+1:=by rw[<-hH,IG]
 have KI:∀b o,BD.get? b=G o->BF.get? b=G o:=λb o e=>by rw[<-hH];exact C1 _ e
 have Me:BD.get? BD.objs.size=L:=KC (DF _);have eD:BF.get? BD.objs.size=G {cls:=.type "dict",dict:=L,data:=.dict #[]}:=by rw[<-hH];exact CY _ rfl
 have Ap:=AU.new (Q:=BF) (tk:=tk) (o:=.dict []) KI Me ⟨_,eD⟩ (lQ eD);have B8:Nx F.D ([]:I A8) BD BF A_ (A_++[BD.objs.size]):=Nx.add [_] KI λb hb=>by rw[CI.mp hb];exact Me
 have EF:=K9.nx B8;have Gu:=TA.nx B8 K9.C (by simp);refine bt5 Mb (λy hy=>by simp at hy) (λFH ns QR=>?_) hk;dsimp only at ns QR ⊢;have TU:BF.get? BF.objs.size=L:=KC (DF _);have OK:∀b o,BF.get? b=G o->FH.get? b=G o:=λb o e=>QR.extBut b o (λz=>by rw[z,TU]at e;exact(BE e).elim) (C1 _ e);have TJ:AJ.heap.get? BF.objs.size=L:=HC (Al.trans B8).live TU;have WN:∀c∈F.env.cells,c.2≠BF.objs.size:=λc m z=>by refine H8 (Ap.D1 c m) ?_;intro _ o e;rw[z,TU]at e;exact(BE e).elim
 have CA:=Ap.comp (tk:=tk+([]:I (U×A4)).length) hs TU OK ns;have L9:CM B (I0 F sc BF.objs.size) (A_++[BD.objs.size]) FH AE:=EF.comp Ap hs (λz=>by refine xE EF.live ?_;intro o e;rw[z,TU]at e;exact(BE e).elim) (by refine xE EF.live ?_;intro o e;exact⟨o,OK _ _ e⟩) WN;have Cz:Nx F.D ([]:I A8) BF FH (A_++[BD.objs.size]) (A_++[BD.objs.size]):=Nx.ext OK;have HY:=Gu.nx Cz EF.C (by simp);have hd:(A_++[BD.objs.size])[AB.n]?=G BD.objs.size:=by rw[<-AN.len];simp
 refine zW ha HY (SD.b5 C3 ha (F:=I0 F sc BF.objs.size) (Af:=AJ.heap) (BG:=A_) CA hd (Al.trans (B8.trans Cz)).FZ hI L9 HY λAT s' g' x' d'=>?_);refine AC ((λx=>x) g'.env) ?_;intro m Fs _;refine⟨m,Fs,λQ Df=>?_⟩;have Hz:∀o,s'.heap.get? BF.objs.size=G o->C2 o=A6:=λo e=>by
  refine Gp Fs ?_;(try clear Fs);intro o' N ep e' d _;have e':s'.heap.get? BF.objs.size=G o':=e';rw[e']at e;injection e with e;subst e;unfold C2;rw[d];simp
 refine xA (AN.zX (F':=I0 F sc BF.objs.size) rfl g' TJ x' Df Hz) ?_;intro gg xx;exact kk _ _ _ gg (Ab.trans xx) ⟨_,d',rfl⟩
end
structure Cx(B:Bs)(A3:Mine.Ctx)(Kf:Gg):Prop where
 AV:Kf.In B.base
 makes:makesIn Kf A3.Dl=M
 init:Gn Kf (.ref A3.Dl) "__init__"=G (G (.ref A3.Q9))lR:tS Kf (.ref A3.Q9)=G (.type "function")ga:Gn Kf (.ref A3.Dl) "__getattribute__"=G (G (.builtin "object.__getattribute__"))lS:Gn Kf (.ref A3.Dl) "__getattr__"=G L
 lT:Gn Kf (.ref A3.Dl) "__setattr__"=G (G (.builtin "object.__setattr__"))over:plainOver Kf A3.Dl=M
 b7:(clsIn Kf A3.Dl).any (·.hasDict)=M
 attrs:∀a,Sr a=M->Gn Kf (.ref A3.Dl) a=G L
 meths:∀m a,Ah A3.HV m=G a->Gn Kf (.ref A3.Dl) m=G (G (.ref a))/\tS Kf (.ref a)=G (.type "function")
theorem lU{o:Bi}{N:BW FQ}{m:U->AD A4}(d:o.data=.dict N ep)(k:tU N)(f:∀name,N_ N name=m name)(name:U):gB name o=G (m name):=by
 unfold gB;rw[d];dsimp only;have hf:=f name;unfold N_ findBy at hf;rw[<-Array.find?_toList]at hf;cases q:N.toList.find? (λe=>e.key.isStr name)with
 |some e=>rw[q]at hf;rw[<-hf];rfl|none=>
 rw[q]at hf;have :N.toList.any (·.refKey)=A6:=by
  rw[Y9];intro e he;refine DB (k e (gC.mp he)) ?_;intro n t hk;simp[bR4,hk]
 dsimp only;rw[this,<-hf];rfl
theorem z_{N:BW FQ}(k:tU N)(u:tX N){A1:I U}(hL:∀name,N_ N name≠L->name∈A1):N.size<=A1.length:=by
 have key:∀(l:I FQ)(A1:I U),(∀e∈l,∃n t,e.key=.str n t)->l.Pairwise (λa b=>∀n,a.key.isStr n=M->b.key.isStr n=M->Bj)->(∀e∈l,∀n t,e.key=.str n t->n∈A1)->l.length<=A1.length:=by
  intro l;induction l with
 |nil=>intro A1 _ _ _;simp|cons e l ih=>
  intro A1 hk hp hm;refine DB (hk e Co) ?_;intro n t he;refine xA (Uz.mp hp) ?_;intro h1 h2;have hn:=hm e Co n t he;have :=ih (A1.erase n) (λe' Q=>hk e' (Cp _ Q)) h2 λe' Q n' t' q=>by
   have Cc:n'≠n:=λz=>by
    clear hn;subst z;exact h1 e' Q n' (by rw[he];simp[tY]) (by rw[q];simp[tY])
   exact(List.mem_erase_of_ne Cc).mpr (hm e' (Cp _ Q) n' t' q)
  rw[List.length_erase_of_mem hn]at this;have :0<A1.length:=List.length_pos_of_mem hn;simp only[V'];(with_reducible exact Mine.w4 (by assumption) (by assumption))
 have :=key N.toList A1 (λe he=>k e (gC.mp he)) u λe he n t q=>hL n λz=>by
  unfold N_ findBy at z;simp only[Option.map_eq_none_iff,Array.find?_eq_none]at z;have :=z e (gC.mp he);rw[q]at this;simp[tY]at this
 simpa using this
theorem za{K:Gg}{A3:A8}{od:Bi}{v:A4}(hh:(clsIn K A3).any (·.hasDict)=M)(ha:Gn K (.ref A3) name=G L)(hl:gB name od=G (G v)):findObj K A3 (G od) name=G (.value v):=by
 refine AC (any_some hh) ?_;intro cd hc hd;unfold findObj;rw[hc,tZ,ha,tZ];simp only[tZ,ownOf,hd,Km,hl]
section
theorem Gd.AV(AG:Cx B A3 Kf)(g:Gd B F K A H C s):Kf.In s.heap:=λa o e=>g.base a o (AG.AV a o e)
theorem b8(g:Gd B F K A H C s){c:A8}{N:I (U×V)}(hi:AL H.h i=G (.inst c d))(hd:AL H.h d=G (.EY N))(ru:VR s.heap C (.ref i) u){P:A4->Prop}(k:∀a da od m LB ep,C[d]?=G da->s.heap.get? da=G od->od.data=.dict LB ep->tU LB->tX LB->(∀name,N_ LB name=m name)->s.heap.Ns1 da m->InstAt s.heap a {cls:=.ref c,dict:=G da,data:=.plain} c (G od)->(∀x,match Ah N x with|some v=>∃u,m x=G u/\VR s.heap C v u|none=>m x=L)->P (.ref a)):P u:=by
 refine AC ru ?_;intro a ha q;rw[q];refine AC (g.obj hi ha) ?_;intro da QU ho;refine AC (g.obj hd QU) ?_;intro m ns r;refine iL ((λx=>x) ns) ?_;intro od LB ep e dd kk uu f;exact k a da od m LB ep QU e dd kk uu f ns ⟨ho,rfl,rfl,e⟩ r
theorem zb(AG:Cx B A3 Kf)(g:Gd B F K A H C s){N:I (U×V)}{a:U}(hi:AL H.h i=G (.inst A3.Dl d))(hd:AL H.h d=G (.EY N))(ha:Sr a=M)(hv:Ah N a=G v)(lV:jz v=M)(ru:VR s.heap C (.ref i) u)(WU:AK):Ae B F K A H C s (V0 u a WU) (RV v):=by
 intro A2 E k;apply b8 g hi hd ru;intro x da od m LB ep _ _ dd kk _ f _ AE r;have :=r a;rw[hv]at this;refine AC this ?_;(try clear this);intro w e hw;have hh:handedIn w=M:=by
  cases v<;>first|(first|exact(E5 lV).elim|cases lV)|skip
  . cases hw;rfl
  . cases hw;rfl
  . refine xE hw ?_;(try clear hw);intro t BJ;clear e;subst BJ;rfl
  . refine xE hw ?_;(try clear hw);intro t BP;clear e;subst BP;rfl
  . refine Jw hw ?_;(try clear hw);intro _ _ _ _ Bq _;clear e;subst Bq;rfl
  . refine AC hw ?_;(try clear hw);intro _ _ Bg;clear e;subst Bg;rfl
  . refine Jw hw ?_;(try clear hw);intro _ _ _ _ Bu _;clear e;subst Bu;rfl
  . refine EX hw ?_;(try clear hw);intro _ _ C9 _;clear e;subst C9;rfl
  . refine xE hw ?_;(try clear hw);intro t Ck;clear e;subst Ck;rfl
  . refine EX hw ?_;(try clear hw);intro _ t D8 _;clear e;subst D8;rfl
  . refine EX hw ?_;(try clear hw);intro _ t DX _;clear e;subst DX;rfl
  . refine EX hw ?_;(try clear hw);intro _ t Ed _;clear e;subst Ed;rfl
 exact get_value (g.AV AG) AE AG.ga (za AG.b7 (AG.attrs a ha) (by rw[lU dd kk f,e])) hh (k w C _ (g.tok _) (Nx.refl ..) hw)
theorem zc(AG:Cx B A3 Kf)(g:Gd B F K A H C s){N:I (U×V)}{m:U}(hi:AL H.h i=G (.inst A3.Dl d))(hd:AL H.h d=G (.EY N))(hm:Ah N m=L)(ha:Ah A3.HV m=G a)(ru:VR s.heap C (.ref i) u)(pl:Dz AK):Gj (AQ B.prog B.w) s.heap (Jl u m pl) (.ref a,[u]):=by
 apply b8 g hi hd ru;intro x da od mm LB ep _ eD dd kk _ f _ AE r;refine xA (AG.meths m a ha) ?_;intro h1 h2;have :=r m;rw[hm]at this;intro A A2 E s' k q;have I':InstAt s'.heap x {cls:=.ref A3.Dl,dict:=G da,data:=.plain} A3.Dl (G od):=⟨k _ _ AE.at_,rfl,rfl,k _ _ eD⟩;exact method_fn (λb o e=>k b o (g.AV AG b o e)) I' AG.ga AG.lS h1 h2 (by show(gB m od).map _=_;rw[lU dd kk f,this];rfl) q
end
theorem zd{K:Gg}{A3:A8}{a:U}(h:Gn K (.ref A3) a=G L):takerIn K A3 a=G L:=by unfold takerIn;rw[h];rfl
theorem ze{a:U}{v:J}(N:I (U×J)):(E_ N a v).length<=N.length+1:=by induction N with
 |nil=>exact DF _|cons p N ih=>
 show(bC (Cw p.1 a) ((p.1,v)::N) (p::E_ N a v)).length<=_;cases Cw p.1 a with
 |true=>exact H3 _ _|false=>exact Lm ih
section
theorem zf{N:I (U×V)}{m:U->AD A4}(r:∀x,match Ah N x with|some v=>∃u,m x=G u/\VR h C v u|none=>m x=L)(hn:m name≠L):name∈N.map (·.1):=by
 have :=r name;cases q:Ah N name with
 |none=>rw[q]at this;exact absurd this hn|some v=>exact E0.mpr ⟨_,FF q,rfl⟩
theorem zg(AG:Cx B A3 Kf)(g:Gd B F K A H C s){N:I (U×V)}{a:U}(hi:AL H.h i=G (.inst A3.Dl d))(hd:AL H.h d=G (.EY N))(ha:Sr a=M)(hf:CH N=M)(ru:VR s.heap C (.ref i) u)(rv:VR s.heap C v vu):Ae B F K A (H.set d (.EY (E_ N a v))) C s (setAttr u a vu) RU:=by
 intro A2 E k;apply b8 g hi hd ru;intro x da od m LB ep QU eD dd kk uu f ns AE r;refine set_plain (g.AV AG) AE AG.lT ?_;refine osa_open (s:={s with toks:=s.toks+1}) (od:=G od) ((g.tok (s.toks+1)).AV AG) AE AG.over (zd (AG.attrs a ha)) λb=>?_;refine AC (any_some AG.b7) ?_;intro cd hc GW;refine A5 (AW (A5 (A5 (bw2 AE.at_ (A5 ((looks_clsIn ((g.tok (s.toks+1)).AV AG) hc).here ?_))))));rw[GW];refine AW (a:=G da) (A5 (AW (A5 ?_)));refine wpAny_nsSet1 (s:={s with toks:=s.toks+1}) ns λQ Fs hs=>A5 ?_;have r':∀x:Dw s.heap Q,∀y,match Ah (E_ N a v) y with|some v=>∃u,(if y=a then G vu else m y)=G u/\VR Q C v u|none=>(if y=a then G vu else m y)=L:=λim y=>by
  rw[QI];by_cases q:y=a;. clear ha k Fs;subst q;simp only[Km];exact⟨vu,rfl,rv.Bw im⟩
  . rw[CS (λz=>q z.symm),CS q];have :=r y;cases q:Ah N y with
 |none=>rw[q]at this;exact this|some w=>rw[q]at this;refine AC this ?_;(try clear this);intro u e z;exact⟨u,e,z.Bw im⟩
 refine xA (g.set (Q:=Q) (tk:=s.toks+1+1) (o':=.EY (E_ N a v)) QU hd (λ_ _ e=>by(exfalso;cases e)) hs.extBut (by refine Hp Fs ?_;(try clear Fs);intro o _ _ e _;exact⟨o,e⟩) λim=>⟨_,Fs,r' im⟩) ?_;intro g' x';refine iL ((λx=>x) Fs) ?_;intro o' bN3 zh e' d' k' u' f';refine wpAny_lookBehind e' (by
  rw[d'];refine pastItsLine_dict ?_;have hl:=z_ k' u' (A1:=(E_ N a v).map (·.1)) λname hn=>by
    rw[f']at hn;exact zf (h:=Q) (C:=C) (r' x'.Bw) hn
  have hp:=ze (a:=a) (v:=v) N;have :=Ef hf;simp only[Jn]at hl;rw[sizeLine_eq];(with_reducible exact Mine.wP (by assumption) (by assumption) (by assumption))) ?_;exact AW (k () C _ g' x' trivial)
end
section
theorem G9.deep(k:G9 K F)(d:O):G9 ⟨K.sc,d⟩ F:=⟨k.fn,k.sc,k.kd,k.g3,k.b0,k.cells,k.I_,k.MR⟩
theorem Gd.swap(g:Gd B F K A H C s)(kd:G9 K' F)(fr:A'.frames=G F.outs)(hd:A'.handled=L)(dp:A'.depth+3*K'.d<900)(un:A'.units+10*K'.d<9000):Gd B F K' A' H C s:=⟨kd,g.len,g.nodup,g.fresh,g.live,g.D5,g.D1,g.objs,g.env,g.base,g.os,g.gens,fr,g.DT,g.Cy,g.mods,hd,dp,un⟩
theorem lW{c:A8}{C4:I A4}{kw:I (U×A4)}:(A.under (.builtin "type.__call__" ⟨.ref c::C4,kw⟩)).frames=A.frames/\(A.under (.builtin "type.__call__" ⟨.ref c::C4,kw⟩)).handled=A.handled/\(A.under (.builtin "type.__call__" ⟨.ref c::C4,kw⟩)).depth<=A.depth+1/\(A.under (.builtin "type.__call__" ⟨.ref c::C4,kw⟩)).units<=A.units+5:=by
 have hw:(t_ "type.__call__" ⟨.ref c::C4,kw⟩).weight=1:=by kernel_rfl
 have he:(t_ "type.__call__" ⟨.ref c::C4,kw⟩).envs=[]:=by kernel_rfl
 have hu:(t_ "type.__call__" ⟨.ref c::C4,kw⟩).cUnits=1:=by kernel_rfl
 refine⟨?_,rfl,?_,?_⟩
 . unfold Around.under;simp only[he,pushEnvs]
 . show A.depth+Code.weight _<=_;rw[hw];exact DF _
 . show A.units+Code.cUnits _<=_;rw[hu];(with_reducible exact HK (by decide) _)
theorem zi(AG:Cx B A3 Kf)(A9:C5 B A3 n)(g:Gd B F K A H C s)(rs:Aa s.heap C args us)(hK:K.d=d+1){fn:Fn}{o:Bi}(ok:FnAt B A3.Q9 fn o fd)(h:JJ ⟨K.sc,d⟩ (ev A3 n) fn (.ref (H.n+1)::args) ⟨H.env,(H.n+1,.inst A3.Dl H.n)::(H.n,.EY [])::H.h,H.n+2⟩=.ok (.v .none) A7):Ae B F K A A7 C s (CE (.ref A3.Dl) us) (RV (.ref (H.n+1))):=by
 intro A2 E k;refine HP ?_;obtain⟨hh,gs,dr,t,os⟩:=s;have AV:=g.AV AG;refine make_core (makes_of AV AG.makes) (Na AV AG.init) (λself=>bind_fn AV self AG.lR) (.inl rfl) ?_;refine M8 (lW (A:=A) (c:=A3.Dl) (C4:=us) (kw:=[])) ?_;intro u1 u2 u3 bV2;have kp:∀b o,hh.get? b=G o->((hh.push gD).push (gE A3.Dl hh.objs.size)).get? b=G o:=λb o e=>C1 _ (C1 _ e);generalize hH:(hh.push gD).push (gE A3.Dl hh.objs.size)=BF at kp;have eD:BF.get? hh.objs.size=G gD:=by rw[<-hH];exact C1 _ (CY _ rfl)
 have eX:BF.get? (hh.objs.size+1)=G (gE A3.Dl hh.objs.size):=by
  rw[<-hH];have :=CY (hh.push gD) (o:=gE A3.Dl hh.objs.size) rfl;rwa[IG]at this
 have nD:hh.get? hh.objs.size=L:=KC (DF _);have nX:hh.get? (hh.objs.size+1)=L:=KC (PQ _);have im:Dw hh BF:=λb o e _=>kp b o e;have hn:∀b∈[hh.objs.size,hh.objs.size+1],hh.get? b=L:=λb hb=>by
  rcases Cj.mp hb with z|z;. rw[z];exact nD
  . rw[CI.mp z];exact nX
 have Ab:Nx F.D ([]:I A8) hh BF C (C++[hh.objs.size,hh.objs.size+1]):=Nx.add _ kp hn;have i0:(C++[hh.objs.size,hh.objs.size+1])[H.n]?=G hh.objs.size:=by rw[<-g.len];simp
 have i1:(C++[hh.objs.size,hh.objs.size+1])[H.n+1]?=G (hh.objs.size+1):=by rw[<-g.len];simp
 have zj:BF.Ns1 hh.objs.size λ_=>L:=⟨_,#[],0,eD,rfl,λ_ hm=>by simp at hm,by unfold tX;simp,λ_=>rfl⟩;have AN:Gd B F K A ⟨H.env,(H.n+1,.inst A3.Dl H.n)::(H.n,.EY [])::H.h,H.n+2⟩ (C++[hh.objs.size,hh.objs.size+1]) ⟨BF,gs,dr,t,os⟩:=by
  refine g.of (Q:=BF) (tk:=t) (Nx.add _ kp hn) (by simp) hn (λb hb=>?_) (by simp[g.len]) (λi o e=>?_) (g.env.ext kp) (λb o e=>kp b o (g.base b o e))
  . rcases Cj.mp hb with z|z;. rw[z];exact⟨_,eD⟩
    . rw[CI.mp z];exact⟨_,eX⟩
  . simp only[AL]at e;cases q:BC (H.n+1) i with
 |true=>
     rw[q]at e;injection e with e;subst e;have :=CD q;clear q;subst this;exact⟨_,i1,_,i0,eX⟩|false=>
     rw[q]at e;cases q':BC H.n i with
 |true=>
      rw[q']at e;injection e with e;subst e;have :=CD q';clear q q';subst this;exact⟨_,i0,_,zj,λx=>rfl⟩|false=>
      rw[q']at e;refine AC (g.objs i o e) ?_;intro b p r;exact⟨b,FY p,r.mono im (kp b)⟩
 have dp:=g.depth;have un:=g.units;have AU:=AN.swap (A':=A.under (.builtin "type.__call__" ⟨.ref A3.Dl::us,[]⟩)) (g.kinds.deep d) (u1.trans g.frames) (u2.trans g.handled) (by show _+3*d<900;rw[hK]at dp;(with_reducible exact Mine.yV (by assumption) (by assumption) (by decide))) (by show _+10*d<9000;rw[hK]at un;(with_reducible exact Mine.yV (by assumption) (by assumption) (by decide)));refine ae A9 ok h AU (us:=.ref (hh.objs.size+1)::us) ⟨_,_,rfl,⟨_,i1,rfl⟩,rs.nx Ab⟩ λu AT s' g' x' r'=>?_;cases r';have gg:=g'.swap (K':=K) (A':=A) g.kinds g.frames g.handled dp un;refine⟨rfl,k _ AT s' gg (Ab.trans x') ⟨_,?_,rfl⟩⟩;refine AC (x'.pre) ?_;intro J e _;rw[e];exact FY i1
end
structure HZ(B:Bs)(A3:Mine.Ctx)(Kf:Gg):Prop where
 at_:A3.Bp=135cls:∃oc od cd sl,Kf.lookup A3.Bp=G ⟨oc,od,.cls cd,sl⟩/\cd.hasDel=A6
 call:specialIn Kf (.ref A3.Bp) "__call__"=G (G (.builtin "type.__call__"))typ:instIn Kf (.ref A3.Bp) (.type "type")=G M
 self:YC Kf (.ref A3.Bp) (.ref A3.Bp)=G M
 tup:YC Kf (.ref A3.Bp) (.type "tuple")=G M
 obj:YC Kf (.ref A3.Bp) (.type "object")=G M
 init:Gn Kf (.ref A3.Bp) "__init__"=G (G (.builtin "object.__init__"))len:Gn Kf (.ref A3.Bp) "__len__"=G (G (.builtin "tuple.__len__"))iter:Gn Kf (.ref A3.Bp) "__iter__"=G (G (.builtin "tuple.__iter__"))mro:∀A9,Rl Kf A9 (mroOf (.ref A3.Bp))=G [.ref A3.Bp,.type "tuple",.type "object"]made:∀A9,Rl Kf A9 (Bind.madeBy (.ref A3.Bp))=G L
 lX:∀A9,Rl Kf A9 (isType (.ref A3.Bp))=G M
 here:∀A9,Rl Kf A9 (Bind.madeHere "tuple.__new__" (.ref A3.Bp))=G ()lY:∀A9 T,Rl Kf A9 (gF "tuple.__new__" ⟨[.ref A3.Bp,.ref T],[]⟩)=G ()reads:readsIn Kf A3.Bp (.type "type")=M
 new:∃p,ta Kf (.ref A3.Bp) (.type "type") "__new__"=G (.get (.builtin "staticmethod.__get__") (.ref p) .none (.ref A3.Bp))/\∃C4,recIn Kf p "staticmethod"=G (.ref A3.Sj::C4)
theorem zk:Lu Lv "tuple.__new__"=G EB.«tuple.__new__»:=YD (by kernel_rfl)
section
theorem zl(An:HZ B A3 Kf)(AV:Kf.In B.base)(g:Gd B F K A H C s)(r:VR s.heap C (.tup L Y) u)(hf:CH Y=M):Ae B F K A H C s (CE (.builtin "tuple.__new__") [.ref A3.Bp,u]) (RV (.tup (G A3.Bp) Y)):=by
 intro A2 E k;refine Bv (QL r) ?_;intro T us Aw ht vr;clear r;subst Aw;have Gx:Kf.In s.heap:=λa o e=>g.base a o (AV a o e);refine Jw An.cls ?_;intro oc od cd sl hC lZ;have b9:=Gx _ _ hC;have Ee:us.size<=FA:=by
  have e1:=vr.length;have :=Ef hf;simp at e1;exact B4 (show _<=100000 by(with_reducible exact Mine.yS (by assumption) (by assumption))) (by decide)
 refine HP (codeAny_call_builtin_code (tb _ (by decide+kernel)) ((Nb Gx (An.lY _ T)).here (J4 zk ?_)));skip;refine A5 ((Nb Gx (An.lX _)).here ?_);skip;refine A5 ((V1 Gx An.tup).here ?_);skip;refine A5 ((Nb Gx (An.here _)).here ?_);refine A5 ((Na Gx An.init).here ?_);skip;refine A5 (AW (A5 (AW ?_)));show AH _ _ (YE (.ref T)>>=λl=>(pure l.toArray:Dz (BW A4))>>=λY=>alloc {cls:=.type "dict",data:=.dict #[]}>>=λd=>tc (.ref A3.Bp) (.seq Y) (G d)>>=λr=>ret r) _ _ _;refine Pq ht ?_;(try clear ht);intro o eT cT m dT;refine A5 (wpAny_collect_seq T (.inr rfl) eT cT dT (λQ kp=>A5 (AW (A5 (YF (A5 ?_))))) Ee);have LC:∀b o,s.heap.get? b=G o->(Q.push {cls:=.type "dict",data:=.dict #[]}).get? b=G o:=λb o e=>C1 _ (kp b o e);generalize hH:Q.push {cls:=.type "dict",data:=.dict #[]}=BF at LC;have step:AH (AQ B.prog B.w) (A.under (.builtin "tuple.__new__" ⟨[.ref A3.Bp,.ref T],[]⟩)) (newObjAsIs (.ref A3.Bp) (.seq us.toList.toArray) (G Q.objs.size)) (λr s'=>r=.ref BF.objs.size/\s'={s with heap:=BF.push {cls:=.ref A3.Bp,dict:=G Q.objs.size,data:=.seq us.toList.toArray}}) (λe s'=>E e s') {s with heap:=BF}:=by
  unfold newObjAsIs classHasDel;refine A5 (YF (A5 (A5 (NV (C1 _ (LC _ _ b9)) (AW ?_)))));rw[lZ];exact AW ⟨rfl,rfl⟩
 have zm:AH (AQ B.prog B.w) (A.under (.builtin "tuple.__new__" ⟨[.ref A3.Bp,.ref T],[]⟩)) (tc (.ref A3.Bp) (.seq us.toList.toArray) (G Q.objs.size)) (λr s'=>r=.ref BF.objs.size/\s'={s with heap:=BF.push {cls:=.ref A3.Bp,dict:=G Q.objs.size,data:=.seq us.toList.toArray}}) (λe s'=>E e s') {s with heap:=BF}:=by
  unfold tc;simp only[];rw[CS (by simpa using Uq.mpr Ee)];exact step
 refine Fg zm (λr s' hr=>?_) λ_ _ e=>e;refine xA hr ?_;(try clear hr);intro B6 BJ;subst B6;subst BJ;refine AW ?_;have bA:∀b o,s.heap.get? b=G o->(BF.push {cls:=.ref A3.Bp,dict:=G Q.objs.size,data:=.seq us.toList.toArray}).get? b=G o:=λb o e=>C1 _ (LC b o e);refine k _ C _ (g.ext (tk:=s.toks) bA) (Nx.ext bA) ⟨_,_,us.toList.toArray,0,rfl,CY _ rfl,⟨by rw[An.at_];rfl,λh=>by(exfalso;cases h)⟩,rfl,rfl,?_⟩;have :=vr.Bw (Q:=BF.push {cls:=.ref A3.Bp,dict:=G Q.objs.size,data:=.seq us.toList.toArray}) (λb o e _=>bA b o e);simpa using this
theorem zn(a b c d:A4):Jo "object.__init__" ⟨[a,b,c,d],[]⟩:=by unfold Jo;kernel_rfl
theorem zo(An:HZ B A3 Kf)(AV:Kf.In B.base)(A9:C5 B A3 n)(g:Gd B F K A H C s){x y z:V}(rs:Aa s.heap C [x,y,z] us)(hK:K.d=d+1){fn:Fn}{o:Bi}(ok:FnAt B A3.Sj fn o fd)(h:JJ ⟨K.sc,d⟩ (ev A3 n) fn (.top (.ref A3.Bp)::[x,y,z]) H=.ok (.v (.tup (G A3.Bp) Y)) A7):Ae B F K A A7 C s (CE (.ref A3.Bp) us) (RV (.tup (G A3.Bp) Y)):=by
 intro A2 E k;refine HP ?_;refine Ys rs ?_;(try clear rs);intro u1 us BP r1 u2 us Bq r2 u3 us Bg r3 zp;subst BP;subst Bq;subst Bg;cases zp;have Gx:Kf.In s.heap:=λa o e=>g.base a o (AV a o e);refine Jw An.cls ?_;intro oc od cd sl hC lZ;have b9:=Gx _ _ hC;refine Rb ?_;show AH _ _ (V2 (.ref A3.Bp) _) _ _ _;refine A5 (NV b9 ?_);show AH _ _ (bw3 (.ref A3.Bp) _) _ _ _;unfold bw3;refine A5 ((bw4 Gx An.call).here ?_);skip;skip;refine A5 (AW (A5 (AW ?_)));refine AW (a:=Fin.again (.call (.builtin "type.__call__") ⟨[.ref A3.Bp,u1,u2,u3],[]⟩)) (Rd rfl ?_);refine codeAny_call_builtin_at (tb _ (by decide+kernel)) entry_typeCall (YG tc_kind tc_split (looks_instIn Gx An.typ) (tc_args _ _ _) ?_);unfold EB.«type.__call__»;refine A5 ((Nb Gx (An.mro _)).here ?_);skip;refine A5 ((Nb Gx (An.made _)).here ?_);refine M8 (lW (A:=A) (c:=A3.Bp) (C4:=[u1,u2,u3]) (kw:=[])) ?_;intro v1 v2 v3 v4;generalize hA:A.under (.builtin "type.__call__" ⟨[.ref A3.Bp,u1,u2,u3],[]⟩)=A' at v1 v2 v3 v4 ⊢;have dp:=g.depth;have un:=g.units;have AN:=g.swap (A':=A') (g.kinds.deep d) (v1.trans g.frames) (v2.trans g.handled) (by show _+3*d<900;rw[hK]at dp;(with_reducible exact Mine.yV (by assumption) (by assumption) (by decide))) (by show _+10*d<9000;rw[hK]at un;(with_reducible exact Mine.yV (by assumption) (by assumption) (by decide)));refine vO An.new ?_;intro p hf C4 hp;refine A5 (cls_bind Gx An.reads hf (HP (sm_get (s:={s with toks:=s.toks+1}) Gx hp (handed_on rfl ?_))));refine A5 (C0 (ki A9 ok h (AN.tok (s.toks+1)) (us:=[.ref A3.Bp,u1,u2,u3]) ⟨_,_,rfl,rfl,_,_,rfl,r1,_,_,rfl,r2,_,_,rfl,r3,rfl⟩ _ _ λu Au Ai AU Al BB=>?_));refine Kt BB ?_;(try clear BB);intro T oT zq m Bu eT tk cT dT vr;subst Bu;have TV:Kf.In Ai.heap:=λa o e=>AU.base a o (AV a o e);have tT:Gj (AQ B.prog B.w) Ai.heap (Hg (.ref T)) (.ref A3.Bp):=(Ki (part:=L) eT).andThen (by rw[cT];exact .now);have iT:∀{b:A4}{r:AK},YC Kf (.ref A3.Bp) b=G r->Gj (AQ B.prog B.w) Ai.heap (V3 (.ref T) b) r:=λe=>tT.andThen (V1 TV e);refine A5 ((iT An.self).here ?_);skip;have fin:AH (AQ B.prog B.w) A' (td (.ref T) "__init__" [u1,u2,u3] []) (λr s'=>r=G .none/\s'=Ai) (λ_ _=>Bj) Ai:=by
  unfold td Nc;refine A5 (A5 (tT.here ((Na TV An.init).here ?_)));refine C0 ?_;skip;refine A5 (AW (A5 (HP ?_)));show D7 _ A' (.call (.builtin "object.__init__") ⟨[.ref T,u1,u2,u3],[]⟩) _ Ai;refine Lw oi_plain entry_oi ?_;refine YG (i:="object.__init__") (owner:="object") (n:="__init__") (self:=.ref T) (rest:=[u1,u2,u3]) (kw:=[]) oi_kind oi_split (iT An.obj) (zn _ _ _ _) ?_;skip;skip;refine A5 (tT.here (A5 ((Na TV An.init).here ?_)));refine A5 ((Nb TV (An.made _)).here ?_);skip;exact AW (AW ⟨rfl,rfl⟩)
 refine A5 (C0 (Fg fin (λr s' hr=>?_) λ_ _ e=>e.elim));refine xA hr ?_;(try clear hr);intro C9 Ck;subst C9;clear fin iT TV tT;subst Ck;refine AW ?_;have gg:=AU.swap (K':=K) (A':=A) g.kinds g.frames g.handled dp un;exact k _ Au s' gg Al ⟨T,oT,zq,m,rfl,eT,tk,cT,dT,vr⟩
end
noncomputable def Mf(h:BK)(t:A8)(Cb:BW A4):Prop:=∃o n,h.get? t=G o/\o.data=.seq Cb n
theorem Mf.extBut{t b:A8}(x:Mf h t Cb)(k:Ds b h Q)(ne:t≠b):Mf Q t Cb:=let⟨o,n,e,d⟩:=x;⟨o,n,k _ _ ne e,d⟩
theorem zr:Rm "tuple.__iter__"=G .slot:=by decide+kernel
theorem zs:gG "tuple.__iter__"=G ("tuple","__iter__"):=by decide+kernel
theorem zt:YH "tuple.__iter__"=M:=by decide+kernel
section
theorem zu{it t:A8}{x:A4}{A2:AD A4->AR->Prop}(Bz:s.heap.IsTupleIter it t i)(ht:Mf s.heap t Cb)(hx:Cb[i]?=G x)(hQ:∀Q,Q.IsTupleIter it t (i+1)->E4 it s.heap Q->A2 (G x) {s with heap:=Q}):AH (AQ prog w) A (ES (.ref it)) A2 E s:=by
 refine CZ (id Bz) ?_;intro o ho hc hd;refine EX ht ?_;(try clear ht);intro ol nl OP bB;unfold ES;refine A5 (Rn (Ls (name:=Ev "__next__") Bz.typeIs YI (Gm YI Bz.typeIs bw5 ?_ (bw6 _))));show AH _ _ (Kn (.ref it) 0>>=_) _ _ s;refine A5 (Go ho hd (x:=.ref t) rfl ?_);show AH _ _ (if(Jp t==Hh)=M then _ else _) _ _ s;skip;show AH _ _ (Kn (.ref it) 1>>=_) _ _ s;refine A5 (Go ho hd (x:=.int i 0) rfl ?_);show AH _ _ (Nd (.ref t)>>=_) _ _ s;refine A5 (Nf OP bB ?_);simp only[gH,hx];refine A5 (Lx ho hd (by simp) (AW ⟨x,rfl,AW (hQ _ ?_ (Fh ..))⟩));exact⟨_,FS _ ho (te (gI hd _)),(th ..).trans hc,by rw[gI hd];simp[ET]⟩
theorem zv{it t:A8}{A2:AD A4->AR->Prop}(hh:A.handled=L)(Bz:s.heap.IsTupleIter it t i)(ht:Mf s.heap t Cb)(hx:Cb[i]?=L)(hQ:∀Q,Ds it s.heap Q->A2 L {s with heap:=Q}):AH (AQ prog w) A (ES (.ref it)) A2 E s:=by
 refine CZ (id Bz) ?_;intro o ho hc hd;refine EX ht ?_;(try clear ht);intro ol nl OP bB;unfold ES;refine A5 (Rn (Ls (name:=Ev "__next__") Bz.typeIs YI (Gm YI Bz.typeIs bw5 ?_ (bw6 _))));show AH _ _ (Kn (.ref it) 0>>=_) _ _ s;refine A5 (Go ho hd (x:=.ref t) rfl ?_);show AH _ _ (if(Jp t==Hh)=M then _ else _) _ _ s;skip;show AH _ _ (Kn (.ref it) 1>>=_) _ _ s;refine A5 (Go ho hd (x:=.int i 0) rfl ?_);show AH _ _ (Nd (.ref t)>>=_) _ _ s;refine A5 (Nf OP bB ?_);simp only[gH,hx];refine A5 (Gk (A5 (Lx ho hd (by simp) ?_)));show AH _ _ (gJ (.type "StopIteration") []>>=_) _ _ _;refine A5 ?_;simp only[gJ,YJ];refine A5 (IF ?_ (by size_fits));refine A5 (m:=V4 _ _) (NX (a:=Hh) (by first|rfl|(simp only[V4];rfl)) ?_);refine IF ?_ (by size_fits);skip;refine A5 (ti ?_);first|rw[show A.in1.handled=L from hh]|rw[hh]
 refine A5 (AW (gK ?_));refine A5 (Ly (T:="StopIteration") (b:=M) ⟨_,CY _ rfl,rfl⟩ gL ?_);exact AW (hQ _ (((Fh ..).extBut.push _).push _))
theorem l_{it t:A8}(Cc:t≠it):∀(n i:O)(s:AR)(A2:I A4->AR->Prop),s.heap.IsTupleIter it t i->Mf s.heap t Cb->i+n<=Cb.size->(∀Q,Q.IsTupleIter it t (i+n)->E4 it s.heap Q->A2 ((Cb.toList.drop i).take n) {s with heap:=Q})->AH (AQ prog w) A (draw (.ref it) n) A2 E s
 |0,i,s,A2,Bz,_,_,hQ=>by
  show AH _ _ (pure []) A2 E s;exact AW (by simpa using hQ s.heap Bz (g9 ..))|n+1,i,s,A2,Bz,ht,bD,hQ=>by
  have CF:i<Cb.size:=by omega
  show AH _ _ (ES (.ref it)>>=_) A2 E s;refine A5 (zu Bz ht (x:=Cb[i]) (by simp[CF]) λAP QV H_=>?_);refine A5 (C0 (l_ Cc n (i+1) _ _ QV (ht.extBut H_.extBut Cc) (by(with_reducible exact Mine.Yv (by assumption))) λBD zw QW=>AW ?_));have hd:Cb.toList.drop i=Cb[i]::Cb.toList.drop (i+1):=by simp[YK,CF]
  have :=hQ BD (by rw[show i+(n+1)=i+1+n by omega];exact zw) (H_.trans QW);rw[hd,List.take_succ_cons]at this;exact this
end
section
theorem zx(An:HZ B A3 Kf)(AV:Kf.In s.heap){t:A8}{o:Bi}(e:s.heap.get? t=G o)(hc:o.cls=.ref A3.Bp)(hQ:A2 (.ref s.heap.objs.size) {s with heap:=s.heap.push {cls:=.type "tuple_iterator",data:=.fields #[.ref t,.int 0 0]}}):AH (AQ B.prog B.w) A (PU (.ref t)) A2 E s:=by
 have tT:Gj (AQ B.prog B.w) s.heap (Hg (.ref t)) (.ref A3.Bp):=(Ki (part:=L) e).andThen (by rw[hc];exact .now);have sT:Gj (AQ B.prog B.w) s.heap (Nc (.ref t) "__iter__") (G (.builtin "tuple.__iter__")):=tT.andThen (Na AV An.iter);have bE:AH (AQ B.prog B.w) A (call (.builtin "tuple.__iter__") [.ref t]) (λv s'=>v=.ref s.heap.objs.size/\s'={s with heap:=s.heap.push {cls:=.type "tuple_iterator",data:=.fields #[.ref t,.int 0 0]}}) E s:=by
  refine HP (Lw zt F.entry_tuple_iter ?_);refine YG (i:="tuple.__iter__") (owner:="tuple") (n:="__iter__") (self:=.ref t) (rest:=[]) (kw:=[]) zr zs (tT.andThen (V1 AV An.tup)) (F.args_tuple_iter_1 _) ?_;show AH _ _ (do ret (<-newFields "tuple_iterator" [.ref t,ET 0])) _ _ s;exact A5 (IF (AW ⟨rfl,rfl⟩))
 unfold PU;refine A5 (sT.here ?_);show AH _ A (bw7 (.ref t) "__iter__" _>>=_) A2 E s;refine A5 ?_;simp only[bw7,bw8];refine C0 (A5 (A5 (sT.here ?_)));skip;have fin:∀{P:AD A4->AR->Prop}{zy:Dz A4},P (G (.ref s.heap.objs.size)) {s with heap:=s.heap.push {cls:=.type "tuple_iterator",data:=.fields #[.ref t,.int 0 0]}}->AH (AQ B.prog B.w) A (if(bw9 "tuple.__iter__"==Hh)=M then(zy>>=λv=>pure (G v))else(call (.builtin "tuple.__iter__") [.ref t]>>=λv=>pure (G v))) P E s:=λhp=>by
  rw[CS (show¬((bw9 "tuple.__iter__"==Hh)=M)from NW)];refine A5 (Fg bE (λv s' hv=>?_) λ_ _ e=>e);refine xA hv ?_;(try clear hv);intro Aw B6;subst Aw;subst B6;exact AW hp
 have zz:AH (AQ B.prog B.w) A (Nc (.ref s.heap.objs.size) "__next__") (λr s'=>∃f,r=G f/\s'={s with heap:=s.heap.push {cls:=.type "tuple_iterator",data:=.fields #[.ref t,.int 0 0]}}) E {s with heap:=s.heap.push {cls:=.type "tuple_iterator",data:=.fields #[.ref t,.int 0 0]}}:=YL ⟨_,CY _ rfl,rfl⟩ YI.lookup ⟨_,rfl,rfl⟩;have tail:=A5 (f:=λr=>match r with
 |none=>(do YM "iter.non-iterator";raiseError"TypeError"s!"iter() returned non-iterator of type '{<-PySem.typeNameOf (.ref s.heap.objs.size)}'":Dz A4)|some _=>pure (.ref s.heap.objs.size)) (Q:=A2) (Fg zz (λr s' hr=>by refine AC hr ?_;(try clear hr);intro f BJ BP;subst BJ;subst BP;exact AW hQ) λ_ _ e=>e);refine A5 (Rc (g4 ?_));split;. exact A5 (AW (AW (fin tail)))
 . exact Pb (A5 (AW (AW (fin tail))))
end
section
theorem aa0(An:HZ B A3 Kf)(AV:Kf.In s.heap)(hh:A.handled=L){t:A8}{o:Bi}(e:s.heap.get? t=G o)(hc:o.cls=.ref A3.Bp)(hd:o.data=.seq Cb m){WV:I (AK×(A4->Dz DM))}{A2:DM->AR->Prop}(hn:WV.length=Cb.size)(aa1:WV.findIdx? (·.1)=L)(h:∀Q,Ds s.heap.objs.size s.heap Q->AH (AQ B.prog B.w) A (NT (WV.map (·.2)) Cb.toList) A2 E {s with heap:=Q}):AH (AQ B.prog B.w) A (unpack (.ref t) WV) A2 E s:=by
 have CF:t≠s.heap.objs.size:=ER (Dh e);have tT:Gj (AQ B.prog B.w) s.heap (Hg (.ref t)) (.ref A3.Bp):=(Ki (part:=L) e).andThen (by rw[hc];exact .now);have sT:Gj (AQ B.prog B.w) s.heap (Nc (.ref t) "__iter__") (G (.builtin "tuple.__iter__")):=tT.andThen (Na AV An.iter);unfold unpack;rw[hn,aa1];refine A5 (C0 ?_);unfold unpackItems;refine A5 ?_;skip;refine A5 (sT.here ?_);refine AW ?_;skip;refine A5 (C0 (zx An AV e hc ?_));have hs:Mf (s.heap.push {cls:=.type "tuple_iterator",data:=.fields #[.ref t,.int 0 0]}) t Cb:=⟨o,m,C1 _ e,hd⟩;refine A5 (C0 (l_ CF Cb.size 0 _ _ ⟨_,CY _ rfl,rfl,rfl⟩ hs (by omega) λAP QV H_=>?_));have OI:List.take Cb.size (bt2 0 Cb.toList)=Cb.toList:=by rw[YN];exact gM (by simp)
 rw[OI,CS (by simp)];have aa2:Mf AP t Cb:=hs.extBut H_.extBut CF;refine A5 (C0 (zv hh QV aa2 (by simp) λBD Ij=>?_));skip;exact AW (h BD λb o hb e=>Ij b o hb (H_.extBut b o hb (C1 _ e)))
theorem aa3(AG:HZ B A3 Kf)(AV:Kf.In B.base)(A9:C5 B A3 n){c:AD A8}(h:Kz A3 K (ev A3 n) (.Tuple ts kd pos) (.tup c Y) H=.ok (.f f) A7)(g:Gd B F K A H C s)(r:VR s.heap C (.tup c Y) u):CJ B F K A A7 C s (Ex (.Tuple ts kd pos) F.env u) RU:=by cases c with
 |none=>exact yL A9 h g r|some c=>
 refine A0.Be h ?_;clear h;intro hl h;simp only[D6]at hl;refine xA hl ?_;(try clear hl);intro hl hp;have hl:=CD hl;refine Kt r ?_;(try clear r);intro a o us m Aw e tk hc hd rs;subst Aw;have GC:o.cls=.ref A3.Bp:=by
  have :c=135:=by simpa[W0]using tk.1
  rw[AG.at_,<-this];exact hc
 intro A2 E k;have Ch:ts.length=us.size:=by rw[<-hl,rs.length];simp
 have Gx:Kf.In s.heap:=λa o e=>g.base a o (AV a o e);skip;refine A5 (El (aa0 AG Gx g.handled e GC hd (by rw[WA,Ch]) (WB hp) λQ hx=>?_));have kp:∀b o,s.heap.get? b=G o->Q.get? b=G o:=λb o e=>hx b o (ER (Dh e)) e;have Ab:Nx F.D F.AZ s.heap Q C C:=Nx.ext kp;exact A9.MH h (g.ext (tk:=s.toks) kp) (rs.nx Ab) _ _ λ_ Au Ai AU Al _=>k () Au Ai AU (Ab.trans Al) trivial
theorem aa4(AG:Cx B A3 Kf)(A9:C5 B A3 n){o:AA}{a:U}(h:Kz A3 K (ev A3 n) (.Attribute o a pos) v H=.ok (.f f) A7)(g:Gd B F K A H C s)(r:VR s.heap C v vu):CJ B F K A A7 C s (Ex (.Attribute o a pos) F.env vu) RU:=by
 refine A0.Cg h ?_;clear h;intro w AB AP h;revert AP;apply EI h Ac;intro i h;refine A0.Bx h ?_;clear h;intro ob hi h;revert hi;apply jf h Ac;intro c d h hi AP;refine A0.Be h ?_;clear h;intro hc h;refine A0.Bx h ?_;clear h;intro od hd h;revert hd;apply Zk h Ac;intro N h hd;refine A0.Be h ?_;clear h;intro hf h;apply OB h;clear h;have hi:=CD (B1 hc)▸hi;have ha:=Ak hc;intro A2 E k;show AH _ A (do
 let ov<-Hf [vu] (eval o F.env)Kh pos.atName
 Hf [vu,ov] (setAttr ov a vu)release [vu,ov] []) A2 E s;refine A5 (C0 (A9.e AP g _ _ λu A_ AJ AN Ab Aq=>A5 (El (A5 (C0 (zg AG AN hi hd ha hf Aq (r.nx Ab) _ _ λ_ Au Ai AU Al _=>?_))))));exact bx0 (k () Au Ai AU (Ab.trans Al).FZ trivial)
end
theorem WW{i:AX}(h:JG i=M):-1000000000<=i/\i<=1000000000:=by
 unfold JG at h;simpa using h
set_option tactic.hygienic true in
theorem bF{l:I J}{k:AX}{x:J}(h:Q6 l k=G x):∃j,gN k l.length=G j/\l[j]?=G x:=by
 unfold Q6 at h;have lt:∀{j:O},l[j]?=G x->j<l.length:=λe=>(HL.mp e).1;split at h
 . split at h;. exact(BE h).elim
   . rw[HX]at h;refine⟨_,?_,h⟩;have :=lt h;unfold gN;rename_i h1 h2;simp only[h1,Km];rw[DA (by simp only[D6,PV];(with_reducible exact Mine.iU (by assumption) (by assumption)))]
 . rw[HX]at h;refine⟨_,?_,h⟩;have :=lt h;unfold gN;rename_i h1;simp only[h1,Kl];rw[DA (by simp only[D6,PV];(with_reducible exact Mine.iU (by assumption) (by assumption)))]
theorem aa5{i:AX}:Hi n i<=n:=bq0.mpr (bp8.mpr ⟨fP _,Int.min_le_right _ _⟩)
theorem WX(l:I J)(lo hi:AD AX):Hu l lo hi=(l.drop (lo.elim 0 (Hi l.length))).take (hi.elim l.length (Hi l.length)-lo.elim 0 (Hi l.length)):=by
 unfold Hu;rw[List.drop_take];cases lo<;>cases hi<;>simp
theorem bG{us:BW A4}(r:Aa h C Y us.toList)(lo hi:AD AX):Aa h C (Hu Y lo hi) (Hj us lo hi L).toList:=by
 have hl:Y.length=us.size:=by rw[r.length];simp
 rw[WX,bx1,hl];simp only[List.toList_toArray];have dr:∀(n:O){a:I V}{b:I A4},Aa h C a b->Aa h C (a.drop n) (b.drop n):=λn=>by induction n with
 |zero=>intro a b x;simpa using x|succ n ih=>
  intro a b x;cases a with
 |nil=>cases x;simp;exact rfl|cons v a=>refine Bv x ?_;(try clear x);intro u us Aw _ y;subst Aw;simpa using ih y
 have tk:∀(n:O){a:I V}{b:I A4},Aa h C a b->Aa h C (a.take n) (b.take n):=λn=>by induction n with
 |zero=>intro a b x;exact rfl|succ n ih=>
  intro a b x;cases a with
 |nil=>cases x;simp;exact rfl|cons v a=>refine Bv x ?_;(try clear x);intro u us B6 z y;subst B6;exact⟨u,_,rfl,z,ih y⟩
 exact tk _ (dr _ r)
theorem aa6(x:Tx)(lo hi:AD (AX×EP)):(gO ⟨⟨x⟩⟩ lo hi L).filterMap ((⟨⟨x⟩⟩:U).cps[·]?)=Hu x (lo.map (·.1)) (hi.map (·.1)):=by
 unfold gO;have e:Ro (lo.map (·.1)) (hi.map (·.1)) 1 x.length=sliceRange (((lo.map (·.1)).elim 0 (Hi x.length):O):AX) (((hi.map (·.1)).elim x.length (Hi x.length):O):AX) 1:=by
  unfold Ro;cases lo<;>cases hi<;>simp[clipAt_cast]
 show(Ro (lo.map (·.1)) (hi.map (·.1)) 1 x.length).filterMap _=_;rw[e,bx2,bx3,WX]
set_option tactic.hygienic true in
theorem OQ{i:AA}{o w:A4}(h:∀a b p,i≠.Slice a b L p):subscripted i A6 o w=operate [o,w] (Pa o w):=by
 cases i<;>try rfl
 rename_i a b st p;cases st with
 |none=>exact absurd rfl (h _ _ _)|some _=>rfl
section
theorem aa7(x:Tx):(⟨⟨x⟩⟩:U).length=x.length:=rfl
set_option tactic.hygienic true in
theorem aa8{o r:V}{w:A4}(g:Gd B F K A H C s)(ro:VR s.heap C o u)(rk:VR s.heap C k w)(h:aA o k H=.ok (.v r) A7)(hu:∀i N,o=.ref i->AL H.h i≠G (.B3 N))(value i:AA)(hs:∀a b p,i≠.Slice a b L p):Ae B F K A A7 C s (tj value i u w) (RV r):=by
 revert ro;apply O' h
 . intro x h ro;revert rk;apply Cu h Ac;intro j h rk;refine A0.Be h λhc h=>?_;refine xA (MW h) ?_;intro AP BJ;clear h hu;subst BJ;cases hx:Q6 x j with
 |none=>rw[hx]at AP;exact(AF AP).elim|some y=>
     rw[hx]at AP;apply Br AP;intro A2 E kk;refine AC (bF hx) ?_;intro m e1 e2;refine xE ro ?_;(try clear ro);intro t BP;subst BP;refine xE rk ?_;(try clear rk);intro t' Bq;subst Bq;have hm:=WW (B1 hc);refine Ko (Pc s _ t) bx4.lookup (P.getItem_str (i:=j) (c:=y) (by simp only[bx5,gP];omega) ?_ ?_) (OQ hs);. rw[aa7,e1];simpa using e2
     . exact kk _ C _ (g.tok _) (Nx.refl ..) ⟨_,rfl⟩
 intro h;apply jZ h
 . intro c Y h ro;revert ro;apply GP h Ac;intro h ro;revert rk;apply Cu h Ac;intro j h rk;refine A0.Be h λhc h=>?_;refine xA (MW h) ?_;intro AP Bg;clear h hu;subst Bg;intro A2 E kk;refine AC (bF AP) ?_;intro m e1 e2;refine Kt ro ?_;(try clear ro);intro a o us n Bu e tg EK hd vr;subst Bu;refine xE rk ?_;(try clear rk);intro t' C9;subst C9;refine xA (tg.2 rfl) ?_;intro Mg Mh;have ho:o={cls:=.type "tuple",data:=.seq us n}:=by obtain⟨c1,c2,c3,c4⟩:=o;simp only at EK hd Mg Mh;rw[EK,hd,Mg,Mh];rfl
   have hm:=WW (B1 hc);refine AC (vr.get e2) ?_;intro y ey ry;have Ch:Y.length=us.size:=by rw[vr.length];simp
   rw[Ch]at e1;refine Ko ⟨o,e,EK⟩ PySem.F.slot_tuple_getitem.lookup (P.getItem_tuple (n:=n) (by rw[ho]at e;exact e) (by omega) (by omega) e1 (by simpa using ey) ?_) (OQ hs);exact kk _ C _ g (Nx.refl ..) ry
 intro h;revert hu;apply EI h Ac;intro i' h hu ro;refine A0.Bx h λob hl h=>?_;revert hl;apply Jz h
 . intro Y h hl;refine AC ro ?_;(try clear ro);intro a ha Ck;subst Ck;refine AC (g.obj hl ha) ?_;intro us hp vr;have Ch:Y.length=us.size:=by rw[vr.length];simp
   revert rk;apply Py h
   . intro j h rk;refine A0.Be h λhc h=>?_;refine xA (MW h) ?_;intro AP D8;clear h hl hu;subst D8;intro A2 E kk;refine xE rk ?_;(try clear rk);intro t' DX;subst DX;have hm:=WW (B1 hc);refine AC (bF AP) ?_;intro m e1 e2;refine AC (vr.get e2) ?_;intro y ey ry;have QX:us[m]?=G y:=by simpa using ey
     have CF:m<us.size:=(gQ.mp QX).1;have main:AH (AQ B.prog B.w) A (Pa (.ref a) (.int j t')) A2 E s:=by
      unfold gN at e1;by_cases hj:j<0
      . simp only[hj,Km]at e1;split at e1
        . rename_i hb;simp only[D6,PV]at hb;injection e1 with e1;refine wpAny_getItem_list_neg hp.isList hj (by omega) (by omega) ?_ (kk _ C _ g (Nx.refl ..) ry);rw[<-Ch,e1];exact QX
        . exact(BE e1).elim
      . simp only[hj,Kl]at e1;split at e1
        . injection e1 with e1;refine tl hp.isList (by omega) (by omega) ?_ (kk _ C _ g (Nx.refl ..) ry);rw[e1];exact QX
        . exact(BE e1).elim
     exact Ko hp.isList.typeIs Pd.lookup main (OQ hs)
   . intro h;apply wo h Ac;intro m h rk;refine A0.Be h λhc h=>?_;apply B5 h;intro A2 E kk;have h1:=B1 hc;have h2:=B1 (Ak hc);have h3:=Ak (Ak hc);refine Bv rk ?_;(try clear rk);intro AG t' Ed x1 x2;subst Ed;have h1:=CD h1;have h2:=Dk h2;have CF:AG.toNat<Y.length:=by(with_reducible exact Mine.vg (by assumption) (by assumption) (by assumption))
     have e2:Y[AG.toNat]?=G Y[AG.toNat]:=Hk CF;refine AC (vr.get e2) ?_;intro y ey ry;have QX:us[AG.toNat]?=G y:=by simpa using ey
     refine Ko hp.isList.typeIs Pd.lookup (tl hp.isList x1 (by omega) QX (kk _ C _ g (Nx.refl ..) ?_)) (OQ hs);have hm:=(Bn.mp h3) _ (gR CF);revert ry hm;cases Y[AG.toNat]<;>intro ry hm<;>first|(exact(E5 hm).elim;done)|skip
     refine xE ry ?_;(try clear ry);intro t FE;clear ey QX;subst FE;refine AC (II.mp hm) ?_;intro z hz hq;rw[Ec]at hq;exact⟨_,t,rfl,hq▸hz⟩
 intro h;apply Sa h
 . intro N h hl;refine A0.Be h λhc h=>?_;refine xA (MW h) ?_;intro AP GB;clear h hu;subst GB;intro A2 E kk;exact Ko (WS g hl ro) bx6.lookup (lJ g hl ro rk hc AP _ _ kk) (OQ hs)
 intro h;apply Sb h Ac;intro N h hl;exact absurd hl (hu _ _ rfl)
end
theorem DR.mem{key:T->V}{l:I (T×A4)}(d:DR key h C N l):∀p∈N,∃k,p.1=key k/\k∈l.map (·.1):=DR.ind (P:=λN l=>∀p∈N,∃k,p.1=key k/\k∈l.map (·.1)) (λ_ m=>nomatch m) (λk _ _ _ _ _ _ ih p hp=>(Cj.mp hp).elim (λz=>⟨k,congrArg tm z,Co⟩) λz=>AC (ih p z) λk' e' m=>⟨k',e',Cp _ m⟩) d
theorem lc{p:V×V}{l:I (V×V)}{x:V}:D' (p::l) x=match G7 p.1 x with|some M=>G p.2|_=>D' l x:=rfl
theorem bH[DecidableEq T]{key:T->V}(hk:∀a b,G7 (key a) (key b)=G (decide (a=b))){k:T}:(∀p∈N,∃k,p.1=key k)->(D' N (key k)=L↔∀p∈N,p.1≠key k):=by induction N with
 |nil=>exactλ_=>⟨λ_ _ m=>(nomatch m),λ_=>rfl⟩|cons e N ih=>
 intro h;have ih:=ih λp m=>h p (Cp _ m);refine xE (h e Co) ?_;intro k' e1;rw[lc,e1,hk];by_cases q:k'=k
 . rw[Ri q];exact⟨λz=>(nomatch z),λz=>(z e Co (by rw[e1,q])).elim⟩
 . rw[Rj q];have Cc:key k'≠key k:=λz=>by have :=hk k' k;rw[z,hk,Ri rfl,Rj q]at this;(exfalso;cases this)
   exact ih.trans ⟨λa p m=>(Cj.mp m).elim (λz=>by rw[z,e1];exact Cc) (a p),λa p m=>a p (Cp _ m)⟩
theorem lf[DecidableEq T]{key:T->V}(hk:∀a b,G7 (key a) (key b)=G (decide (a=b))){k:T}:(∀p∈N,∃k,p.1=key k)->D' N (key k)=G v->(key k,v)∈N:=by induction N with
 |nil=>exactλ_ e=>(AF e).elim|cons e N ih=>
 intro h q;refine xE (h e Co) ?_;intro k' e1;rw[lc,e1,hk]at q;by_cases z:k'=k
 . rw[Ri z]at q;have q:G e.2=G v:=q;rw[<-z,<-e1,<-Bm q];exact Co
 . rw[Rj z]at q;exact Cp _ (ih (λp m=>h p (Cp _ m)) q)
theorem DR.uniq[DecidableEq T]{key:T->V}(hk:∀a b,G7 (key a) (key b)=G (decide (a=b))){k:T}{l:I (T×A4)}(d:DR key h C N l):(l.map (·.1)).Nodup->(key k,v)∈N->(key k,v')∈N->v=v':=DR.ind (P:=λN l=>(l.map (·.1)).Nodup->(key k,v)∈N->(key k,v')∈N->v=v') (λ_ m=>nomatch m) (λk' _ u N r _ y ih hn m m'=>by
 refine xA (EU.mp hn) ?_;intro h1 h2;have inj:∀{a b:T},key a=key b->a=b:=λ{a b}z=>by have :=hk a b;rw[z,hk]at this;simpa using this
 rcases Cj.mp m with z|z<;>rcases Cj.mp m' with z'|z';. rw[<-z']at z;injection z
 . exfalso;refine AC (DR.mem y _ z') ?_;intro k2 e2 m2;have a1:k2=k:=inj e2.symm;have a2:k'=k:=inj (bx7.mp z).1.symm;exact h1 (by rw[a2,<-a1];exact m2)
 . exfalso;refine AC (DR.mem y _ z) ?_;intro k2 e2 m2;have a1:k2=k:=inj e2.symm;have a2:k'=k:=inj (bx7.mp z').1.symm;exact h1 (by rw[a2,<-a1];exact m2)
 . exact ih h2 z z') d
theorem lg[DecidableEq T]{key:T->V}(hk:∀a b,G7 (key a) (key b)=G (decide (a=b))){l:I (T×A4)}(r:DR key h C BN l)(hn:(l.map (·.1)).Nodup)(p:BN.Perm N)(k:T):D' N (key k)=D' BN (key k):=by
 have a':∀p∈BN,∃k,p.1=key k:=λq m=>let⟨k,e,_⟩:=r.mem q m;⟨k,e⟩;have a:∀p∈N,∃k,p.1=key k:=λq m=>a' q (p.mem_iff.mpr m);cases q:D' N (key k)with
 |none=>
  have :=(bH hk a).mp q;exact((bH hk a').mpr λx m=>this x (p.mem_iff.mp m)).symm|some v=>
  have m:=lf hk a q;have m':=p.mem_iff.mpr m;cases q':D' BN (key k)with
 |none=>exact absurd rfl ((bH hk a').mp q' _ m')|some v'=>rw[DR.uniq hk r hn m' (lf hk a' q')]
theorem lh(r:Dn prog w h C a BN)(p:BN.Perm N)(hk:De N k=M):De BN k=M:=by cases N with
 |nil=>rw[List.perm_nil.mp p];exact hk|cons e N=>
 have hm:e∈BN:=p.mem_iff.mpr Co;obtain⟨e0,e2⟩:=e;cases BN with
 |nil=>simp at hm|cons d ds=>
 obtain⟨bV3,d2⟩:=d;rcases r with BP|Bq;refine AC BP ?_;(try clear BP);intro Az _ hd;rotate_left;refine AC Bq ?_;(try clear Bq);intro Az _ hd;rotate_left
 . refine AC (hd.mem _ hm) ?_;intro k1 q1 _;refine AC (hd.mem _ Co) ?_;intro k2 q2 _;simp only at q1 q2;subst q1;subst q2;cases k<;>first|exact hk|cases hk
 . refine AC (hd.mem _ hm) ?_;intro k1 q1 _;refine AC (hd.mem _ Co) ?_;intro k2 q2 _;simp only at q1 q2;subst q1;subst q2;cases k<;>first|exact hk|cases hk
section
set_option tactic.hygienic true in
theorem Gd.open(g:Gd B F K A H C s)(h:AL H.h i=G (.B3 N)):∃BN,W4 BN N/\Gd B F K A (H.set i (.dict BN)) C s/\AL (H.set i (.dict BN)).h i=G (.dict BN)/\(∀k,De N k=M->De BN k=M)/\(∀k,De N k=M->D' N k=D' BN k):=by
 refine vQ (g.objs i _ h) ?_;intro a ha BN p r;refine⟨BN,p,?_,MO h,λk hk=>lh r p.1 hk,λk hk=>?_⟩
 . have x:Nx F.D F.AZ s.heap s.heap C C:=Nx.refl ..;refine⟨g.kinds,g.len,g.nodup,g.fresh,g.live,g.D5,g.D1,λj o e=>?_,g.env,g.base,g.os,g.gens,g.frames,g.DT,g.Cy,g.mods,g.handled,g.depth,g.units⟩;rcases aK e with Bg|Bu;refine xA Bg ?_;(try clear Bg);intro D8 DX;subst D8;subst DX;rotate_left;refine xA Bu ?_;(try clear Bu);intro _ e;rotate_left;. exact⟨a,ha,r⟩
   . exact g.objs j o e
 . have KH:=lh r p.1 hk;replace p:=p.1;cases BN with
 |nil=>rw[List.nil_perm.mp p]|cons d ds=>
   obtain⟨bV3,d2⟩:=d;rcases r with C9|Ck;refine AC C9 ?_;(try clear C9);intro Az hm hd;rotate_left;refine AC Ck ?_;(try clear Ck);intro Az hm hd;rotate_left
   . refine AC (hd.mem _ Co) ?_;intro k2 q2 _;simp only at q2;subst q2;cases k<;>first|(first|exact(E5 KH).elim|cases KH)|skip
     rename_i x;exact lg WP hd (Uy hm) p ⟨⟨x⟩⟩
   . refine AC (hd.mem _ Co) ?_;intro k2 q2 _;simp only at q2;subst q2;cases k<;>first|(first|exact(E5 KH).elim|cases KH)|skip
     rename_i x;exact lg ax hd (Uy hm) p x
theorem Gd.close(h:AL H.h i=G (.B3 N))(p:W4 BN N)(g:Gd B F K A (H.set i (.dict BN)) C s):Gd B F K A H C s:=by
 refine⟨g.kinds,g.len,g.nodup,g.fresh,g.live,g.D5,g.D1,λj o e=>?_,g.env,g.base,g.os,g.gens,g.frames,g.DT,g.Cy,g.mods,g.handled,g.depth,g.units⟩;by_cases q:j=i
 . subst q;rw[h]at e;injection e with e;subst e;refine AC (g.objs j _ (MO h)) ?_;intro a ha r;exact⟨a,ha,BN,p,r⟩
 . exact g.objs j o (by show AL (putN H.h i _) j=_;rw[MP q];exact e)
theorem aa9(g:Gd B F K A H C s)(hd:AL H.h i=G (.B3 N))(ru:VR s.heap C (.ref i) u)(rk:VR s.heap C k ku)(hk:De N k=M)(hv:D' N k=G v):s.TypeIs u "dict"/\Ae B F K A H C s (Pa u ku) (RV v):=by
 refine S6 (g.open hd) ?_;intro BN p g' Q k' l';have Bh:=(l' k hk)▸hv;refine⟨?_,λA2 E kk=>lJ g' Q ru rk (k' k hk) Bh A2 E λw AT s' AU Al BB=>kk w AT s' (Gd.close hd p AU) Al BB⟩;exact WS g' Q ru
theorem ab0(g:Gd B F K A H C s)(hd:AL H.h i=G (.B3 N))(ru:VR s.heap C (.ref i) u)(rk:VR s.heap C k ku)(hk:De N k=M):Ae B F K A H C s (Db .In ku u) (Do (.bool (D' N k).isSome)):=by
 refine S6 (g.open hd) ?_;intro BN p g' Q k' l';rw[l' k hk];exactλA2 E kk=>lL g' Q ru rk (k' k hk) A2 E λw AT s' AU Al BB=>kk w AT s' (Gd.close hd p AU) Al BB
theorem ab1(g:Gd B F K A H C s)(hd:AL H.h i=G (.B3 N))(ru:VR s.heap C (.ref i) u)(rk:VR s.heap C k ku)(hk:De N k=M):Ae B F K A H C s (Db .NotIn ku u) (Do (.bool (!(D' N k).isSome))):=by
 refine S6 (g.open hd) ?_;intro BN p g' Q k' l';rw[l' k hk];exactλA2 E kk=>lM g' Q ru rk (k' k hk) A2 E λw AT s' AU Al BB=>kk w AT s' (Gd.close hd p AU) Al BB
theorem ab2(A9:C5 B A3 n){o i:AA}{ov:V}(hs:∀a b p,i≠.Slice a b L p)(AP:ev A3 n K (.e o) H=.ok (.v ov) AB)(h:((ev A3 n K (.e i) AB).V λk H=>aA ov k H)=.ok (.v v) A7)(g:Gd B F K A H C s):Ae B F K A A7 C s (eval (.Subscript o i pos) F.env) (RV v):=by
 refine A0.Cg h ?_;clear h;intro kv Bc BD h;intro A2 E kk;refine YO (A9.e AP g _ _ λu A_ AJ AN Ab Aq=>A9.e BD AN _ _ λw Au Ai AU Al BB=>?_);have ro:=Aq.nx Al;have xx:=Ab.trans Al;by_cases hu:∃j N,ov=.ref j/\AL Bc.h j=G (.B3 N)
 . refine EX hu ?_;(try clear hu);intro j N B6 hj;subst B6;refine A0.Bx (show jy j kv Bc=_ from h) ?_;intro o' e' h;rw[hj]at e';injection e' with e';subst e';refine A0.Be h ?_;clear h;intro hc h;refine A0.Bx h ?_;clear h;intro c C3 h;refine xA (FG h) ?_;intro q BJ;subst BJ;injection q with q;subst q;refine xA (aa9 AU hj ro BB hc C3) ?_;intro hT d;exact Ko hT bx6.lookup (d _ _ λy BS Ax Ap B8 BQ=>kk y BS Ax Ap (xx.trans B8) BQ) (OQ hs)
 . exact aa8 AU ro BB h (λj N e z=>hu ⟨j,N,e,z⟩) o i hs _ _ λy BS Ax Ap B8 BQ=>kk y BS Ax Ap (xx.trans B8) BQ
end
section
theorem part_of{a:AD AX}(r:VR h C v u)(e:Sq v=G a):∃p:AD (AX×EP),u=V5 p/\a=p.map (·.1):=by
 revert r;apply Zi e
 . intro e r;cases r;apply Br e;exact⟨L,rfl,rfl⟩
 intro e;apply Cu e AF;intro i e r;refine Ce e AF λ_ e=>?_;refine xE r ?_;(try clear r);intro t Aw;subst Aw;apply Br e;exact⟨G (i,t),rfl,rfl⟩
theorem WY(p:AD (AX×EP)):IsPart (V5 p) (p.map (·.1)):=by cases p with
 |none=>exact .none|some p=>exact .int _ _
set_option tactic.hygienic true in
theorem ab3{o lo hi r:V}{p q:AD (AX×EP)}{sl:A8}(g:Gd B F K A H C s)(ro:VR s.heap C o u)(hl:Sq lo=G (p.map (·.1)))(hh:Sq hi=G (q.map (·.1)))(h:aB o lo hi H=.ok (.v r) A7)(value l:AA)(hs:s.heap.IsSlice sl p q L)(li:∀{o i:A4},subscripted l A6 o i=operate [i,o] (Pa o i)):Ae B F K A A7 C s (tj value l u (.ref sl)) (RV r):=by
 intro A2 E kk;refine A0.Bx h ?_;clear h;intro a ha h;refine A0.Bx h ?_;clear h;intro b hb h;rw[hl]at ha;injection ha with ha;subst ha;rw[hh]at hb;injection hb with hb;subst hb;have lst:A0.lst H.h o (λ_ Y=>A0.iff (CH Y) (FX (H.new (.list (Hu Y (p.map (·.1)) (q.map (·.1)))))))=.ok (.v r) A7->AH (AQ B.prog B.w) A (tj value l u (.ref sl)) A2 E s:=λh=>by
  revert ro;apply A0.MU h;clear h;intro i Y hx h ro;refine A0.Be h ?_;clear h;intro hf h;refine xA (FG h) ?_;intro z B6;subst B6;injection z with z;subst z;refine AC ro ?_;(try clear ro);intro x JO BJ;subst BJ;refine AC (g.obj hx JO) ?_;intro us hp vr;have Ch:us.size<=100000:=by have :=Ef hf;have e:=vr.length;simp at e;(with_reducible exact Mine.yS (by assumption) (by assumption))
  refine Ko hp.isList.typeIs Pd.lookup (to hp.isList hs (WY p) (WY q) gT (by simp) ?_ (B4 Ch (by decide))) li;have kp:∀b o,s.heap.get? b=G o->(s.heap.push {cls:=.type "list",data:=.seq (Hj us (p.map (·.1)) (q.map (·.1)) L)}).get? b=G o:=λb o e=>C1 _ e;have hg:=CY s.heap (o:={cls:=.type "list",data:=.seq (Hj us (p.map (·.1)) (q.map (·.1)) L)}) rfl;refine kk _ (C++[s.heap.objs.size]) _ (g.new (tk:=s.toks) kp (GD _) ⟨_,hg⟩ (o:=.list (Hu Y (p.map (·.1)) (q.map (·.1)))) ⟨_,⟨_,hg⟩,?_⟩) (Nx.add [_] kp λb hb=>by rw[CI.mp hb];exact GD _) ⟨_,?_,rfl⟩;. exact(bG vr _ _).mono λb o e _=>kp b o e
  . rw[<-g.len];simp
 cases o with
 |str x=>
  refine A0.Be h ?_;clear h;intro hf h;refine xA (FG h) ?_;intro z BP;subst BP;injection z with z;subst z;refine xE ro ?_;(try clear ro);intro t Bq;subst Bq;refine Ko (Pc s _ t) bx4.lookup (wpAny_getItem_str_slice hs rfl ?_) li;unfold sliceMade;have e:=aa6 x p q;split
  . rename_i hw;simp only[D6,Rg]at hw;have hx:Hu x (p.map (·.1)) (q.map (·.1))=x:=by
     have Eh:(gO ⟨⟨x⟩⟩ p q L).length=x.length:=hw.2;rw[<-e];have h2:=e;skip;have e3:Ro (p.map (·.1)) (q.map (·.1)) 1 x.length=sliceRange (((p.map (·.1)).elim 0 (Hi x.length):O):AX) (((q.map (·.1)).elim x.length (Hi x.length):O):AX) 1:=by
       unfold Ro;cases p<;>cases q<;>simp[clipAt_cast]
     change(Ro (p.map (·.1)) (q.map (·.1)) 1 x.length).length=x.length at Eh;show(Ro (p.map (·.1)) (q.map (·.1)) 1 x.length).filterMap _=_;rw[e3,bx2]at Eh ⊢;rw[bx3];simp only[Jn,bx8]at Eh;replace Eh:_=Rp x:=Eh;have hb:(q.map (·.1)).elim x.length (Hi x.length)<=x.length:=by cases q<;>first|exact DF _|exact aa5
     have ha:(p.map (·.1)).elim 0 (Hi x.length)=0\/x.length=0:=by
       have e1:=Eh;have e2:=hb;revert e1 e2;generalize(gU (λx=>x.1) p).elim 0 (Hi x.length)=P;generalize(gU (λx=>x.1) q).elim x.length (Hi x.length)=AS;intro e1 e2;have e3:AS-P=x.length:=e1;exact P.eq_zero_or_pos.imp_right λz=>x.length.eq_zero_or_pos.resolve_right λy=>J0 _ (J' (e3▸Nat.sub_lt (J' y (e3▸gV AS P)) z) e2)
     rcases ha with ha|ha;. rw[ha]at Eh ⊢;rw[Eh];simp
     . have :x=[]:=List.length_eq_zero_iff.mp ha;subst this;simp
    show A2 (.str ⟨⟨x⟩⟩ t) s;exact kk _ C _ g (Nx.refl ..) ⟨t,by rw[hx]⟩
  . show(tN ⟨((gO ⟨⟨x⟩⟩ p q L).filterMap ((⟨⟨x⟩⟩:U).cps[·]?)).toArray⟩).post A2 s;rw[e];have bD:(Hu x (p.map (·.1)) (q.map (·.1))).length<=x.length:=by rw[WX,Pe];exact B4 (sn _ _) (by rw[V6];exact gV _ _)
    have :=Ef hf;exact⟨B4 (show(Hu x (p.map (·.1)) (q.map (·.1))).length<=100000 by(with_reducible exact B4 (by assumption) (by assumption))) (by decide),kk _ C _ (g.tok _) (Nx.refl ..) ⟨_,rfl⟩⟩|_=>exact lst h
theorem ab4(A9:C5 B A3 n){o:AA}{lo hi:AD AA}{sp:B9}{ov:V}(AP:ev A3 n K (.e o) H=.ok (.v ov) AB)(h:((oS lo (A0.ok (.v .none) AB) λx=>ev A3 n K (.e x) AB).V λa H=>(oS hi (A0.ok (.v .none) H) λx=>ev A3 n K (.e x) H).V λb H=>aB ov a b H)=.ok (.v v) A7)(g:Gd B F K A H C s):Ae B F K A A7 C s (eval (.Subscript o (.Slice lo hi L sp) pos) F.env) (RV v):=by
 refine A0.Cg h ?_;clear h;intro bV4 Bc BD h;refine A0.Cg h ?_;clear h;intro bV5 GX C3 h;have Hy:∀{x:AD AA}{H A7:Mine.St}{v:V}{C:I A8}{s:AR},(oS x (A0.ok (.v .none) H) λx=>ev A3 n K (.e x) H)=.ok (.v v) A7->Gd B F K A H C s->Ae B F K A A7 C s (evalPart x F.env) (RV v):=λ{x H A7 v C s}h g=>by cases x with
 |none=>
   refine xA (FG h) ?_;intro q Bg;subst Bg;injection q with q;subst q;exact CJ.pure g rfl|some x=>exact A9.e h g
 intro A2 E kk;refine YO (A9.e AP g _ _ λu A_ AJ AN Ab Aq=>tp (Hy BD AN _ _ λa Au Ai AU Al BB=>Hy C3 AU _ _ λb BS Ax Ap B8 BQ=>?_));skip;refine AW ?_;have h0:=h;refine A0.Bx h0 ?_;clear h0;intro a' Fq h0;refine A0.Bx h0 ?_;intro b' GY _;refine AC (part_of (BB.nx B8) Fq) ?_;intro p Bu C9;subst Bu;subst C9;refine AC (part_of BQ GY) ?_;intro q Ck D8;subst Ck;subst D8;have kp:∀b o,Ax.heap.get? b=G o->(Ax.heap.push {cls:=.type "slice",data:=.fields #[V5 p,V5 q,.none]}).get? b=G o:=λb o e=>C1 _ e;have Cz:Nx F.D ([]:I A8) Ax.heap (Ax.heap.push {cls:=.type "slice",data:=.fields #[V5 p,V5 q,.none]}) BS BS:=Nx.ext kp;have xx:=Ab.trans (Al.trans (B8.trans Cz));refine ab3 (Ap.ext (tk:=Ax.toks) kp) ((Aq.nx (Al.trans B8)).nx Cz) Fq GY h o _ ⟨_,CY _ rfl,rfl,rfl⟩ rfl _ _ λy QT Eg Cn EL Ii=>kk y QT Eg Cn (xx.trans EL) Ii
end
section
open PySem.SeqAt
theorem ab5{x:Tx}(h:Lz ⟨⟨x⟩⟩ t=Lz ⟨⟨y⟩⟩ t'):x=y:=by injection h with h _;injection h with h;injection h
noncomputable def lj(h:BK)(C:I A8)(f:V->V->AD AK):Prop:=∀{v v':V}{u:A4}{b:AK},VR h C v u->VR h C v' u->f v v'=G b->b=M
theorem ab6{x y:AX}(h:V7 x t=V7 y t'):x=y:=by injection h
theorem lk(h:Q5 v v'=G b){P:V->V->AK->Prop}(i:∀x y,P (.int x) (.int y) (decide (x=y)))(s:∀x y,P (.str x) (.str y) (CU x y)):P v v' b:=by
 apply Py h;. intro x h;apply Cu h AF;intro y h;exact Br h (i x y)
 . intro h;apply Dd h AF;intro x h;apply Dd h AF;intro y h;exact Br h (s x y)
theorem ab7(h:G7 v v'=G b){P:V->V->AK->Prop}(i:∀x y,P (.int x) (.int y) (decide (x=y)))(s:∀x y,P (.str x) (.str y) (CU x y))(t:∀x y b,K0 Q5 x y=G b->P (.tup L x) (.tup L y) b):P v v' b:=by
 apply Py h;. intro x h;apply Cu h AF;intro y h;exact Br h (i x y)
 intro h;apply O' h;. intro x h;apply Dd h AF;intro y h;exact Br h (s x y)
 intro h;apply IQ h AF;intro c x h;apply GP h AF;intro h;apply IQ h AF;intro c' y h;apply GP h AF;intro h;exact t x y b h
theorem ll{f:V->V->AD AK}{P:I V->I V->AK->Prop}(n:P [] [] M)(c:∀x y Y ys p q,f x y=G p->P Y ys q->P (x::Y) (y::ys) (p&&q))(l:∀y ys,P [] (y::ys) A6)(r:∀x Y,P (x::Y) [] A6):∀{ys:I V}{b:AK},K0 f Y ys=G b->P Y ys b:=by induction Y with
 |nil=>intro ys b h;cases ys with
  |nil=>exact Br h n|cons y ys=>exact Br h (l y ys)
 |cons x Y ih=>intro ys b h;cases ys with
 |nil=>exact Br h (r x Y)|cons y ys=>exact BI (x:=f x y) h λp h1 h=>BI h λq h2 h=>Br h (c x y Y ys p q h1 (ih h2))
theorem ab8{f:V->V->AD AK}(hf:lj h C f){v v':I V}{u:I A4}(r:Aa h C v u)(r':Aa h C v' u)(q:K0 f v v'=G b):b=M:=by
 refine ll (P:=λv v' b=>∀u,Aa h C v u->Aa h C v' u->b=M) (λ_ _ _=>rfl) (λx y Y ys p q h1 ih u r r'=>?_) (λy ys u r r'=>Bv r' λ_ _ e _ _=>by rw[show u=[]from r]at e;(exfalso;cases e)) (λy ys u r' r=>Bv r' λ_ _ e _ _=>by rw[show u=[]from r]at e;(exfalso;cases e)) q u r r';refine Bv r ?_;clear r;intro w us e a rs;subst e;refine Bv r' ?_;clear r';intro w' Dy e a' Ft;injection e with e1 e2;subst e1;subst e2;rw[hf a a' h1,ih _ rs Ft];rfl
theorem ab9:lj h C Q5:=λ{v v' u b}r r' q=>lk q (P:=λv v' b=>VR h C v u->VR h C v' u->b=M) (λ_ _ r r'=>xE r λ_ e=>xE r' λ_ e'=>Ri (ab6 (e.symm.trans e'))) (λ_ _ r r'=>xE r λ_ e=>xE r' λ_ e'=>Ec.mpr (ab5 (e.symm.trans e'))) r r'
theorem lm{f:V->V->AD AK}(q:K0 f Y ys=G b):∃e:O->AK,(∀(j:O)(x y:V),Y[j]?=G x->ys[j]?=G y->f x y=G (e j))/\b=((DN (min Y.length ys.length)).all e&&Y.length==ys.length):=by
 refine ll (P:=λY ys b=>∃e:O->AK,(∀(j:O)(x y:V),Y[j]?=G x->ys[j]?=G y->f x y=G (e j))/\b=((DN (min Y.length ys.length)).all e&&Y.length==ys.length)) ⟨λ_=>M,λ_ _ _ h=>(AF h).elim,rfl⟩ (λx y Y ys p q h1 ih=>?_) (λy ys=>⟨λ_=>M,λ_ _ _ h=>(AF h).elim,by simp⟩) (λx Y=>⟨λ_=>M,λ_ _ _ _ h=>(AF h).elim,by simp⟩) q;refine AC ih ?_;clear ih;intro e he hb;refine⟨λj=>match j with|0=>p|j+1=>e j,λj a c ha hc=>?_,?_⟩;. cases j with
 |zero=>exact Br ha (P:=λa=>f a c=G p) (Br hc (P:=λc=>f x c=G p) h1)|succ j=>exact he j a c ha hc
 . rw[hb];simp only[V',Nat.succ_min_succ,List.range_succ_eq_map,tF,List.all_map];have :((Y.length+1==ys.length+1):AK)=(Y.length==ys.length):=by simp
   rw[this,Bool.and_assoc];rfl
theorem bI(r:VR s.heap C v u)(r':VR s.heap C v' u')(q:Q5 v v'=G b):Rq A s u u' b:=by
 refine lk q (P:=λv v' b=>VR s.heap C v u->VR s.heap C v' u'->Rq A s u u' b) (λa c r r'=>?_) (λa c r r'=>?_) r r'
 . refine xE r ?_;clear r;intro t q;subst q;refine xE r' ?_;clear r';intro t' q;subst q;exact(tq a c t t').at A s
 . refine xE r ?_;clear r;intro t q;subst q;refine xE r' ?_;clear r';intro t' q;subst q;have e:(a==c)=CU a c:=TO;rw[<-e];exact(bx9 ⟨⟨a⟩⟩ ⟨⟨c⟩⟩ t t').at A s
theorem lp{f:V->V->AD AK}(hf:∀{v v':V}{u u':A4}{b:AK},VR s.heap C v u->VR s.heap C v' u'->f v v'=G b->Rq A s u u' b){us Dy:BW A4}(rs:Aa s.heap C Y us.toList)(Ft:Aa s.heap C ys Dy.toList){e:O->AK}(he:∀(j:O)(x y:V),Y[j]?=G x->ys[j]?=G y->f x y=G (e j)):∀j(h1:j<us.size)(h2:j<Dy.size),Rq A s us[j] Dy[j] (e j):=λj h1 h2=>by
 have l1:Y.length=us.size:=by rw[rs.length];simp
 have l2:ys.length=Dy.size:=by rw[Ft.length];simp
 have hx:Y[j]?=G Y[j]:=Hk (by(with_reducible exact Mine.yQ (by assumption) (by assumption)));have hy:ys[j]?=G ys[j]:=Hk (by(with_reducible exact Mine.yQ (by assumption) (by assumption)));refine AC (rs.get hx) ?_;intro w ew LD;refine AC (Ft.get hy) ?_;intro w' ew' ac0;have e1:us[j]=w:=by
  have :us[j]?=G w:=by simpa using ew
  rw[Rr h1]at this;injection this
 have e2:Dy[j]=w':=by
  have :Dy[j]?=G w':=by simpa using ew'
  rw[Rr h2]at this;injection this
 rw[e1,e2];exact hf LD ac0 (he j _ _ hx hy)
theorem ac1(hu:A.units+2<IJ)(r:VR s.heap C v u)(r':VR s.heap C v' u')(q:G7 v v'=G b):Rq A s u u' b:=by
 refine ab7 q (P:=λv v' b=>VR s.heap C v u->VR s.heap C v' u'->Rq A s u u' b) (λa c r r'=>bI r r' rfl) (λa c r r'=>bI r r' rfl) (λY ys b q r r'=>?_) r r';refine Bv (QL r) ?_;clear r;intro l us C9 ht rs;subst C9;refine Bv (QL r') ?_;clear r';intro l' Dy Ck bJ Ft;subst Ck;by_cases hl:l=l'
 . subst hl;have :Dy=us:=by
    refine Pq ht ?_;clear ht;intro o e _ n d;refine Pq bJ ?_;clear bJ;intro o' e' _ n' d';rw[e]at e';injection e' with e';subst e';rw[d]at d';injection d' with d' _;exact d'.symm
   subst this;rw[ab8 ab9 rs Ft q];exact EqAt.same _
 . refine AC (lm q) ?_;intro e he hb;have l1:Y.length=us.size:=by rw[rs.length];simp
   have l2:ys.length=Dy.size:=by rw[Ft.length];simp
   rw[hb,l1,l2];exact EqAt.of_refs hl (RcAt.tuples (e:=e) ht bJ (by(with_reducible exact H2 (H3 _ _) (by assumption))) (lp bI rs Ft he))
theorem lq(hu:A.units+4<IJ){us Dy:BW A4}{l l':A8}(hl:s.heap.IsList l us)(Ih:s.heap.IsList l' Dy)(rs:Aa s.heap C Y us.toList)(Ft:Aa s.heap C ys Dy.toList)(q:Zl Y ys=G b)(h:A2 (.bool b) s):AH (AQ prog w) A (Db .Eq (.ref l) (.ref l')) A2 E s:=by
 refine AC (lm q) ?_;intro e he hb;have l1:Y.length=us.size:=by rw[rs.length];simp
 have l2:ys.length=Dy.size:=by rw[Ft.length];simp
 by_cases hz:us.size=Dy.size
 . refine eq_listAt (e:=e) hl Ih hz (by(with_reducible exact H2 (H3 _ _) (by assumption))) (lp (A:=A.in1) (ac1 (by show A.units+1+2<IJ;(with_reducible exact Mine.wC (by assumption)))) rs Ft he) ?_;have :b=(DN us.size).all e:=by rw[hb,l1,l2,hz];simp
   rw[<-this];exact h
 . refine eq_list_lengthsAt hl Ih (by simpa using hz) (by(with_reducible exact H2 (H3 _ _) (by assumption))) ?_;have :b=A6:=by rw[hb,l1,l2];simp[hz]
   rw[<-this];exact h
end
section
open PySem.SeqAt
section
theorem Gd.listAt(g:Gd B F K A H C s)(r:VR s.heap C (.ref i) u)(h:AL H.h i=G (.list Y)):∃a us,u=.ref a/\s.heap.PlainList a us/\Aa s.heap C Y us.toList:=by
 refine AC r ?_;(try clear r);intro a e Aw;subst Aw;refine AC (g.obj h e) ?_;intro us p v;exact⟨a,us,rfl,p,v⟩
theorem Gd.lr(g:Gd B F K A H C s){Y:I Sg}(r:VR s.heap C (.ref i) u)(h:AL H.h i=G (.rows m Y)):∃a us,u=.ref a/\s.heap.PlainList a us/\Aa s.heap C (DS Y) us.toList/\(DS Y).length+m<=Dm:=by
 refine AC r ?_;(try clear r);intro a e B6;subst B6;refine CZ (g.obj h e) ?_;intro us p v l;exact⟨a,us,rfl,p,v,l⟩
noncomputable def LF(x:Tx):A4->AK
 |.str z _=>CU z.cps.toList x|_=>A6
theorem ac2{x:Tx}:∀{us:I A4}{r:AK},Aa h C Y us->O2 Y (.str x)=G r->us.any (LF x)=r/\∀y∈us,∃z t,y=.str ⟨⟨z⟩⟩ t:=by induction Y with
 |nil=>intro us r e q;cases e;exact Br q (P:=λr=>[].any (LF x)=r/\∀y∈[],∃z t,y=Lz ⟨⟨z⟩⟩ t) ⟨rfl,λ_ m=>nomatch m⟩|cons y l ih=>
 intro us r e q;refine Aa.Sx e (P:=λus=>us.any (LF x)=r/\∀y∈us,∃z t,y=.str ⟨⟨z⟩⟩ t) ?_;clear e;intro u us ru rs;revert ru;apply Dd (v:=y) q AF;intro z q ru;have q:B' (O2 l (.str x)) (λr=>G (CU z x||r))=G r:=q;refine BI q λr' q' q=>?_;refine xE ru ?_;clear ru;intro t e;subst e;refine xA (ih rs q') ?_;intro a b;refine Br q (P:=λr=>(Lz ⟨⟨z⟩⟩ t::us).any (LF x)=r/\∀y∈Lz ⟨⟨z⟩⟩ t::us,∃z t,y=.str ⟨⟨z⟩⟩ t) ⟨by rw[sq,a];rfl,λy m=>(Cj.mp m).elim (λe=>⟨z,t,e⟩) (b y)⟩
theorem ac3{r:AK}(h:O2 Y v=G r):∃x,v=.str x:=by cases Y with
 |nil=>apply Dd (v:=v) h AF;intro x _;exact⟨x,rfl⟩|cons a l=>apply Dd (v:=a) h AF;intro z h;apply Dd (v:=v) h AF;intro x _;exact⟨x,rfl⟩
theorem ls{x:Tx}{y:A4}(h:∃z t,y=.str ⟨⟨z⟩⟩ t):Rq A s y (.str ⟨⟨x⟩⟩ t) (LF x y):=by
 refine DB h ?_;(try clear h);intro z t' BP;subst BP;have :(z==x)=LF x (.str ⟨⟨z⟩⟩ t'):=TO;rw[<-this];exact(bx9 ⟨⟨z⟩⟩ ⟨⟨x⟩⟩ t' t).at A s
theorem i2{f:AX->AX->AK}(h:Vj f v v'=G b){P:A4->A4->AK->Prop}(rv:VR s.heap C v u)(C6:VR s.heap C v' u')(k:∀x y t t',P (.int x t) (.int y t') (f x y)):P u u' b:=by
 revert rv C6;apply Cu h AF;intro x h;apply Cu h AF;intro y h rv C6;refine xE rv ?_;(try clear rv);intro t Bq;subst Bq;refine xE C6 ?_;(try clear C6);intro t' Bg;subst Bg;apply Br h;exact k x y t t'
theorem bK{f:Tx->Tx->AK}(h:(vStr v L λx=>vStr v' L λy=>G (f x y))=G b){P:A4->A4->AK->Prop}(rv:VR s.heap C v u)(C6:VR s.heap C v' u')(k:∀x y t t',P (.str ⟨⟨x⟩⟩ t) (.str ⟨⟨y⟩⟩ t') (f x y)):P u u' b:=by
 revert rv C6;apply Dd h AF;intro x h;apply Dd h AF;intro y h rv C6;refine xE rv ?_;(try clear rv);intro t Bu;subst Bu;refine xE C6 ?_;(try clear C6);intro t' C9;subst C9;apply Br h;exact k x y t t'
theorem ac4(g:Gd B F K A H C s)(rv:VR s.heap C v u)(C6:VR s.heap C v' u')(h:jn v v' H.h=G b):Ae B F K A H C s (Db .Eq u u') (Do (.bool b)):=by
 refine GO h (λh=>?_) λh=>GO h (λh=>?_) λh=>?_;. exact i2 (P:=λu u' b=>Ae B F K A H C s (Db .Eq u u') (Do (.bool b))) h rv C6 λx y t t'=>zI g
 . exact bK (P:=λu u' b=>Ae B F K A H C s (Db .Eq u u') (Do (.bool b))) h rv C6 λx y t t'=>zO g
 . revert rv C6;apply EI h AF;intro i h;apply EI h AF;intro j h rv C6;refine BI h λo q h=>BI h λo' q' h=>?_;revert q q';apply IT h AF;intro x h;apply IT h AF;intro y h q q';have hu:A.units+4<IJ:=by have :=g.units;unfold IJ;(with_reducible exact Mine.yU (by assumption) (by decide))
   refine Bv (g.listAt rv q) ?_;intro a us Ck p r;clear rv;subst Ck;refine Bv (g.listAt C6 q') ?_;intro a' Dy D8 p' r';clear C6;subst D8;exactλA2 E k=>lq hu p.isList p'.isList r r' h (k _ C s g (Nx.refl ..) rfl)
theorem lu{f:AK->AK}{a b:V}{r:AK}(h:Sf f a b hp=G r){P:V->AK->Prop}(cd:∀j N,AL hp j=G (.dict N)->De N a=M->P (.ref j) (f (D' N a).isSome))(bV6:∀j N,AL hp j=G (.B3 N)->De N a=M->P (.ref j) (f (D' N a).isSome))(cl:∀j Y y,AL hp j=G (.list Y)->O2 Y a=G y->P (.ref j) (f y)):P b r:=by
 apply EI h AF;intro j h;refine BI h λo q h=>?_;revert q;refine GO h (λh=>?_) λh=>GO h (λh=>?_) λh=>?_
 . apply JD h AF;intro N h q;refine Ce h AF λhk h=>?_;apply Br h;exact cd j N q hk
 . apply Sb h AF;intro N h q;refine Ce h AF λhk h=>?_;apply Br h;exact bV6 j N q hk
 . apply IT h AF;intro Y h q;refine BI h λy hk h=>?_;apply Br h;exact cl j Y y q hk
theorem lw{y:AK}(g:Gd B F K A H C s)(rv:VR s.heap C v u)(C6:VR s.heap C (.ref j) u')(q:AL H.h j=G (.list Y))(hk:O2 Y v=G y){P:Prop}(k:∀x t a us,u=.str ⟨⟨x⟩⟩ t->u'=.ref a->s.heap.PlainList a us->us.any (LF x)=y->(∀y∈us.toList,∃z t,y=.str ⟨⟨z⟩⟩ t)->P):P:=by
 refine Bv (g.listAt C6 q) ?_;intro a us DX p r;clear C6;subst DX;refine xE (ac3 hk) ?_;intro x Ed;subst Ed;refine xE rv ?_;(try clear rv);intro t FE;subst FE;refine xA (ac2 r hk) ?_;intro e hm;exact k x t a us rfl rfl p (by rw[<-e,bq2]) hm
theorem ac5(g:Gd B F K A H C s)(rv:VR s.heap C v u)(C6:VR s.heap C v' u')(h:Sf (λb=>b) v v' H.h=G b):Ae B F K A H C s (Db .In u u') (Do (.bool b)):=by
 revert C6;apply lu h;. intro j N q hk C6;exact lL g q C6 rv hk
 . intro j N q hk C6;exact ab0 g q C6 rv hk
 . intro j Y y q hk C6;refine lw g rv C6 q hk λx t a us e e' p ha hm=>?_;clear rv;subst e;clear C6;subst e';clear hk;subst ha;exactλA2 E k=>in_listAt (LF x) p.isList (λy m=>ls (hm y (by simpa using m))) (k _ C s g (Nx.refl ..) rfl)
theorem ac6(g:Gd B F K A H C s)(rv:VR s.heap C v u)(C6:VR s.heap C v' u')(h:Sf (λb=>!b) v v' H.h=G b):Ae B F K A H C s (Db .NotIn u u') (Do (.bool b)):=by
 revert C6;apply lu h;. intro j N q hk C6;exact lM g q C6 rv hk
 . intro j N q hk C6;exact ab1 g q C6 rv hk
 . intro j Y y q hk C6;refine lw g rv C6 q hk λx t a us e e' p ha hm=>?_;clear rv;subst e;clear C6;subst e';clear hk;subst ha;exactλA2 E k=>notIn_listAt (LF x) p.isList (λy m=>ls (hm y (by simpa using m))) (k _ C s g (Nx.refl ..) rfl)
theorem lx{t:AK}(h:Zr t v v'=G b)(rv:VR s.heap C v u)(C6:VR s.heap C v' u'){P:A4->A4->AK->Prop}(k:P .none .none t)(n:∀u,u≠.none->(∀x,u≠.bool x)->P u .none !t):P u u' b:=by
 revert rv C6;apply Pz h AF;intro h;refine GO h (λh=>?_) λh=>GO h (λh=>?_) λh=>GO h (λh=>?_) λh=>?_
 . apply Pz h AF;intro h rv C6;cases rv;cases C6;apply Br h;exact k
 . apply Dd h AF;intro x h rv C6;refine xE rv ?_;(try clear rv);intro t' GB;subst GB;cases C6;apply Br h;exact n _ (λz=>V8 z) λ_ z=>V8 z
 . apply EI h AF;intro x h rv C6;refine AC rv ?_;(try clear rv);intro a _ HD;subst HD;cases C6;apply Br h;exact n _ (λz=>V8 z) λ_ z=>V8 z
 . apply Cu h AF;intro x h rv C6;refine xE rv ?_;(try clear rv);intro t' Hv;subst Hv;cases C6;apply Br h;exact n _ (λz=>V8 z) λ_ z=>V8 z
theorem ac7{op:PO}(g:Gd B F K A H C s)(rv:VR s.heap C v u)(C6:VR s.heap C v' u')(h:Vk op v v' H.h=G b):Ae B F K A H C s (Db op u u') (Do (.bool b)):=by cases op with
 |Eq=>exact ac4 g rv C6 h|In=>exact ac5 g rv C6 h|NotIn=>exact ac6 g rv C6 h|Is=>exact lx (P:=λu u' b=>Ae B F K A H C s (Db .Is u u') (Do (.bool b))) h rv C6 (λA2 E k=>bR5 (k _ C s g (Nx.refl ..) rfl)) λu h0 h1 A2 E k=>bR6 h0 (k _ C s g (Nx.refl ..) rfl)|IsNot=>exact lx (P:=λu u' b=>Ae B F K A H C s (Db .IsNot u u') (Do (.bool b))) h rv C6 (λA2 E k=>bR7 (k _ C s g (Nx.refl ..) rfl)) λu h0 h1 A2 E k=>bR8 h0 (k _ C s g (Nx.refl ..) rfl)|NotEq=>exact GO h (λh=>i2 (P:=λu u' b=>Ae B F K A H C s (Db .NotEq u u') (Do (.bool b))) h rv C6 λx y t t'=>zJ g) λh=>bK (P:=λu u' b=>Ae B F K A H C s (Db .NotEq u u') (Do (.bool b))) h rv C6 λx y t t'=>zP g|Lt=>exact GO h (λh=>i2 (P:=λu u' b=>Ae B F K A H C s (Db .Lt u u') (Do (.bool b))) h rv C6 λx y t t'=>zK g) λh=>bK (P:=λu u' b=>Ae B F K A H C s (Db .Lt u u') (Do (.bool b))) h rv C6 λx y t t'=>zQ g|Gt=>exact i2 (P:=λu u' b=>Ae B F K A H C s (Db .Gt u u') (Do (.bool b))) h rv C6 λx y t t'=>zL g|LtE=>exact i2 (P:=λu u' b=>Ae B F K A H C s (Db .LtE u u') (Do (.bool b))) h rv C6 λx y t t'=>zM g|GtE=>exact i2 (P:=λu u' b=>Ae B F K A H C s (Db .GtE u u') (Do (.bool b))) h rv C6 λx y t t'=>zN g
end
end
section
open PySem.SeqAt
section
theorem OR{l:I V}:∀{t:I Tx},HU l=G t->l=t.map .str:=by induction l with
 |nil=>exactλh=>Bm h▸rfl|cons v l ih=>
 intro t h;apply Dd (show vStr v L (λt=>B' (HU l) λr=>G (t::r))=G t from h) AF;intro x h;exact BI h λr e h=>Bm h▸congrArg (V.str x::·) (ih e)
theorem ac8{t:I Tx}(h:jr v=G t):v=.tup L (t.map .str):=by
 apply IQ h AF;intro o l h;apply GP h AF;intro h;exact congrArg (V.tup L) (OR h)
theorem ly{g:Sg}(h:Vm v=G g):IZ g=[v]:=by
 apply O' h;. exactλx h=>Bm h▸rfl
 . exactλh=>BI h λl e h=>Bm h▸congrArg (λv=>[v]) (ac8 e).symm
theorem ac9{l:I V}:∀{t:I Sg},QA l=G t->DS t=l:=by induction l with
 |nil=>exactλh=>Bm h▸rfl|cons v l ih=>exactλh=>BI h λa e h=>BI h λr e' h=>Bm h▸(show IZ a++DS r=_ by rw[ih e',ly e];rfl)
theorem bL{l:I Sg}(h:FW o=G (r,l)){P:Ob->Prop}(a:CH (DS l)=M->r=Dm-(DS l).length->P (.list (DS l)))(b:P (.rows r l)):P o:=by
 apply Jz h
 . intro Y h;refine Ce h AF λhf h=>BI h λl' hl h=>?_;have e:=Bm h;have e2:DS l=Y:=(congrArg (·.2) e:l'=l)▸ac9 hl;exact e2▸a (e2▸hf) (e2▸(congrArg (·.1) e).symm)
 . intro h;apply jh h AF;intro m ys h;have e:=Bm h;exact(congrArg (·.1) e:m=r)▸(congrArg (·.2) e:ys=l)▸b
theorem OS{x y:I Sg}:DS (x++y)=DS x++DS y:=by0
theorem WZ(g:Gd B F K A H C s){r:O×I Sg}(hu:VR s.heap C (.ref i) u)(ho:AL H.h i=G o)(h:FW o=G r):∃a us,u=.ref a/\s.heap.PlainList a us/\Aa s.heap C (DS r.2) us.toList/\(DS r.2).length+r.1<=Dm:=by
 revert ho;apply bL h
 . intro hf e ho;refine Bv (g.listAt hu ho) λa us q p v=>⟨a,us,q,p,v,?_⟩;rw[e,by1 (B4 (Ef hf) (by decide))];exact DF _
 . exact g.lr hu
theorem ad0{x y:O×I Sg}(g:Gd B F K A H C s)(hu:VR s.heap C (.ref i) u)(TN:VR s.heap C (.ref j) u')(ho:AL H.h i=G o)(Ib:AL H.h j=G o')(hx:FW o=G x)(hy:FW o'=G y)(hc:EQ Dm (x.1+y.1)=M):Ae B F K A (H.new (.rows (x.1+y.1-Dm) (x.2++y.2))).2 C s (Ey .Add u u') (RV (.ref H.n)):=by
 intro A2 E k;refine HS (WZ g hu ho hx) ?_;intro a us Aw B6 v l;clear hu;subst Aw;refine xE B6 ?_;(try clear B6);intro n hl;refine HS (WZ g TN Ib hy) ?_;intro b ws BJ BP v' l';clear TN;subst BJ;refine xE BP ?_;(try clear BP);intro n' Ih;have hc:=Dk hc;have Ee:us.size+ws.size<=FA:=by
   have e1:=v.length;have e2:=v'.length;simp at e1 e2;exact B4 (show _<=1000000 by unfold Dm at*;(with_reducible exact Mine.wN (by assumption) (by assumption) (by assumption) (by assumption) (by assumption))) (by decide)
 refine concat_meets ⟨_,hl,rfl⟩ ⟨_,Ih,rfl⟩ bu3 seq_list_add bu4 bu5 (bu6 _ _) (bu7 a b us ws n n' L L #[] #[] Ee) ⟨hl,Ih,?_⟩;have kp:∀b o,s.heap.get? b=G o->(s.heap.push {cls:=.type "list",data:=.seq (us++ws)}).get? b=G o:=λb o e=>C1 _ e;have hn:s.heap.get? s.heap.objs.size=L:=by cases e:s.heap.get? s.heap.objs.size with
 |none=>rfl|some o=>exact absurd (Dh e) (J0 _)
 have hg:=CY s.heap (o:={cls:=.type "list",data:=.seq (us++ws)}) rfl;refine k _ (C++[s.heap.objs.size]) _ (g.new (tk:=s.toks) kp hn ⟨_,hg⟩ (o:=.rows (x.1+y.1-Dm) (x.2++y.2)) ⟨us++ws,⟨_,hg⟩,?_,?_⟩) (Nx.add [_] kp λb hb=>by rw[CI.mp hb];exact hn) ⟨_,?_,rfl⟩
 . have :=(v.app v').mono (J:=[s.heap.objs.size]) (Q:=s.heap.push {cls:=.type "list",data:=.seq (us++ws)}) (λb o e _=>kp b o e);rw[OS];simpa using this
 . rw[OS,FD];unfold Dm at*;(with_reducible exact Mine.iS (by assumption) (by assumption) (by assumption))
 . rw[<-g.len];simp
set_option tactic.hygienic true in
theorem ad1{c:O}{n:AX}(g:Gd B F K A H C s)(hn:Zn n=M):Ae B F K A H C s (Ey .Mult (.str ⟨⟨[c]⟩⟩ t) (.int n t')) (RV (.str (Y2 n.toNat c))):=by
 intro A2 E k;unfold Zn at hn;simp only[D6,PV]at hn;refine xA hn ?_;(try clear hn);intro h0 h1;have e1:(⟨⟨[c]⟩⟩:U).length=1:=rfl;refine SB.mul ⟨?_,?_,?_⟩ λHA m=>k _ C _ (g.tok _) (Nx.refl ..) ⟨HA,?_⟩;. simp only[bx5,gP];constructor<;>omega
 . intro hz _;rw[e1];intro hc;have h2:(2^63-1)/n>=1:=by
     have :n*1<=2^63-1:=by omega
     exact(Int.le_ediv_iff_mul_le (by omega)).mpr (by omega)
   omega
 . intro _ _;rw[e1];unfold bR9 FA;have :n.toNat<=1000:=by(with_reducible exact Mine.wT (by assumption))
   simp;omega
 . congr 1;unfold Txt.mul;split
   . have :n.toNat=0:=by omega
     rw[this];rfl
   . split
     . rename_i h2 h3;simp only[e1,tu,Rg]at h3;have :n.toNat=1:=by omega
       rw[this];rfl
     . congr 1;have :∀(m:O)(Am:I UInt32),True:=λ_ _=>trivial;have key:∀(m:O)(Am:BW _),(Y2 m (#[c])).foldl (·++·) Am=Am++(Y2 m c).toArray:=by
        intro m;induction m with
  |zero=>intro Am;simp|succ m ih=>
        intro Am;rw[by2,tv,ih,by2];apply t7.mp;simp
       have :=key n.toNat #[];simpa using this
theorem ad2{AG:AX}{b:O}(hb:0<b)(hm:m%b=0)(hr:r<m)(h:AG%(m:AX)=r):AG/(b:AX)%((m/b:O):AX)=((r/b:O):AX)/\AG%(b:AX)=((r%b:O):AX):=by
 refine xE (by3 hm) ?_;intro c Bq;clear hm;subst Bq;have e:AG=(b:AX)*((c:AX)*(AG/((b*c:O):AX)))+r:=by
   have :=Int.mul_ediv_add_emod AG ((b*c:O):AX);rw[h]at this;rw[<-Int.mul_assoc,<-Int.natCast_mul];exact this.symm
 generalize AG/((b*c:O):AX)=q at e;have hc:b*c/b=c:=Nat.mul_div_cancel_left c hb;rw[hc];have GY:(b:AX)≠0:=by omega
 constructor
 . rw[e,by4,Int.add_mul_ediv_left _ _ GY,by5];have CF:r/b<c:=gW hr;rw[<-Int.natCast_ediv];exact Int.emod_eq_of_lt (fP _) (fR.mpr CF)
 . rw[e,by4,by5];exact(Int.natCast_emod r b).symm
theorem ad3{r:V}(g:Gd B F K A H C s)(hv:VR s.heap C v u)(Bh:VR s.heap C v' u')(h:jj v v'=G r):Ae B F K A H C s (Ey .Add u u') (RV r):=by
 revert hv Bh;refine GO h (λh=>?_) λh=>GO h (λh=>?_) λh=>?_
 . apply Cu h AF;intro a h;refine GO h (λh=>?_) λh=>?_
   . apply Cu h AF;intro b h hv Bh;refine xE hv ?_;(try clear hv);intro t Bg;subst Bg;refine xE Bh ?_;(try clear Bh);intro t' Bu;subst Bu;apply Br h;exact zB g
   . apply SX h AF;intro b h hv Bh;refine xE hv ?_;(try clear hv);intro t C9;subst C9;cases Bh;apply Br h;exact zF g
 . apply SX h AF;intro a h;refine GO h (λh=>?_) λh=>?_
   . apply Cu h AF;intro b h hv Bh;refine xE Bh ?_;(try clear Bh);intro t Ck;subst Ck;cases hv;apply Br h;exact zE g
   . apply SX h AF;intro b h hv Bh;cases hv;cases Bh;apply Br h;exact zD g
 . apply Dd h AF;intro a h;apply Dd h AF;intro b h hv Bh;refine xE hv ?_;(try clear hv);intro t D8;subst D8;refine xE Bh ?_;(try clear Bh);intro t' DX;subst DX;refine Ce h AF λhf h=>?_;apply Br h;exact lG g hf
theorem ad4{r:V}(g:Gd B F K A H C s)(hv:VR s.heap C v u)(Bh:VR s.heap C v' u')(h:jm v v'=G r):Ae B F K A H C s (Ey .Mult u u') (RV r):=by
 revert hv Bh;refine GO h (λh=>?_) λh=>?_
 . apply SX h AF;intro a h;apply SX h AF;intro b h hv Bh;cases hv;cases Bh;apply Br h;exact zG g
 . apply Dd h AF;intro a h;apply Cs h AF;intro c h;apply Cu h AF;intro n h hv Bh;refine xE hv ?_;(try clear hv);intro t Ed;subst Ed;refine xE Bh ?_;(try clear Bh);intro t' FE;subst FE;refine Ce h AF λhf h=>?_;apply Br h;exact ad1 g hf
theorem ad5{r:V}(g:Gd B F K A H C s)(hv:VR s.heap C v u)(Bh:VR s.heap C v' u')(h:Zp v v'=G r):Ae B F K A H C s (Ey .Sub u u') (RV r):=by
 revert hv Bh;apply Cu h AF;intro a h;apply Cu h AF;intro n h hv Bh;refine xE hv ?_;(try clear hv);intro t GB;subst GB;refine xE Bh ?_;(try clear Bh);intro t' HD;subst HD;apply Br h;exact zC g
theorem lz{b:AX}(h:Zo b=M):0<b/\b<=1000000000:=⟨of_decide_eq_true (B1 h),of_decide_eq_true (Ak h)⟩
theorem m1{AG b:AX}(h:Vi m r b=M)(hb:0<b)(hX:AG%(m:AX)=r):AG/b%((m/b.toNat:O):AX)=((r/b.toNat:O):AX)/\AG%b=((r%b.toNat:O):AX):=by
 have h4:r<m:=gX (Dk (Ak h));have e:((b.toNat:O):AX)=b:=tw (fS hb);have d:=ad2 (b:=b.toNat) (by omega) (CD (B1 h)) h4 hX;rw[e]at d;exact d
theorem ad6{r:V}(g:Gd B F K A H C s)(hv:VR s.heap C v u)(Bh:VR s.heap C v' u')(h:jk v v'=G r):Ae B F K A H C s (Ey .FloorDiv u u') (RV r):=by
 revert hv Bh;apply Cu h AF;intro b h;refine Ce h AF λhb h=>?_;have hb:=lz hb;refine GO h (λh=>?_) λh=>?_
 . apply Cu h AF;intro a h hv Bh;refine xE hv ?_;(try clear hv);intro t Hv;subst Hv;refine xE Bh ?_;(try clear Bh);intro t' L4;subst L4;apply Br h;exact lF g hb
 . apply jb h AF;intro m r' h hv Bh;refine Ce h AF λhc h=>?_;refine EX hv ?_;(try clear hv);intro AG t L5 hX;subst L5;refine xE Bh ?_;(try clear Bh);intro t' TW;subst TW;apply Br h;intro A2 E k;refine lF g hb A2 E λu AT s' g' x' r=>?_;refine xE r ?_;(try clear r);intro t TX;subst TX;exact k _ AT s' g' x' ⟨_,t,rfl,by rw[Int.fdiv_eq_ediv_of_nonneg _ (fS hb.1)];exact(m1 hc hb.1 hX).1⟩
theorem ad7{r:V}(g:Gd B F K A H C s)(hv:VR s.heap C v u)(Bh:VR s.heap C v' u')(h:jl v v'=G r):Ae B F K A H C s (Ey .Mod u u') (RV r):=by
 revert hv Bh;apply Cu h AF;intro b h;refine Ce h AF λhb h=>?_;have hb:=(lz hb).1;refine GO h (λh=>?_) λh=>?_
 . apply Cu h AF;intro a h hv Bh;refine xE hv ?_;(try clear hv);intro t TY;subst TY;refine xE Bh ?_;(try clear Bh);intro t' bM;subst bM;apply Br h;exact lE g hb
 . apply jb h AF;intro m r' h hv Bh;refine EX hv ?_;(try clear hv);intro AG t QY hX;subst QY;refine xE Bh ?_;(try clear Bh);intro t' TZ;subst TZ;apply Br h;intro A2 E k;refine lE g hb A2 E λu AT s' g' x' r=>k _ AT s' g' x' ?_;refine xE r ?_;(try clear r);intro t T_;subst T_;rw[Int.fmod_eq_emod_of_nonneg _ (fS hb)];cases hc:Vi m r' b with
 |true=>exact⟨t,by rw[(m1 hc hb hX).2];rfl⟩|false=>exact⟨_,t,rfl,by6 _ (by(with_reducible exact bu0 (by assumption))),by have :=by7 AG hb;(with_reducible exact Mine.wE (by assumption))⟩
theorem ad8{r:V}(g:Gd B F K A H C s)(hv:VR s.heap C (.ref i) u)(Bh:VR s.heap C (.ref j) u')(h:Ss i j H=.ok (.v r) A7):Ae B F K A A7 C s (Ey .Add u u') (RV r):=by
 refine A0.Bx h λo q h=>A0.Bx h λo' q' h=>?_;have AS:(A0.of (FW o) λx=>A0.of (FW o') λy=>A0.iff (EQ Dm (x.1+y.1)) (FX (H.new (.rows (x.1+y.1-Dm) (x.2++y.2)))))=.ok (.v r) A7->Ae B F K A A7 C s (Ey .Add u u') (RV r):=λh=>A0.Bx h λx hx h=>A0.Bx h λy hy h=>A0.Be h λhc h=>B5 h (P:=λr A7=>Ae B F K A A7 C s (Ey .Add u u') (RV r)) (ad0 g hv Bh q q' hx hy hc);revert q;apply Jz h (e:=λh _=>AS h);intro x h;revert q';apply Jz h (e:=λh _ _=>AS h);intro y h q' q;refine A0.Be h λhf h=>?_;apply B5 h;exact zH g hv Bh q q' hf
theorem ad9{r:V}(g:Gd B F K A H C s)(hv:VR s.heap C v u)(Bh:VR s.heap C v' u')(h:Vu op v v' H=.ok (.v r) A7):Ae B F K A A7 C s (Ey op u u') (RV r):=by
 have fin:∀{op:Jj}{x:AD V},Fk x H=.ok (.v r) A7->(x=G r->Ae B F K A H C s (Ey op u u') (RV r))->Ae B F K A A7 C s (Ey op u u') (RV r):=λh k=>by refine xA (MW h) ?_;intro e bN;clear g h;subst bN;exact k e
 refine Fi h (λe h=>?_) λh=>Fi h (λe h=>?_) λh=>Fi h (λe h=>?_) λh=>Fi h (λe h=>?_) λh=>Fi h (λe h=>?_) λh=>(Ac h).elim
 . subst e;revert hv;apply Vf h (e:=λh hv=>fin h (ad3 g hv Bh));intro i h hv;revert Bh;apply EI h Ac;intro j h Bh;exact ad8 g hv Bh h
 . subst e;exact fin h (ad5 g hv Bh)
 . subst e;exact fin h (ad6 g hv Bh)
 . subst e;exact fin h (ad7 g hv Bh)
 . subst e;exact fin h (ad4 g hv Bh)
theorem OU:Lf B:=⟨z9,ac7,zA,ad9⟩
end
end
section
open Sem(wp)
section
namespace Bd
theorem ae0:Pf (.type "set") "__contains__"=pure (G (.builtin "set.__contains__")):=by rw[J5,J6];kernel_rfl
theorem ae1:Pf (.type "dict") "get"=pure (G (.builtin "dict.get")):=by rw[J5,J6];kernel_rfl
theorem ty_set:Hg (.builtin "set.__contains__")=pure (.type "method_descriptor"):=by kernel_rfl
theorem ty_dict:Hg (.builtin "dict.get")=pure (.type "method_descriptor"):=by kernel_rfl
theorem QZ:M0 "method_descriptor" "__get__" "method_descriptor.__get__":=.of (owner:="method_descriptor") (n:="__get__") (by rw[J5,J6];kernel_rfl) (by decide+kernel) (by decide+kernel) (by decide+kernel) (by first|exact .inl (by decide+kernel)|exact .inr (by decide+kernel)) (by rw[J7];kernel_rfl)
theorem m4:Lu Lv "method_descriptor.__get__"=G EB.«method_descriptor.__get__»:=YD (by kernel_rfl)
theorem m5(a b c:A4):Jo "method_descriptor.__get__" ⟨[a,b,c],[]⟩:=by unfold Jo;kernel_rfl
theorem m6:Pf (.type "method_descriptor") "__set__"=pure L:=by rw[J5,J6];kernel_rfl
theorem m7:Pf (.type "method_descriptor") "__delete__"=pure L:=by rw[J5,J6];kernel_rfl
theorem ae2:(".".intercalate ("set.__contains__".cutAt '.').dropLast)="set":=by
 have e0:"set.__contains__".cutAt '.'=["set","__contains__"]:=by first|rfl|decide+kernel
 rw[e0];decide+kernel
theorem ae3:(".".intercalate ("dict.get".cutAt '.').dropLast)="dict":=by
 have e0:"dict.get".cutAt '.'=["dict","get"]:=by first|rfl|decide+kernel
 rw[e0];decide+kernel
theorem ae4:Rs (.type "set") (.type (".".intercalate ("set.__contains__".cutAt '.').dropLast))=pure M:=by rw[ae2,J7];kernel_rfl
theorem ae5:Rs (.type "dict") (.type (".".intercalate ("dict.get".cutAt '.').dropLast))=pure M:=by rw[ae3,J7];kernel_rfl
end Bd
section
variable{g:BW fX}{d:Drawn}{t:O}{os:H4}
theorem ae6{AS:Dt->AR->Prop}(hx:h.get? a=G {cls:=.type "set",dict:=L,data:=.set ez n sf,slots:=sl})(hq:AS (.ok (.ret (.ref h.objs.size))) ⟨h.push {cls:=.type "builtin_function_or_method",data:=.fields #[.builtin "set.__contains__",.ref a]},g,d,t,os⟩):D7 (AQ prog w) A (.call (.builtin "method_descriptor.__get__") ⟨[.builtin "set.__contains__",.ref a,.type "set"],[]⟩) AS ⟨h,g,d,t,os⟩:=by
 have hT:(⟨h,g,d,t,os⟩:AR).TypeIs (.ref a) "set":=⟨_,hx,rfl⟩;have Ta:(⟨h,g,d,t,os⟩:AR).TypeIs (.builtin "set.__contains__") "method_descriptor":=Bd.ty_set;have f8:=Bd.ae4;refine Lw Bd.QZ.plain Bd.m4 (Bd.QZ.check _ _ _ _ _ _ _ _ Ta (Bd.m5 _ _ _) ?_);repeat(any_goals(first|with_reducible assumption|wp_step|assumption))
theorem ae7{tk:EP}{A2:Fin->AR->Prop}(hx:h.get? a=G {cls:=.type "set",dict:=L,data:=.set ez n sf,slots:=sl})(hq:A2 (.done (.ret (.ref h.objs.size))) ⟨h.push {cls:=.type "builtin_function_or_method",data:=.fields #[.builtin "set.__contains__",.ref a]},g,d,t,os⟩):AH (AQ prog w) A (EB.«object.__getattribute__» ⟨[.ref a,.str "__contains__" tk],[]⟩) A2 E ⟨h,g,d,t,os⟩:=by
 have hT:(⟨h,g,d,t,os⟩:AR).TypeIs (.ref a) "set":=⟨_,hx,rfl⟩;have Ta:(⟨h,g,d,t,os⟩:AR).TypeIs (.builtin "set.__contains__") "method_descriptor":=Bd.ty_set;have bV7:=Bd.ae0;have bV8:=Bd.ty_set;have bV9:=Bd.QZ.lookup;have bW0:=Bd.m6;have f8:=Bd.m7;repeat(any_goals(first|with_reducible assumption|wp_step|assumption))
 refine ae6 hx ?_;repeat(any_goals(first|with_reducible assumption|wp_step|assumption))
theorem ae8{tk:EP}{AS:Dt->AR->Prop}(hx:h.get? a=G {cls:=.type "set",dict:=L,data:=.set ez n sf,slots:=sl})(hq:AS (.ok (.ret (.ref h.objs.size))) ⟨h.push {cls:=.type "builtin_function_or_method",data:=.fields #[.builtin "set.__contains__",.ref a]},g,d,t,os⟩):D7 (AQ prog w) A (.call (.builtin "set.__getattribute__") ⟨[.ref a,.str "__contains__" tk],[]⟩) AS ⟨h,g,d,t,os⟩:=Lw gY.plain F.entry_set_ga (gY.check _ _ _ _ _ _ _ _ (show(⟨h,g,d,t,os⟩:AR).TypeIs (.ref a) "set"from⟨_,hx,rfl⟩) (F.args_set_getattribute_2 _ _) (ae7 hx hq))
theorem ae9{tk:EP}{fill:AK}(hx:h.get? a=G {cls:=.type "set",dict:=L,data:=.set ez n sf,slots:=sl})(hq:A2 (.ref h.objs.size) ⟨h.push {cls:=.type "builtin_function_or_method",data:=.fields #[.builtin "set.__contains__",.ref a]},g,d,t,os⟩):AH (AQ prog w) A (gZ (.ref a) (.str "__contains__" tk) fill ex) A2 E ⟨h,g,d,t,os⟩:=by
 have hT:(⟨h,g,d,t,os⟩:AR).TypeIs (.ref a) "set":=⟨_,hx,rfl⟩;have f2:=gY.lookup;have bW1:=gY.bind (.ref a);have e1:(ex&&onTheHeap (.builtin "set.__getattribute__"))=A6:=by cases ex<;>rfl
 unfold gZ;refine C0 (A5 (Rt hT (A5 (NX f2 ?_))));show AH _ _ (g_ _ _ _ _ _ _) _ _ _;unfold g_ by8;rw[e1];repeat(any_goals(first|with_reducible assumption|wp_step|assumption))
 refine ae8 hx ?_;repeat(any_goals(first|with_reducible assumption|wp_step|assumption))
theorem af0(hx:h.get? a=G {cls:=.type "set",dict:=L,data:=.set ez n sf,slots:=sl})(hq:A2 (.ref h.objs.size) ⟨h.push {cls:=.type "builtin_function_or_method",data:=.fields #[.builtin "set.__contains__",.ref a]},g,d,t+1,os⟩):AH (AQ prog w) A (V0 (.ref a) "__contains__" ex) A2 E ⟨h,g,d,t,os⟩:=by
 unfold V0;refine A5 (tz ?_);exact ae9 hx hq
theorem af1{AS:Dt->AR->Prop}(hx:h.get? a=G {cls:=.type "dict",dict:=L,data:=.dict ez n,slots:=sl})(hq:AS (.ok (.ret (.ref h.objs.size))) ⟨h.push {cls:=.type "builtin_function_or_method",data:=.fields #[.builtin "dict.get",.ref a]},g,d,t,os⟩):D7 (AQ prog w) A (.call (.builtin "method_descriptor.__get__") ⟨[.builtin "dict.get",.ref a,.type "dict"],[]⟩) AS ⟨h,g,d,t,os⟩:=by
 have hT:(⟨h,g,d,t,os⟩:AR).TypeIs (.ref a) "dict":=⟨_,hx,rfl⟩;have Ta:(⟨h,g,d,t,os⟩:AR).TypeIs (.builtin "dict.get") "method_descriptor":=Bd.ty_dict;have f8:=Bd.ae5;refine Lw Bd.QZ.plain Bd.m4 (Bd.QZ.check _ _ _ _ _ _ _ _ Ta (Bd.m5 _ _ _) ?_);repeat(any_goals(first|with_reducible assumption|wp_step|assumption))
theorem af2{tk:EP}{A2:Fin->AR->Prop}(hx:h.get? a=G {cls:=.type "dict",dict:=L,data:=.dict ez n,slots:=sl})(hq:A2 (.done (.ret (.ref h.objs.size))) ⟨h.push {cls:=.type "builtin_function_or_method",data:=.fields #[.builtin "dict.get",.ref a]},g,d,t,os⟩):AH (AQ prog w) A (EB.«object.__getattribute__» ⟨[.ref a,.str "get" tk],[]⟩) A2 E ⟨h,g,d,t,os⟩:=by
 have hT:(⟨h,g,d,t,os⟩:AR).TypeIs (.ref a) "dict":=⟨_,hx,rfl⟩;have Ta:(⟨h,g,d,t,os⟩:AR).TypeIs (.builtin "dict.get") "method_descriptor":=Bd.ty_dict;have bV7:=Bd.ae1;have bV8:=Bd.ty_dict;have bV9:=Bd.QZ.lookup;have bW0:=Bd.m6;have f8:=Bd.m7;repeat(any_goals(first|with_reducible assumption|wp_step|assumption))
 refine af1 hx ?_;repeat(any_goals(first|with_reducible assumption|wp_step|assumption))
theorem af3{tk:EP}{AS:Dt->AR->Prop}(hx:h.get? a=G {cls:=.type "dict",dict:=L,data:=.dict ez n,slots:=sl})(hq:AS (.ok (.ret (.ref h.objs.size))) ⟨h.push {cls:=.type "builtin_function_or_method",data:=.fields #[.builtin "dict.get",.ref a]},g,d,t,os⟩):D7 (AQ prog w) A (.call (.builtin "dict.__getattribute__") ⟨[.ref a,.str "get" tk],[]⟩) AS ⟨h,g,d,t,os⟩:=Lw gb.plain F.entry_dict_ga (gb.check _ _ _ _ _ _ _ _ (show(⟨h,g,d,t,os⟩:AR).TypeIs (.ref a) "dict"from⟨_,hx,rfl⟩) (F.args_dict_getattribute_2 _ _) (af2 hx hq))
theorem af4{tk:EP}{fill:AK}(hx:h.get? a=G {cls:=.type "dict",dict:=L,data:=.dict ez n,slots:=sl})(hq:A2 (.ref h.objs.size) ⟨h.push {cls:=.type "builtin_function_or_method",data:=.fields #[.builtin "dict.get",.ref a]},g,d,t,os⟩):AH (AQ prog w) A (gZ (.ref a) (.str "get" tk) fill ex) A2 E ⟨h,g,d,t,os⟩:=by
 have hT:(⟨h,g,d,t,os⟩:AR).TypeIs (.ref a) "dict":=⟨_,hx,rfl⟩;have f2:=gb.lookup;have bW1:=gb.bind (.ref a);have e1:(ex&&onTheHeap (.builtin "dict.__getattribute__"))=A6:=by cases ex<;>rfl
 unfold gZ;refine C0 (A5 (Rt hT (A5 (NX f2 ?_))));show AH _ _ (g_ _ _ _ _ _ _) _ _ _;unfold g_ by8;rw[e1];repeat(any_goals(first|with_reducible assumption|wp_step|assumption))
 refine af3 hx ?_;repeat(any_goals(first|with_reducible assumption|wp_step|assumption))
theorem af5(hx:h.get? a=G {cls:=.type "dict",dict:=L,data:=.dict ez n,slots:=sl})(hq:A2 (.ref h.objs.size) ⟨h.push {cls:=.type "builtin_function_or_method",data:=.fields #[.builtin "dict.get",.ref a]},g,d,t+1,os⟩):AH (AQ prog w) A (V0 (.ref a) "get" ex) A2 E ⟨h,g,d,t,os⟩:=by
 unfold V0;refine A5 (tz ?_);exact af4 hx hq
end
end
end
section
open Sem(wp)
section
theorem m8{q d:A8}{id T:D9}{o:Bi}{m9:Manifest.Signature}{Bt:EB}(hq:s.heap.get? q=G {cls:=.type "builtin_function_or_method",data:=.fields #[.builtin id,.ref d]})(hd:s.heap.get? d=G o)(hT:o.cls=.type T)(hn:∀c,o.data≠.cls c)(bO:gc id=G m9)(hk:Rm id=G .method)(hm:Rs (.type T) (.type "module")=pure A6)(hv:u0.contains id=A6)(hc:u4 id {m9 with full:=s!"{V9 T}.{V9 id}"} ⟨.ref d::us,[]⟩=pure ())(hp:YH id=M)(he:Lu Lv id=G Bt)(h:AH (AQ prog w) A.in1 (Bt ⟨.ref d::us,[]⟩) (λfin s'=>∃v,fin=.done (.ret v)/\A2 v s') E s):AH (AQ prog w) A (call (.ref q) us) A2 E s:=by
 refine HP (Rb ?_);show AH _ A.in1 (V2 (.ref q) ⟨us,[]⟩) _ _ _;unfold V2;refine A5 (NV hq ?_);have W_:s.TypeIs (.ref d) T:=⟨_,hd,hT⟩;have hL:∀{A2:AK->AR->Prop},A2 A6 s->AH (AQ prog w) A.in1 (isType (.ref d)) A2 E s:=by
  intro A2 q;show AH _ _ (do return match(<-loadHead d).data with|.cls _=>M|_=>A6) _ _ _;refine A5 (bw2 hd (AW ?_));cases o with|mk c dd bW2 sl=>cases bW2<;>first|exact q|exact absurd rfl (hn _)
 show AH _ _ (do by9 id ⟨.ref d::us,[]⟩;Kj (.builtin id ⟨.ref d::us,[]⟩)) _ _ _;refine A5 ?_;unfold by9;simp only[bO,hk];refine A5 (Ly W_ hm ?_);rw[hv];skip;refine A5 (hL ?_);skip;refine A5 (Rt W_ ?_);skip;refine NX hc (AW ⟨plainId_quiet hp _,J4 he ?_⟩);rw[bz0 hp _];refine Fg h (λfin s' Q=>?_) λ_ _ Q=>Q;refine AC Q ?_;(try clear Q);intro v Aw hv;subst Aw;exact hv
theorem af6:gc "set.__contains__"=G ⟨.oneArg,"set.__contains__","__contains__",.self,[⟨"object",.posOnly,M⟩]⟩:=by kernel_rfl
theorem af7:gc "dict.get"=G ⟨.positional,"dict.get","get",.self,[⟨"key",.posOnly,M⟩,⟨"default",.posOnly,A6⟩]⟩:=by kernel_rfl
theorem af8:Rm "set.__contains__"=G .method:=by decide+kernel
theorem af9:Rm "dict.get"=G .method:=by decide+kernel
theorem ag7:Rs (.type "set") (.type "module")=pure A6:=by rw[J7];kernel_rfl
theorem ag8:Rs (.type "dict") (.type "module")=pure A6:=by rw[J7];kernel_rfl
theorem ag9:u0.contains "set.__contains__"=A6:=by decide+kernel
theorem ah0:u0.contains "dict.get"=A6:=by decide+kernel
theorem ah1:s!"{V9 "set"}.{V9 "set.__contains__"}"="set.__contains__":=by decide+kernel
theorem ah2:s!"{V9 "dict"}.{V9 "dict.get"}"="dict.get":=by decide+kernel
theorem ah3{d x:A4}:u4 "set.__contains__" ⟨.oneArg,"set.__contains__","__contains__",.self,[⟨"object",.posOnly,M⟩]⟩ ⟨[d,x],[]⟩=pure ():=by kernel_rfl
theorem ah4{d x y:A4}:u4 "dict.get" ⟨.positional,"dict.get","get",.self,[⟨"key",.posOnly,M⟩,⟨"default",.posOnly,A6⟩]⟩ ⟨[d,x,y],[]⟩=pure ():=by kernel_rfl
theorem ah5{By:KeyKind prog w U}{k:U}{key:A4}(EM:By.is k key=M)(TD:key.scannable=M)(hS:s.heap.get? a=G {cls:=.type "set",dict:=L,data:=.set #[] 0 (.fresh 0 0 led)})(h:A2 (.bool A6) {s with toks:=s.toks+1}):AH (AQ prog w) A (EB.«frozenset.__contains__» ⟨[.ref a,key],[]⟩) (λfin s'=>∃v,fin=.done (.ret v)/\A2 v s') E s:=by
 have hS:s.heap.SetOf By a (λ_=>A6) 0:=⟨_,#[],0,_,hS,⟨rfl,rfl,rfl⟩,rfl,λe he=>by simp at he,λk=>by simp,by decide,by rfl,rfl⟩;unfold EB.«frozenset.__contains__»bS0;simp only[bz1,bind_assoc];skip;refine A5 (AW ?_);try dsimp only
 refine A5 (AW ?_);try dsimp only
 refine A5 (Pb ?_);refine C0 ?_;refine A5 (By.pyHash EM ?_);refine A5 (wpAny_setFind_of (s:={s with toks:=s.toks+1}) EM TD hS λr hr=>?_);refine AW ?_;show AH _ _ (ret (NY r.isSome)) _ _ _;rw[hr];exact AW ⟨_,rfl,h⟩
theorem ah6[DecidableEq T]{By:KeyKind prog w T}{d:A8}{k:T}{key dflt:A4}{f:T->AD A4}(EM:By.is k key=M)(hd:(d==NR)=A6)(hm:s.heap.MapOf By d f)(h:A2 ((f k).getD dflt) {s with toks:=s.toks+1}):AH (AQ prog w) A (EB.«dict.get» ⟨[.ref d,key,dflt],[]⟩) (λfin s'=>∃v,fin=.done (.ret v)/\A2 v s') E s:=by
 show AH _ _ (dictGet d key>>=_) _ _ s;refine A5 (wpAny_dictGet_of EM hm ?_);cases hf:f k with
 |some v=>
  rw[hf]at h;exact AW ⟨v,rfl,h⟩|none=>
  rw[hf]at h;show AH _ _ (bS1 d key>>=_) _ _ _;exact A5 (wpAny_missed_other hd (AW ⟨dflt,rfl,h⟩))
end
section
theorem ah7{x:Tx}(g:Gd B F K A H C s)(hf:VR s.heap C (.B' 0 i) fu)(hs:Aa s.heap C [.str x] us)(h:AL H.h i=G .HT):Ae B F K A H C s (CE fu us) (RV (.bool A6)):=by
 intro A2 E k;refine Bv hf ?_;(try clear hf);intro q d B6 hd hq;subst B6;refine Bv hs ?_;(try clear hs);intro u us BJ BP e;subst BJ;refine xE BP ?_;(try clear BP);intro t Hv;subst Hv;cases e;refine xE (g.obj h hd) ?_;intro led ho;have hq:s.heap.get? q=G {cls:=.type "builtin_function_or_method",data:=.fields #[.builtin "set.__contains__",.ref d]}:=hq;refine m8 (T:="set") hq ho rfl (λ_ z=>by(exfalso;cases z)) af6 af8 ag7 ag9 (by rw[ah1];exact ah3) PySem.F.slot_set_contains.plain entry_set_contains ?_;exact ah5 (By:=strKind B.prog B.w) (k:=⟨⟨x⟩⟩) (by simp[strKind,YP]) rfl ho (k _ C _ (g.tok _) (Nx.refl ..) rfl)
theorem Wa[DecidableEq T]{By:KeyKind B.prog B.w T}{Az:I (T×A4)}(m:h.DictAt By a Az n):∃o,h.get? a=G o/\o.cls=.type "dict"/\∀c,o.data≠.cls c:=by
 refine HS m ?_;intro o N e hc hd _;exact⟨o,e,hc.1,λc z=>by rw[hd]at z;(exfalso;cases z)⟩
theorem mA{d:V}(g:Gd B F K A H C s)(hd:AL H.h i=G (.dict N))(ru:VR s.heap C (.ref i) u)(rk:VR s.heap C k ku)(rd:VR s.heap C d du)(hk:De N k=M)(kk:∀w s',Gd B F K A H C s'->Nx F.D [] s.heap s'.heap C C->VR s'.heap C ((D' N k).getD d) w->A2 w s'):AH (AQ B.prog B.w) A' (EB.«dict.get» ⟨[u,ku,du],[]⟩) (λfin s'=>∃v,fin=.done (.ret v)/\A2 v s') E s:=by
 revert kk;refine WR (P:=λu=>_->AH (AQ B.prog B.w) A' (EB.«dict.get» ⟨[u,ku,du],[]⟩) (λfin s'=>∃v,fin=.done (.ret v)/\A2 v s') E s) g hd ru rk hk λBy x f a ha hx hm o kk=>?_;refine ah6 hx (g.QS ha) hm (kk _ _ (g.tok _) (Nx.refl ..) ?_);refine o.elim (λo=>?_) λo=>Bv o λv' w h hf r=>?_;. rw[o.1,o.2];exact rd
 . rw[h,hf];exact r
theorem ah8(h:O7 i N .get args H=.ok (.v v) A7):∃k d,args=[k,d]/\De N k=M/\v=(D' N k).getD d/\A7=H:=by
 apply Hn h Ac;intro k d h;refine A0.Be h λhk h=>?_;apply B5 h;exact⟨k,d,rfl,hk,rfl,rfl⟩
theorem ah9(g:Gd B F K A H C s)(hf:VR s.heap C (.B' 1 i) fu)(hs:Aa s.heap C args us)(h:A0.F1 H.h (.ref i) (λi N=>O7 i N .get args H)=.ok (.v v) A7):Ae B F K A A7 C s (CE fu us) (RV v):=by
 intro A2 E k;refine A0.OD h ?_;clear h;intro N hl h;refine HS (ah8 h) ?_;intro x d Bg hk Bu C9;subst Bg;subst Bu;subst C9;refine Bv hf ?_;(try clear hf);intro q a Ck hd hq;subst Ck;have hq:s.heap.get? q=G {cls:=.type "builtin_function_or_method",data:=.fields #[.builtin "dict.get",.ref a]}:=hq;refine S7 hs ?_;(try clear hs);intro ku us D8 rk du Dy DX rd e;subst D8;subst DX;cases e;have r:=g.obj hl hd;have ho:∃o,s.heap.get? a=G o/\o.cls=.type "dict"/\∀c,o.data≠.cls c:=r.elim (λr=>AC r λ_ m _=>Wa m) λr=>AC r λ_ m _=>Wa m;refine CZ ho ?_;(try clear ho);intro o ho hc hn;refine m8 (T:="dict") hq ho hc hn af7 af9 ag8 ah0 (by rw[ah2];exact ah4) u5.plain bz2 ?_;exact mA g hl ⟨a,hd,rfl⟩ rk rd hk λw s' g' x' r'=>k w C s' g' x' r'
end
end
structure Gl(B:Bs)(A3:Mine.Ctx):Prop where ns:∃mg mb,B.base.Ns 3 mg/\B.base.Ns 0 mb/\∀x v,Ah A3.glob x=G v->∃w,v=.top w/\(mg x=G w\/(mg x=L/\mb x=G w))
section
theorem mB(h:QC sc=M)(hl:Di sc x=M):(x==("__debug__":U))=A6:=by
 refine AC (W6 (P:=λ_=>PS) hl λ_ _=>trivial) ?_;intro k q _;have :=(Bn.mp h) _ (FF q);simp only[D6,PT,L3]at this;exact Ln.mpr this.1
theorem bP(Bl:Gl B A3)(h:Fp A3 K (ev A3 n) (.Name id pos) H=.ok (.v v) A7)(g:Gd B F K A H C s):Ae B F K A A7 C s (eval (.Name id pos) F.env) (RV v):=by
 refine Nn (x:=Fk (Ah H.env id) H) (y:=bC (Di K.sc id) (Fk (Ah A3.glob id) H) .bad) h (λhl h=>?_) λh=>Nn h (λhg h=>?_) λh=>(Ac h).elim
 . refine xA (MW h) ?_;intro e Aw;subst Aw;exact aR g hl e
 . refine xA (MW h) ?_;intro e B6;subst B6;refine Bv Bl.ns ?_;intro mg mb n3 n0 hh;refine AC (hh id v e) ?_;intro w BJ hw;subst BJ;have st:∀b o,B.base.get? b=G o->s.heap.get? b=G o:=g.base;have m3:s.heap.Ns F.env.globals mg:=by rw[g.kinds.g3];refine Hp n3 ?_;(try clear n3);intro o N ep e r;exact⟨o,N,ep,st _ _ e,r⟩
   have m0:s.heap.Ns F.env.builtins mb:=by rw[g.kinds.b0];refine Hp n0 ?_;(try clear n0);intro o N ep e r;exact⟨o,N,ep,st _ _ e,r⟩
   intro A2 E k;refine bz3 g.kinds.fn (g.kinds.glob id hg) ?_ (mB g.kinds.sc hg);rcases hw with hw|Ck;rotate_left;refine xA Ck ?_;(try clear Ck);intro hm hw;rotate_left;. exact loadGlobal_global m3 hw (k w C s g (Nx.refl ..) rfl)
   . exact bz4 m3 hm m0 hw (k w C s g (Nx.refl ..) rfl)
theorem ai0(A9:C5 B A3 n)(Lo:Lf B){op:UnaryOp}{x:AA}(h:Fp A3 K (ev A3 n) (.UnaryOp op x pos) H=.ok (.v v) A7)(g:Gd B F K A H C s):Ae B F K A A7 C s (eval (.UnaryOp op x pos) F.env) (RV v):=by
 intro A2 E k;cases op<;>first|exact(Ac h).elim|skip
 . refine A0.Cg h ?_;clear h;intro a AB AP h;refine A0.Bx h ?_;clear h;intro b C3 h;(first|(revert k;(first|apply BX h|apply B5 h|apply BY h|apply BZ h|apply B_ h);intro k)|apply BX h|apply B5 h|apply BY h|apply BZ h|apply B_ h);refine bz5 (A9.e AP g _ _ λu A_ AJ AN Ab Aq=>bS2 (Lo.truthy AN Aq C3 _ _ λy BS Ax Ap B8 BQ=>?_));subst BQ;exact k _ BS Ax Ap (Ab.trans B8) rfl
 . refine A0.Cg h ?_;clear h;intro a AB AP h;revert AP;apply Cu h Ac;intro i h AP;(first|(revert k;(first|apply BX h|apply B5 h|apply BY h|apply BZ h|apply B_ h);intro k)|apply BX h|apply B5 h|apply BY h|apply BZ h|apply B_ h);refine bz5 (A9.e AP g _ _ λu A_ AJ AN Ab Aq=>?_);refine xE Aq ?_;(try clear Aq);intro t Bg;subst Bg;exact PySem.P.neg_int (k (.int _ AJ.toks) A_ _ (AN.tok _) Ab ⟨_,rfl⟩)
theorem Gd.push(g:Gd B F K A H C s)(o:Bi)(tk:O):Gd B F K A H C {s with heap:=s.heap.push o,toks:=tk}/\Nx F.D [] s.heap (s.heap.push o) C C:=have kp:∀b o',s.heap.get? b=G o'->(s.heap.push o).get? b=G o':=λb o e=>C1 _ e;⟨g.ext kp,Nx.ext kp⟩
theorem ai1(AG:Cx B A3 Kf)(g:Gd B F K A H C s){o:V}{a:U}(h:k3 A3 o a H=.ok (.v v) A7)(r:VR s.heap C o u)(WU:AK):Ae B F K A A7 C s (V0 u a WU) (RV v):=by
 revert r;apply EI h Ac;intro i h r;refine A0.Bx h λob hi h=>?_;revert hi;apply je h
 . intro c d h hi;refine A0.Be h λhc h=>A0.Bx h λob hd h=>?_;revert hd;apply Zk h Ac;intro N h hd;refine A0.Bx h λw hv h=>A0.Be h λhn h=>?_;apply B5 h;exact zb AG g (CD (B1 hc)▸hi) hd (Ak hc) hv hn r WU
 intro h;apply jd h
 . intro h hi;refine A0.Be h λhc h=>?_;apply B5 h;apply aJ hc;refine AC r ?_;(try clear r);intro d hd Bu;subst Bu;refine xE (g.obj hi hd) ?_;intro led ho;intro A2 E k;obtain⟨hh,gg,dd,tt,bW3⟩:=s;have gp:=g.push {cls:=.type "builtin_function_or_method",data:=.fields #[.builtin "set.__contains__",.ref d]} (tt+1);exact af0 ho (k _ C _ gp.1 gp.2 ⟨_,d,rfl,hd,CY _ rfl⟩)
 intro h;apply JD h Ac;intro N h hi;refine A0.Be h λhc h=>?_;apply B5 h;apply aJ hc;refine AC r ?_;(try clear r);intro d hd C9;subst C9;have ro:=g.obj hi hd;have ho:∃N ep,s.heap.get? d=G {cls:=.type "dict",dict:=L,data:=.dict N ep,slots:=#[]}:=by
  (rcases ro with D8|DX;refine AC D8 ?_;(try clear D8);intro Az Ed _;obtain⟨⟨_,_,_,_⟩,BN,e,⟨hc,hn,hs⟩,hd,_⟩:=Ed;rotate_left;refine AC DX ?_;(try clear DX);intro Az FE _;obtain⟨⟨_,_,_,_⟩,BN,e,⟨hc,hn,hs⟩,hd,_⟩:=FE;rotate_left)<;>. simp only at hc hn hs hd;subst hc hn hs hd;exact⟨_,_,e⟩
 refine DB ho ?_;(try clear ho);intro BN ep ho;intro A2 E k;obtain⟨hh,gg,dd,tt,bW3⟩:=s;have gp:=g.push {cls:=.type "builtin_function_or_method",data:=.fields #[.builtin "dict.get",.ref d]} (tt+1);exact af5 ho (k _ C _ gp.1 gp.2 ⟨_,d,rfl,hd,CY _ rfl⟩)
theorem ai2(AG:Cx B A3 Kf)(A9:C5 B A3 n){o:AA}{a:U}(h:Fp A3 K (ev A3 n) (.Attribute o a pos) H=.ok (.v v) A7)(g:Gd B F K A H C s):Ae B F K A A7 C s (eval (.Attribute o a pos) F.env) (RV v):=by
 refine A0.Be h ?_;clear h;intro hs h;refine A0.Cg h ?_;clear h;intro w AB AP h;intro A2 E k;rw[PySem.arm_eval_Attribute,ag hs];refine A5 (A9.e AP g _ _ λu A_ AJ AN Ab Aq=>A5 (El (A5 (C0 (ai1 AG AN h Aq M _ _ λy Au Ai AU Al BB=>?_)))));exact A5 (bz6 (AW (k y Au Ai AU (Ab.trans Al) BB)))
end
theorem ai3{l:A8}{k:AX}{v:A4}{A2:DM->AR->Prop}(hl:s.heap.PlainList l Cb)(h0:0<=k)(mC:k<2^63)(hn:k<Cb.size)(hQ:∀Q,Q.PlainList l (Cb.setIfInBounds k.toNat v)->E4 l s.heap Q->A2 () {s with heap:=Q}):AH (AQ prog w) A (Rk (.ref l) (.int k t) v) A2 E s:=by
 refine xE (id hl) ?_;intro n ho;have hL:=hl.isList;unfold Rk;try with_reducible refine C0 ?_
 first|refine A5 (AW ?_)|skip
 refine A5 (tR hL.typeIs (by decide) ?_);refine A5 (Ls (name:=Ev "__setitem__") hL.typeIs bz7 (Gm bz7 hL.typeIs entry_list_setitem ?_ (args_list_setitem _ _ _)));show AH _ _ (bz8 (.int k t)>>=_) _ _ s;refine A5 (bz9 (fitsIndex_of h0 mC) ?_);clear mC;refine xE (Int.eq_ofNat_of_zero_le h0) ?_;intro j Aw;clear h0;subst Aw;have hj:j<Cb.size:=by omega
 have JO:Cb[j]?=G Cb[j]:=Rr hj;show AH _ _ ((seqItemAt l j>>=λr=>pure (r.map (j,·)))>>=_) _ _ s;refine A5 (A5 (bA0 ho rfl (AW ?_)));rw[JO];show AH _ _ (setSeqItemAt l j v>>=_) _ _ s;have mD:(s.heap.update l (GL (·.setIfInBounds j v))).PlainList l (Cb.setIfInBounds j v):=⟨_,FS _ ho rfl⟩;refine A5 (wpAny_setSeqItemAt ho rfl ?_);first
 |exact A5 (AW (AW ⟨.none,rfl,AW (hQ _ mD (Fh ..))⟩))|exact AW ⟨.none,rfl,AW (hQ _ mD (Fh ..))⟩
theorem Aa.set{v:I V}{u:I A4}{x:V}{y:A4}(r:Aa h C v u)(q:VR h C x y):Aa h C (v.set i x) (u.set i y):=Aa.ind (P:=λv u=>∀i,Aa h C (v.set i x) (u.set i y)) (λ_=>rfl) (λ_ _ _ _ a b ih i=>by cases i with|zero=>exact .cons q b|succ i=>exact .cons a (ih i)) r i
section
theorem ai4{k:AX}(g:Gd B F K A H C s)(hd:AL H.h i=G (.list Y))(ru:VR s.heap C (.ref i) u)(rk:VR s.heap C (.int k) ku)(rv:VR s.heap C v vu)(h0:0<=k)(h1:JG k=M)(h2:k<Y.length):Ae B F K A (H.set i (.list (Y.set k.toNat v))) C s (Rk u ku vu) RU:=by
 intro A2 E kk;refine AC ru ?_;(try clear ru);intro a ha B6;subst B6;refine xE rk ?_;(try clear rk);intro t BJ;subst BJ;refine AC (g.obj hd ha) ?_;intro us p r;have hl:Y.length=us.size:=by rw[r.length];simp
 have hm:=WW h1;refine ai3 p h0 (by omega) (by omega) λQ hp hs=>?_;refine xA (g.set (Q:=Q) (tk:=s.toks) (o':=.list (Y.set k.toNat v)) ha hd (λ_ _ e=>by(exfalso;cases e)) hs.extBut (by refine xE hp ?_;(try clear hp);intro n e;exact⟨_,e⟩) λim=>⟨_,hp,by
 have :=r.set (i:=k.toNat) rv;rw[Array.toList_setIfInBounds];exact this.Bw im⟩) ?_;intro g' x';exact kk () C _ g' x' trivial
theorem ai5(A9:C5 B A3 n){o i:AA}(h:Kz A3 K (ev A3 n) (.Subscript o i pos) v H=.ok (.f f) A7)(g:Gd B F K A H C s)(r:VR s.heap C v vu):CJ B F K A A7 C s (Ex (.Subscript o i pos) F.env vu) RU:=by
 refine A0.Cg h ?_;clear h;intro w AB AP h;refine A0.Cg h ?_;clear h;intro k Bc BD h;intro A2 E kk;skip;refine A5 (C0 (A9.e AP g _ _ λu A_ AJ AN Ab Aq=>A5 (C0 (A9.e BD AN _ _ λku Au Ai AU Al BB=>A5 (El (A5 (C0 ?_)))))));have fin:∀{GX:Mine.St}{l:I A4},Ae B F K A GX Au Ai (Rk u ku vu) RU->A7=GX->AH (AQ B.prog B.w) A (Rk u ku vu) (λ_ s'=>AH (AQ B.prog B.w) A (release l []) A2 E s') E Ai:=by
   intro GX l d e;subst e;exact d _ _ λ_ BS Ax Ap B8 _=>bx0 (kk () BS Ax Ap (Ab.trans (Al.trans B8)).FZ trivial)
 have ra:=Aq.nx Al;have rb:=(r.nx Ab).nx Al;revert AP Aq ra;apply EI h Ac;intro a h AP Aq ra;refine A0.Bx h ?_;clear h;intro ob hi h;revert hi;apply Jz h
 . intro Y h hi;revert rb BB BD;apply Cu h Ac;intro k h BD BB rb;refine A0.Be h ?_;clear h;intro hc h;simp only[D6,PV]at hc;exact fin (ai4 AU hi ra BB rb hc.1.2 hc.1.1 hc.2) (FG h).2.symm
 . intro h;apply JD h Ac;intro N h hi;refine A0.Be h ?_;clear h;intro hc h;exact fin (zU AU hi ra BB rb (B1 hc) (Ak hc)) (FG h).2.symm
end
set_option tactic.hygienic true in
theorem ai6:∀{n:O}{e:AA},MN n e=M->∀m,n<=m->YQ m e=A6:=by
 intro n;induction n with
 |zero=>
  intro e h m _;cases e<;>first|(exact(E5 h).elim;done)|(cases m<;>rfl)|skip
  have h:(!Cw _ ⟨⟨[95,95,100,101,98,117,103,95,95]⟩⟩)=M:=h;have h:=L3.mp (by simpa using h);have :=Ln.mpr h;cases m<;>exact this|succ n ih=>
  intro e h m hm;cases m with
 |zero=>omega|succ m=>
  have hm:=sj hm;cases e<;>first|(exact(E5 h).elim;done)|rfl|skip
  case BinOp l op r p=>
   have h:(MN n l||MN n r)=M:=h;show(YQ m l&&YQ m r)=A6;rcases(tu _ _).mp h with h|h;. rw[ih h m hm];rfl
   . rw[ih h m hm];simp
  case UnaryOp op x p=>exact ih (e:=x) h m hm
  case Name id p=>
   have h:(!Cw id ⟨⟨[95,95,100,101,98,117,103,95,95]⟩⟩)=M:=h;have h:=L3.mp (by simpa using h);exact Ln.mpr h
  case Subscript v i p=>
   show(YQ m v&&YQ m i)=A6;rw[ih (e:=v) h m hm];rfl
noncomputable def Q_(env:Gh)(ln:O):AA->AD U:=λ|.Name id pos=>if env.kindOf id==G .local&&pos.line==ln then G id else L|_=>L
theorem Wb:∀{Bf:I U},Sw ts=G Bf->ts.length=Bf.length/\ts.all CP=M/\∀(env:Gh)(l:O),(ts.filterMap (Q_ env l)).length=ts.length->ts.filterMap (Q_ env l)=Bf:=by induction ts with
 |nil=>intro Bf h;exact Br h (P:=λBf=>[].length=Bf.length/\[].all CP=M/\∀(env:Gh)(l:O),([].filterMap (Q_ env l)).length=[].length->[].filterMap (Q_ env l)=Bf) ⟨rfl,rfl,λ_ _ _=>rfl⟩|cons t ts ih=>
 intro Bf h;apply EV (e:=t) h AF;intro id p h;refine BI h λl e h=>?_;obtain rfl:=Bm h;refine G5 (ih e) ?_;intro h1 h2 h3;refine⟨congrArg (·+1) h1,h2,λenv ln hl=>?_⟩;have bD:=bA1 (Q_ env ln) ts;cases q:Q_ env ln (.Name id p)with
 |none=>rw[List.filterMap_cons_none q,V']at hl;exact absurd bD (by omega)|some x=>
 rw[bA2 q]at hl ⊢;rw[h3 env ln (YR hl)];have q:(if env.kindOf id==G .local&&p.line==ln then G id else L)=G x:=q;split at q;. rw[Bm q]
 . exact(BE q).elim
set_option tactic.hygienic true in
theorem ai7{Bf:I U}(h:Vx ts e=G Bf):∃LG k p,ts=[.Tuple LG k p]/\Sw LG=G Bf/\JK e=A6/\(fq ts e env=pure L\/fq ts e env=pure (G Bf)):=by
 apply Cs h AF;intro t h;apply S' h AF;intro LG k p h;apply S' h AF;intro vs k' p' h;refine Ce h AF λhn h=>?_;refine G5 (Wb h) ?_;intro h1 h2 h3;refine⟨LG,k,p,rfl,h,rfl,?_⟩;unfold fq;dsimp only;split;. exact .inl rfl
 split;. exact .inl rfl
 split;. exact .inl rfl
 rename_i hl;split;. exact .inl rfl
 split
 . rename_i hc;refine AC (II.mp hn) ?_;intro v hv Bh;have :=(Bn.mp hc) v hv;rw[ai6 Bh 8 (by decide)]at this;exact(E5 this).elim
 . refine .inr ?_;have hl:=(gd.mp λz=>hl ((tu _ _).mpr z)).1;have :=h3 env ((LG.head?.map λx:AA=>x.pos.line).getD 0) (bA3 λz=>hl (bne_iff_ne.mpr z));exact congrArg (λz=>pure (G z)) this
theorem bQ:∀{l:I U},QF l=M->l.Nodup
 |[],_=>HM|x::l,h=>by
  simp only[QF,D6,PT]at h;refine EU.mpr ⟨λm=>?_,bQ h.2⟩;have :=Y9.mp h.1 x m;exact this (E2.mpr rfl)
theorem Wc:∀{Bf:I U}{vs:I V}{env:I (U×V)},x∉Bf->Ah (putAll env Bf vs) x=Ah env x
 |[],_,_,_=>rfl|_::_,[],_,_=>rfl|y::Bf,v::vs,env,h=>by
  show Ah (putAll (E_ env y v) Bf vs) x=_;rw[Wc (λm=>h (Cp _ m)),QI,CS];exactλz=>h (z▸Co)
theorem bR:∀{Bf:I U}{vs:I V}{env:I (U×V)},Bf.Nodup->(x,v)∈Bf.zip vs->Ah (putAll env Bf vs) x=G v
 |[],_,_,_,h=>by simp at h|_::_,[],_,_,h=>by simp at h|y::Bf,u::vs,env,hn,h=>by
  refine xA (EU.mp hn) ?_;(try clear hn);intro hy hn;show Ah (putAll (E_ env y u) Bf vs) x=_;rw[bA4]at h;rcases Cj.mp h with h|h
  . injection h with h1 h2;subst h1;subst h2;rw[Wc hy,QI,DA rfl]
  . exact bR hn h
theorem ai8{Bf:I U}{env:I (U×V)}(hl:Bf.length=vs.length)(hn:Bf.Nodup)(x:U):Ah (putAll env Bf.reverse vs.reverse) x=Ah (putAll env Bf vs) x:=by
 by_cases hx:x∈Bf
 . obtain⟨i,hi,e⟩:=bA5.mp hx;have hm:(x,vs[i])∈Bf.zip vs:=by
    refine bA5.mpr ⟨i,by simp;(with_reducible exact Mine.w9 (by assumption) (by assumption)),?_⟩;simp[e]
   rw[bR hn hm,bR (v:=vs[i]) (List.pairwise_reverse.mpr (hn.imp λh z=>h z.symm))];have hz:∀{Bf:I U}{vs:I V},Bf.length=vs.length->(Bf.reverse.zip vs.reverse)=(Bf.zip vs).reverse:=by
    intro Bf;induction Bf with
 |nil=>intro vs h;simp|cons a Bf ih=>
    intro vs h;cases vs with
 |nil=>(exfalso;cases h)|cons b vs=>
    have h:Bf.length=vs.length:=by simpa using h
    rw[YS,YS,bA4,YS,<-ih h,List.zip_append (by simp[h])];rfl
   rw[hz hl];exact List.mem_reverse.mpr hm
 . rw[Wc hx,Wc (by simpa using hx)]
section
theorem Gd.ai9{env:I (U×V)}{h:I (O×Ob)}(g:Gd B F K A ⟨env,h,m⟩ C s)(e:∀x,Ah CV x=Ah env x):Gd B F K A ⟨CV,h,m⟩ C s:=⟨g.kinds,g.len,g.nodup,g.fresh,g.live,g.D5,g.D1,g.objs,by
 refine CZ g.env ?_;intro m ns ce r;exact⟨m,ns,ce,λx v q=>r x v ((e x).symm.trans q)⟩,g.base,g.os,g.gens,g.frames,g.DT,g.Cy,g.mods,g.handled,g.depth,g.units⟩
theorem mE(hi:G8 K.sc id=M)(g:Gd B F K A H C s)(r:VR s.heap C v u):CJ B F K A ⟨E_ H.env id v,H.h,H.n⟩ C s (fa F.env id u) RU:=aU (A3:=⟨[],λ_=>L,0,0,0,0,0,0,M,[],λ_ _ _=>L⟩) (n:=0) (id:=id) (pos:=⟨0,0,0,0⟩) (f:=.next) (congrArg (A0.iff · _) hi) g r
theorem aj0:∀{Bf:I U}{us:I A4}{H:Mine.St}{C:I A8}{s:AR},Bf.all (G8 K.sc)=M->Bf.length=vs.length->Gd B F K A H C s->Aa s.heap C vs us->CJ B F K A ⟨putAll H.env Bf vs,H.h,H.n⟩ C s (NT (Bf.map λn=>ge F.env n) us) RU:=by induction vs with
 |nil=>intro Bf us H C s _ hl g e;cases Bf with
  |nil=>cases e;exactλA2 E k=>AW (k () C s g (Nx.refl ..) trivial)|cons id Bf=>exact(nomatch hl)
 |cons v vs ih=>intro Bf us H C s ho hl g e;cases Bf with
 |nil=>exact(nomatch hl)|cons id Bf=>
  revert e;intro e A2 E k;refine Bv e ?_;clear e;intro u us e r rs;subst e;show AH _ A (do Hf us (ge F.env id u);NT (Bf.map λn=>ge F.env n) us) A2 E s;refine A5 (C0 (wpAny_bindName (mE (B1 ho) g r _ _ λ_ A_ AJ AN Ab _=>?_)));exact ih (Ak ho) (YR hl) AN (rs.nx Ab) _ _ λ_ Au Ai AU Al _=>k () Au Ai AU (Ab.trans Al) trivial
theorem aj1:∀{ts:I AA}{Bf:I U}{us:I A4}{H:Mine.St}{C:I A8}{s:AR},Sw ts=G Bf->Bf.all (G8 K.sc)=M->Bf.length=vs.length->Gd B F K A H C s->Aa s.heap C vs us->CJ B F K A ⟨putAll H.env Bf vs,H.h,H.n⟩ C s (NT ((GJ ts F.env).map (·.2)) us) RU:=by induction vs with
 |nil=>intro ts Bf us H C s hm _ hl g e;cases Bf with
  |nil=>cases ts with
   |nil=>cases e;exactλA2 E k=>AW (k () C s g (Nx.refl ..) trivial)|cons t ts=>exact(bA6 (Wb hm).1)
  |cons id Bf=>exact(nomatch hl)
 |cons v vs ih=>intro ts Bf us H C s hm ho hl g e;cases Bf with
 |nil=>exact(nomatch hl)|cons id Bf=>cases ts with
 |nil=>exact(bA6 (Wb hm).1)|cons t ts=>
   apply EV (e:=t) hm AF;intro Tb p hm;refine BI hm λl e2 q=>?_;refine Bv e ?_;clear e;intro u us e r rs;subst e;injection Bm q with q1 q2;subst q1;subst q2;intro A2 E k;show AH _ A (do Hf us (Ex (.Name Tb p) F.env u);NT ((GJ ts F.env).map (·.2)) us) A2 E s;refine A5 (C0 (bs2 (mE (B1 ho) g r _ _ λ_ A_ AJ AN Ab _=>?_)));exact ih e2 (Ak ho) (YR hl) AN (rs.nx Ab) _ _ λ_ Au Ai AU Al _=>k () Au Ai AU (Ab.trans Al) trivial
theorem Aa.reverse{v:I V}{u:I A4}(r:Aa h C v u):Aa h C v.reverse u.reverse:=Aa.ind (P:=λv u=>Aa h C v.reverse u.reverse) rfl (λ_ _ _ _ a _ ih=>by rw[YS,YS];exact ih.app (.cons a (vs:=[]) rfl)) r
theorem aj2(A9:C5 B A3 n)(h:(A0.of (Vx ts e) λBf=>(ev A3 n K (.e e) H).V λv H=>FU v .bad λo vs=>oN o .bad (A0.iff (BC Bf.length vs.length&&Bf.all (G8 K.sc)&&QF Bf) (.ok (.f .next) ⟨putAll H.env Bf vs,H.h,H.n⟩)))=.ok (.f f) A7)(g:Gd B F K A H C s):CJ B F K A A7 C s (exec (.Assign ts e pos) F.env) (FR f):=by
 refine A0.Bx h ?_;clear h;intro Bf hs h;refine A0.Cg h ?_;clear h;intro v AB AP h;revert AP;apply IQ h Ac;intro o vs h;apply GP h Ac;intro h AP;refine A0.Be h ?_;clear h;intro hc h;(first|(revert k;(first|apply BX h|apply B5 h|apply BY h|apply BZ h|apply B_ h);intro k)|apply BX h|apply B5 h|apply BY h|apply BZ h|apply B_ h);simp only[D6]at hc;refine xA hc ?_;(try clear hc);intro Bq hn;refine xA Bq ?_;(try clear Bq);intro hl ho;have hl:=CD hl;have hn:=bQ hn;refine JA (ai7 (env:=F.env) hs) ?_;intro LG k' p' Bg hm aj3 hw;subst Bg;intro A2 E k;skip;refine A5 (El ?_);have av:bA7 [.Tuple LG k' p'] e pos.line F.env=pure A6:=by
   show Y8 e (G (.Tuple LG k' p')) pos.line F.env=pure A6;exact TB aj3
 rw[av];refine A5 (AW ?_);skip;refine A5 (A9.eW AP g _ _ λu A_ AJ AN Ab Aq=>?_);refine Bv (QL Aq) ?_;intro a us Bu ht rs;subst Bu;have Ch:Bf.length=us.size:=by rw[hl,rs.length];simp
 have kp:∀Q,Ds AJ.heap.objs.size AJ.heap Q->∀b o,AJ.heap.get? b=G o->Q.get? b=G o:=λQ hx b o e=>hx b o (ER (Dh e)) e;rcases hw with hw|hw
 . rw[hw];refine A5 (AW ?_);show AH _ A (do Ex (.Tuple LG k' p') F.env (.ref a);pure .next) A2 E AJ;refine G5 (Wb hm) ?_;intro h1 h2 _;refine A5 (br6 AN.handled ht (by rw[WA,h1,Ch]) (WB h2) λQ hx=>?_);have Al:Nx F.D F.AZ AJ.heap Q A_ A_:=Nx.ext (kp Q hx);exact aj1 hm ho hl (AN.ext (tk:=AJ.toks) (kp Q hx)) (rs.nx Al) _ _ λ_ BS Ax Ap B8 _=>AW (k _ BS Ax Ap (Ab.trans (Al.trans B8)) rfl)
 . rw[hw];refine A5 (AW ?_);show AH _ A (do YM "assign.swapped-stores";let Cb<-unpackItems (.ref a) Bf.length L;NT (Bf.reverse.map λn=>ge F.env n) Cb.reverse;pure .next) A2 E AJ;refine A5 (Gk ?_);rw[Ch];refine A5 (wpAny_unpackItems_tuple AN.handled ht λQ hx=>?_);have Al:Nx F.D F.AZ AJ.heap Q A_ A_:=Nx.ext (kp Q hx);refine A5 (aj0 (Bf:=Bf.reverse) (vs:=vs.reverse) (by rw[List.all_reverse];exact ho) (by simp[hl]) (AN.ext (tk:=AJ.toks) (kp Q hx)) (rs.nx Al).reverse _ _ λ_ BS Ax Ap B8 _=>AW (k _ BS Ax (Ap.ai9 ?_) (Ab.trans (Al.trans B8)) rfl));exactλx=>(ai8 hl hn x).symm
end
section
theorem aj4{e it:A8}{c:O}{GG:A4}{A2:AD A4->AR->Prop}(he:M1 s.heap e it i GG)(Bz:s.heap.IsStrIter it "str_ascii_iterator" x t i)(hx:x.cps[i]?=G c)(Cc:e≠it)(hQ:∀AP Q a tk Mi Ei y,Ds it s.heap AP->Ds e AP Q->gf Q e it ((i:AX)+1) y a->Q.IsStrIter it "str_ascii_iterator" x t (i+1)->Q.get? a=G {cls:=.type "tuple",data:=.seq #[.int i Mi,.str ⟨#[c]⟩ Ei]}->A2 (G (.ref a)) {s with heap:=Q,toks:=tk}):AH (AQ prog w) A (ES (.ref e)) A2 E s:=by
 have hT:s.TypeIs (.ref e) "enumerate":=⟨_,he,rfl⟩;unfold ES;refine A5 (Rn (Ls (name:=Ev "__next__") hT gh (Gm gh hT bA8 ?_ (bA9 _))));obtain⟨hp,g,d,tk,os⟩:=s;show AH _ _ (Kn (.ref e) 2>>=_) _ _ _;refine A5 (Go he rfl (x:=.ref it) rfl ?_);refine A5 (wpAny_nextOf_ascii_item Bz hx λAP QV H_=>?_);replace H_:E4 it hp AP:=H_;have Qa:M1 AP e it i GG:=(H_.2 e Cc).trans he;show AH _ _ (Kn (.ref e) 3>>=_) _ _ ⟨AP,g,d,tk+1,os⟩;refine A5 (Go Qa rfl (x:=ET i) rfl ?_);show AH _ _ (Kn (.ref e) 4>>=_) _ _ ⟨AP,g,d,tk+1,os⟩;refine A5 (Go Qa rfl (x:=.none) rfl ?_);show AH _ _ (mkInt i>>=_) _ _ ⟨AP,g,d,tk+1,os⟩;refine A5 (wpAny_mkInt ?_);show AH _ _ (u6 (.ref e) 3 (ET ((i:AX)+1))>>=_) _ _ ⟨AP,g,d,tk+1+1,os⟩;refine A5 (YT Qa (by simp) λBD Ij QW=>?_);replace QW:E4 e AP BD:=QW;replace Ij:M1 BD e it ((i:AX)+1) GG:=Ij;show AH _ _ (u6 (.ref e) 4 .none>>=_) _ _ ⟨BD,g,d,tk+1+1,os⟩;refine A5 (YT Ij (by simp) λC3 JQ Wd=>?_);replace Wd:E4 e BD C3:=Wd;replace JQ:M1 C3 e it ((i:AX)+1) GG:=JQ;show AH _ _ (YJ [.int i (tk+1),.str ⟨#[c]⟩ tk]>>=_) _ _ ⟨C3,g,d,tk+1+1,os⟩;refine A5 (gi ?_);have We:M1 (C3.push {cls:=.type "tuple",data:=.seq #[.int i (tk+1),.str ⟨#[c]⟩ tk]}) e it ((i:AX)+1) GG:=C1 _ JQ;have bS:=CY C3 (o:={cls:=.type "tuple",data:=.seq #[.int i (tk+1),.str ⟨#[c]⟩ tk]}) rfl;have Qb:Ds e AP (C3.push {cls:=.type "tuple",data:=.seq #[.int i (tk+1),.str ⟨#[c]⟩ tk]}):=λb o mF hb=>C1 _ (Wd.extBut b o mF (QW.extBut b o mF hb));have bU:(C3.push {cls:=.type "tuple",data:=.seq #[.int i (tk+1),.str ⟨#[c]⟩ tk]}).IsStrIter it "str_ascii_iterator" x t (i+1):=by refine AC QV ?_;(try clear QV);intro o ho r;exact⟨o,Qb _ _ (CX Cc) ho,r⟩
 have mG:C3.objs.size≠e:=PX (Dh JQ);show AH _ _ (bS3 (.ref e)>>=_) _ _ ⟨C3.push {cls:=.type "tuple",data:=.seq #[.int i (tk+1),.str ⟨#[c]⟩ tk]},g,d,tk+1+1,os⟩;generalize C3.push {cls:=.type "tuple",data:=.seq #[.int i (tk+1),.str ⟨#[c]⟩ tk]}=FH at We bS Qb bU;generalize C3.objs.size=a at bS mG;clear JQ Wd Ij QW;refine A5 ?_;skip;refine A5 (Go We rfl (x:=.none) rfl (AW ?_));skip;refine A5 (Gk ?_);refine A5 (Go We rfl (x:=GG) rfl ?_);refine A5 (YT We (by simp) λM_ bV bW=>?_);replace bW:E4 e FH M_:=bW;replace bV:M1 M_ e it ((i:AX)+1) (.str ⟨#[c]⟩ tk):=bV;show AH _ _ (bS4 (.ref e) (.ref a)>>=_) _ _ ⟨M_,g,d,tk+1+1,os⟩;refine A5 ?_;skip;refine A5 (YT bV (by simp) λTG bX bY=>?_);replace bY:E4 e M_ TG:=bY;replace bX:gf TG e it ((i:AX)+1) (.str ⟨#[c]⟩ tk) a:=bX;refine YT bX (by simp) λWf bZ b_=>?_;replace b_:E4 e TG Wf:=b_;replace bZ:gf Wf e it ((i:AX)+1) (.str ⟨#[c]⟩ tk) a:=bZ;have k7:Ds e FH Wf:=λb o hb z=>b_.extBut b o hb (bY.extBut b o hb (bW.extBut b o hb z));refine A5 (Pg (AW ⟨_,rfl,AW (hQ AP Wf a _ _ _ _ H_.extBut (λb o hb z=>k7 b o hb (Qb b o hb z)) bZ ?_ (k7 _ _ mG bS))⟩));refine AC bU ?_;(try clear bU);intro o ho r;exact⟨o,k7 _ _ (CX Cc) ho,r⟩
theorem aj5{e it:A8}{GG:A4}{A2:AD A4->AR->Prop}(hh:A.handled=L)(he:M1 s.heap e it i GG)(Bz:s.heap.IsStrIter it "str_ascii_iterator" x t i)(hx:x.cps[i]?=L)(hQ:∀Q,Ds it s.heap Q->A2 L {s with heap:=Q}):AH (AQ prog w) A (ES (.ref e)) A2 E s:=by
 have hT:s.TypeIs (.ref e) "enumerate":=⟨_,he,rfl⟩;unfold ES;refine A5 (Rn (Ls (name:=Ev "__next__") hT gh (Gm gh hT bA8 ?_ (bA9 _))));show AH _ _ (Kn (.ref e) 2>>=_) _ _ _;refine A5 (Go he rfl (x:=.ref it) rfl ?_);refine A5 (wpAny_nextOf_ascii_end hh Bz hx λQ x he' JO=>?_);refine AC JO ?_;(try clear JO);intro o ho hc;refine A5 (Ly (T:="StopIteration") (b:=M) ⟨o,ho,hc⟩ gL ?_);exact AW (hQ _ he')
end
noncomputable def Qc(h:BK)(x:Tx)(i:O)(AE E1:A8):Prop:=AE≠E1/\(∃GG,M1 h AE E1 (i:O) GG)/\∃t,h.IsStrIter E1 "str_ascii_iterator" ⟨⟨x⟩⟩ t i
section
theorem Qc.nx{x:Tx}(r:Qc h x i AE E1)(y:Nx AM AZ h Q C AT)(hI:AE∉C)(hw:AE∉AZ)(hJ:E1∉C)(hw':E1∉AZ):Qc Q x i AE E1:=by
 refine vS r ?_;(try clear r);intro ne Aw t o e' c d;refine xE Aw ?_;(try clear Aw);intro GG e;exact⟨ne,⟨GG,y.keep AE _ e hI hw (λ_=>rfl)⟩,t,o,y.keep E1 o e' hJ hw' (λ_=>by unfold HB;rw[d]),c,d⟩
noncomputable def ba(B:Bs)(A3:Mine.Ctx)(n:O):Prop:=∀{K:Kx}{ts:I AA}{kd:O}{p:B9}{x:Tx}{i:O}{b:I As}{H A7:Mine.St}{f:Fl},ev A3 n K (.loop (.Tuple ts kd p) (.K2 x) i b) H=.ok (.f f) A7->∀{F:Fm}{A:CK}{C BG:I A8}{s:AR}{Af:BK}{AE E1:A8}{AS:Dt->AR->Prop},Gd B F K A H C s->Nx F.D F.AZ Af s.heap BG C->Af.get? AE=L->Af.get? E1=L->CM B F C s.heap AE->CM B F C s.heap E1->Qc s.heap x i AE E1->(∀u AT s',Gd B F K A A7 AT s'->Nx F.D F.AZ Af s'.heap BG AT->FR f s'.heap AT u->AS (.ok u) s')->D7 (AQ B.prog B.w) A (.forLoop (.Tuple ts kd p) (.ref AE) b [] F.env) AS s
theorem aj6(A9:C5 B A3 n)(Se:ba B A3 n){x:Tx}{b:I As}(h:step A3 K (ev A3 n) (.loop (.Tuple ts kd p) (.K2 x) i b) H=.ok (.f f) A7){AS:Dt->AR->Prop}(g:Gd B F K A H C s)(Cq:Nx F.D F.AZ Af s.heap BG C)(hI:Af.get? AE=L)(hJ:Af.get? E1=L)(fI:CM B F C s.heap AE)(fJ:CM B F C s.heap E1)(r:Qc s.heap x i AE E1)(k:∀u AT s',Gd B F K A A7 AT s'->Nx F.D F.AZ Af s'.heap BG AT->FR f s'.heap AT u->AS (.ok u) s'):D7 (AQ B.prog B.w) A (.forLoop (.Tuple ts kd p) (.ref AE) b [] F.env) AS s:=by
 have h:A0.of (IU (.K2 x) i H.h) _=_:=h;refine A0.Bx h ?_;clear h;intro o AP h;injection AP with AP;rw[HX]at AP;refine IM r ?_;(try clear r);intro ne B6 t Bz;refine xE B6 ?_;(try clear B6);intro GG he;have bW4:∀{h:BK}{e it:A8}{i:AX}{GG:A4},M1 h e it i GG->∀o,h.get? e=G o->C2 o=A6:=λe o q=>by rw[e]at q;injection q with q;subst q;rfl
 have bW5:∀{h:BK}{e it a:A8}{i:AX}{y:A4},gf h e it i y a->∀o,h.get? e=G o->C2 o=A6:=λe o q=>by rw[e]at q;injection q with q;subst q;rfl
 have cJ:∀{h:BK}{it:A8}{x:U}{t:EP}{i:O},h.IsStrIter it "str_ascii_iterator" x t i->∀o,h.get? it=G o->C2 o=A6:=λe o q=>by
  refine CZ e ?_;(try clear e);intro o' e' c _;rw[e']at q;injection q with q;subst q;unfold C2;rw[c];rfl
 refine MX ?_;cases hx:x[i]? with
 |none=>
  rw[hx]at AP;subst AP;(first|(revert k;(first|apply BX h|apply B5 h|apply BY h|apply BZ h|apply B_ h);intro k)|apply BX h|apply B5 h|apply BY h|apply BZ h|apply B_ h);exact aj5 g.handled he Bz (by simpa using hx) λQ kx=>k _ C _ (g.move (tk:=s.toks) fJ kx (cJ Bz)) (Cq.F2 kx hJ) rfl|some c=>
  rw[hx]at AP;subst AP;refine A0.Hw h ?_;clear h;intro _ Bc BD h;refine A0.Hw h ?_;clear h;intro d GX C3 h;refine aj4 he Bz (c:=c) (by simpa using hx) ne λhA hB a tk Mi Ei y kA kB eo ei et=>?_;have mH:M1 hA AE E1 i GG:=kA _ _ ne he;have bW6:=g.move (tk:=tk) fJ kA (cJ Bz);have fIA:CM B F C hA AE:=fI.at ⟨_,mH⟩;have bW7:=Gd.move (s:={s with heap:=hA,toks:=tk}) (tk:=tk) bW6 fIA kB (bW4 mH);have fIB:CM B F C hB AE:=fI.at ⟨_,eo⟩;have fJB:CM B F C hB E1:=fJ.at (by refine AC ei ?_;(try clear ei);intro o e _;exact⟨o,e⟩);have bW8:Nx F.D F.AZ Af hB BG C:=(Cq.F2 kA hJ).F2 kB hI;refine wpAny_letOwnedTupleGo_enum eo λhC eC sC=>?_;replace sC:E4 AE hB hC:=sC;have bW9:=Gd.move (s:={s with heap:=hB,toks:=tk}) (tk:=tk) bW7 fIB sC.extBut (bW5 eo);have bb:CM B F C hC AE:=fI.at ⟨_,eC⟩;have bc:hC.IsStrIter E1 "str_ascii_iterator" ⟨⟨x⟩⟩ t (i+1):=by refine AC ei ?_;(try clear ei);intro o e r;exact⟨o,sC.extBut _ _ (CX ne) e,r⟩
  have be:CM B F C hC E1:=fJ.at (by refine AC bc ?_;(try clear bc);intro o e _;exact⟨o,e⟩);have yC:Nx F.D F.AZ Af hC BG C:=bW8.F2 sC.extBut hI;have ne':a≠AE:=λz=>by rw[z,eo]at et;injection et with et;have :=congrArg Obj.cls et;injection this with this;exact absurd this (by decide)
  have etC:hC.get? a=G {cls:=.type "tuple",data:=.seq #[.int i Mi,.str ⟨#[c]⟩ Ei]}:=sC.extBut _ _ ne' et;have bX0:Qc hC x (i+1) AE E1:=⟨ne,⟨_,eC⟩,t,bc⟩;refine A9.asg BD bW9 (u:=.ref a) ⟨a,_,_,_,rfl,etC,⟨rfl,λ_=>⟨rfl,rfl⟩⟩,rfl,rfl,_,_,rfl,⟨Mi,rfl⟩,_,_,rfl,⟨Ei,rfl⟩,rfl⟩ _ _ λ_ Au Ai AU Al _=>A9.ss C3 AU _ _ λMY BS Ax Ap B8 BQ=>?_;have xx:=Al.trans B8;have Ep:=yC.trans xx;have mI:=bb.nx xx;have mJ:=be.nx xx;have mK:=bX0.nx xx bb.C bb.w be.C be.w;cases d with
 |next=>cases BQ;exact Se h Ap Ep hI hJ mI mJ mK k|cont=>cases BQ;exact Se h Ap Ep hI hJ mI mJ mK k|brk=>
   cases BQ;(first|(revert k;(first|apply BX h|apply B5 h|apply BY h|apply BZ h|apply B_ h);intro k)|apply BX h|apply B5 h|apply BY h|apply BZ h|apply B_ h);exact k _ BS Ax Ap Ep rfl|ret v=>
   refine AC BQ ?_;(try clear BQ);intro y Bq BQ;subst Bq;(first|(revert k;(first|apply BX h|apply B5 h|apply BY h|apply BZ h|apply B_ h);intro k)|apply BX h|apply B5 h|apply BY h|apply BZ h|apply B_ h);exact k _ BS Ax Ap Ep ⟨y,rfl,BQ⟩
end
noncomputable def Wg:U:=⟨⟨[101,110,117,109,101,114,97,116,101]⟩⟩
section
theorem aj7(A9:C5 B A3 n){body:I As}{Af:RQ}{hs:I RQ}(h:ev A3 n K (.ss body) H=.ok (.f f) A7)(g:Gd B F K A H C s):CJ B F K A A7 C s (exec (.Try body (Af::hs) [] [] pos) F.env) (FR f):=by
 intro A2 E k;refine bB0 (A9.ss h g _ _ λu A_ AJ AN Ab Aq=>?_);cases f with
 |next=>cases Aq;exact G1 (k .next A_ AJ AN Ab rfl)|brk=>cases Aq;exact k _ A_ AJ AN Ab rfl|cont=>cases Aq;exact k _ A_ AJ AN Ab rfl|ret v=>refine AC Aq ?_;(try clear Aq);intro y Aw Aq;subst Aw;exact k _ A_ AJ AN Ab ⟨y,rfl,Aq⟩
theorem Wh{x:AA}(hp:CP x=M)(d:Ae B F K A A7 C s (eval x F.env) (RV v))(pos:B9):Ae B F K A A7 C s (Lp (F9 pos (E' [x] F.env))) (OA [v]):=by
 intro A2 E k;refine Lq (d _ _ λu A_ AJ AN Ab Aq=>Up (k [u] A_ AJ AN Ab ⟨u,[],rfl,Aq,rfl⟩)) (K7 hp)
theorem aj8(hg:Di sc id=M):D0 sc id=A6:=AC (W6 (P:=λk=>isIn [.local,.cell,.free] (G k)=A6) hg (all_cons rfl EE)) λk e c=>(congrArg (isIn [.local,.cell,.free]) e).trans c
theorem mL{w:A4}(hg:Di K.sc id=M)(hw:Ah A3.glob id=G (.top w)):Fp A3 K (ev A3 0) (.Name id p) H=.ok (.v (.top w)) H:=by
 show bC (D0 K.sc id) _ (bC (Di K.sc id) (Fk (Ah A3.glob id) H) _)=_;rw[aj8 hg,hg,hw];rfl
theorem Wi{Bl:Gl B A3}{args:I AA}{w:A4}(hg:Di K.sc id=M)(hw:Ah A3.glob id=G (.top w))(hp:args.all CP=M)(g:Gd B F K A H C s)(h:∀A_ AJ,Gd B F K A H A_ AJ->Nx F.D [] s.heap AJ.heap C A_->AH (AQ B.prog B.w) A (Lp (F9 pos (E' args F.env))) (λus s'=>CW (AQ B.prog B.w) s'.heap w/\AH (AQ B.prog B.w) A (CE w us) A2 E s') E AJ):AH (AQ B.prog B.w) A (eval (.Call (.Name id p) args [] pos) F.env) A2 E s:=by
 rw[show eval (.Call (.Name id p) args [] pos) F.env=(do PY pos (<-eval (.Name id p) F.env) [] (F9 pos (E' args F.env)) [])from rfl];refine A5 (bP Bl (mL hg hw) g _ _ λu A_ AJ AN Ab Aq=>?_);cases Aq;refine fy (P:=λh=>CW (AQ B.prog B.w) h w) (by rw[WF hp];rfl) (λh c=>c) ?_;have this:=h A_ AJ AN Ab;cases args with
 |nil=>exact af this|cons x l=>rw[K7 (B1 hp)]at this ⊢;exact tI this
theorem bf{Bl:Gl B A3}{args:I AA}{w:A4}(hg:Di K.sc id=M)(hw:Ah A3.glob id=G (.top w))(hc:∀h,CW (AQ B.prog B.w) h w)(hp:args.all CP=M)(g:Gd B F K A H C s)(h:∀BG EN p,Gd B F K A H BG EN->Nx F.D [] s.heap EN.heap C BG->Ae B F K A AB BG EN (Lp (F9 p (E' args F.env))) (OA vs))(hk:∀us A_ AJ,Gd B F K A AB A_ AJ->Nx F.D [] s.heap AJ.heap C A_->Aa AJ.heap A_ vs us->AH (AQ B.prog B.w) A (CE w us) A2 E AJ):AH (AQ B.prog B.w) A (eval (.Call (.Name id p) args [] pos) F.env) A2 E s:=Wi (Bl:=Bl) hg hw hp g λA_ AJ AN Ab=>h A_ AJ pos AN Ab _ E λus Au Ai AU Al BB=>⟨hc _,hk us Au Ai AU (Ab.trans Al) BB⟩
theorem Qd{f:AA}{m:D9}(h:O4 f m=M){P:AA->Prop}(k:∀p,P (.Name (Ev m) p)):P f:=by
 apply EV h B0;intro id p h;rw[E2.mp h];exact k p
theorem aj9{it x:AA}(h:Sk it=G x):∃p pos,it=.Call (.Name Wg p) [x] [] pos:=by
 apply M5 h AF;intro f a k pos h;apply Cs h AF;intro y h;apply EW h AF;intro h;refine Ce h AF λq h=>?_;apply Qd q;intro p;apply Br h.symm;exact⟨p,pos,rfl⟩
theorem ak0(Bl:Gl B A3)(hen:Ah A3.glob Wg=G (.top (.type "enumerate")))(A9:C5 B A3 n)(Se:ba B A3 n){t it x:AA}{b:I As}(he:Sk it=G x)(h:IW K (ev A3 n) (.For t it b [] pos) H=.ok (.f f) A7)(g:Gd B F K A H C s):CJ B F K A A7 C s (exec (.For t it b [] pos) F.env) (FR f):=by
 refine M6 h (λx' e q=>?_) λe _=>by rw[he]at e;exact(AF e.symm).elim
 clear h;revert q;intro h;rw[he]at e;injection e with e;subst e;apply S' h Ac;intro ts kd p h;refine A0.Be h ?_;clear h;intro hg h;simp only[D6]at hg;refine A0.Cg h ?_;clear h;intro v AB AP h;revert AP;apply Dd h Ac;intro tx h AP;refine A0.Be h ?_;clear h;intro ha h;refine DB (aj9 he) ?_;intro bX1 bX2 BP;clear he;subst BP;intro A2 E k;refine Y7 (bf (Bl:=Bl) (vs:=[.str tx]) hg.1 hen (λ_=>CW.type) (by simp[hg.2]) g (λBG EN p Fa Cq=>Wh hg.2 (A9.e AP Fa) p) λus A_ AJ AN Ab Aq=>?_) (λ_=>rfl);refine Bv Aq ?_;(try clear Aq);intro u us Bq Bg e;subst Bq;refine xE Bg ?_;(try clear Bg);intro tk Bu;subst Bu;cases e;refine call_enumerate_str λQ he Bz Ee kp=>?_;have hJ:AJ.heap.get? AJ.heap.objs.size=L:=GD AJ.heap;have hI:AJ.heap.get? (AJ.heap.objs.size+1)=L:=by cases e:AJ.heap.get? (AJ.heap.objs.size+1)with
 |none=>rfl|some o=>exact absurd (Dh e) (Uq.mpr (PQ _))
 have ty:strIterType ⟨⟨tx⟩⟩="str_ascii_iterator":=by
  unfold strIterType;rw[DA];rw[Bn]at ha;show(YU tx).all _=M;rw[<-Array.all_toList,Bn];intro c hc;have :=ha c hc;have :c<128:=gX (Dk this);simpa using this
 rw[ty]at Bz;refine wpAny_pyIter_enum he ?_;have x':Nx F.D F.AZ AJ.heap Q A_ A_:=Nx.ext kp;exact Se h (AN.ext (tk:=AJ.toks) kp) x' hI hJ (AN.freeOf hI ⟨_,he⟩) (AN.freeOf hJ (by refine AC Bz ?_;(try clear Bz);intro o e _;exact⟨o,e⟩)) ⟨u7 _,⟨_,he⟩,tk,Bz⟩ λu BS Ax Ap B8 BQ=>k u BS Ax Ap (Ab.FZ.trans B8) BQ
end
theorem ak1{x y:Ob}:(H.set i x).set i y=H.set i y:=by show Mine.St.mk _ (putN (putN H.h i x) i y) _=_;rw[xf];rfl
theorem ak2{x y:Ob}:(H.new x).2.set H.n y=(H.new y).2:=by
 show Mine.St.mk _ (putN ((H.n,x)::H.h) H.n y) _=_;unfold putN;simp only[J1];rfl
noncomputable def Qe(h:BK)(C:I A8):I (V×V)->I (A4×A4)->Prop
 |[],l=>l=[]|p::ps,l=>∃k v r,l=(k,v)::r/\VR h C p.1 k/\VR h C p.2 v/\Qe h C ps r
theorem Qe.nx(x:Nx AM AZ h Q C AT):∀{l:I (A4×A4)},Qe h C ps l->Qe Q AT ps l:=by induction ps with
 |nil=>exact id|cons p ps ih=>exactλe=>JA e λk v r e a b c=>⟨k,v,r,e,a.nx x,b.nx x,ih c⟩
theorem ak3{d:A8}{x:A4×A4}{vs:I (A4×A4)}:YV d (x::vs)=(Rh d x.1 x.2>>=λ_=>YV d vs):=by
 unfold YV;rw[Rf,bind_assoc];rfl
section
theorem mM(g:Gd B F K A H C s)(hd:AL H.h i=G (.dict N))(ha:C[i]?=G a)(rk:VR s.heap C k ku)(rv:VR s.heap C v vu)(hk:De N k=M)(hf:CH N=M):Ae B F K A (H.set i (.dict (En N k v))) C s (Rh a ku vu) RU:=by
 intro A2 E kk;have r:=g.obj hd ha;exact lN hk r rk rv hf λQ hs d=>xA (g.set (Q:=Q) (tk:=s.toks+1) (o':=.dict (En N k v)) ha hd (λ_ _ e=>by(exfalso;cases e)) hs.extBut d.live λ_=>d) λg' x'=>kk () C _ g' x' trivial
theorem ak4:∀{vs:I (A4×A4)}{H:Mine.St}{C:I A8}{s:AR}{Am N:I (V×V)},Gd B F K A H C s->Qe s.heap C ps vs->Ky ps Am=G N->AL H.h i=G (.dict Am)->C[i]?=G a->Ae B F K A (H.set i (.dict N)) C s (YV a vs) RU:=by induction ps with
 |nil=>
  intro vs H C s Am N g e hf hd ha;cases e;refine Br hf (P:=λN=>Ae B F K A (H.set i (.dict N)) C s (YV a []) RU) ?_;rw[show H.set i (.dict Am)=H from congrArg (λh=>Mine.St.mk H.env h H.n) (xg hd)];exactλA2 E k=>AW (k () C s g (Nx.refl ..) trivial)|cons p ps ih=>
  intro vs H C s Am N g e hf hd ha;refine JA e ?_;clear e;intro ku vu r q rk rv rr;subst q;have hf:bC (De Am p.1&&CH Am) (Ky ps (En Am p.1 p.2)) L=G N:=hf;refine Eb hf (λhc hf=>?_) λ_ e=>(AF e).elim
  . replace hc:=Rd (B1 hc) (Ak hc);intro A2 E k;rw[ak3];refine A5 (mM g hd ha rk rv hc.1 hc.2 _ _ λ_ A_ AJ AN Ab _=>?_);have :=ih AN (rr.nx Ab) hf (MO hd) (by refine AC Ab.pre ?_;intro J e _;rw[e];exact FY ha);rw[ak1]at this;exact this _ _ λ_ Au Ai AU Al _=>k () Au Ai AU (Ab.trans Al) trivial
theorem mN{k:AD AA}{ks:I (AD AA)}{vs:I AA}(h:ML (k::ks) vs=G ps){P:AD AA->I AA->I (V×V)->Prop}(d:∀c KL LH c' JR Ik OV kv vv l,O3 c=G kv->O3 c'=G vv->ML ks OV=G l->P (G (.Constant c KL LH)) (.Constant c' JR Ik::OV) ((kv,vv)::l)):P k vs ps:=by
 apply No h AF;intro x h;apply J8 h AF;intro c KL LH h;apply FT h AF;intro y OV h;apply J8 h AF;intro c' JR Ik h;refine BI h λkv h1 h=>?_;refine BI h λvv h2 h=>?_;refine BI h λl h3 h=>?_;apply Br h;exact d _ _ _ _ _ _ _ _ _ _ h1 h2 h3
theorem mO:∀{ks:I (AD AA)}{vs:I AA}{ps:I (V×V)}{C:I A8}{s:AR}{pos:B9},ML ks vs=G ps->Gd B F K A H C s->Ae B F K A H C s (u8 (pairTrees ks vs F.env pos)) (λh C l=>Qe h C ps l)
 |[],vs,ps,C,s,pos,h,g=>by
  apply EW h AF;intro h;apply Br h;exactλA2 E k=>AW (k [] C s g (Nx.refl ..) rfl)|k::ks,vs,ps,C,s,pos,h,g=>by
  apply mN h;intro c KL LH c' JR Ik OV kv vv l h1 h2 h3 A2 E k;show AH _ A (do
 let kv<-eval (.Constant c KL LH) F.env let vv<-Hf [kv] (do let x<-eval (.Constant c' JR Ik) F.env;Kh pos;pure x)return(kv,vv)::(<-Hf [kv,vv] (u8 (pairTrees ks OV F.env pos)))) A2 E s;refine A5 (W9 g h1 _ _ λu A_ AJ AN Ab Aq=>A5 (C0 (A5 (W9 AN h2 _ _ λu' Au Ai AU Al BB=>A5 (El (AW ?_))))));refine A5 (C0 (mO h3 AU _ _ λl' BS Ax Ap B8 BQ=>AW ?_));exact k _ BS Ax Ap (Ab.trans (Al.trans B8)) ⟨u,u',l',rfl,(Aq.nx Al).nx B8,BB.nx B8,BQ⟩
theorem mP:∀{ks:I (AD AA)}{vs:I AA}{ps:I (V×V)},ML ks vs=G ps->ks.all (·.isSome)=M/\ks.length=vs.length/\ks.length=ps.length
 |[],vs,ps,h=>by
  apply EW h AF;intro h;apply Br h;exact⟨rfl,rfl,rfl⟩|k::ks,vs,ps,h=>by
  apply mN h;intro c KL LH c' JR Ik OV kv vv l h1 h2 h3;refine G5 (mP h3) ?_;intro a b c;exact⟨by simpa using a,by simp[b],by simp[c]⟩
theorem Gd.newDict(g:Gd B F K A H C s)(tk:O):Gd B F K A (H.new (.dict [])).2 (C++[s.heap.objs.size]) {s with heap:=s.heap.push {cls:=.type "dict",data:=.dict #[]},toks:=tk}/\Nx F.D [] s.heap (s.heap.push {cls:=.type "dict",data:=.dict #[]}) C (C++[s.heap.objs.size]):=by
 have kp:∀b o,s.heap.get? b=G o->(s.heap.push {cls:=.type "dict",data:=.dict #[]}).get? b=G o:=λb o e=>C1 _ e;have hn:=GD s.heap;have hg:=CY s.heap (o:={cls:=.type "dict",data:=.dict #[]}) rfl;exact⟨g.new kp hn ⟨_,hg⟩ (o:=.dict []) (lQ hg),Nx.add [_] kp λb hb=>by rw[CI.mp hb];exact hn⟩
theorem Gd.LI(g:Gd B F K A H C s):(C++[a])[H.n]?=G a:=by rw[<-g.len];simp
theorem ak5:AL (H.new o).2.h H.n=G o:=by simp[Mine.St.new,AL,iG]
theorem ak6:YW []=newDict:=by
 unfold YW;simp
theorem mQ{ks:I (AD AA)}{vs:I AA}(h1:ML ks vs=G ps)(h2:EQ ps.length 15=M)(h3:Ky ps []=G N)(g:Gd B F K A H C s):Ae B F K A (H.new (.dict N)).2 C s (eval (.Dict ks vs pos) F.env) (RV (.ref H.n)):=by
 refine G5 (mP h1) ?_;intro ha hl hp;have gp:=g.newDict (s.toks);intro A2 E k;cases ks with
 |nil=>
  cases vs<;>first|((exfalso;cases hl);done)|skip
  injection h1 with h1;clear h2 hp;subst h1;injection h3 with h3;subst h3;skip;refine A5 (El ?_);show AH _ A (YW []) A2 E s;rw[ak6];exact IF (k _ _ _ gp.1 gp.2 ⟨_,g.LI,rfl⟩)|cons L6 ks=>
  refine wpAny_Dict_any ha hl (by simp) (by rw[hp];exact Dk h2) ?_;refine mO h1 gp.1 _ _ λl A_ AJ AN Ab Aq=>?_;have Dj:A_[H.n]?=G s.heap.objs.size:=by refine AC Ab.pre ?_;intro J e _;rw[e];exact FY g.LI
  have :=ak4 AN Aq h3 ak5 Dj;rw[ak2]at this;exact this _ _ λ_ Au Ai AU Al _=>k _ Au Ai AU (gp.2.trans (Ab.trans Al)) ⟨_,by refine AC Al.pre ?_;intro J e _;rw[e];exact FY Dj,rfl⟩
end
section
variable[DecidableEq T]{By:KeyKind prog w T}
theorem ak7{d:A8}{Az:I (T×A4)}{k:T}{key v:A4}{A2:DM->AR->Prop}(EM:By.is k key=M)(hm:s.heap.DictAt By d Az Az.length)(hQ:∀Q,Q.DictAt By d (FC Az k v) (FC Az k v).length->E4 d s.heap Q->A2 () {s with heap:=Q})(Ee:Az.length<=FA):AH (AQ prog w) A (u9 d (By.hash k) key v) A2 E s:=by
 refine M9 hm ?_;(try clear hm);intro o N ho hc hd hk hp hn;have Ch:N.size=Az.length:=by have :=hp.length;simpa using this
 have ON:(N.findIdx? λe=>By.is k e.key)=Az.findIdx? λkv=>decide (kv.1=k):=by rw[<-hp.findIdx k];obtain⟨l⟩:=N;simp
 unfold u9;refine A5 (tO EM ho hd hk ?_);cases hi:N.findIdx? λe=>By.is k e.key with
 |some i=>
  have HE:=bv2 (ON▸hi);have e1:FC Az k v=Az.map λkv=>if kv.1=k then(kv.1,v)else kv:=by rw[FC,DA HE]
  have hl:(N.toList.findIdx? λe=>By.is k e.key)=G i:=by rw[<-hi];obtain⟨l⟩:=N;simp
  have FI:=hp.modify hn hl v;refine bv3 ho hd (hQ _ ?_ (Fh ..));refine⟨_,_,FS _ ho (YB (gA hd _)),hc.mapDict _,?_,hk.modify i v,?_,?_⟩;. rw[e1,Jn];exact gA hd _
  . rw[e1];obtain⟨l⟩:=N;simpa using FI
  . rw[e1,bv4];exact hn|none=>
  have TQ:k∉Az.map (·.1):=bv5 (ON▸hi);have TR:¬(Az.any λkv=>decide (kv.1=k))=M:=λh=>by
    refine AC (II.mp h) ?_;intro kv OO he;exact TQ (E0.mpr ⟨kv,OO,of_decide_eq_true he⟩)
  have e1:FC Az k v=Az++[(k,v)]:=by rw[FC,CS TR]
  refine tP (hz:=by(with_reducible exact Mine.yT (by assumption) (by assumption))) ho hd (hQ _ ?_ (Fh ..));refine⟨_,_,FS _ ho (YB (Ux hd _)),hc.mapDictKeys _,?_,hk.push EM v,?_,?_⟩;. rw[e1,FD];exact Ux hd _
  . have :=hp.append EM (By.hash k) v;rw[e1];obtain⟨l⟩:=N;simpa using this
  . rw[e1,NZ,ID];refine⟨hn,by simp,λa ha b hb e=>?_⟩;simp only[J3,tQ,CI]at hb;exact TQ (hb▸e▸ha)
end
section
open Builtin Builtin.Str
theorem ak8{i:AX}(h0:0<=i)(h1:i<100){u:EP}:VA («str.format» ⟨[.str ⟨#[123,125]⟩ t,.int i u],[]⟩) (λ_ AS s=>∀t' k,AS (.ok (.ret (.str (M2 (toString i)) t'))) {s with toks:=k}):=by kfm_run
theorem ak9{i j:AX}(h0:0<=i)(h1:i<100)(h2:0<=j)(h3:j<100){u v:EP}:VA («str.format» ⟨[.str ⟨#[123,125,44,123,125]⟩ t,.int i u,.int j v],[]⟩) (λ_ AS s=>∀t' k,AS (.ok (.ret (.str ((M2 (toString i)++M2 ",")++M2 (toString j)) t'))) {s with toks:=k}):=by kfm_run
theorem al0:∀n:Fin 100,M2 (toString ((n.val:O):AX))=⟨⟨Q7 n.val⟩⟩:=by decide+kernel
theorem Tc{i:AX}(h:O1 i=M):0<=i/\i<100:=by simpa[O1]using h
theorem Wj{i:AX}(h:O1 i=M):M2 (toString i)=⟨⟨JF i⟩⟩:=by
 refine xA (Tc h) ?_;intro h0 h1;have :=al0 ⟨i.toNat,by(with_reducible exact Mine.wG (by assumption) (by assumption))⟩;simp only at this;rw[show((i.toNat:O):AX)=i by(with_reducible exact tw (by assumption))]at this;exact this
theorem mR:∀{p s:Tx},K1 p s=M↔p<+:s
 |[],s=>by simp[K1]|a::p,[]=>by simp[K1]|a::p,b::s=>by
  unfold K1;cases q:BC a b with
 |true=>
   have :=CD q;clear q;subst this;rw[bB1];simp only[true_and];exact mR|false=>
   have :a≠b:=λz=>by subst z;simp at q
   simp[bB1,this]
theorem al1{s p:Tx}:bB2 ⟨⟨s⟩⟩ ⟨⟨p⟩⟩=K1 p s:=by
 rw[Bool.eq_iff_iff,mR];unfold bB2 subAt;simp only[Un,D6,PV,Rg];have e:(YU s).extract 0 p.length=⟨s.take p.length⟩:=by simp
 show p.length<=s.length/\(YU s).extract 0 p.length=⟨p⟩↔_;rw[e,List.prefix_iff_eq_take];constructor;. rintro⟨_,h⟩;injection h with h;exact h.symm
 . intro h;exact⟨by have :=congrArg Rp h;simp at this;(with_reducible exact Mine.wJ (by assumption)),by rw[<-h]⟩
noncomputable def mS:SK->D9|.sw=>"str.startswith"|.ew=>"str.endswith"|.split=>"str.split"|.rfind=>"str.rfind"|.rstrip=>"str.rstrip"|.fmt=>"str.format"|.join=>"str.join"
theorem al2{m:U}{k:SK}(h:Sp m=G k):"str."++m.toString=mS k:=H5.mp (show Vp.map (λp=>"str."++p.1.toString)=Vp.map (λp=>mS p.2)by decide+kernel) _ (FF h)
section
theorem al3{c:O}{u:EP}(hx:x.length<=100000)(k:∀l tk,l.map (·.1)=Y3 x ⟨⟨[c]⟩⟩->A2 (.ref s.heap.objs.size) {s with heap:=s.heap.push {cls:=.type "list",data:=.seq (VB l).toArray},toks:=tk}):AH (AQ prog w) A (CE (.builtin "str.split") [.str x t,.str ⟨⟨[c]⟩⟩ u]) A2 E s:=by
 have hy:((⟨⟨[c]⟩⟩:U).length==0)=A6:=rfl;have Wk:(100002:O)<=FA:=by decide
 cases Qf:(decide (x.length<(⟨⟨[c]⟩⟩:U).length)||decide (strKind x<strKind ⟨⟨[c]⟩⟩))with
 |true=>
  refine uA gj (Pc _ _ _) uB (uC _ _) (meets_str_split_cannot_occur x _ t u Qf) ?_;exact k [(x,t)] _ (by unfold Y3;rw[DA Qf];rfl)|false=>cases hf:(occurrences x ⟨⟨[c]⟩⟩ 0 x.length (x.length+1)).isEmpty with
 |true=>
   refine uA gj (Pc _ _ _) uB (uC _ _) (meets_str_split_not_found x _ t u Qf hy hf) ?_;exact k [(x,t)] _ (by unfold Y3;rw[CS (by rw[Qf];simp),DA hf];rfl)|false=>
   have hn:(partsBetween x (occurrences x ⟨⟨[c]⟩⟩ 0 x.length (x.length+1)) (⟨⟨[c]⟩⟩:U).length).length<=FA:=by
    unfold partsBetween;simp only[Jn,List.length_zip,V',FD,List.length_nil];have :=StrLaws.occ_length_le_len x ⟨⟨[c]⟩⟩ 0 x.length (x.length+1);refine B4 (Y' _ _) ?_;(with_reducible exact Mine.vc (by assumption) (by assumption) (by assumption))
   refine uA gj (Pc _ _ _) uB (uC _ _) (meets_str_split_sep x _ t u Qf hy hf (by(with_reducible exact B4 (by assumption) (by decide))) hn) ?_;rw[strsFrom_eq];exact k _ _ (by rw[numbered_texts];unfold Y3;rw[CS (by rw[Qf];simp),CS (by rw[hf];simp)])
end
theorem mT:∀(l:I (U×EP)),Aa h C ((l.map (·.1)).map λx=>.str x.cps.toList) (VB l)
 |[]=>rfl|p::l=>⟨_,_,rfl,⟨p.2,rfl⟩,mT l⟩
theorem al4:∀{us:I A4},Aa h C (l.map .str) us->∃lt:I (U×EP),us=VB lt/\lt.map (·.1)=l.map λx=>⟨⟨x⟩⟩:=by induction l with
 |nil=>exactλe=>⟨[],e,rfl⟩|cons x l ih=>intro us r;refine Aa.Sx (vs:=l.map .str) r (P:=λus=>∃lt:I (U×EP),us=VB lt/\lt.map (·.1)=(x::l).map λx=>⟨⟨x⟩⟩) ?_;intro u us a b;exact xE a λt a=>AC (ih b) λlt q h2=>⟨(⟨⟨x⟩⟩,t)::lt,by rw[a,q];rfl,congrArg (_::·) h2⟩
section
theorem Gd.al5(g:Gd B F K A H C s){us:BW A4}(r:Aa s.heap C Y us.toList)(tk:O):Gd B F K A (H.new (.list Y)).2 (C++[s.heap.objs.size]) {s with heap:=s.heap.push {cls:=.type "list",data:=.seq us},toks:=tk}/\Nx F.D [] s.heap (s.heap.push {cls:=.type "list",data:=.seq us}) C (C++[s.heap.objs.size]):=by
 have kp:∀b o,s.heap.get? b=G o->(s.heap.push {cls:=.type "list",data:=.seq us}).get? b=G o:=λb o e=>C1 _ e;have hn:=GD s.heap;have hg:=CY s.heap (o:={cls:=.type "list",data:=.seq us}) rfl;exact⟨g.new kp hn ⟨_,hg⟩ (o:=.list Y) ⟨us,⟨_,hg⟩,r.mono (λb o e _=>kp b o e)⟩,Nx.add [_] kp λb hb=>by rw[CI.mp hb];exact hn⟩
theorem al6{k:SK}{m:U}{tx:Tx}(g:Gd B F K A H C s)(hk:Sp m=G k)(ro:VR s.heap C (.str tx) u)(rs:Aa s.heap C args us)(h:jw tx k args H=.ok (.v v) A7):Ae B F K A A7 C s (CE (.builtin ("str."++m.toString)) (u::us)) (RV v):=by
 rw[al2 hk];refine A0.Be h λhf h=>?_;have hl:=Ef hf;have Ee:(⟨⟨tx⟩⟩:U).length<=FA:=B4 (show tx.length<=100000 from hl) (by decide);refine xE ro ?_;(try clear ro);intro t B6;subst B6;clear hk;revert rs;cases k with
 |sw=>
  apply Cs h Ac;intro p h;apply Dd h Ac;intro p h rs;apply B5 h;apply QH rs;intro t' A2 E kk;exact SC.startswith (by rw[al1];exact kk _ C _ g (Nx.refl ..) rfl)|ew=>
  apply Cs h Ac;intro p h;apply Dd h Ac;intro p h rs;apply B5 h;apply QH rs;intro t' A2 E kk;exact SC.endswith (kk _ C _ g (Nx.refl ..) rfl)|split=>
  apply Cs h Ac;intro p h;apply Dd h Ac;intro p h;apply Cs h Ac;intro c h rs;apply B5 h;apply QH rs;intro t' A2 E kk;refine al3 hl λl tk CF=>?_;have :=mT (h:=s.heap) (C:=C) l;rw[CF]at this;refine xA (g.al5 (us:=(VB l).toArray) (by simpa using this) tk) ?_;intro g' x';exact kk _ _ _ g' x' ⟨_,g.LI,rfl⟩|rfind=>
  apply Cs h Ac;intro p h;apply Dd h Ac;intro p h rs;apply B5 h;apply QH rs;intro t' A2 E kk;exact SC.rfind (kk _ C _ (g.tok _) (Nx.refl ..) ⟨_,rfl⟩)|rstrip=>
  apply Cs h Ac;intro p h;apply Dd h Ac;intro p h rs;apply B5 h;apply QH rs;intro t' A2 E kk;exact SC.rstripChars (λHA tk=>kk _ C _ (g.tok _) (Nx.refl ..) ⟨_,rfl⟩) Ee|fmt=>
  apply iF h Ac
  . intro i h;apply Cu h Ac;intro i h rs;refine A0.Be h λhc h=>?_;apply B5 h;apply aG rs;intro t' A2 E kk;have :=Ec.mp (B1 hc);clear hf hl Ee;subst this;refine xA (Tc (Ak hc)) ?_;intro h0 h1;refine bB3 rfl (KFm.args_2 _ _) (ak8 h0 h1) λHA tk=>kk _ C _ (g.tok _) (Nx.refl ..) ⟨HA,?_⟩;rw[Wj (Ak hc)]
  . intro i j h;apply Cu h Ac;intro i h;apply Cu h Ac;intro j h rs;refine A0.Be h λhc h=>?_;apply B5 h;apply kK rs;intro t' t2 A2 E kk;have :=Ec.mp (B1 hc);clear hf hl Ee;subst this;refine xA (Tc (B1 (Ak hc))) ?_;intro h0 h1;refine xA (Tc (Ak (Ak hc))) ?_;intro h2 h3;refine bB3 rfl (KFm.args_3 _ _ _) (ak9 h0 h1 h2 h3) λHA tk=>kk _ C _ (g.tok _) (Nx.refl ..) ⟨HA,?_⟩;rw[Wj (B1 (Ak hc)),Wj (Ak (Ak hc))];have :(uD ⟨JF i⟩++M2 ",")++uD ⟨JF j⟩=⟨⟨JF i++44::JF j⟩⟩:=by
     show uD ((YU (JF i)++(M2 ",").cps)++YU (JF j))=_;have :(M2 ",").cps=⟨[44]⟩:=by decide+kernel
     rw[this];simp
    rw[this]|join=>
  apply Cs h Ac;intro v' h;apply A0.MU h;intro i Y hi h rs;refine A0.Bx h λl Ih h=>A0.Be h λLA h=>?_;apply B5 h;apply MQ rs;intro u r A2 E kk;refine Bv (g.listAt r hi) ?_;intro a us BJ BP vr;clear r;subst BJ;refine xE BP ?_;(try clear BP);intro _ p;rw[OR Ih]at vr;refine AC (al4 vr) ?_;intro lt e1 e2;have bg:us=(VB lt).toArray:=by rw[<-e1]
  exact SC.join (D:=a) (l:=lt) ⟨_,p,rfl,_,by rw[bg]⟩ e2 LA λHA tk=>kk _ C _ (g.tok _) (Nx.refl ..) ⟨HA,rfl⟩
end
end
section
theorem al7{id:D9}(g:Gd B F K A H C s)(rs:Aa s.heap C args us)(h:a7 id args H=.ok (.v v) A7):Ae B F K A A7 C s (CE (.type id) us) (RV v):=by
 revert rs;refine Fi h (λe h=>?_) λh=>?_
 . subst e;apply Cs h Ac;intro v h;apply Dd h Ac;intro x h rs;apply B5 h;apply QH rs;intro t;exactλA2 E kk=>call_type_of (Pc _ _ _) (by decide) (kk _ C _ g (Nx.refl ..) rfl)
 refine Fi h (λe h=>?_) λh=>?_
 . subst e;apply iF h Ac
   . intro n h;apply Cu h Ac;intro n h rs;apply B5 h;apply aG rs;intro t' A2 E kk;obtain⟨g',x'⟩:=g.push {cls:=.type "range",data:=.fields #[.int 0 s.toks,.int _ t',.int 1 (s.toks+1)]} (s.toks+1+1);exact call_range_1 (kk _ C _ g' x' ⟨_,_,_,_,rfl,CY _ rfl⟩)
   . intro a b h;apply Cu h Ac;intro a h;apply Cu h Ac;intro b h rs;apply B5 h;apply kK rs;intro t' t2 A2 E kk;obtain⟨g',x'⟩:=g.push {cls:=.type "range",data:=.fields #[.int _ t',.int _ t2,.int 1 s.toks]} (s.toks+1);exact call_range_2 (kk _ C _ g' x' ⟨_,_,_,_,rfl,CY _ rfl⟩)
 refine Fi h (λe h=>?_) λh=>?_
 . subst e;apply EW h Ac;intro h rs;apply B5 h;apply aF rs;intro A2 E kk;refine call_set_0 λled=>?_;have kp:∀b o,s.heap.get? b=G o->(s.heap.push {cls:=.type "set",dict:=L,data:=.set #[] 0 (.fresh 0 0 led)}).get? b=G o:=λb o e=>C1 _ e;have hn:=GD s.heap;have hg:=CY s.heap (o:={cls:=.type "set",dict:=L,data:=.set #[] 0 (.fresh 0 0 led)}) rfl;exact kk _ _ _ (g.new (tk:=s.toks) kp hn ⟨_,hg⟩ (o:=.HT) ⟨led,hg⟩) (Nx.add [_] kp λb hb=>by rw[CI.mp hb];exact hn) ⟨_,g.LI,rfl⟩
 refine Fi h (λe h=>?_) λh=>(Ac h).elim;subst e;apply Cs h Ac;intro v h;apply Cu h Ac;intro i h rs;refine A0.Be h λhc h=>?_;apply B5 h;apply aG rs;intro t' A2 E kk;refine xA (Tc hc) ?_;intro h0 h1;refine PySem.P.str_of_int (a:=i) ?_ (kk _ C _ (g.tok _) (Nx.refl ..) ⟨s.toks,?_⟩)
 . have :i.natAbs<2^1920:=J' (show i.natAbs<100 by(with_reducible exact Mine.wM (by assumption) (by assumption))) (by decide);by_cases z:i.natAbs=0;. rw[z];decide
   . exact(bu2 z).mpr this
 . show Lz (M2 (toString i)) _=_;rw[Wj hc]
theorem al8{id:D9}(slot:M0 "str" name id)(ty:Hg (.builtin id)=pure (.type "method_descriptor")):Gj Av h (Jl (.str x t) name pl) (.builtin id,[.str x t]):=λ_ _ _ _ _ q=>by with_reducible exact GM.of _ (Pc _ _ _) slot ty GM.noRef q
theorem al9{l r:AA}{c z:Tx}(h:Sv l op r=G (c,id,y,z)){P:AA->Jj->AA->Prop}(k:∀KL LH Ik Fo JR Td KI Te pos,(Fo:B9).endLine=(pos:B9).line->P (.Constant (.str ⟨⟨c⟩⟩) KL LH) .Add (.Call (.Attribute (.Name id Ik) "replace" Fo) [.Constant (.str ⟨⟨y⟩⟩) JR Td,.Constant (.str ⟨⟨z⟩⟩) KI Te] [] pos)):P l op r:=by
 apply J8 h AF;intro c' KL LH h;apply Yo h AF;intro c' h;apply M5 h AF;intro f a kw pos h;apply S0 h AF;intro o m Fo h;apply EV h AF;intro Tb Ik h;apply FT h AF;intro y' a h;apply Cs h AF;intro z' h;apply J8 h AF;intro y' JR Td h;apply Yo h AF;intro y' h;apply J8 h AF;intro z' KI Te h;apply Yo h AF;intro z' h;apply EW h AF;intro h;refine Ce h AF λq h=>?_;apply IL (B1 q);rw[E2.mp (B1 (Ak q))];revert k;apply vN h;intro k;exact k _ _ _ _ _ _ _ _ _ (CD (Ak (Ak q)))
theorem am0{l r:AA}{c z:Tx}(hr:Sv l op r=G (c,id,y,z))(h:Fp A3 K (ev A3 n) (.BinOp l op r pos) H=.ok (.v v) A7)(g:Gd B F K A H C s):Ae B F K A A7 C s (eval (.BinOp l op r pos) F.env) (RV v):=by
 refine M6 h (λx' e h=>?_) λe _=>by rw[hr]at e;exact(AF e.symm).elim
 rw[hr]at e;injection e with e;subst e;refine A0.Be h ?_;clear h;intro hc h;simp only[D6]at hc;apply al9 hr;intro KL LH Ik Fo JR Td KI Te Mj OF;refine A0.Bx h λw hx h=>?_;revert hx;apply Dd h Ac
 . intro x h hx;refine A0.Be h ?_;clear h;intro hd h;simp only[D6,PT]at hd;refine xA hd ?_;(try clear hd);intro Aw hfc;refine xA Aw ?_;(try clear Aw);intro BP hz;obtain⟨hf,mU⟩:=BP;(first|(revert k;(first|apply BX h|apply B5 h|apply BY h|apply BZ h|apply B_ h);intro k)|apply BX h|apply B5 h|apply BY h|apply BZ h|apply B_ h);have hl:=Ef hf;have EK:=Ef hc.2;have hz:=Dk hz;have hb:(⟨⟨x⟩⟩:U).length+((⟨⟨x⟩⟩:U).length+1)*(⟨⟨z⟩⟩:U).length<=16777216:=by
    show x.length+(x.length+1)*z.length<=16777216;have :(x.length+1)*z.length<=(x.length+1)*100:=se _ hz;(with_reducible exact Mine.vz (by assumption) (by assumption))
   have am1:((⟨⟨y⟩⟩:U)==⟨⟨z⟩⟩)=A6:=by
    rw[Ln];intro q;injection q with q;injection q with q;rw[Ec.mpr q]at mU;(exfalso;cases mU)
   intro A2 E kk;refine tB (fZ ?_);have AN:=g.tok (s.toks+1);skip;refine A5 (wpAny_with_toks (n:=1) (fN _ _) (aR AN hc.1 hx _ _ λu Au Ai AU Al BB hn=>A5 (El ?_)));refine xE BB ?_;(try clear BB);intro Ei BJ;subst BJ;show AH _ A (PZ (.Name id Ik) "replace" Fo Mj F.env (.str ⟨⟨x⟩⟩ Ei) (2+0) (F9 Mj (E' [.Constant (.str ⟨⟨y⟩⟩) JR Td,.Constant (.str ⟨⟨z⟩⟩) KI Te] F.env)) (Ur Mj (Us [] F.env))) _ E Ai;unfold PZ;skip;refine A5 (C0 ?_);show AH _ A (Jl (.str ⟨⟨x⟩⟩ Ei) "replace" _) _ E Ai;with_reducible refine(al8 PySem.F.slot_str_replace PySem.F.type_str_replace).here ?_
   show AH _ A (Jm M (.Name id Ik) F.env Fo Mj>>=λp=>PY p (.builtin "str.replace") [.str ⟨⟨x⟩⟩ Ei] (F9 Mj (E' [.Constant (.str ⟨⟨y⟩⟩) JR Td,.Constant (.str ⟨⟨z⟩⟩) KI Te] F.env)) []) _ E Ai;have hp:Jm M (.Name id Ik) F.env Fo Mj=pure Mj:=by
    unfold Jm;have :(Fo.endLine==Mj.line)=M:=by simpa using OF
    rw[this];rfl
   rw[hp];refine A5 (AW ?_);refine fy (P:=λh=>CW (AQ B.prog B.w) h (.builtin "str.replace")) rfl (λh x=>x) ?_;refine tI ?_;refine Lq (fZ (Lq (fZ (Up ⟨CW.builtin,?_⟩)) rfl)) rfl;have h0:Ai.toks≠0:=PX hn;refine SC.replace h0 (Nat.succ_ne_zero _) (ER (PR _)) am1 hb λt' tk=>?_;exact lG (s:={Ai with toks:=tk}) (AU.tok tk) hfc A2 E λw BS Ax Ap B8 BQ=>kk w BS Ax Ap ((show Nx F.D [] s.heap Ai.heap C Au from Al).trans B8) BQ
end
section
theorem am2:YH "issubclass.nested"=M:=by decide+kernel
theorem am3:Rm "issubclass.nested"=L:=by decide+kernel
theorem sub_tuple_self:Rs (.type "tuple") (.type "tuple")=pure M:=by rw[J7];kernel_rfl
theorem am4{AS:Dt->AR->Prop}(h:AS (.ok (.ret (.bool M))) s):D7 (AQ prog w) A (.call (.builtin "issubclass.nested") ⟨[.type "str",.type "str",.int 1 t],[]⟩) AS s:=by
 refine Lw am2 PySem.F.entry_issubclass_nested ?_;simp only[gF,am3];have hs:=PySem.F.sub_str_str;have bO:gc "issubclass.nested"=L:=by kernel_rfl
 rw[bO];refine AW ?_;repeat(any_goals(first|assumption|(rw[hs])|wp_step))
theorem am5(ha:s.heap.get? a=G {cls:=.type "tuple",data:=.seq #[.type "str",.type "bytes"] m})(h:∀tk,A2 (.bool M) {s with toks:=tk}):AH (AQ prog w) A (call (.builtin "issubclass") [.type "str",.ref a]) A2 E s:=by
 refine bB4 PySem.F.kind_issubclass PySem.F.plain_issubclass PySem.F.entry_issubclass (PySem.F.args_issubclass_2 _ _) ?_;refine bS5 ?_;have hT:s.TypeIs (.ref a) "tuple":=⟨_,ha,rfl⟩;have LJ:=sub_tuple_self;repeat(any_goals(first|assumption|wp_step))
 refine am4 ?_;have hh:=h s.toks;repeat(any_goals(first|assumption|wp_step))
end
section
theorem am6{r:V}(hn:JI v=A6)(g:Gd B F K A H C s)(ru:VR s.heap C v u)(h:js v H=.ok (.v r) A7):Ae B F K A A7 C s (CE (.builtin "len") [u]) (RV r):=by
 intro A2 E kk;have Wk:(100000:AX)<2^63:=by decide
 refine Eb h (λq _=>Ul (q.symm.trans hn)) λ_ h=>?_;revert ru;apply O' h
 . intro x h;refine A0.Be h ?_;clear h;intro hf h ru;revert kk;apply B5 h;intro kk;refine xE ru ?_;intro t q;rw[q];have hl:(⟨⟨x⟩⟩:U).length<=100000:=Ef hf;exact PySem.P.len_str (Int.not_le.mpr (bB5 (so.mpr hl) Wk)) (kk _ C _ (g.tok _) (Nx.refl ..) ⟨_,rfl⟩)
 intro h;apply A0.MU h;intro i Y hi h;refine A0.Be h ?_;clear h;intro hf h ru;revert kk;apply B5 h;intro kk;refine Bv (g.listAt ru hi) ?_;intro a us q p vr;rw[q];have Ch:Y.length=us.size:=vr.length;rw[Ch]at kk;exact call_len_list p.isList (bB5 (so.mpr (Ch▸Ef hf)) Wk) (kk _ C _ (g.tok _) (Nx.refl ..) ⟨_,rfl⟩)
theorem am7{a b:AX}{w:A4}(g:Gd B F K A H C s)(ru:VR s.heap C (.int a) u)(LD:VR s.heap C (.int b) w):Ae B F K A H C s (CE (.builtin "min") [u,w]) (RV (.int (if b<a then b else a))):=by
 intro A2 E kk;refine xE ru ?_;(try clear ru);intro t Bg;subst Bg;refine xE LD ?_;(try clear LD);intro t' Bu;subst Bu;refine min_two_ints g.handled λQ tk k=>kk _ C _ (g.ext k) (Nx.ext k) ?_;by_cases c:b<a;. rw[DA c,DA c];exact⟨_,rfl⟩
 . rw[CS c,CS c];exact⟨_,rfl⟩
theorem am8(e:Vo v=M)(r:VR h C v u):∃x tk,u=.str x tk:=by cases v<;>first|exact(B0 e).elim|exact xE r λt q=>⟨_,t,q⟩
theorem am9{r:V}{t:D9}(g:Gd B F K A H C s)(ru:VR s.heap C v u)(h:jv v t H=.ok (.v r) A7):Ae B F K A A7 C s (CE (.builtin "isinstance") [u,.type t]) (RV r):=by
 intro A2 E kk;refine A0.Be h ?_;clear h;intro ht h;revert ru;apply Vf h
 . intro i h;refine A0.Bx h λo hl h=>A0.Be h λq h ru=>?_;revert kk;apply B5 h;intro kk;refine AC ru λa ha e=>?_;rw[e,eq_of_beq (Ak q)];have fin:∀{BN:I (V×V)},Dn B.prog B.w s.heap C a BN->∃o,s.heap.get? a=G o/\o.cls=.type "dict"/\∀c,o.data≠.cls c:=λr=>r.elim (λr=>AC r λ_ m _=>Wa m) λr=>AC r λ_ m _=>Wa m;have ho:∃o,s.heap.get? a=G o/\o.cls=.type "dict"/\∀c,o.data≠.cls c:=by
    revert hl;apply Sa (B1 q);. exactλN _ hl=>fin (g.obj hl ha)
    . intro h;apply Sb h B0;exactλN _ hl=>AC (g.obj hl ha) λBN _ r=>fin r
   exact CZ ho λo ho hc _=>bS6 ho hc (kk _ C _ (g.tok _) (Nx.refl ..) rfl)
 . intro h;refine A0.Be h λq h ru=>?_;revert kk;apply B5 h;intro kk;refine DB (am8 q ru) ?_;intro x tk e;rw[e];refine Jv ht (λq=>?_) λq=>?_;. rw[eq_of_beq q]at kk ⊢;exact bS7 (kk _ C _ g (Nx.refl ..) rfl)
   . rw[eq_of_beq q]at kk ⊢;exact bS8 (kk _ C _ (g.tok _) (Nx.refl ..) rfl)
theorem an0(g:Gd B F K A H C s)(rs:Aa s.heap C [.top (.type "str"),.tup L [.top (.type "str"),.top (.type "bytes")]] us):Ae B F K A H C s (CE (.builtin "issubclass") us) (RV (.bool M)):=by
 intro A2 E kk;refine S7 rs ?_;(try clear rs);intro _ _ GB HD _ _ Hv bX3 e;subst GB;subst HD;subst Hv;cases e;refine Kt bX3 ?_;intro a o us n L4 e tg EK hd vs;subst L4;refine S7 vs ?_;intro _ _ h1 L5 _ _ TW TX TY;subst L5;subst TW;subst TX;subst TY;refine xA (tg.2 rfl) ?_;intro Mg Mh;have :us=#[.type "str",.type "bytes"]:=by rw[<-h1]
 subst this;have ho:o={cls:=.type "tuple",data:=.seq #[.type "str",.type "bytes"] n}:=by obtain⟨c1,c2,c3,c4⟩:=o;simp only at EK hd Mg Mh;rw[EK,hd,Mg,Mh];rfl
 subst ho;exact am5 e λtk=>kk _ C _ (g.tok _) (Nx.refl ..) rfl
end
section
variable[DecidableEq T]{By:KeyKind prog w T}
theorem an1{d:A8}{Az:I (T×A4)}{k:T}{key v:A4}(EM:By.is k key=M)(hm:s.heap.DictAt By d Az Az.length)(Tf:k∉Az.map (·.1))(hQ:∀Q,Q.DictAt By d (Az++[(k,v)]) (Az++[(k,v)]).length->E4 d s.heap Q->A2 v {s with heap:=Q,toks:=s.toks+1})(Ee:Az.length<=FA):AH (AQ prog w) A (uE d key v) A2 E s:=by
 refine M9 hm ?_;(try clear hm);intro o N ho hc hd hk hp hn;have Ch:N.size=Az.length:=by have :=hp.length;simpa using this
 have ON:(N.findIdx? λe=>By.is k e.key)=Az.findIdx? λkv=>decide (kv.1=k):=by rw[<-hp.findIdx k];obtain⟨l⟩:=N;simp
 unfold uE;refine C0 (A5 (By.pyHash EM ?_));refine A5 (tO (s:={s with toks:=s.toks+1}) EM ho hd hk ?_);have hi:(N.findIdx? λe=>By.is k e.key)=L:=by
   rw[ON,bB6];intro kv OO;simp only[gP];intro z;exact Tf (E0.mpr ⟨kv,OO,z⟩)
 rw[hi];refine A5 (Gk (A5 (tP (hz:=by(with_reducible exact Mine.yT (by assumption) (by assumption))) (s:={s with toks:=s.toks+1}) ho hd (AW (hQ _ ?_ (Fh ..))))));refine⟨_,_,FS _ ho (YB (Ux hd _)),hc.mapDictKeys _,?_,hk.push EM v,?_,?_⟩;. rw[FD];exact Ux hd _
 . have :=hp.append EM (By.hash k) v;obtain⟨l⟩:=N;simpa using this
 . rw[NZ,ID];refine⟨hn,by simp,λa ha b hb e=>?_⟩;simp only[J3,tQ,CI]at hb;exact Tf (hb▸e▸ha)
end
section
theorem an2{w:A4}(g:Gd B F K A H C s)(hi:AL H.h i=G (.list Y))(ru:VR s.heap C (.ref i) u)(rv:VR s.heap C v w)(hf:CH Y=M):Ae B F K A (H.set i (.list (Y++[v]))) C s (CE (.builtin "list.append") [u,w]) (RV .none):=by
 intro A2 E kk;have hl:=Ef hf;refine AC ru ?_;(try clear ru);intro a ha Aw;subst Aw;refine AC (g.obj hi ha) ?_;intro us B6 vr;refine xE B6 ?_;(try clear B6);intro m ho;have Ch:Y.length=us.size:=by rw[vr.length];simp
 refine bB7 ho (λQ hs Ib=>?_) (B4 (show us.size<=100000 by(with_reducible exact Mine.yS (by assumption) (by assumption))) (by decide));refine xA (g.set (Q:=Q) (tk:=s.toks) (o':=.list (Y++[v])) ha hi (λ_ _ e=>by(exfalso;cases e)) hs.extBut ⟨_,Ib⟩ λim=>⟨us.push w,⟨_,Ib⟩,by rw[VC];exact(vr.Bw im).app ⟨_,_,rfl,rv.Bw im,rfl⟩⟩) ?_;intro g' x';exact kk _ C _ g' x' rfl
theorem an3{Y:I Sg}{l:Sg}{w:A4}(g:Gd B F K A H C s)(hi:AL H.h i=G (.rows (r+1) Y))(ru:VR s.heap C (.ref i) u)(rv:VR s.heap C v w)(hl:IZ l=[v]):Ae B F K A (H.set i (.rows r (Y++[l]))) C s (CE (.builtin "list.append") [u,w]) (RV .none):=by
 intro A2 E kk;refine AC ru ?_;(try clear ru);intro a ha BJ;subst BJ;refine CZ (g.obj hi ha) ?_;intro us BP vr an4;refine xE BP ?_;(try clear BP);intro m ho;have Ch:(DS Y).length=us.size:=by rw[vr.length];simp
 have e:DS (Y++[l])=DS Y++[v]:=by rw[OS];simp[DS,hl]
 refine bB7 ho (λQ hs Ib=>?_) (B4 (show us.size<=1000000 by unfold Dm at an4;(with_reducible exact Mine.wH (by assumption) (by assumption))) (by decide));refine xA (g.set (Q:=Q) (tk:=s.toks) (o':=.rows r (Y++[l])) ha hi (λ_ _ e=>by(exfalso;cases e)) hs.extBut ⟨_,Ib⟩ λim=>⟨us.push w,⟨_,Ib⟩,by rw[VC,e];exact(vr.Bw im).app ⟨_,_,rfl,rv.Bw im,rfl⟩,by rw[e,FD,uF];(with_reducible exact Mine.Yv (by assumption))⟩) ?_;intro g' x';exact kk _ C _ g' x' rfl
theorem an5{x:V}(r:Aa h C Y us):Y.getLast?=G x->∃u,us.getLast?=G u/\VR h C x u/\Aa h C Y.dropLast us.dropLast:=by
 refine Aa.ind (P:=λY us=>Y.getLast?=G x->∃u,us.getLast?=G u/\VR h C x u/\Aa h C Y.dropLast us.dropLast) (λe=>(AF e).elim) (λv u Y us a b ih q=>?_) r;cases Y with
 |nil=>cases b;exact Br q (P:=λx=>∃u',G u=G u'/\VR h C x u'/\Aa h C [] []) ⟨u,rfl,a,rfl⟩|cons z l=>
 refine Aa.Sx b (P:=λus=>(∃u,us.getLast?=G u/\VR h C x u/\Aa h C (z::l).dropLast us.dropLast)->∃u',(u::us).getLast?=G u'/\VR h C x u'/\Aa h C (v::(z::l).dropLast) (u::us).dropLast) ?_ (ih q);exactλ_ _ _ _ r=>CZ r λu' e1 e2 e3=>⟨u',e1,e2,.cons a e3⟩
theorem an6(g:Gd B F K A H C s)(hi:AL H.h i=G (.list Y))(ru:VR s.heap C (.ref i) u)(hf:CH Y=M)(hv:Y.getLast?=G v):Ae B F K A (H.set i (.list Y.dropLast)) C s (CE (.builtin "list.pop") [u]) (RV v):=by
 intro A2 E kk;have hl:=Ef hf;refine AC ru ?_;(try clear ru);intro a ha Bg;subst Bg;refine AC (g.obj hi ha) ?_;intro us Bu vr;refine xE Bu ?_;(try clear Bu);intro m ho;have Ch:Y.length=us.size:=by rw[vr.length];simp
 refine CZ (an5 vr hv) ?_;intro w e1 LD Qg;have hy:us[us.size-1]?=G w:=by
  have :us.toList[us.toList.length-1]?=G w:=by rw[<-List.getLast?_eq_getElem?];exact e1
  simpa using this
 refine bS9 ho hy (λQ hs Ib=>?_) (B4 (show us.size<=100000 by(with_reducible exact Mine.yS (by assumption) (by assumption))) (by decide));have an7:Dw s.heap Q:=Gs hs.extBut λo e=>by rw[ho]at e;injection e with e;subst e;rfl
 refine xA (g.set (Q:=Q) (tk:=s.toks) (o':=.list Y.dropLast) ha hi (λ_ _ e=>by(exfalso;cases e)) hs.extBut ⟨_,Ib⟩ λim=>⟨us.pop,⟨_,Ib⟩,by rw[Array.toList_pop];exact Qg.Bw im⟩) ?_;intro g' x';exact kk _ C _ g' x' (LD.Bw an7)
theorem an8[DecidableEq T]{Az:I (T×A4)}{k:T}{v:A4}(h:k∉Az.map (·.1)):FC Az k v=Az++[(k,v)]:=by
 have TR:¬(Az.any λkv=>decide (kv.1=k))=M:=λq=>by
  refine AC (II.mp q) ?_;intro kv OO he;exact h (E0.mpr ⟨kv,OO,of_decide_eq_true he⟩)
 rw[FC,CS TR]
theorem DR.an9[DecidableEq T]{key:T->V}(hk:∀a b,G7 (key a) (key b)=G (decide (a=b))){k:T}{l:I (T×A4)}(d:DR key h C N l):D' N (key k)=L->k∉l.map (·.1):=DR.ind (P:=λN l=>D' N (key k)=L->k∉l.map (·.1)) (λ_ m=>nomatch m) (λk' v u N r _ _ ih hl=>by
 rw[show D' ((key k',v)::N) (key k)=match G7 (key k') (key k)with|some M=>G v|_=>D' N (key k)from rfl,hk]at hl;by_cases z:k'=k;. simp[z]at hl
 . simp only[z,decide_false]at hl;simp only[J3,Cj,gd];exact⟨λq=>z q.symm,ih hl⟩) d
theorem ao0{d:V}(g:Gd B F K A H C s)(hd:AL H.h i=G (.dict N))(ru:VR s.heap C (.ref i) u)(rk:VR s.heap C k ku)(rd:VR s.heap C d du)(h:O7 i N .So [k,d] H=.ok (.v v) A7):Ae B F K A A7 C s (CE (.builtin "dict.setdefault") [u,ku,du]) (RV v):=by
 refine A0.Be h ?_;clear h;intro hc h;simp only[D6]at hc;refine xA hc ?_;(try clear hc);intro hk hf;have hl:=Ef hf;intro A2 E kk;refine AC ru ?_;(try clear ru);intro a ha C9;subst C9;have hT:=WS g hd ⟨a,ha,rfl⟩;refine Gm bB8 hT PySem.F.entry_dict_setdefault ?_ (PySem.F.args_dict_setdefault_3 _ _ _);skip;refine A5 ?_;skip;refine A5 (bv9 hT ?_);show AH _ _ (pure (a,ku,G du)) _ _ s;refine AW ?_;show AH _ _ (if(a==NR)=M then _ else(uE a ku du>>=_)) _ _ s;rw[CS (by rw[g.QS (Ew ha)];exact NW)];refine AC (g.objs i _ hd) ?_;intro a' Fq r;rw[Bm (Fq.symm.trans ha)]at r;revert kk;refine WQ hk r rk λBy key x Az ke back q hx hm dr=>?_;cases hv:D' N k with
 |some v'=>
  rw[hv]at h;apply B5 h;intro kk;have hz:s.heap.DictLe a FA:=λo BN ep ho bh=>by
   refine M9 hm ?_;intro o' bN4 e hc GW KH hp _;rw[Bm (e.symm.trans ho)]at GW;injection GW.symm.trans bh with bh;exact B4 (bh▸Ek (hp.length.trans dr.length)) (B4 hl (by decide))
  refine(q▸dr.look ke:D' N k=L/\Lr Az x=L\/∃v u,D' N k=G v/\Lr Az x=G u/\VR s.heap C v u).elim (λh=>(AF (h.1.symm.trans hv)).elim) λo=>Bv o λv2 w q2 FJ r=>?_;exact A5 (wpAny_dictSetDefault_of (hz:=hz) hx hm.dictOf.mapOf (λv Bh=>AW ⟨v,rfl,kk _ C _ (g.tok _) (Nx.refl ..) (Bm (FJ.symm.trans Bh)▸Bm (q2.symm.trans hv)▸r)⟩) λhn=>(AF (hn.symm.trans FJ)).elim)|none=>
  rw[hv]at h;apply B5 h;intro kk;have Tf:=dr.an9 ke (q▸hv);refine A5 (an1 hx hm Tf (λQ HF hs=>?_) (B4 (dr.length▸hl) (show 100000<=FA by decide)));refine xA (g.set (Q:=Q) (tk:=s.toks+1) (o':=.dict (En N k d)) ha hd (λ_ _ e=>by(exfalso;cases e)) hs.extBut (DictAt.live HF) λim=>back _ HF (q▸an8 Tf▸T6 (p:=λJ=>DR key Q J _ _) ((dr.put ke (k:=x) rd (Uy hm)).mono (J:=[]) im))) ?_;intro g' x';exact AW ⟨_,rfl,kk _ C _ g' x' (rd.Bw (Gs hs.extBut (Dn.C2 r)))⟩
theorem ao1{d:V}(g:Gd B F K A H C s)(hd:AL H.h i=G (.dict N))(ru:VR s.heap C (.ref i) u)(rk:VR s.heap C k ku)(rd:VR s.heap C d du)(h:O7 i N .get [k,d] H=.ok (.v v) A7):Ae B F K A A7 C s (CE (.builtin "dict.get") [u,ku,du]) (RV v):=by
 refine A0.Be h ?_;clear h;intro hk h;refine xA (FG h) ?_;intro e DX;subst DX;injection e with e;subst e;intro A2 E kk;exact Gm u5 (WS g hd ru) bz2 (mA g hd ru rk rd hk λw s' g' x' r'=>kk w C s' g' x' r') (PySem.F.args_dict_get_3 _ _ _)
end
open PyProof.Rows(IntsAre)
noncomputable def PI:I (A4×A4)->I AX->I AX->Prop
 |[],m,n=>m=[]/\n=[]|p::r,m,n=>∃a t c u m' n',p=(.int a t,.int c u)/\m=a::m'/\n=c::n'/\PI r m' n'
theorem mV{vs ws:I A4}{ms ns:I AX}(hv:Ph vs ms):Ph ws ns->vs.length=ws.length->PI (vs.zip ws) ms ns:=by induction hv generalizing ws ns with
 |nil=>intro hw h;cases hw with
  |nil=>exact⟨rfl,rfl⟩|cons=>(exfalso;cases h)
 |cons a t hv ih=>intro hw h;cases hw with
 |nil=>(exfalso;cases h)|cons c u hw=>exact⟨a,t,c,u,_,_,rfl,rfl,rfl,ih hw (YR h)⟩
theorem mW{a b:AX}{x y:I AX}:JE (a::x) (b::y)=if a=b then JE x y else decide (a<b):=rfl
section
theorem ao2(l b:A8)(c1 c2:A4)(d1 d2:AD A8)(LL Tg:BW (AD A4))(Cb OW:BW A4)(n n2:O)(ms ns:I AX)(hm:Ph Cb.toList ms)(hn:Ph OW.toList ns)(hs:Cb.size=OW.size):VA (EB.«tuple.__lt__» ⟨[.ref l,.ref b],[]⟩) (λA AS s=>s.heap.get? l=G ⟨c1,d1,.seq Cb n,LL⟩/\s.heap.get? b=G ⟨c2,d2,.seq OW n2,Tg⟩/\(∀(prog:He)(w:EC)(A':CK)(A2:AK->AR->Prop)(E:A4->AR->Prop),A2 M s->AH (AQ prog w) A' (V3 (.ref b) (.type "tuple")) A2 E s)/\AS (.ok (.ret (.bool (JE ms ns)))) s):=.of_wp λprog w A AS s h=>by
 obtain⟨FI,g,d,tk,os⟩:=s;refine M8 h ?_;(try clear h);intro hl hb hi h;wp_walk using hi _ _ _ _ _,YX hl,YX hb,gk _ (λC4 b s'=>b.1=L/\s'=⟨FI,g,d,tk,os⟩/\∃LM Fs,PI C4 LM Fs/\AS (.ok (.ret (.bool (JE LM Fs)))) ⟨FI,g,d,tk,os⟩) _;case turn=>
  rintro⟨y,x⟩C4 b s'⟨GY,rfl,LM,Fs,hp,hR⟩;refine iM hp ?_;clear hp;intro a t c u m n q1 q2 q3 hp;injection q1 with q1 q4;subst q1;subst q4;subst q2;subst q3;rw[mW]at hR;refine A5 ((tq a c t u).at A.in1 _ prog w _ _ ?_);by_cases OX:a=c
  . subst OX;simp only[g5,Km]at hR ⊢;wp_walk;exact⟨rfl,rfl,_,_,hp,hR⟩
  . have I1:(a==c)=A6:=by simpa using OX
    rw[CS OX]at hR;rw[I1];refine A5 (Gk (A5 ?_));show AH (AQ prog w) A.in1 (Db .Lt (.int a t) (.int c u)) _ _ _;refine bu8 ?_;wp_walk;exact⟨_,rfl,hR⟩
 case fin=>
  rintro⟨b1,b2⟩s'⟨GY,rfl,LM,Fs,hp,hR⟩;have GY:b1=L:=GY;subst GY;refine xA hp ?_;clear hp;intro q1 q2;subst q1;subst q2;have hR:AS (.ok (.ret (.bool A6))) ⟨FI,g,d,tk,os⟩:=hR;wp_walk;refine⟨_,rfl,?_⟩;simpa[bB9,hs]using hR
 case h=>exact⟨rfl,rfl,_,_,mV hm hn (by simpa using hs),h⟩
theorem ao3(l b:A8)(c1 c2:A4)(d1 d2:AD A8)(LL Tg:BW (AD A4))(Cb OW:BW A4)(n n2:O)(ms ns:I AX)(hm:Ph Cb.toList ms)(hn:Ph OW.toList ns)(hs:Cb.size=OW.size):VA (EB.«tuple.__gt__» ⟨[.ref l,.ref b],[]⟩) (λA AS s=>s.heap.get? l=G ⟨c1,d1,.seq Cb n,LL⟩/\s.heap.get? b=G ⟨c2,d2,.seq OW n2,Tg⟩/\(∀(prog:He)(w:EC)(A':CK)(A2:AK->AR->Prop)(E:A4->AR->Prop),A2 M s->AH (AQ prog w) A' (V3 (.ref b) (.type "tuple")) A2 E s)/\AS (.ok (.ret (.bool (JE ns ms)))) s):=.of_wp λprog w A AS s h=>by
 obtain⟨FI,g,d,tk,os⟩:=s;refine M8 h ?_;(try clear h);intro hl hb hi h;wp_walk using hi _ _ _ _ _,YX hl,YX hb,gk _ (λC4 b s'=>b.1=L/\s'=⟨FI,g,d,tk,os⟩/\∃LM Fs,PI C4 LM Fs/\AS (.ok (.ret (.bool (JE Fs LM)))) ⟨FI,g,d,tk,os⟩) _;case turn=>
  rintro⟨y,x⟩C4 b s'⟨GY,rfl,LM,Fs,hp,hR⟩;refine iM hp ?_;clear hp;intro a t c u m n q1 q2 q3 hp;injection q1 with q1 q4;subst q1;subst q4;subst q2;subst q3;rw[mW]at hR;refine A5 ((tq a c t u).at A.in1 _ prog w _ _ ?_);by_cases OX:a=c
  . subst OX;simp only[g5,Km]at hR ⊢;wp_walk;exact⟨rfl,rfl,_,_,hp,hR⟩
  . have I1:(a==c)=A6:=by simpa using OX
    rw[CS (λz=>OX z.symm)]at hR;rw[I1];refine A5 (Gk (A5 ?_));show AH (AQ prog w) A.in1 (Db .Gt (.int a t) (.int c u)) _ _ _;refine bu9 ?_;wp_walk;exact⟨_,rfl,hR⟩
 case fin=>
  rintro⟨b1,b2⟩s'⟨GY,rfl,LM,Fs,hp,hR⟩;have GY:b1=L:=GY;subst GY;refine xA hp ?_;clear hp;intro q1 q2;subst q1;subst q2;have hR:AS (.ok (.ret (.bool A6))) ⟨FI,g,d,tk,os⟩:=hR;wp_walk;refine⟨_,rfl,?_⟩;simpa[bB9,hs]using hR
 case h=>exact⟨rfl,rfl,_,_,mV hm hn (by simpa using hs),h⟩
end
theorem mX(hv:O6 v=M)(r:VR h C v u):∃x y z l us n,v=.tup L [.int x,.int y,.int z]/\u=.ref l/\h.get? l=G {cls:=.type "tuple",data:=.seq us n}/\Ph us.toList [x,y,z]/\us.size=3:=by
 revert r;apply IQ hv B0;intro o l hv;apply GP hv B0;intro hv;apply FT hv B0;intro a l hv;apply FT hv B0;intro b l hv;apply Cs hv B0;intro c hv;apply Cu hv B0;intro x hv;apply Cu hv B0;intro y hv;apply Cu hv B0;intro z _ r;refine Kt r ?_;(try clear r);intro a o us n Bq e tg EK hd vr;subst Bq;refine xA (tg.2 rfl) ?_;intro Mg Mh;have ho:o={cls:=.type "tuple",data:=.seq us n}:=by obtain⟨c1,c2,c3,c4⟩:=o;simp only at EK hd Mg Mh;rw[EK,hd,Mg,Mh];rfl
 subst ho;refine Ys vr ?_;(try clear vr);intro _ _ h1 Bg _ _ Bu C9 _ _ Ck D8 DX;refine xE Bg ?_;(try clear Bg);intro t1 QY;subst QY;subst Bu;refine xE C9 ?_;(try clear C9);intro t2 TZ;subst TZ;subst Ck;refine xE D8 ?_;(try clear D8);intro bX4 T_;subst T_;subst DX;refine⟨x,y,z,a,us,n,rfl,rfl,e,?_,?_⟩;. rw[h1];exact .cons _ _ (.cons _ _ (.cons _ _ .nil))
 . have :=congrArg Rp h1;simpa using this
theorem mY{x y z x' y' z':AX}{c c':AD A8}:Sd (.tup c [.int x,.int y,.int z]) (.tup c' [.int x',.int y',.int z'])=G (JE [x,y,z] [x',y',z']):=rfl
section
theorem ao4(hv:O6 v=M)(Bh:O6 v'=M)(r:VR h C v u)(r':VR h C v' u')(q:Sd v' v=G b)(k:∀c o,h.get? c=G o->C2 o=M->s.heap.get? c=G o)(hu:A.units<IJ)(hq:A2 (.bool b) s):AH (AQ prog w) A (uG .Gt u u') A2 E s:=by
 refine iO (mX hv r) ?_;intro x y z l us n Ed FE e i1 s1;subst Ed;subst FE;refine iO (mX Bh r') ?_;intro x' y' z' l' Dy n' GB HD e' i2 s2;subst GB;subst HD;rw[mY]at q;injection q with q;subst q;have e:=k _ _ e rfl;have e':=k _ _ e' rfl;refine richCompare_meets_room (op:=.Gt) ⟨_,e,rfl⟩ ⟨_,e',rfl⟩ PySem.F.slot_tuple_gt PySem.F.entry_tuple_gt (PySem.F.args_tuple_gt_2 _ _) (ao3 l l' _ _ _ _ _ _ us Dy n n' _ _ i1 i2 (s1.trans s2.symm)) ⟨e,e',?_,?_⟩ hu
 . intro prog w A' A2 E hq;exact Ly (T:="tuple") ⟨_,e',rfl⟩ AutoSeq1.sub_tuple_tuple hq
 . show NY _≠Value.notImplemented/\A2 _ s;exact⟨(λx=>nomatch x),hq⟩
theorem ao5{A9:A8}{us:BW A4}(hh:A.handled=L)(hu:A.units+10<IJ)(hp:Af.PlainList a us)(hI:Af.get? AE=L)(hS:Af.get? A9=L)(LN:AE≠A9){AS:Dt->AR->Prop}(C4:I V):∀(i:O)(x m:V)(vb:A4)(s:AR)(c:O),O6 x=M->C4.all O6=M->Zm x C4=G m->Aa Af C C4 (us.toList.drop i)->VR Af C x vb->(∀b o,Af.get? b=G o->s.heap.get? b=G o)->s.heap.IsListIter AE a i->s.heap.get? A9=G {cls:=.type "list",data:=.seq #[vb,vb] c}->(∀u Q tk,VR Af C m u->(∀b o,Af.get? b=G o->Q.get? b=G o)->AS (.ok (.ret u)) {s with heap:=Q,toks:=tk})->D7 (AQ prog w) A (.builtin "max.loop" ⟨[.ref AE,.none,.ref A9],[]⟩) AS s:=by induction C4 with
 |nil=>
  intro i x m vb s c hx hr hm vr rx kp Bz Th hR;injection hm with hm;subst hm;have bj:(toString "max"++toString ".loop":D9)="max.loop":=by decide
  refine J4 uH ?_;skip;show AH _ A.in1 (Nd (.ref A9)>>=_) _ _ s;refine A5 (Nf Th rfl ?_);show AH _ A.in1 (tryCatch (ES (.ref AE)) _>>=_) _ _ s;have ao6:us[i]?=L:=by
   have :us.toList.drop i=[]:=vr;have h1:=congrArg Rp this;simp at h1;rw[Array.getElem?_eq_none_iff];(with_reducible exact bC0 (by assumption))
  have FI:s.heap.PlainList a us:=let⟨n,e⟩:=hp;⟨n,kp _ _ e⟩;refine A5 (Pb (br9 (by simp[hh]) Bz FI.isList ao6 λQ Df=>?_));have Fb:=Df A9 _ (CX LN) Th;skip;refine A5 ?_;refine Ng Fb rfl (A5 (Pg (AW ?_)));have ne:∀{b:A8}{o:Bi},Af.get? b=G o->b≠AE/\b≠A9:=λe=>⟨λz=>by(rw[z,hI]at e;exact(BE e).elim),λz=>by(rw[z,hS]at e;exact(BE e).elim)⟩;exact hR vb _ _ rx λb o e=>(GN _ _ (CX (ne e).2)).trans (Df b o (ne e).1 (kp b o e))|cons y C4 ih=>
  intro i x m vb s c hx hr hm vr rx kp Bz Th hR;have bj:(toString "max"++toString ".loop":D9)="max.loop":=by decide
  simp only[tF,D6]at hr;have ne:∀{b:A8}{o:Bi},Af.get? b=G o->b≠AE/\b≠A9:=λe=>⟨λz=>by(rw[z,hI]at e;exact(BE e).elim),λz=>by(rw[z,hS]at e;exact(BE e).elim)⟩;refine Bv vr ?_;(try clear vr);intro v vs hd ry Qg;have hi:us[i]?=G v:=by
   have :(us.toList.drop i)[0]?=G v:=by rw[hd];rfl
   rw[uI]at this;simpa using this
  have GW:us.toList.drop (i+1)=vs:=by rw[<-bt3,hd];rfl
  refine J4 uH ?_;skip;show AH _ A.in1 (Nd (.ref A9)>>=_) _ _ s;refine A5 (Nf Th rfl ?_);show AH _ A.in1 (tryCatch (ES (.ref AE)) _>>=_) _ _ s;have FI:s.heap.PlainList a us:=let⟨n,e⟩:=hp;⟨n,kp _ _ e⟩;refine A5 (Pb (tH Bz FI.isList hi λQ Qh Df=>?_));have Fb:=Df.extBut A9 _ (CX LN) Th;have Ti:∀b o,Af.get? b=G o->Q.get? b=G o:=λb o e=>Df.extBut b o (ne e).1 (kp b o e);show AH _ A.in1 (tryCatch (Hf [v,v] (uG .Gt v vb>>=_)) _>>=_) _ _ _;apply BI hm;intro bX5 hb hm;refine A5 (Pb (C0 (A5 (ao4 hr.1 hx ry rx hb (λc o e _=>Ti c o e) (by show A.units+1<IJ;(with_reducible exact Mine.wK (by assumption))) ?_))));refine A5 (C0 (NU ?_));refine A5 (Pg (AW ?_));cases bX5 with
 |true=>
   simp only[Km];refine A5 ?_;refine Ng Fb rfl (A5 (Pg ?_));skip;refine AW ⟨plainId_quiet gl _,ih (i+1) y m v _ _ hr.1 hr.2 hm (by rw[GW];exact Qg) ry (λb o e=>(GN _ _ (CX (ne e).2)).trans (Ti b o e)) ?_ (FS _ Fb rfl) λu Wl tk ru OY=>hR u Wl tk ru OY⟩;refine AC Qh ?_;(try clear Qh);intro o e r;exact⟨o,(GN _ _ (CX LN)).trans e,r⟩|false=>
   simp only[Kk,Kl];refine A5 (Pg ?_);skip;exact AW ⟨plainId_quiet gl _,ih (i+1) x m vb _ _ hx hr.2 hm (by rw[GW];exact Qg) rx Ti Qh Fb λu Wl tk ru OY=>hR u Wl tk ru OY⟩
end
section
theorem ao7{r:V}(g:Gd B F K A H C s)(ru:VR s.heap C v u)(h:jt v H=.ok (.v r) A7):Ae B F K A A7 C s (CE (.builtin "max") [u]) (RV r):=by
 intro A2 E kk;revert ru;apply A0.MU h;clear h;intro i Y hi h ru;cases Y with
 |nil=>exact(Ac h).elim|cons x C4=>
 refine A0.Be h ?_;clear h;intro hc h;simp only[D6]at hc;refine xA (MW h) ?_;intro hm L4;subst L4;refine Bv (g.listAt ru hi) ?_;intro a us L5 p vr;subst L5;refine Bv vr ?_;(try clear vr);intro v vs hd rx Qg;have bj:(toString "max"++toString ".loop":D9)="max.loop":=by decide
 have Wm:=g.units;refine bB4 PySem.F.kind_max PySem.F.plain_max PySem.F.entry_max (PySem.F.args_max1 _) ?_;show AH _ A.in1 (bC1 "max" ["key","default"] 0 ⟨[],[]⟩>>=_) _ _ s;refine A5 (NX (show bC1 "max" ["key","default"] 0 ⟨[],[]⟩=pure [L,L]from rfl) ?_);refine A5 (AW ?_);refine A5 (fk p.isList ?_);refine A5 (IF ?_);rw[bj];have hI:s.heap.get? s.heap.objs.size=L:=GD s.heap;generalize hH:s.heap.push {cls:=.type "list_iterator",data:=.fields #[.ref a,.int 0 0]}=BF;have kH:∀b o,s.heap.get? b=G o->BF.get? b=G o:=λb o e=>by rw[<-hH];exact C1 _ e
 have mZ:BF.objs.size=s.heap.objs.size+1:=by rw[<-hH];exact IG ..
 have bX6:BF.get? s.heap.objs.size=G {cls:=.type "list_iterator",data:=.fields #[.ref a,.int 0 0]}:=by rw[<-hH];exact CY _ rfl
 have hS:s.heap.get? BF.objs.size=L:=KC (by rw[mZ];exact PQ _);have LN:s.heap.objs.size≠BF.objs.size:=by rw[mZ];exact ER (PR _)
 dsimp only;generalize hG:BF.push {cls:=.type "list",dict:=L,data:=.seq ([]:I A4).toArray}=Bl;have gS:Bl.get? BF.objs.size=G {cls:=.type "list",dict:=L,data:=.seq #[]}:=by rw[<-hG];exact CY _ rfl
 have kG:∀b o,BF.get? b=G o->Bl.get? b=G o:=λb o e=>by rw[<-hG];exact C1 _ e
 have ne:∀{b:A8}{o:Bi},s.heap.get? b=G o->b≠s.heap.objs.size/\b≠BF.objs.size:=λe=>⟨λz=>by(rw[z,hI]at e;exact(BE e).elim),λz=>by(rw[z,hS]at e;exact(BE e).elim)⟩;refine AW ⟨plainId_quiet gl _,J4 uH ?_⟩;skip;show AH _ A.in1 (Nd (.ref BF.objs.size)>>=_) _ _ _;refine A5 (Nf gS rfl ?_);show AH _ A.in1 (tryCatch (ES (.ref s.heap.objs.size)) _>>=_) _ _ _;have Bz:Bl.IsListIter s.heap.objs.size a 0:=⟨_,kG _ _ bX6,rfl,rfl⟩;have bX7:Bl.PlainList a us:=let⟨n,e⟩:=p;⟨n,kG _ _ (kH _ _ e)⟩;have h0:us[0]?=G v:=by
   have :us.toList[0]?=G v:=by rw[hd];rfl
   simpa using this
 refine A5 (Pb (tH Bz bX7.isList h0 λQ Qh Df=>?_));have Fb:=Df.extBut BF.objs.size _ (CX LN) gS;show AH _ A.in1 (Ru BF.objs.size (λ_=>#[v,v])>>=_) _ _ _;refine A5 ?_;refine Ng Fb rfl ?_;skip;refine AW ⟨plainId_quiet gl _,ao5 (C:=C) (Af:=s.heap) g.handled (by unfold IJ;(with_reducible exact Mine.yU (by assumption) (by decide))) p hI hS LN C4 1 x r v _ _ hc.1.1 hc.1.2 hm ?_ rx (λb o e=>(GN _ _ (CX (ne e).2)).trans (Df.extBut b o (ne e).1 (kG _ _ (kH _ _ e)))) ?_ (FS _ Fb rfl) λu Wl tk ru OY=>?_⟩
 . have :us.toList.drop 1=vs:=by rw[hd];rfl
   rw[this];exact Qg
 . refine AC Qh ?_;(try clear Qh);intro o e r;exact⟨o,(GN _ _ (CX LN)).trans e,r⟩
 . exact kk u C _ (g.ext OY) (Nx.ext OY) (ru.Bw λb o e _=>OY b o e)
end
section
set_option tactic.hygienic true in
theorem bk{k:U}{v:A4}(h:(strKind prog w).is k v=M):∃t,v=.str k t:=by
 cases v<;>first|(simp[strKind,YP]at h;done)|skip
 rename_i y t;have :y=k:=by simpa[strKind,YP]using h
 exact⟨t,by rw[this]⟩
noncomputable def FK(B:Bs)(h:BK)(C:I A8):I (V×V)->I FQ->Prop
 |[],l=>l=[]|p::ps,l=>∃x ku vu r,l=⟨(strKind B.prog B.w).hash x,ku,vu⟩::r/\p.1=GV x/\(strKind B.prog B.w).is x ku=M/\VR h C p.2 vu/\FK B h C ps r
theorem FK.cons{r:I FQ}(b:(strKind B.prog B.w).is x ku=M)(c:VR h C v vu)(d:FK B h C ps r):FK B h C ((GV x,v)::ps) (⟨(strKind B.prog B.w).hash x,ku,vu⟩::r):=⟨x,ku,vu,r,rfl,rfl,b,c,d⟩
theorem FK.ind{P:I (V×V)->I FQ->Prop}(n:P [] [])(c:∀x ku vu v ps r,(strKind B.prog B.w).is x ku=M->VR h C v vu->FK B h C ps r->P ps r->P ((GV x,v)::ps) (⟨(strKind B.prog B.w).hash x,ku,vu⟩::r)):∀{l:I FQ},FK B h C ps l->P ps l:=by induction ps with
 |nil=>intro l e;cases e;exact n|cons p ps ih=>
 intro l e;refine VS e ?_;clear e;intro x ku vu r q e1 a b d;subst q;rw[show p=(GV x,p.2)from NQ e1 rfl];exact c x ku vu p.2 ps r a b d (ih d)
theorem ao8{Az:I (U×A4)}{l:I FQ}(d:DR GV h C N Az):Pairs (strKind B.prog B.w) l Az->(∀e∈l,∃k,(strKind B.prog B.w).is k e.key=M/\e.hash=(strKind B.prog B.w).hash k)->FK B h C N l:=by
 revert l;refine DR.ind (P:=λN Az=>∀{l},Pairs (strKind B.prog B.w) l Az->(∀e∈l,∃k,(strKind B.prog B.w).is k e.key=M/\e.hash=(strKind B.prog B.w).hash k)->FK B h C N l) (λp _=>by cases p;rfl) (λk v u N r rv _ ih l p hk=>?_) d;cases p with|@cons en _ l' _ h1 h2 h3=>
 refine AC (hk en Co) ?_;intro k' q1 q2;obtain⟨bX8,ek,ev⟩:=en;have :k'=k:=(strKind B.prog B.w).inj ek k' k q1 h1;subst this;have q2:bX8=_:=q2;have h2:ev=u:=h2;rw[q2,h2];exact .cons h1 rv (ih h3 λe m=>hk e (Cp _ m))
theorem bl(h:Su N=M){hp:BK}(r:Dn B.prog B.w hp C a N):∃Az,hp.DictAt (strKind B.prog B.w) a Az Az.length/\DR GV hp C N Az:=by
 refine r.elim id λr=>AC r λAz hm dr=>?_;cases N with
 |nil=>exact⟨[],ay (B:=B) (by rw[show Az=[]from dr]at hm;exact hm),rfl⟩|cons p N=>
 refine Gp dr λk u r _ e1 _=>?_;have h1:=Bn.mp h p Co;rw[e1]at h1;exact(E5 h1).elim
theorem FK.drop{l:I FQ}(k:O)(r:FK B h C ps l):FK B h C (ps.drop k) (l.drop k):=FK.ind (P:=λps l=>∀k,FK B h C (ps.drop k) (l.drop k)) (λk=>by cases k<;>rfl) (λ_ _ _ _ _ _ b c d ih k=>by cases k with|zero=>exact .cons b c d|succ k=>exact ih k) r k
theorem FK.ao9{l:I FQ}(r:FK B h C ps l):∀e∈l,∃x t,e.key=.str x t:=FK.ind (P:=λ_ l=>∀e∈l,∃x t,e.key=.str x t) (λ_ m=>nomatch m) (λx _ _ _ _ _ b _ _ ih q m=>(Cj.mp m).elim (λe=>xE (bk b) λt z=>⟨x,t,e▸z⟩) (ih q)) r
theorem FK.length{l:I FQ}(r:FK B h C ps l):ps.length=l.length:=FK.ind (P:=λps l=>ps.length=l.length) rfl (λ_ _ _ _ _ _ _ _ _ ih=>congrArg (·+1) ih) r
set_option tactic.hygienic true in
theorem m_{Am Ie:I (V×V)}{w:A4}(g:Gd B F K A H C s)(hd:AL H.h i=G (.dict Am))(ha:C[i]?=G a)(hj:AL H.h j=G (.dict N))(LD:VR s.heap C (.ref j) w)(Qi:i≠j)(hf:Vv N Am=G Ie):Ae B F K A (H.set i (.dict Ie)) C s (mergeMapping a w A6) RU:=by
 intro A2 E kk;unfold Vv at hf;split at hf;case h_2=>exact(BE hf).elim
 rename_i Tj;simp only[D6]at Tj;refine AC LD ?_;(try clear LD);intro b hb Aw;subst Aw;have r:=g.obj hj hb;refine AC (bl Tj.1 r) ?_;intro Az B6 dr;refine M9 B6 ?_;(try clear B6);intro o l ho hc OZ ap0 ap1 _;have er:FK B s.heap C N l.toList:=ao8 dr ap1 λe m=>ap0 e (by simpa using m);have Gb:a≠b:=λz=>by
   clear ho r;subst z;exact Qi ((RX (HL.mp ha).1 g.nodup).mp (ha.trans hb.symm))
 have hT:s.TypeIs (.ref b) "dict":=⟨o,ho,hc.1⟩;have ra:=g.obj hd ha;refine AC (bl Tj.2 ra) ?_;intro kva bm dra;have Wn:∃oa la ma,s.heap.get? a=G oa/\oa.data=.dict la ma:=by refine HS bm ?_;(try clear bm);intro o' BN e hc hd _;exact⟨o',BN,_,e,hd⟩
 refine Hp Wn ?_;(try clear Wn);intro oa la ma Wn QU;have Ch:=er.length;unfold mergeMapping;refine A5 (Ly hT isSubtype_dict_dict ?_);skip;refine A5 (YL hT PySem.F.slot_dict_iter.lookup (A5 (AW ?_)));simp only[g5];rw[g.QS (Ew hb)];skip;have mc:∀(AS:PUnit->AR->Prop)(E:A4->AR->Prop)(f:O->PUnit->Dz (tJ PUnit)),(∀i u,f i u=(do
 let G e:=(<-dictEntries b)[i]?|unsupported "dict.changed-during-merge"
 Hf [e.key,e.val] (u9 a e.hash e.key e.val)if(<-dictEpoch b)!=Az.length then RZ "dict.changed-during-merge"
 pure (.yield ⟨⟩)))->(∀AP Fu,E4 a s.heap AP->AP.DictAt (strKind B.prog B.w) a Fu Fu.length->DR GV s.heap C Ie Fu->AS ⟨⟩ {s with heap:=AP})->AH (AQ B.prog B.w) A (forIn (DN l.size) PUnit.unit f) AS E s:=by
   intro AS E f hfe hR;refine gk _ (λC4 _ s'=>∃k AP Fu Wo,C4=(DN l.size).drop k/\s'={s with heap:=AP}/\E4 a s.heap AP/\AP.DictAt (strKind B.prog B.w) a Fu Fu.length/\DR GV s.heap C Wo Fu/\Ky (N.drop k) Wo=G Ie) _ ?turn ?fin _ _ ?h;case h=>exact⟨0,s.heap,kva,Am,rfl,rfl,g9 _ _,bm,dra,hf⟩
   case fin=>
    rintro⟨⟩s'⟨k,AP,Fu,Wo,hr,rfl,hs,hm,d1,FJ⟩;have :(DN l.size).length<=k:=by
     rcases bC2 k (DN l.size).length with h|h;. have :=congrArg Rp hr;simp at this h;omega
     . exact h
    simp at this Ch;rw[bC3 (by(with_reducible exact Mine.yT (by assumption) (by assumption)))]at FJ;injection FJ with FJ;clear hf kk;subst FJ;exact hR AP Fu hs hm d1
   case turn=>
    rintro x C4⟨⟩s'⟨k,AP,Fu,Wo,hr,rfl,hs,hm,d1,FJ⟩;have hk:k<l.size:=by
     rcases bC2 k l.size with h|h;. exact h
     . rw[bC3 (by simpa using h)]at hr;(exfalso;cases hr)
    rw[YK (by simpa using hk)]at hr;injection hr with me hr2;simp only[List.getElem_range]at me;subst me;have bo:=er.drop x;have hkl:x<N.length:=by rw[Ch];simpa using hk
    rw[YK hkl]at bo FJ;refine VS bo ?_;(try clear bo);intro xx ku vu r' he e1 e2 e3 _;have bp:l[x]?=G ⟨(strKind B.prog B.w).hash xx,ku,vu⟩:=by
     have :(l.toList.drop x)[0]?=G ⟨(strKind B.prog B.w).hash xx,ku,vu⟩:=by rw[he];rfl
     skip;simpa using this
    have O_:AP.get? b=G o:=(hs.2 b (CX Gb)).trans ho;unfold Ky at FJ;refine Eb FJ (λWp FJ=>?_) λ_ e=>(AF e).elim;replace Wp:=Rd (B1 Wp) (Ak Wp);have hl:=Ef Wp.2;rw[hfe];refine A5 (YY (s:={s with heap:=AP}) O_ OZ ?_);rw[bp];dsimp only;refine A5 (C0 (ak7 (By:=strKind B.prog B.w) (k:=xx) (s:={s with heap:=AP}) e2 hm (λQ HF Df=>?_) (by have :=d1.length;exact B4 (show _<=100000 by(with_reducible exact Mine.yT (by assumption) (by assumption))) (by decide))));have ap2:Q.get? b=G o:=(Df.2 b (CX Gb)).trans O_;refine A5 (uJ (s:={s with heap:=Q}) ap2 OZ ?_);simp only[YA,Kk,Kl];refine AW ⟨x+1,Q,_,_,hr2,rfl,hs.trans Df,HF,?_,FJ⟩;rw[e1];exact d1.put WP (k:=xx) e3 (Uy hm)
 have C4:∀(_:DM->AR->Prop),(∀AP Fu,E4 a s.heap AP->AP.DictAt (strKind B.prog B.w) a Fu Fu.length->DR GV s.heap C Ie Fu->A2 () {s with heap:=AP}):=λAS AP Fu hs hm d1=>by
   refine xA (g.set (Q:=AP) (tk:=s.toks) (o':=.dict Ie) ha hd (λ_ _ e=>by(exfalso;cases e)) hs.extBut (DictAt.live hm) λim=>.inl ⟨_,hm,T6 (p:=λJ=>DR GV AP J _ _) (d1.mono (J:=[]) im)⟩) ?_;intro g' x';exact kk () C _ g' x' trivial
 refine A5 (YY Wn QU ?_);refine P_ (λ_=>?_) (λ_=>?_)
 . refine A5 (YY ho OZ ?_);rw[<-uK];refine A5 (gk _ (λC4 _ s'=>s'=s/\∀e∈C4,∃x t,e.key=.str x t) _ ?turn ?fin _ _ ⟨rfl,er.ao9⟩);case turn=>
    rintro e C4⟨⟩s'⟨rfl,hk⟩;refine DB (hk e Co) ?_;intro x t e1;rw[e1];exact AW ⟨rfl,λe m=>hk e (Cp _ m)⟩
   case fin=>
    rintro⟨⟩s'⟨rfl,_⟩;refine A5 (YY ho OZ ?_);refine A5 (uJ ho OZ ?_);refine A5 (mc _ _ _ ?_ λAP Fu hs hm d1=>AW (C4 A2 AP Fu hs hm d1));intro i u;rfl
 . refine A5 (YY ho OZ ?_);refine A5 (uJ ho OZ ?_);refine A5 (mc _ _ _ ?_ λAP Fu hs hm d1=>AW (C4 A2 AP Fu hs hm d1));intro i u;rfl
theorem JS{J:I A8}(x:Nx AM AZ h Q C J)(e:C[i]?=G a):J[i]?=G a:=by refine AC x.pre ?_;intro EH q _;rw[q];exact FY e
theorem ap3(A9:C5 B A3 n){k v0 v:AA}{r:V}(h:Fp A3 K (ev A3 n) (.Dict [L,G k] [v0,v] pos) H=.ok (.v r) A7)(g:Gd B F K A H C s):Ae B F K A A7 C s (eval (.Dict [L,G k] [v0,v] pos) F.env) (RV r):=by
 refine A0.Cg h ?_;clear h;intro w AB AP h;revert AP;apply A0.xp h;clear h;intro wi N mf h AP;refine A0.Be h ?_;clear h;intro Cc h;refine A0.OD h ?_;clear h;intro Am Oa h;refine A0.Bx h ?_;clear h;intro Ie hm h;refine A0.Cg h ?_;clear h;intro kv Bc BD h;refine A0.Cg h ?_;clear h;intro vv GX C3 h;refine A0.OD h ?_;clear h;intro sub LJ h;refine A0.Be h ?_;clear h;intro hc h;simp only[D6]at hc;refine A0.OD h ?_;clear h;intro ap4 ap5 h;refine A0.Bx h ?_;clear h;intro bN5 hm3 h;apply B5 h;clear h;have Cc:wi≠H.n:=λz=>by clear mf AP;subst z;simp at Cc
 intro A2 E kk;skip;refine A5 (El ?_);show AH _ A (YW [(L,do let x<-eval v0 F.env;Kh pos;pure x),(G (eval k F.env),do let x<-eval v F.env;Kh pos;pure x)]) A2 E s;unfold YW;simp only[Rf,gm,bz1,Km,pure_bind,bind_assoc,uL,List.isEmpty_cons,uF];refine A5 (YF ?_);refine xA (g.newDict s.toks) ?_;intro Fa Cq;have hD:(C++[s.heap.objs.size])[H.n]?=G s.heap.objs.size:=g.LI;refine A5 (C0 (A5 (A9.e AP Fa _ _ λu A_ AJ AN Ab Aq=>A5 (El (AW ?_)))));have TK:=JS Ab hD;refine A5 (Y6 (Pb (Y6 (C0 (m_ AN Oa TK mf Aq (λz=>Cc z.symm) hm _ _ λ_ Au Ai AU Al _=>?_)))));have Me:=JS Al TK;skip;refine A5 (AW ?_);refine A5 (AW ?_);refine A5 (A5 (C0 ?_));unfold subDict;refine xA (AU.newDict Ai.toks) ?_;intro Ap B8;have Tk:(AB.set H.n (.dict Ie)).n=AB.n:=rfl;have hS:(Au++[Ai.heap.objs.size])[AB.n]?=G Ai.heap.objs.size:=AU.LI;refine A5 (YF (A5 (C0 ?_)));dsimp only;skip;simp only[u8];refine A5 (A5 (A9.e BD Ap _ _ λku Ic EG CA Cz JP=>A5 (C0 (A5 (A9.e C3 CA _ _ λvu QT Eg Cn EL Ii=>A5 (El (AW ?_)))))));have mh:=JS EL (JS Cz hS);have mj:=JS EL (JS Cz (JS B8 Me));refine A5 (C0 (AW (AW ?_)));refine C0 ?_;simp only[Rf,gm];refine A5 (A5 (A5 (mM Cn LJ mh (JP.nx EL) Ii hc.1 hc.2 _ _ λ_ WK TH G_ GF _=>AW (AW (AW (AW ?_))))));have CF:H.n<AB.n:=by
  have h1:(C++[s.heap.objs.size]).length<=A_.length:=by refine AC Ab.pre ?_;intro J e _;rw[e];simp
  have h2:=AN.len;have h3:=g.len;simp at h1;omega
 have hb:AL (GX.set AB.n (.dict (En sub kv vv))).h H.n=G (.dict ap4):=by
  show AL (putN GX.h AB.n _) H.n=_;rw[MP (ER CF)];exact ap5
 have hs2:AL (GX.set AB.n (.dict (En sub kv vv))).h AB.n=G (.dict (En sub kv vv)):=MO LJ;refine A5 (Y6 (C0 (m_ G_ hb (JS GF mj) hs2 ⟨_,JS GF mh,rfl⟩ (ER CF) hm3 _ _ λ_ bq br Tl Qj _=>?_)));refine AW (AW ?_);exact kk _ _ _ Tl (Cq.trans (Ab.trans (Al.trans (B8.trans (Cz.trans (EL.trans (GF.trans Qj))))))) ⟨_,JS Qj (JS GF mj),rfl⟩
end
open PyProof.Rows(StrsAre sortedS risingS)
theorem bs(x:Tx):∀l:I Tx,(QD x l).Perm (x::l)
 |[]=>.rfl|y::l=>by
  unfold QD;cases EZ x y with
 |true=>exact .rfl|false=>exact((bs x l).cons y).trans (.swap x y l)
theorem Wq:∀l:I Tx,(Ea l).Perm l
 |[]=>.rfl|x::l=>(bs x _).trans ((Wq l).cons x)
theorem ap6{x:Tx}(h:EZ y x=A6):x<=y:=bC4.mp λz=>by rw[TP.mpr z]at h;(exfalso;cases h)
theorem ml(x:Tx):∀{l:I Tx},l.Pairwise (·<=·)->(QD x l).Pairwise (·<=·)
 |[],_=>gn _ _|y::l,h=>by
  refine xA (Uz.mp h) ?_;intro h1 h2;unfold QD;cases q:EZ x y with
 |true=>
   have xy:x<=y:=List.le_of_lt (TP.mp q);refine Uz.mpr ⟨λz hz=>?_,h⟩;rcases Cj.mp hz with rfl|hz;. exact xy
   . exact bC5 xy (h1 z hz)|false=>
   have bX9:y<=x:=ap6 q;refine Uz.mpr ⟨λz hz=>?_,ml x h2⟩;rcases Cj.mp ((bs x l).mem_iff.mp hz)with rfl|hz;. exact bX9
   . exact h1 z hz
theorem Wr:∀l:I Tx,(Ea l).Pairwise (·<=·)
 |[]=>.nil|x::l=>ml x (Wr l)
noncomputable def tx(x:U):Tx:=x.cps.toList
theorem mn:∀(p:U)(l:I U),risingS p l=M->((p::l).map tx).Pairwise (·<=·)
 |p,[],_=>gn _ _|p,x::r,h=>by
  simp only[risingS,D6,PT]at h;have ih:=mn x r h.2;have px:tx p<=tx x:=bC4.mp λz=>by have :=h.1;rw[bT0,gP]at this;exact this z
  skip;refine xA (Uz.mp ih) ?_;intro h1 h2;refine Uz.mpr ⟨λz hz=>?_,ih⟩;rcases Cj.mp hz with rfl|hz;. exact px
  . exact bC5 px (h1 z hz)
theorem ap7{l:I U}(h:sortedS l=M):(l.map tx).Pairwise (·<=·):=by cases l with
 |nil=>exact .nil|cons x r=>exact mn x r h
theorem mq{Oc:I U}(hs:sortedS Oc=M)(hp:(Oc.map tx).Perm l):Oc.map tx=Ea l:=bC6 (le:=(·<=·)) (λa b _ _ h1 h2=>bC7 h1 h2) (ap7 hs) (Wr l) (hp.trans (Wq l).symm)
theorem bt:∀{vs:I A4}{ss:I U},M3 vs ss->∀{h:BK}{C:I A8},Aa h C ((ss.map tx).map .str) vs
 |_,_,.nil,_,_=>rfl|_,_,.cons y t r,_,_=>⟨_,_,rfl,⟨t,rfl⟩,bt r⟩
theorem mr:∀{us:I A4},Aa h C (l.map .str) us->M3 us (l.map λx=>⟨⟨x⟩⟩):=by induction l with
 |nil=>exactλe=>e▸.nil|cons x l ih=>intro us r;refine Aa.Sx (vs:=l.map .str) r (P:=λus=>M3 us ((x::l).map λx=>⟨⟨x⟩⟩)) ?_;intro u us a b;refine xE a ?_;intro t a;subst a;exact .cons _ t (ih b)
section
theorem mu{x:A4}(hl:l.length<60)(hc:∀(AS:I A4->AR->Prop)(E:A4->AR->Prop),(∀vs ss Q tk,M3 vs ss->(ss.map tx).Perm l->(∀b o,s.heap.get? b=G o->Q.get? b=G o)->AS vs {s with heap:=Q,toks:=tk})->AH (AQ prog w) A.in1 (YE x) AS E s)(hQ:∀(D:A8)(us:BW A4)(Q:BK)(tk e:O),s.heap.get? D=L->Q.get? D=G {cls:=.type "list",data:=.seq us e}->(∀b o,s.heap.get? b=G o->Q.get? b=G o)->(∀h C,Aa h C ((Ea l).map .str) us.toList)->A2 (.ref D) {s with heap:=Q,toks:=tk}):AH (AQ prog w) A (call (.builtin "sorted") [x]) A2 E s:=by
 refine bC8 bC9 bD0 bD1 (bD2 _) ?_;skip;refine A5 (m:=checkCount "sorted" 1 1 _) (AW ?_);refine A5 (hc _ _ λvs ss Q tk hS hp kp=>?_);have Ch:vs.length=l.length:=by
   have h1:=hp.length_eq;have h2:vs.length=ss.length:=by clear hp h1;induction hS with|nil=>rfl|cons _ _ _ ih=>simp[ih]
   simp at h1;(with_reducible exact uM (by assumption) (by assumption))
 have hn:s.heap.get? Q.objs.size=L:=by cases e:s.heap.get? Q.objs.size with
 |none=>rfl|some o=>exact absurd (Dh (kp _ _ e)) (J0 _)
 refine A5 (uN ?_ (by rw[Ch];exact B4 (show l.length<=60 by(with_reducible exact Gi (by assumption))) (by decide)));have KD:(Q.push {cls:=.type "list",data:=.seq vs.toArray}).get? Q.objs.size=G (uO "list" vs.toArray 0):=CY _ rfl;refine A5 (C0 (Gm uP ⟨_,KD,rfl⟩ uQ (bD3 bD4 KD hS.keysOf (λHx ap8 C4 e=>bD5 (by rw[<-e];exact hS)) (by(with_reducible exact Mine.wR (by assumption) (by assumption))) λbu a1 a2=>⟨_,rfl,?_⟩) (uR _)));refine CZ (bD6 hS a1 a2) ?_;intro Oc h1 h2 h3;have key:Oc.map tx=Ea l:=mq h3 ((h2.map tx).trans hp);refine xE (uS (vs:=vs) (out:=(bD7 bu).map (·.2)) KD) ?_;intro e he;refine AW ⟨_,rfl,hQ Q.objs.size _ _ tk e hn he (λb o q=>?_) λh C=>?_⟩
 . have lt:=Dh (kp _ _ q);rw[uT (ER lt) (by rw[IG];exact fO lt)];exact C1 _ (kp _ _ q)
 . rw[<-key];exact bt h1
end
section
theorem Gd.newList(g:Gd B F K A H C s){us:BW A4}{e:O}(hn:s.heap.get? D=L)(hd:Q.get? D=G {cls:=.type "list",data:=.seq us e})(kp:∀b o,s.heap.get? b=G o->Q.get? b=G o)(hv:∀h C,Aa h C Y us.toList):Gd B F K A (H.new (.list Y)).2 (C++[D]) {s with heap:=Q,toks:=tk}/\Nx F.D [] s.heap Q C (C++[D]):=⟨g.new kp hn ⟨_,hd⟩ (o:=.list Y) ⟨us,⟨e,hd⟩,hv _ _⟩,Nx.add [_] kp λb hb=>by rw[CI.mp hb];exact hn⟩
theorem mw{r:V}(g:Gd B F K A H C s)(hi:AL H.h i=G (.list Y))(ru:VR s.heap C (.ref i) u)(h:O5 Y H=.ok (.v r) A7):Ae B F K A A7 C s (CE (.builtin "sorted") [u]) (RV r):=by
 refine A0.Bx h ?_;clear h;intro l hl h;refine A0.Be h ?_;clear h;intro hc h;(first|(revert k;(first|apply BX h|apply B5 h|apply BY h|apply BZ h|apply B_ h);intro k)|apply BX h|apply B5 h|apply BY h|apply BZ h|apply B_ h);have CF:l.length<60:=Dk hc;intro A2 E kk;refine Bv (g.listAt ru hi) ?_;intro a us B6 p vr;clear ru;subst B6;rw[OR hl]at vr;refine mu CF (λAS E k=>?_) λD Dy Q tk e hn hd kp hv=>?_
 . have Ih:s.heap.IsList a us.toList.toArray:=by simpa using p.isList
   have Ch:us.toList.length=l.length:=by rw[<-vr.length];simp
   refine bT1 Ih ?_ (by rw[Ch];exact B4 (show l.length<=60 by(with_reducible exact Gi (by assumption))) (by decide));have kp:∀b o,s.heap.get? b=G o->((s.heap.push (uO "list" #[] 0)).update s.heap.objs.size (GL (·++us.toList.toArray))).get? b=G o:=λb o e=>(GN _ _ (λz=>by rw[<-z]at e;exact absurd (Dh e) (J0 _))).trans (C1 _ e);exact k _ _ _ s.toks (mr vr) (by rw[Hl];have :(tx ∘λx=>(⟨⟨x⟩⟩:U))=id:=rfl;rw[this,bD8]) kp
 . refine xA (g.newList (tk:=tk) hn hd kp hv) ?_;intro g' x';exact kk _ _ _ g' x' ⟨_,g.LI,rfl⟩
theorem DR.ap9{Az:I (U×A4)}(d:DR GV h C N Az):N.map (·.1)=(Az.map λp=>tx p.1).map .str:=DR.ind (P:=λN Az=>N.map (·.1)=(Az.map λp=>tx p.1).map .str) rfl (λk _ _ _ _ _ _ ih=>congrArg (GV k::·) ih) d
theorem aq0:∀(Az:I (U×A4))(Am:I A4),Am.length=Az.length->(∀(j:O)(v:A4),Am[j]?=G v->∃k x,Az[j]?=G (k,x)/\(strKind prog w).is k v=M)->M3 Am (Az.map (·.1)):=by
 intro Az;induction Az with
 |nil=>
  intro Am hl _;have :Am=[]:=by simpa using hl
  clear hl;subst this;exact .nil|cons p Az ih=>
  intro Am hl h;cases Am with
 |nil=>simp at hl|cons v Am=>
  refine EX (h 0 v rfl) ?_;intro k x e hk;simp only[bw1,bT2]at e;subst e;refine xE (bk hk) ?_;intro t BJ;clear hk;subst BJ;exact .cons k t (ih Am (by simpa using hl) λj u hu=>by have :=h (j+1) u (by simpa using hu);simpa using this)
theorem aq1(g:Gd B F K A H C s)(ha:a∈C)(r:Dn B.prog B.w s.heap C a BN)(hp:BN.Perm N)(hl:HU (N.map (·.1))=G l)(CF:l.length<60):Ae B F K A (H.new (.list ((Ea l).map .str))).2 C s (CE (.builtin "sorted") [.ref a]) (RV (.ref H.n)):=by
 intro A2 E kk;have hk:=OR hl;have Tj:Su BN=M:=by
   rw[Su,Bn];intro p hm;have :p.1∈N.map (·.1):=E0.mpr ⟨p,hp.mem_iff.mp hm,rfl⟩;rw[hk]at this;refine AC (E0.mp this) ?_;intro x _ e;rw[<-e]
 refine AC (bl Tj r) ?_;intro Az hm dr;have F_:(Az.map λp=>tx p.1).Perm l:=by
   have h1:=dr.ap9;have h2:(BN.map (·.1)).Perm (N.map (·.1)):=hp.map _;rw[h1,hk]at h2;have :=h2.map (λv=>match v with|.str s=>s|_=>[]);simpa[Hl,Function.comp_def]using this
 have Ch:Az.length=l.length:=by have :=F_.length_eq;simpa using this
 refine mu CF (λAS E k=>?_) λD Dy Q tk e hn hd kp hv=>?_
 . refine kdu_collect (kdl_dict (knd:=strKind B.prog B.w) (kvs:=Az) (ep:=Az.length) (g.QS ha)) (by simp[g.handled]) hm (by rw[Ch];exact B4 (show l.length<=60 by(with_reducible exact Gi (by assumption))) (by decide)) λQ tk Am kp Oa=>?_;refine k _ (Az.map (·.1)) _ tk (aq0 (prog:=B.prog) (w:=B.w) _ _ (by rw[VD];exact Oa.1) λj v e=>Oa.2 j v (by rw[<-Rv];exact e)) ?_ kp;rw[Hl];exact F_
 . refine xA (g.newList (tk:=tk) hn hd kp hv) ?_;intro g' x';exact kk _ _ _ g' x' ⟨_,g.LI,rfl⟩
theorem aq2{r:V}(g:Gd B F K A H C s)(ru:VR s.heap C (.ref i) u)(h:ju i H=.ok (.v r) A7):Ae B F K A A7 C s (CE (.builtin "sorted") [u]) (RV r):=by
 refine A0.Bx h λo hi h=>?_;have F1:∀{N BN:I (V×V)}{a:A8},C[i]?=G a->u=.ref a->Dn B.prog B.w s.heap C a BN->BN.Perm N\/BN=N->O5 (N.map (·.1)) H=.ok (.v r) A7->Ae B F K A A7 C s (CE (.builtin "sorted") [u]) (RV r):=λ{N BN a}ha hu dr hp h=>by
  refine A0.Bx h λl hl h=>A0.Be h λhc h=>?_;apply B5 h;clear ru;subst hu;exact aq1 g (Ew ha) dr (hp.elim (λp=>p) λe=>by rw[e]) hl (Dk hc)
 revert hi;apply Jz h;. exactλY h hi=>mw g hi ru h
 intro h;apply Sa h;. exactλN h hi=>AC ru λa ha e=>F1 ha e (g.obj hi ha) (.inr rfl) h
 intro h;apply Sb h Ac;exactλN h hi=>AC ru λa ha e=>AC (g.obj hi ha) λBN hu dr=>F1 ha e dr (.inl hu.1) h
end
structure Ws(Kf:Gg):Prop where
 mx:∀A9,Rl Kf A9 (opaqueClassAbove (.type "tuple"))=G L
 typ:∀A9,Rl Kf A9 (Hg (.type "tuple"))=G (.type "type")bv:Gn Kf (.type "type") "__getattribute__"=G (G (.builtin "type.__getattribute__"))sub:YC Kf (.type "type") (.type "type")=G M
 new:ta Kf (.type "tuple") (.type "type") "__new__"=G (.val (.builtin "tuple.__new__"))
structure Tm(B:Bs)(A3:Mine.Ctx):Prop where
 fn:∀a fn,A3.fn a=G fn->∃o fd,FnAt B a fn o fd
 Gr:∃o fd,B.base.get? A3.Gr=G o/\o.data=.func fd
noncomputable def my:LK->D9|.append=>"list.append"|.pop=>"list.pop"|.sort=>"list.sort"
theorem aq3{m:U}{k:LK}(h:Vr m=G k):"list."++m.toString=my k:=H5.mp (show Vq.map (λp=>"list."++p.1.toString)=Vq.map (λp=>my p.2)by decide+kernel) _ (FF h)
noncomputable def mz:DK->D9|.So=>"dict.setdefault"|.get=>"dict.get"
theorem aq4{m:U}{k:DK}(h:Vt m=G k):"dict."++m.toString=mz k:=H5.mp (show Vs.map (λp=>"dict."++p.1.toString)=Vs.map (λp=>mz p.2)by decide+kernel) _ (FF h)
section
noncomputable def MS(T p:D9)(m:U):Prop:=M0 T m (p++m.toString)/\Hg (.builtin (p++m.toString))=pure (.type "method_descriptor")
theorem ms{T p n id:D9}{m:U}(e:(m,p++m.toString)=(Ev n,id))(a:M0 T n id)(b:Hg (.builtin id)=pure (.type "method_descriptor")):MS T p m:=by injection e with e1 e2;unfold MS;rw[e2];exact⟨e1▸a,b⟩
theorem aq5:∀x∈Vp,MS "str" "str." x.1:=all_cons (ms (by decide+kernel) PySem.F.slot_str_startswith PySem.F.type_str_startswith)<|all_cons (ms (by decide+kernel) PySem.F.slot_str_endswith PySem.F.type_str_endswith)<|all_cons (ms (by decide+kernel) gj PySem.F.type_str_split)<|all_cons (ms (by decide+kernel) PySem.F.slot_str_rfind PySem.F.type_str_rfind)<|all_cons (ms (by decide+kernel) PySem.F.slot_str_rstrip PySem.F.type_str_rstrip)<|all_cons (ms (by decide+kernel) PySem.F.slot_str_format_m PySem.F.type_str_format_m)<|all_cons (ms (by decide+kernel) PySem.F.slot_str_join PySem.F.type_str_join) EE
theorem aq6:∀x∈Vq,MS "list" "list." x.1:=all_cons (ms (by decide+kernel) bD9 bE0)<|all_cons (ms (by decide+kernel) PySem.F.slot_list_pop PySem.F.type_list_pop)<|all_cons (ms (by decide+kernel) PySem.F.slot_list_sort PySem.F.type_list_sort) EE
theorem aq7:∀x∈Vs,MS "dict" "dict." x.1:=all_cons (ms (by decide+kernel) bB8 PySem.F.type_dict_setdefault)<|all_cons (ms (by decide+kernel) u5 PySem.F.type_dict_get) EE
theorem aq8{m:U}{k:SK}(hk:Sp m=G k){A2:A4×I A4->AR->Prop}(h:A2 (.builtin ("str."++m.toString),[.str x t]) s):AH Av A (Jl (.str x t) m pl) A2 E s:=have z:=aq5 _ (FF hk);gq (Pc _ _ _) PySem.F.plainAttrs_str z.1 z.2 (λ_ e=>nomatch e) h
theorem n4{us:BW A4}{m:U}{k:LK}(hk:Vr m=G k)(hp:s.heap.PlainList a us){A2:A4×I A4->AR->Prop}(h:A2 (.builtin ("list."++m.toString),[.ref a]) s):AH Av A (Jl (.ref a) m pl) A2 E s:=have z:=aq6 _ (FF hk);xE hp λ_ ho=>gq ⟨_,ho,rfl⟩ bE1 z.1 z.2 (λ_ e=>⟨_,bE2 e▸ho,rfl⟩) h
theorem aq9{o:Bi}{m:U}{k:DK}(hk:Vt m=G k)(ho:s.heap.get? a=G o)(hc:o.cls=.type "dict")(hn:o.dict=L){A2:A4×I A4->AR->Prop}(h:A2 (.builtin ("dict."++m.toString),[.ref a]) s):AH Av A (Jl (.ref a) m pl) A2 E s:=have z:=aq7 _ (FF hk);gq ⟨_,ho,hc⟩ PySem.F.plainAttrs_dict z.1 z.2 (λ_ e=>⟨_,bE2 e▸ho,hn⟩) h
theorem ar0(T:Ws Kf)(AG:Kf.In s.heap){A2:A4×I A4->AR->Prop}(h:∀tk,A2 (.builtin "tuple.__new__",[]) {s with toks:=tk}):AH (AQ prog w) A (Jl (.type "tuple") "__new__" pl) A2 E s:=by
 unfold Jl;with_reducible refine A5 ((show Gj _ _ (Nc (.type "tuple") "__getattribute__") (G (.builtin "type.__getattribute__"))from(Nb AG (T.typ _)).andThen (Na AG T.bv)).here ?_)
 dsimp only;skip;refine A5 ?_;with_reducible refine cls_open (hook:=L) AG (Nb AG (T.mx _)) (Nb AG (T.typ _)) T.bv (looks_hook AG (by rw[CS (by decide+kernel)])) T.sub T.new ?_
 exact AW (by show AH _ _ (handedOut (.builtin "tuple.__new__")) _ _ _;rw[handedOut_of rfl];exact AW (AW (h _)))
theorem ar2(r:Dn B.prog B.w h C a N):∃o,h.get? a=G o/\o.cls=.type "dict"/\o.dict=L:=by(rcases r with n5|n6;refine AC n5 ?_;(try clear n5);intro Az ar3 _;obtain⟨o,BN,e,⟨hc,hn,_⟩,_⟩:=ar3;rotate_left;refine AC n6 ?_;(try clear n6);intro Az ar4 _;obtain⟨o,BN,e,⟨hc,hn,_⟩,_⟩:=ar4;rotate_left)<;>exact⟨o,e,hc,hn⟩
theorem n7(AG:Cx B A3 Kf)(T:Ws Kf):kl B A3:=λ{F K A H C s v u m kd}g r h pl A2 E k=>by
 have fin:∀{b:AK}{x:MK}{P:Prop},bT b L (G x)=G kd->(b=M->x=kd->P)->P:=λh c=>Ce h AF λq h=>c q (Bm h);have sk:∀{J:Type}{o:AD J}{P:Prop},o.isSome=M->(∀x,o=G x->P)->P:=λ{J o P}h c=>by cases o with
 |none=>exact(B0 h).elim|some x=>exact c x rfl
 revert r;apply O' h
 . intro x h r;refine fin h λq e=>sk q λk' hk=>?_;subst e;refine xE r ?_;(try clear r);intro t Aw;subst Aw;exact aq8 hk (k _ _ s g (Nx.refl ..) ⟨rfl,rfl⟩)
 intro h;apply Zh h
 . intro w h r;cases r;apply S_ h AF;intro t h;refine fin h λq e=>?_;subst e;apply IL (B1 q);apply aJ (Ak q);exact ar0 T (g.AV AG) λtk=>k _ _ _ (g.tok tk) (Nx.refl ..) ⟨rfl,rfl⟩
 intro h;apply EI h AF;intro i h r;refine BI h λo hi h=>?_;revert hi;apply Jz h
 . intro Y h hi;refine fin h λq e=>sk q λk' hk=>?_;subst e;refine Bv (g.listAt r hi) ?_;intro a us B6 p _;subst B6;exact n4 hk p (k _ _ s g (Nx.refl ..) ⟨rfl,rfl⟩)
 intro h;apply jg h
 . intro n Y h hi;refine fin h λq e=>sk q λk' hk=>?_;subst e;refine Bv (g.lr r hi) ?_;intro a us BJ p _;subst BJ;exact n4 hk p (k _ _ s g (Nx.refl ..) ⟨rfl,rfl⟩)
 intro h;apply Sa h
 . intro N h hi;refine fin h λq e=>sk q λk' hk=>?_;subst e;refine AC r ?_;(try clear r);intro a ha BP;subst BP;have ro:=g.obj hi ha;refine CZ (ar2 ro) ?_;intro o ho hc hn;exact aq9 hk ho hc hn (k _ _ s g (Nx.refl ..) ⟨rfl,rfl⟩)
 intro h;apply jf h AF;intro c d h hi;refine Ce h AF λhc h=>BI h λo hd h=>?_;revert hd;apply Zk h AF;intro N h hd;cases hm:Ah N m with
 |some _=>rw[hm]at h;exact(AF h).elim|none=>
   rw[hm]at h;refine BI h λa ha h=>?_;injection h with h;subst h;exact(zc AG g (CD hc▸hi) hd hm ha r pl).here (k _ _ s g (Nx.refl ..) ⟨rfl,rfl⟩)
theorem CW.B'{vs:BW A4}(e:h.get? a=G {cls:=.type "builtin_function_or_method",data:=.fields vs}):CW Av h (.ref a):=⟨.machine,.inr (.inl rfl),(Ki (part:=L) e).andThen .now⟩
theorem CW.cls{oc:A4}{od:AD A8}{cd:ClassData}{sl:BW (AD A4)}(e:h.get? a=G ⟨oc,od,.cls cd,sl⟩)(c:Gj Av h (Nc (.ref a) "__call__") (G (.builtin "type.__call__"))):CW Av h (.ref a):=⟨.machine,.inr (.inl rfl),(Ki (part:=L) e).andThen (c.andThen .now)⟩
open PyProof.Rows(IntsAre)in
theorem Wt(hv:JI v=M)(r:VR h C v u):∃x y z l us n o,v=.tup (G 135) [.int x,.int y,.int z]/\u=.ref l/\h.get? l=G o/\C2 o=M/\o.cls=.ref 135/\o.data=.seq us n/\Ph us.toList [x,y,z]/\us.size=3:=by
 revert r;apply IQ hv B0;intro o l hv;apply No hv B0;intro c hv;apply FT hv B0;intro a l hv;apply FT hv B0;intro b l hv;apply Cs hv B0;intro d hv;apply Cu hv B0;intro x hv;apply Cu hv B0;intro y hv;apply Cu hv B0;intro z _ r;refine Kt r ?_;(try clear r);intro a o us n Bq e tg EK hd vr;subst Bq;have hc:c=135:=by simpa[W0]using tg.1
 subst hc;refine Ys vr ?_;(try clear vr);intro _ _ h1 Bg _ _ Bu C9 _ _ Ck D8 DX;refine xE Bg ?_;(try clear Bg);intro t1 ar5;subst ar5;subst Bu;refine xE C9 ?_;(try clear C9);intro t2 ar6;subst ar6;subst Ck;refine xE D8 ?_;(try clear D8);intro bX4 ar7;subst ar7;subst DX;refine⟨x,y,z,a,us,n,o,rfl,rfl,e,by unfold C2;rw[EK,hd];rfl,EK,hd,?_,?_⟩;. rw[h1];exact .cons _ _ (.cons _ _ (.cons _ _ .nil))
 . have :=congrArg Rp h1;simpa using this
theorem ar8:Rm "tuple.__len__"=G .slot:=by decide+kernel
theorem ar9:gG "tuple.__len__"=G ("tuple","__len__"):=by decide+kernel
theorem as0:YH "tuple.__len__"=M:=by decide+kernel
theorem as1(l:A8)(c1:A4)(d1:AD A8)(LL:BW (AD A4))(Cb:BW A4)(n:O):VA (EB.«tuple.__len__» ⟨[.ref l],[]⟩) (λ_ AS s=>s.heap.get? l=G ⟨c1,d1,.seq Cb n,LL⟩/\AS (.ok (.ret (V7 (Cb.size:AX) s.toks))) {s with heap:=s.heap,toks:=s.toks+1}):=.of_wp λprog w A AS s h=>by obtain⟨hp,g,d,tk,os⟩:=s;refine xA h ?_;(try clear h);intro hl h;wp_walk using YX hl;exact⟨_,rfl,h⟩
theorem as2(An:HZ B A3 Kf)(AV:Kf.In s.heap)(hv:JI v=M)(g:Gd B F K A H C s)(ru:VR s.heap C v u):Ae B F K A H C s (CE (.builtin "len") [u]) (RV (.int 3)):=by
 intro A2 E kk;refine VT (Wt hv ru) ?_;intro x y z l us n o Ed FE e io hc hd i1 s1;subst Ed;subst FE;rw[<-An.at_]at hc;have tT:Gj (AQ B.prog B.w) s.heap (Hg (.ref l)) (.ref A3.Bp):=(Ki (part:=L) e).andThen (by rw[hc];exact .now);have sT:Gj (AQ B.prog B.w) s.heap (Nc (.ref l) "__len__") (G (.builtin "tuple.__len__")):=tT.andThen (Na AV An.len);obtain⟨c1,d1,da1,LL⟩:=o;simp only at hd hc;subst hd;have Wk:((3:O):AX)<2^63:=by decide
 refine call_function_entry kind_len plain_len entry_len (args_len1 _) ?_;unfold EB.«len»;refine A5 (m:=oneArg "len" _) (AW ?_);refine A5 (m:=td (.ref l) (Ev "__len__")) ?_;skip;refine A5 (sT.here ?_);skip;refine C0 (A5 (AW (A5 (Fg (Q:=λr s'=>r=.int 3 s.toks/\s'={s with toks:=s.toks+1}) ?_ (λr s' q=>?_) λ_ _ e=>e))))
 . refine HP (Lw as0 PySem.F.entry_tuple_len ?_);refine YG (i:="tuple.__len__") (owner:="tuple") (n:="__len__") (self:=.ref l) (rest:=[]) (kw:=[]) ar8 ar9 (tT.andThen (V1 AV An.tup)) (PySem.F.args_tuple_len_1 _) ?_;refine as1 l c1 d1 LL us n B.prog B.w _ (YZ (λv s'=>v=.int 3 s.toks/\s'={s with toks:=s.toks+1}) E) s ⟨e,?_,rfl⟩;rw[s1];rfl
 . refine xA q ?_;(try clear q);intro GB HD;subst GB;subst HD;refine AW ?_;show AH _ _ _ _ _ {s with toks:=s.toks+1};refine A5 (C0 (AW ?_));refine A5 (Pg ?_);show AH _ _ (if((3:O):AX)<0 then _ else _) _ _ _;rw[CS (by omega)];show AH _ _ (if((3:O):AX)>=2^63 then _ else _) _ _ _;skip;exact A5 (wpAny_mkInt (AW ⟨_,rfl,kk _ C _ (g.tok _) (Nx.refl ..) ⟨_,rfl⟩⟩))
theorem as3(An:HZ B A3 Kf)(AV:Kf.In s.heap){id:D9}(g:Gd B F K A H C s)(rs:Aa s.heap C args us)(h:a6 id args H=.ok (.v v) A7):Ae B F K A A7 C s (CE (.builtin id) us) (RV v):=by
 revert rs;refine Fi h (λe h=>?_) λh=>?_
 . subst e;apply Cs h Ac;intro v' h rs;apply MQ rs;intro u r;by_cases hm:JI v'=M
   . refine Eb h (λ_ h=>?_) λq _=>Ul (hm.symm.trans q);apply B5 h;exact as2 An AV hm g r
   . exact am6 (by simpa using hm) g r h
 refine Fi h (λe h=>?_) λh=>?_
 . subst e;apply FT h Ac;intro a l h;apply Cs h Ac;intro b h;apply Cu h Ac;intro a h;apply Cu h Ac;intro b h rs;apply B5 h;apply T1 rs;intro u u' r r';exact am7 g r r'
 refine Fi h (λe h=>?_) λh=>?_
 . subst e;apply Cs h Ac;intro v' h rs;apply MQ rs;intro u r;exact ao7 g r h
 refine Fi h (λe h=>?_) λh=>?_
 . subst e;apply Cs h Ac;intro v' h;apply EI h Ac;intro i h rs;apply MQ rs;intro u r;exact aq2 g r h
 refine Fi h (λe h=>?_) λh=>?_
 . subst e;apply FT h Ac;intro v' l h;apply Cs h Ac;intro b h;apply O0 h Ac;intro b h;apply S_ h Ac;intro t h rs;apply T1 rs;intro u u' r r';cases r';exact am9 g r h
 refine Fi h (λe h=>?_) λh=>(Ac h).elim;subst e;apply FT h Ac;intro t l h;apply Cs h Ac;intro p h;apply O0 h Ac;intro t h;apply S_ h Ac;intro t h;apply IQ h Ac;intro o l h;apply GP h Ac;intro h;apply FT h Ac;intro a l h;apply Cs h Ac;intro b h;apply O0 h Ac;intro a h;apply S_ h Ac;intro a h;apply O0 h Ac;intro b h;apply S_ h Ac;intro b h rs;refine Ce h Ac λq h=>?_;apply B5 h;revert rs;apply IL (B1 q);apply IL (B1 (Ak q));apply IL (Ak (Ak q));intro rs;exact an0 g rs
inductive LO(A3:Mine.Ctx)(K:Kx)(n:O)(f:V)(args:I V)(H:Mine.St)(o:A0):Prop where|bw(id:D9):f=.top (.builtin id)->a6 id args H=o->LO A3 K n f args H o|typ(t:D9):f=.top (.type t)->a7 t args H=o->LO A3 K n f args H o|bx(i:O)(x:Tx):f=.B' 0 i->args=[.str x]->AL H.h i=G .HT->o=.ok (.v (.bool A6)) H->LO A3 K n f args H o|get(i:O):f=.B' 1 i->A0.F1 H.h (.ref i) (λi N=>O7 i N .get args H)=o->LO A3 K n f args H o|sm(d:O)(fn:Fn)(AB:Mine.St):f=.top (.ref A3.Dl)->K.d=d+1->A3.fn A3.Q9=G fn->JJ ⟨K.sc,d⟩ (ev A3 n) fn (.ref (H.n+1)::args) ⟨H.env,(H.n+1,.inst A3.Dl H.n)::(H.n,.EY [])::H.h,H.n+2⟩=.ok (.v .none) AB->o=.ok (.v (.ref (H.n+1))) AB->LO A3 K n f args H o|Gr(x y:V)(i j:O)(Y ys:I V)(tx ty:I Tx):A3.Vl=M->(!BC i j&&CH Y&&CH ys&&G0 0 K.d)=M->f=.top (.ref A3.Gr)->args=[x,y]->x=.ref i->y=.ref j->AL H.h i=G (.list Y)->AL H.h j=G (.list ys)->HU Y=G tx->HU ys=G ty->o=.ok (.v (.tup L [.ref H.n,.ref (H.n+1)])) ((H.new (.list ((D4 (tx.length+ty.length) tx ty).1.map V.str))).2.new (.list ((D4 (tx.length+ty.length) tx ty).2.map V.str))).2->LO A3 K n f args H o|bz(d:O)(fn:Fn)(AB:Mine.St)(a b c:V)(Y:I V):f=.top (.ref A3.Bp)->K.d=d+1->A3.fn A3.Sj=G fn->args=[a,b,c]->JJ ⟨K.sc,d⟩ (ev A3 n) fn (.top (.ref A3.Bp)::args) H=.ok (.v (.tup (G A3.Bp) Y)) AB->o=.ok (.v (.tup (G A3.Bp) Y)) AB->LO A3 K n f args H o|fn(a:A8)(fn:Fn):f=.top (.ref a)->A3.fn a=G fn->JJ K (ev A3 n) fn args H=o->LO A3 K n f args H o
theorem n8{f:V}{r:AS}(h:k8 A3 K (ev A3 n) f args H=.ok r A7):LO A3 K n f args H (.ok r A7):=by
 apply Zh h
 . intro w h;apply x7 h;. intro id h;exact .bw _ rfl h
   intro h;apply jc h;. intro t h;exact .typ _ rfl h
   intro h;apply Q0 h Ac;intro a h;refine Nn h (λha h=>?_) λh=>Nn h (λha h=>?_) λh=>Nn h (λha h=>?_) λh=>?_
   . revert h;have :=CD ha;subst this;intro h;refine Yr h Ac λd hd h=>A0.Cg h λv AB AP h=>?_;revert AP;apply Pz h Ac;intro h AP;refine A0.Bx AP ?_;clear AP;intro fn hf AP;exact .sm d fn AB rfl hd hf AP h.symm
   . revert h;have :=CD (B1 ha);subst this;intro h;apply Hn h Ac;intro x y h;apply A0.MU h;intro i Y hi h;apply A0.MU h;intro j ys hj h;refine A0.Be h λCc h=>A0.Bx h λtx Qk h=>A0.Bx h λty Tn h=>?_;exact .Gr _ _ i j Y ys tx ty (Ak ha) Cc rfl rfl rfl rfl hi hj Qk Tn h.symm
   . revert h;have :=CD ha;subst this;intro h;refine Yr h Ac λd hd h=>A0.Cg h λv AB AP h=>?_;refine A0.Bx AP ?_;clear AP;intro fn hf AP;have BD:=AP;revert BD;apply IQ h Ac;intro o Y h;cases o with
 |none=>exact(Ac h).elim|some c=>
     have q:∃a b e,args=[a,b,e]/\A0.iff (BC c A3.Bp) (.ok (.v (.tup (G c) Y)) AB)=.ok r A7:=by
      apply FT h Ac;intro a l h;apply Hn h Ac;intro b e h;exact⟨a,b,e,rfl,h⟩
     intro BD;refine Hp q ?_;(try clear q);intro a b e as4 h;refine A0.Be h λhc h=>?_;revert h;have :=CD hc;subst this;intro h;exact .bz d fn AB _ _ _ Y rfl hd hf as4 BD h.symm
   . refine A0.Bx h ?_;clear h;intro fn hf h;exact .fn a fn rfl hf h
 intro h;apply ww h Ac;intro k i h;refine Fi h (λe h=>?_) λh=>Fi h (λe h=>?_) λh=>(Ac h).elim
 . revert h;subst e;intro h;have q:∃x,args=[.str x]/\A0.of (AL H.h i) (λo=>Q1 o .bad (.ok (.v (.bool A6)) H))=.ok r A7:=by
     apply Cs h Ac;intro v h;apply Dd h Ac;intro x h;exact⟨x,rfl,h⟩
   refine AC q ?_;(try clear q);intro x ha h;refine A0.Bx h λo hi h=>?_;revert hi;apply xG h Ac;intro h hi;exact .bx i x rfl ha hi h.symm
 . revert h;subst e;intro h;exact .get _ rfl h
noncomputable def To(B:Bs)(A3:Mine.Ctx):Prop:=A3.Vl=M->∀{F:Fm}{K:Kx}{A:CK}{H:Mine.St}{C:I A8}{s:AR}{i j:O}{tx ty:I Tx}{u u':A4},Gd B F K A H C s->i≠j->CH tx=M->CH ty=M->0<K.d->AL H.h i=G (.list (tx.map .str))->AL H.h j=G (.list (ty.map .str))->VR s.heap C (.ref i) u->VR s.heap C (.ref j) u'->Ae B F K A ((H.new (.list ((D4 (tx.length+ty.length) tx ty).1.map V.str))).2.new (.list ((D4 (tx.length+ty.length) tx ty).2.map V.str))).2 C s (CE (.ref A3.Gr) [u,u']) (RV (.tup L [.ref H.n,.ref (H.n+1)]))
theorem as5(AG:Cx B A3 Kf)(An:HZ B A3 Kf)(Cv:Tm B A3){f:V}(h:step A3 K (ev A3 n) (.call f args) H=.ok (.v v) A7)(g:Gd B F K A H C s)(r:VR s.heap C f fu):CW (AQ B.prog B.w) s.heap fu:=by
 have AV:=g.AV AG;have n9:∀{a o fd},B.base.get? a=G o->o.data=.func fd->CW (AQ B.prog B.w) s.heap (.ref a):=λe d=>CW.func (g.base _ _ e) d;cases n8 h with
 |bw id e=>subst e;cases r;exact CW.builtin|typ t e=>subst e;cases r;exact CW.type|bx i x e=>subst e;refine Bv r ?_;(try clear r);intro a d Hv _ e;subst Hv;exact CW.B' e|get i e=>subst e;refine Bv r ?_;(try clear r);intro a d L4 _ e;subst L4;exact CW.B' e|sm d fn AB e=>
  subst e;cases r;have mk:=makes_of (M:=AQ B.prog B.w) AV AG.makes;refine Jw mk.obj ?_;intro oc od cd sl e _;exact CW.cls e mk.call|Gr x y i j Y ys tx ty _ _ e=>subst e;cases r;refine EX Cv.Gr ?_;intro o fd e d;exact n9 e d|bz d fn AB a b c Y e=>
  subst e;cases r;refine Jw An.cls ?_;intro oc od cd sl hC _;exact CW.cls (AV _ _ hC) (bw4 AV An.call)|fn a fn e hf=>subst e;cases r;refine DB (Cv.fn a fn hf) ?_;intro o fd ok;exact n9 ok.get ok.data
theorem as6(AG:Cx B A3 Kf)(An:HZ B A3 Kf)(Cv:Tm B A3)(AM:To B A3)(A9:C5 B A3 n){f:V}(h:step A3 K (ev A3 n) (.call f args) H=.ok (.v v) A7)(g:Gd B F K A H C s)(r:VR s.heap C f fu)(rs:Aa s.heap C args us):Ae B F K A A7 C s (CE fu us) (RV v):=by cases n8 h with
 |bw id e h2=>subst e;cases r;exact as3 An (g.AV AG) g rs h2|typ t e h2=>subst e;cases r;exact al7 g rs h2|bx i x e ea hi h2=>subst e;subst ea;refine xA (FG h2) ?_;intro q L5;subst L5;injection q with q;subst q;exact ah7 g r rs hi|get i e h2=>subst e;exact ah9 g r rs h2|sm d fn AB e hd hf AP h2=>
  subst e;cases r;refine xA (FG h2) ?_;intro q TW;subst TW;injection q with q;subst q;refine DB (Cv.fn _ _ hf) ?_;intro o fd ok;exact zi AG A9 g rs hd ok AP|Gr x y i j Y ys tx ty hon Cc e ea ex ey hi hj Qk Tn h2=>
  subst e;subst ea;subst ex;subst ey;cases r;refine xA (FG h2) ?_;intro q TX;subst TX;injection q with q;subst q;refine S7 rs ?_;(try clear rs);intro u _ TY r u' _ bM r' e;subst TY;subst bM;cases e;simp only[D6,PT]at Cc;refine xA Cc ?_;(try clear Cc);intro QY h3;refine xA QY ?_;(try clear QY);intro as7 h2;obtain⟨Cc,h1⟩:=as7;rw[OR Qk]at hi h1;rw[OR Tn]at hj h2;unfold CH at h1 h2;rw[Jn]at h1 h2;exact AM hon g (λz=>by rw[z,J1]at Cc;(exfalso;cases Cc)) h1 h2 (Dk h3) hi hj r r'|bz d fn AB a b c Y e hd hf ea AP h2=>
  subst e;subst ea;cases r;refine xA (FG h2) ?_;intro q TZ;subst TZ;injection q with q;subst q;refine DB (Cv.fn _ _ hf) ?_;intro o fd ok;exact zo An AG.AV A9 g rs hd ok AP|fn a fn e hf h2=>subst e;cases r;refine DB (Cv.fn a fn hf) ?_;intro o fd ok;exact ki A9 ok h2 g rs
noncomputable def nA(B:Bs)(A3:Mine.Ctx):Prop:=∀{F:Fm}{K:Kx}{A:CK}{H:Mine.St}{C:I A8}{s:AR}{i:O}{Y l:I V}{u:A4},Gd B F K A H C s->AL H.h i=G (.list Y)->VR s.heap C (.ref i) u->Y.all JI=M->a9 Y=G l->Ae B F K A (H.set i (.list l)) C s (CE (.builtin "list.sort") [u]) (RV .none)
theorem as8(Cv:Tm B A3)(Sc:TE B A3 n){kd:MK}{o:V}{m:U}(h:step A3 K (ev A3 n) (.HV kd o m args) H=.ok (.v v) A7)(g:Gd B F K A H C s)(mv:MV kd m u fv first):CW (AQ B.prog B.w) s.heap fv:=by cases kd with
 |str=>rw[mv.1];exact CW.builtin|lst=>rw[mv.1];exact CW.builtin|F1=>rw[mv.1];exact CW.builtin|tup=>rw[mv.1];exact CW.builtin|fn a=>rw[mv.1];exact Sc.MZ (f:=.top (.ref a)) h g rfl
theorem as9(An:HZ B A3 Kf)(AV:Kf.In B.base)(AM:nA B A3)(A9:C5 B A3 n){kd:MK}{o:V}{m:U}(h:step A3 K (ev A3 n) (.HV kd o m args) H=.ok (.v v) A7)(g:Gd B F K A H C s)(mv:MV kd m u fv first)(r:VR s.heap C o u)(rs:Aa s.heap C args us):Ae B F K A A7 C s (CE fv (first++us)) (RV v):=by
 change k9 A3 K (ev A3 n) kd o m args H=.ok (.v v) A7 at h;revert r rs;cases kd with
 |str=>
  refine xA mv ?_;(try clear mv);intro T_ bN;subst T_;subst bN;apply Dd h Ac;intro x h r rs;refine A0.Bx h λk hk h=>?_;exact al6 g hk r rs h|lst=>
  refine xA mv ?_;(try clear mv);intro at0 at1;subst at0;subst at1;apply EI h Ac;intro i h r;refine A0.Bx h λob hi h=>A0.Bx h λk hk h=>?_;rw[aq3 hk];revert hi;apply Jz h
  . intro Y h hi;clear hk;cases k with
 |append=>
     apply Cs h Ac;intro v h rs;refine A0.Be h λhf h=>?_;apply B5 h;apply MQ rs;intro u r';exact an2 g hi r r' hf|pop=>
     apply EW h Ac;intro h rs;refine A0.Be h λhf h=>A0.Bx h λx hx h=>?_;apply B5 h;apply aF rs;exact an6 g hi r hf hx|sort=>
     apply EW h Ac;intro h rs;refine A0.Be h λhf h=>A0.Bx h λl hl h=>?_;apply B5 h;apply aF rs;exact AM g hi r hf hl
  intro h;apply jh h Ac;intro n' Y h hi;clear hk;cases k with
  |append=>
    apply Cs h Ac;intro v h rs;refine Yr h Ac λn e h=>A0.Bx h λl hl h=>?_;revert h;subst e;intro h;apply B5 h;apply MQ rs;intro u r';exact an3 g hi r r' (ly hl)|pop=>exact(Ac h).elim|sort=>exact(Ac h).elim
 |F1=>
  refine xA mv ?_;(try clear mv);intro at2 at3;subst at2;subst at3;apply EI h Ac;intro i h r;refine A0.Bx h λk hk h=>?_;refine A0.OD h ?_;clear h;intro N hi h;rw[aq4 hk];clear hk;have q:∃a b,args=[a,b]:=by apply Hn h Ac;intro a b _;exact⟨a,b,rfl⟩
  refine DB q ?_;(try clear q);intro a b at4;subst at4;intro rs;apply T1 rs;intro u' u'' r' nB;cases k with
  |So=>exact ao0 g hi r r' nB h|get=>exact ao1 g hi r r' nB h
 |fn a=>
  refine xA mv ?_;(try clear mv);intro at5 at6;subst at5;subst at6;intro r rs;exact A9.call (f:=.top (.ref a)) h g rfl ⟨_,_,rfl,r,rs⟩|tup=>
  refine xA mv ?_;(try clear mv);intro at7 at8;subst at7;subst at8;apply Hn h Ac;intro a b h;apply O0 h Ac;intro w h;apply Q0 h Ac;intro c h;apply IQ h Ac;intro o' Y h;cases o' with
 |some _=>exact(Ac h).elim|none=>
  refine A0.Be h λhc h=>?_;have :=CD (B1 hc);subst this;apply B5 h;intro r rs;apply T1 rs;intro u' u'' q r';cases q;exact zl An AV g r' (Ak hc)
end
section
open PyProof.Rows
noncomputable def c5(prog:He)(w:EC)(A:CK)(s:AR)(x y:A4)(b:AK):Prop:=∀(E:A4->AR->Prop)(AS:AK->AR->Prop),AS b s->AH (AQ prog w) A (oneLt' M x y) AS E s
theorem at9{lt:O->O->AD AK}{cmp:O->O->(AK->AR->Prop)->AR->Prop}(hc:∀i j b,lt i j=G b->∀A3:AK->AR->Prop,A3 b s->cmp i j A3 s){A2:J->AR->Prop}{t:KasT J}{a:J}:a8 lt t=G a->A2 a s->t.kasWp cmp A2 s:=by induction t with
 |ret x=>intro h q;exact Bm h▸q|ask i j k ih=>exactλh q=>AC (bE3.mp h) λb e h=>hc i j b e _ (ih b h q)
noncomputable abbrev st(l:I A4):Y_:=bE4 oneType' (l.toArray.zip l.toArray) #[] 7 L
noncomputable def Wu(out:I A4)(b:Y_):Prop:=(arrOf b).map (·.2)=out.toArray/\failedOf b=L
theorem au0{vs:I A4}{lt:O->O->AD AK}{p:BW O}(h2:2<=vs.length)(JT:vs.length<64)(e:a8 lt (kas_sort vs.length)=G p)(hc:∀i j b,lt i j=G b->c5 prog w A s (vs.getD i .none) (vs.getD j .none) b){A2:DM×Y_->AR->Prop}(h:∀b,Wu (p.toList.map λi=>vs.getD i .none) b->A2 ((),b) s):AH (AQ prog w) A ((uU).run (st vs)) A2 E s:=kat_run (Q:=λb s'=>A2 ((),b) s') (G:=λq s'=>p=q/\s'=s) (ks:=vs) rfl h2 JT (λq b s' _ ha hf g=>by refine xA g ?_;intro g1 g2;subst g1;subst g2;exact h b ⟨kat_snds rfl ha,hf⟩) (at9 (λi j b e A3 hC=>hc i j b e _ A3 hC) e ⟨rfl,rfl⟩)
theorem au1{c:Prop}[sd c]{x y:Dz J}{f:J->Dz EH}{AS:J->Prop}{A2:EH->AR->Prop}(h1:c->∀Q':J->AR->Prop,(∀a,AS a->Q' a s)->AH Av A x Q' E s)(h2:¬c->∀Q':J->AR->Prop,(∀a,AS a->Q' a s)->AH Av A y Q' E s)(k:∀a,AS a->AH Av A (f a) A2 E s):AH Av A (if c then x>>=f else y>>=f) A2 E s:=if h:c then(DA h).symm▸A5 (h1 h _ k)else(CS h).symm▸A5 (h2 h _ k)
noncomputable def Tq(h:BK)(a:A8)(vs:I A4):BK:=((h.update a (GL λ_=>#[])).push (Ya "tuple" vs.toArray 0)).push (Ya "list" #[] 0)
theorem au2{vs out:I A4}{P:Fin->AR->Prop}(ho:s.heap.get? a=G (Ya "list" vs.toArray n))(JT:vs.length<64)(c6:out.length<64)(c7:vs.length<2->out=vs)(hr:∀s':AR,(∀b o,b≠a->s.heap.get? b=G o->s'.heap.get? b=G o)->2<=vs.length->(∀(E:A4->AR->Prop)(A2:SortKind->AR->Prop),A2 oneType' s'->AH (AQ prog w) A (keyKind' vs.toArray) A2 E s')/\∀(E:A4->AR->Prop)(A2:DM×Y_->AR->Prop),(∀b,Wu out b->A2 ((),b) s')->AH (AQ prog w) A ((uU).run (st vs)) A2 E s')(h:P (.done (.ret .none)) {s with heap:=sortedHeap s.heap a vs out.toArray}):AH (AQ prog w) A (EB.«list.sort» ⟨[.ref a],[]⟩) P E s:=by
 rw[list_sort_plain];have ha:a<s.heap.objs.size:=Dh ho;have hz:out.length<=FA:=B4 (Gi c6) (by decide);refine xE (show∃e1,(s.heap.update a (GL λ_=>#[])).get? a=G (Ya "list" #[] e1)from⟨_,get?_update_seq ho (λ_=>#[])⟩) ?_;intro e1 Ts;have nC:(Tq s.heap a vs).get? a=G (Ya "list" #[] e1):=C1 _ (C1 _ Ts);have hv:vs.toArray.size<=FA:=B4 (Gi JT) (show 64<=FA by decide);refine A5 (listItems_at ho rfl (A5 (bE5 ho rfl (A5 (seqEpoch_at Ts rfl (A5 (gi (A5 (uN (C0 ?_) (Nh _))) hv)))) hv (Nh _))));have kp:=hr {s with heap:=Tq s.heap a vs} λb o hb e=>C1 _ (C1 _ ((GN _ _ (CX hb)).trans e));refine au1 (s:={s with heap:=Tq s.heap a vs}) (AS:=λkind=>∀A2:DM×Y_->AR->Prop,(∀b,Wu out b->A2 ((),b) {s with heap:=Tq s.heap a vs})->AH (AQ prog w) A ((if vs.toArray.size<2 then pure ()else uU).run (bE4 kind (vs.toArray.zip vs.toArray) #[] 7 L)) A2 E {s with heap:=Tq s.heap a vs}) (λh2 Q' k=>?_) (λh2 Q' k=>?_) (λkind q=>A5 (q _ λb hb=>?_))
 . rw[DA h2]at k;exact AW (k _ λA2 k=>AW (k _ ⟨by rw[c7 h2];exact Array.map_snd_zip (DF _),rfl⟩))
 . rw[CS h2]at k;have k2:=kp (fM h2);exact k2.1 _ _ (k _ (k2.2 _))
 . refine A5 (seqEpoch_at nC rfl (A5 (bE5 nC rfl ?_ (Nh _) (by rw[hb.1];exact gr hz))));rw[hb.1,hb.2,YA];exact AW h
end
theorem un1{u k:O}(h:u+10*k<9000):u+1<IJ:=by unfold IJ;(with_reducible exact Mine.yU (by assumption) (by decide))
theorem au3:Rm "tuple.__lt__"=G .slot:=by decide+kernel
theorem au4:gG "tuple.__lt__"=G ("tuple","__lt__"):=by decide+kernel
theorem au5:YH "tuple.__lt__"=M:=by decide+kernel
open PyProof.Rows(IntsAre oneLt' oneLt'_eq keyKind' keyKind'_eq oneTypeOnly'_eq firstOfTuple' oneType' seqObj)
section
theorem au6(An:HZ B A3 Kf)(CF:Gn Kf (.ref A3.Bp) "__lt__"=G (G (.builtin "tuple.__lt__")))(AV:Kf.In s.heap)(hu:A.units<IJ)(hv:JI v=M)(Bh:JI v'=M)(r:VR h C v u)(r':VR h C v' u')(q:Sd v v'=G b)(k:∀c o,h.get? c=G o->C2 o=M->s.heap.get? c=G o):c5 B.prog B.w A s u u' b:=by
 refine VT (Wt hv r) ?_;intro x y z l us n o Aw B6 e io hc hd i1 s1;subst Aw;subst B6;refine VT (Wt Bh r') ?_;intro x' y' z' l' Dy n' o' BJ BP e' io' GC GW i2 s2;subst BJ;subst BP;rw[mY]at q;injection q with q;subst q;have e:=k _ _ e io;have e':=k _ _ e' io';rw[<-An.at_]at hc GC;have tT:Gj (AQ B.prog B.w) s.heap (Hg (.ref l)) (.ref A3.Bp):=(Ki (part:=L) e).andThen (by rw[hc];exact .now);have tT':Gj (AQ B.prog B.w) s.heap (Hg (.ref l')) (.ref A3.Bp):=(Ki (part:=L) e').andThen (by rw[GC];exact .now);have sT:Gj (AQ B.prog B.w) s.heap (Nc (.ref l) "__lt__") (G (.builtin "tuple.__lt__")):=tT.andThen (Na AV CF);intro E AS hR;have bE:AH (AQ B.prog B.w) A (call (.builtin "tuple.__lt__") [.ref l,.ref l']) (λv s'=>v=.bool (JE [x,y,z] [x',y',z'])/\s'=s) E s:=by
  refine HP (Lw au5 PySem.F.entry_tuple_lt ?_);refine YG (i:="tuple.__lt__") (owner:="tuple") (n:="__lt__") (self:=.ref l) (rest:=[.ref l']) (kw:=[]) au3 au4 (tT.andThen (V1 AV An.tup)) (PySem.F.args_tuple_lt_2 _ _) ?_;obtain⟨c1,d1,da1,LL⟩:=o;obtain⟨c2,d2,da2,Tg⟩:=o';simp only at hd GW hc GC;subst hd GW;refine ao2 l l' c1 c2 d1 d2 LL Tg us Dy n n' _ _ i1 i2 (s1.trans s2.symm) B.prog B.w A (YZ (λv s'=>v=.bool (JE [x,y,z] [x',y',z'])/\s'=s) E) s ⟨e,e',?_,⟨rfl,rfl⟩⟩;intro prog w A' A2 E hq;have bN6:=AV;have t2:Gj (AQ prog w) s.heap (Hg (.ref l')) (.ref A3.Bp):=(Ki (part:=L) e').andThen (by rw[GC];exact .now);exact(show Gj (AQ prog w) s.heap (V3 (.ref l') (.type "tuple")) M from t2.andThen (V1 AV An.tup)).here hq
 rw[oneLt'_eq];skip;refine A5 (wpAny_cRoomFor hu ?_);refine A5 ?_;simp only[callSpecialIfBound?,bw8];refine C0 (A5 (A5 (sT.here ?_)));skip;have fin:AH (AQ B.prog B.w) A (call (.builtin "tuple.__lt__") ([.ref l]++[.ref l'])>>=λv=>pure (G v)) (λa s'=>AH (AQ B.prog B.w) A (match a with|some .notImplemented|none=>(YM "list.sort.lt-declined">>=λ_=>uG .Lt (.ref l) (.ref l')>>=λr=>bE6 r:Dz AK)|some r=>bE6 r) AS E s') E s:=by
  refine A5 (Fg bE (λv s' hv=>?_) λ_ _ e=>e);refine xA hv ?_;(try clear hv);intro Bq Bg;subst Bq;subst Bg;exact AW (NU hR)
 refine A5 (Rc (g4 ?_));split;. exact A5 (AW (AW fin))
 . exact Pb (A5 (AW (AW fin)))
theorem Aa.at(r:Aa h C Y us):∀i,VR h C (Y.getD i .none) (us.getD i .none):=Aa.ind (P:=λY us=>∀i,VR h C (Y.getD i .none) (us.getD i .none)) (λ_=>rfl) (λ_ _ _ _ a _ ih i=>RS a (λn _=>ih n) i) r
theorem Aa.au7{f:O->V}{g:O->A4}(k:∀i,VR h C (f i) (g i)){l:I O}:Aa h C (l.map f) (l.map g):=by induction l with
 |nil=>exact rfl|cons i l ih=>exact .cons (k i) ih
theorem au8{l:I V}(hs:a9 Y=G l)(r:Aa h C Y us):∃out:I A4,Aa h C l out/\out.length<64/\us.length<64/\(us.length<2->out=us)/\∀(prog:He)(w:EC)(A:CK)(s':AR),(∀i j b,jx Y i j=G b->c5 prog w A s' (us.getD i .none) (us.getD j .none) b)->2<=us.length->∀(E:A4->AR->Prop)(A2:DM×bT3->AR->Prop),(∀b,Wu out b->A2 ((),b) s')->AH (AQ prog w) A ((bT4).run (st us)) A2 E s':=by
 apply Ce hs AF;intro JT hs;rw[r.length]at JT hs;apply Eb hs
 . intro h2 e;exact Bm e▸⟨us,r,Rw.mp JT,Rw.mp JT,λ_=>rfl,λ_ _ _ _ _ z=>absurd (Rw.mp h2) (Uq.mpr z)⟩
 . intro h2 hs;apply BI hs;intro p e hs;apply Ce hs AF;intro hp e';exact Bm e'▸⟨p.toList.map λi=>us.getD i .none,.au7 r.at,by rw[Jn];exact Rw.mp hp,Rw.mp JT,λz=>absurd (Rw.mpr z) (h2▸nofun),λ_ _ _ _ c h2 _ _ k=>au0 h2 (Rw.mp JT) e c k⟩
theorem au9(r:Aa h C Y us):u∈us->∃v∈Y,VR h C v u:=Aa.ind (P:=λY us=>u∈us->∃v∈Y,VR h C v u) (λm=>nomatch m) (λv _ _ _ a _ ih m=>(Cj.mp m).elim (λe=>⟨v,Co,e▸a⟩) λm=>AC (ih m) λv' m' r'=>⟨v',Cp _ m',r'⟩) r
theorem av0(AG:Cx B A3 Kf)(An:HZ B A3 Kf)(CF:Gn Kf (.ref A3.Bp) "__lt__"=G (G (.builtin "tuple.__lt__"))):nA B A3:=λ{F K A H C s i Y l u}g hi r OI hs A2 E kk=>by
 refine AC r ?_;(try clear r);intro a ha FE;subst FE;refine AC (g.obj hi ha) ?_;intro us GB vr;refine xE GB ?_;(try clear GB);intro m ho;have AV:=g.AV AG;refine S6 (au8 hs vr) ?_;intro out vro c6 JT c7 srt;refine Gm uP ⟨_,ho,rfl⟩ uQ (au2 (vs:=us.toList) ho JT c6 c7 (λs' ks h2=>?_) ⟨.none,rfl,?_⟩) (uR _)
 . have nE:∀b o,s.heap.get? b=G o->C2 o=M->s'.heap.get? b=G o:=λb o e io=>ks _ _ (λq=>by subst q;rw[ho]at e;injection e with e;subst e;exact(E5 io).elim) e;refine⟨λE A2 hq=>kas_kind (T:=.ref A3.Bp) h2 (λu hu=>?_) rfl (by simp) hq,srt _ _ _ _ (λi j b e=>?_) h2⟩
   . refine AC (au9 vr hu) ?_;intro v hv rv;refine VT (Wt (Bn.mp OI v hv) rv) ?_;intro x y z l us n o HD Hv e io hc hd i1 s1;subst Hv;rw[<-An.at_]at hc;exact(Ki (part:=L) (nE _ _ e io)).andThen (by rw[hc];exact .now)
   . apply Ce e AF;intro hm e;have Wm:A.in1.units<IJ:=un1 g.units;exact au6 An CF (λb o e=>ks _ _ (λq=>by subst q;have :=AG.AV _ _ e;rw[g.fresh _ (Ew ha)]at this;exact(BE this).elim) (AV _ _ e)) Wm (B1 hm) (Ak hm) (vr.at i) (vr.at j) e nE
 . refine xE (uS (vs:=us.toList) (out:=out.toArray) ho) ?_;intro e nF;have eb:Ds a s.heap (bT5 s.heap a us.toList out.toArray):=λb o hb e=>by rw[uT hb (Dh e)];exact e
   refine xA (g.set (tk:=s.toks) (o':=.list l) ha hi (λ_ _ e=>by(exfalso;cases e)) eb ⟨_,nF⟩ λim=>⟨_,⟨_,nF⟩,by
     show Aa _ _ _ out;exact vro.Bw im⟩) ?_;intro g' x';exact kk _ C _ g' x' rfl
end
structure Mk(B:Bs)(A3:Mine.Ctx):Prop where
 only:∀{K:Kx}{c:Cd}{H:Mine.St}{o:A0},A3.CR K c H=G o->(∃f args,c=.call f args)\/(∃x,c=.e x/\JK x=A6)\/(∃x,c=.s x)MZ:∀{K:Kx}{f:V}{args:I V}{H A7:Mine.St}{v:V},A3.CR K (.call f args) H=G (.ok (.v v) A7)->∀{F:Fm}{A:CK}{C:I A8}{s:AR}{fu:A4},Gd B F K A H C s->VR s.heap C f fu->CW (AQ B.prog B.w) s.heap fu
 call:∀{K:Kx}{f:V}{args:I V}{H A7:Mine.St}{v:V},A3.CR K (.call f args) H=G (.ok (.v v) A7)->∀{F:Fm}{A:CK}{C:I A8}{s:AR}{fu:A4}{us:I A4},Gd B F K A H C s->VR s.heap C f fu->Aa s.heap C args us->Ae B F K A A7 C s (CE fu us) (RV v)e:∀{K:Kx}{x:AA}{H A7:Mine.St}{v:V},A3.CR K (.e x) H=G (.ok (.v v) A7)->∀{F:Fm}{A:CK}{C:I A8}{s:AR},Gd B F K A H C s->Ae B F K A A7 C s (eval x F.env) (RV v)s:∀{K:Kx}{x:As}{H A7:Mine.St}{f:Fl},A3.CR K (.s x) H=G (.ok (.f f) A7)->∀{F:Fm}{A:CK}{C:I A8}{s:AR},Gd B F K A H C s->CJ B F K A A7 C s (exec x F.env) (FR f)
noncomputable def c8(B:Bs)(A3:Mine.Ctx):Prop:=∀{n:O},C5 B A3 n->∀{K:Kx}{f x:AA}{args:I AA}{pos:B9}{v:V}{F:Fm}{A:CK}{H A7:Mine.St}{C:I A8}{s:AR},args.all CP=M->(∀o m p,f≠.Attribute o m p)->Zw f args=G x->(A0.iff (Di K.sc QB&&Di K.sc Zt&&CP x)<|(ev A3 n K (.e x) H).V λv H=>A0.lst H.h v λ_ Y=>A0.of (HU Y) λl=>A0.iff (G0 l.length 60) (FX (H.new (.list ((Ea (Ht l)).map .str)))))=.ok (.v v) A7->Gd B F K A H C s->Ae B F K A A7 C s (eval (.Call f args [] pos) F.env) (RV v)
noncomputable def c9(B:Bs)(A3:Mine.Ctx):Prop:=∀{n:O},C5 B A3 n->TE B A3 n->∀{K:Kx}{f x:AA}{args:I AA}{pos:B9}{v:V}{F:Fm}{A:CK}{H A7:Mine.St}{C:I A8}{s:AR},args.all CP=M->(∀o m p,f≠.Attribute o m p)->Zx f args=G x->(A0.iff (Di K.sc Zu&&Di K.sc Zv&&Di K.sc Sl&&CP x)<|(ev A3 n K (.e x) H).V λv H=>A0.lst H.h v λi Y=>A0.iff (CH Y)<|match K.d with
 |d+1=>(Vw A3 ⟨K.sc,d⟩ (ev A3 n) i 60 0 [] H).A1 λl H=>FX (H.new (.list l))|0=>.bad)=.ok (.v v) A7->Gd B F K A H C s->Ae B F K A A7 C s (eval (.Call f args [] pos) F.env) (RV v)
structure Ok(B:Bs)(A3:Mine.Ctx)(Kf:Gg):Prop where
 x:Cx B A3 Kf
 y:HZ B A3 Kf
 t:Ws Kf
 fns:Tm B A3
 g:Gl B A3
 en:Ah A3.glob Wg=G (.top (.type "enumerate"))lt:Gn Kf (.ref A3.Bp) "__lt__"=G (G (.builtin "tuple.__lt__"))Gr:To B A3
 sset:c8 B A3
 lmap:c9 B A3
 sm:Mk B A3
structure All(B:Bs)(A3:Mine.Ctx)(n:O):Prop where
 s:C5 B A3 n
 c:TE B A3 n
 l:OG B A3 n
 d:b4 B A3 n
 e:ba B A3 n
section
theorem Ql{c:Cd}{o:A0}(h:ev A3 (n+1) K c H=o):A3.CR K c H=G o\/(A3.CR K c H=L/\step A3 K (ev A3 n) c H=o):=by exact M6 (o:=A3.CR K c H) (d:=step A3 K (ev A3 n) c H) (k:=λo=>o) h (λx e h=>.inl (e.trans (congrArg G h))) λe h=>.inr ⟨e,h⟩
theorem Mk.step(Av:Mk B A3){c:Cd}{o:A0}(h:ev A3 (n+1) K c H=o)(h1:∀f args,c≠.call f args)(h2:∀x,c≠.e x)(h3:∀x,c≠.s x):step A3 K (ev A3 n) c H=o:=by
 rcases Ql h with h|h
 . rcases Av.only h with BJ|BP|Bq;refine DB BJ ?_;(try clear BJ);intro f a e;rotate_left;refine AC BP ?_;(try clear BP);intro x e _;rotate_left;refine xE Bq ?_;(try clear Bq);intro x e;rotate_left;. exact absurd e (h1 f a)
   . exact absurd e (h2 x)
   . exact absurd e (h3 x)
 . exact h.2
theorem av1(BL:Ok B A3 Kf)(AE:All B A3 n){x:AA}(h:Fp A3 K (ev A3 n) x H=.ok (.v v) A7)(g:Gd B F K A H C s):Ae B F K A A7 C s (eval x F.env) (RV v):=by cases x with
 |Constant k a b=>
  refine A0.Bx h ?_;clear h;intro w hw h;refine xA (FG h) ?_;intro q Aw;subst Aw;injection q with q;subst q;exact W9 g hw|Name id pos=>exact bP BL.g h g|BinOp l op r pos=>cases hr:Sv l op r with
  |none=>exact xw AE.s OU hr h g|some p=>obtain⟨c,id,y,z⟩:=p;exact am0 hr h g
 |UnaryOp op x pos=>exact ai0 AE.s OU h g|IfExp t a b pos=>exact xs AE.s h g|Tuple Y k pos=>exact y1 AE.s h g|List Y pos=>exact y2 AE.s h g|Dict ks vs pos=>
  have cst:∀{ks vs},(A0.of (ML ks vs) λps=>A0.iff (EQ ps.length 15) (A0.of (Ky ps []) λN=>FX (H.new (.dict N))))=.ok (.v v) A7->Ae B F K A A7 C s (eval (.Dict ks vs pos) F.env) (RV v):=by
    intro ks vs h;refine A0.Bx h ?_;clear h;intro ps h1 h;refine A0.Be h ?_;clear h;intro h2 h;refine A0.Bx h ?_;clear h;intro N h3 h;refine xA (FG h) ?_;intro q B6;subst B6;injection q with q;subst q;exact mQ h1 h2 h3 g
  refine Nn h (λhc h=>?_) λh=>M6 h (λp hp h=>?_) λ_ h=>cst h
  . have e1:=Yb.mp (B1 hc);have e2:=Yb.mp (Ak hc);subst e1;subst e2;apply B5 h;exact mQ (ps:=[]) rfl rfl rfl g
  . revert h;apply Hn hp AF;intro a b hp;apply GP hp AF;intro hp;apply No hp AF;intro k hp;apply Hn hp AF;intro v0 v hp;apply Br hp;intro h;exact ap3 AE.s h g|BoolOp op Y pos=>
  refine Ce h Ac λq h=>?_;apply IL q;apply Hn h Ac;intro a b h;exact y0 AE.s OU h g|Compare l CN rs pos=>match CN,rs,h with
  |[op],[r],h=>exact xz AE.s OU h g|[],_,h=>exact(Ac h).elim|[_],[],h=>exact(Ac h).elim|[_],_::_::_,h=>exact(Ac h).elim|_::_::_,_,h=>exact(Ac h).elim
 |Attribute o a pos=>exact ai2 BL.x AE.s h g|Subscript o i pos=>
  refine A0.Cg h ?_;clear h;intro w AB AP h;apply vK h
  . intro a b st p h;apply GP h Ac;intro h;exact ab4 AE.s AP h g
  . intro q h;exact ab2 AE.s (λa b p e=>q (by rw[e];rfl)) AP h g|Call f args kws pos=>match kws,h with
  |[],h=>
    refine A0.Be h λhp h0=>?_;revert h;apply iE h0
    . intro o m p _ h;exact yh AE.s AE.c (n7 BL.x BL.t) h g
    intro hf h _;have FJ:∀o m p,f≠.Attribute o m p:=λo m p e=>hf (by rw[e];rfl);refine M6 h (λx hx h=>BL.sset AE.s hp FJ hx h g) λ_ h=>M6 h (λx hx h=>BL.lmap AE.s AE.c hp FJ hx h g) λ_ h=>yk AE.s AE.c FJ hp h g|_::_,h=>exact(Ac h).elim
 |ListComp C_ gens sc pos=>match gens,h with
  |[],h=>exact(Ac h).elim|g'::gens,h=>exact lA AE.s AE.l h g
 |DictComp k v' gens sc pos=>match gens,h with
  |[],h=>exact(Ac h).elim|[g'],h=>exact zZ AE.s AE.d h g|_::_::_,h=>exact(Ac h).elim
 |_=>exact(Ac h).elim
theorem av2(BL:Ok B A3 Kf)(AE:All B A3 n){t:AA}(h:Kz A3 K (ev A3 n) t v H=.ok (.f f) A7)(g:Gd B F K A H C s)(r:VR s.heap C v u):CJ B F K A A7 C s (Ex t F.env u) RU:=by
 apply i5 h;. exactλ_ _ h=>ya (A3:=A3) (n:=n) h g r
 intro h;apply i6 h
 . intro ts k p h;revert r;apply IQ h Ac;intro c vs h r;exact aa3 (A3:=A3) (K:=K) (n:=n) (kd:=k) (pos:=p) (c:=c) (Y:=vs) (H:=H) BL.y BL.x.AV AE.s h g r
 intro h;apply iE h;. exactλo a p h=>aa4 (A3:=A3) (K:=K) (n:=n) (o:=o) (a:=a) (pos:=p) (v:=v) (H:=H) BL.x AE.s h g r
 intro _ h;apply Nj h Ac;exactλo i p h=>ai5 (A3:=A3) (K:=K) (n:=n) (o:=o) (i:=i) (pos:=p) (v:=v) (H:=H) AE.s h g r
set_option tactic.hygienic true in
theorem av3(BL:Ok B A3 Kf)(AE:All B A3 n)(E1:∀m,n=m+1->All B A3 m){x:As}(h:IW K (ev A3 n) x H=.ok (.f f) A7)(g:Gd B F K A H C s):CJ B F K A A7 C s (exec x F.env) (FR f):=by cases x with
 |Expr e pos=>exact y_ AE.s h g|Pass pos=>exact y8 h g|Break pos=>exact y9 h g|Continue pos=>exact yA h g|Return e pos=>cases e with
  |none=>exact y7 h g|some e=>exact y6 AE.s h g
 |Assign ts e pos=>
  have h:bC (MM ts e) _ _=_:=h;revert h;cases ht:MM ts e<;>intro h
  . refine A0.Be h ?_;clear h;intro hc h;have fin:∀{f'},f'=Fl.next->CJ B F K A A7 C s (exec (.Assign ts e pos) F.env) (FR .next)->CJ B F K A A7 C s (exec (.Assign ts e pos) F.env) (FR f'):=λe d=>e▸d;refine H8 (A0.xo h) ?_;clear h;intro nG f' h;cases cA:JK e with
 |false=>exact fin nG (yc AE.s cA ht h g)|true=>
    simp only[cA,bE7,bv7]at hc;clear cA ht;revert fin h;apply Cs hc B0;intro t hc;apply EV hc B0;intro id p hc;apply Yk hc B0;intro C_ gens sc KJ _ fin h;. cases n with
 |zero=>refine A0.Cg h ?_;clear h;intro _ _ h _;exact(Ac h).elim|succ m=>
    refine A0.Cg h ?_;intro v AB AP BD;have E1:=E1 m rfl;rcases Ql AP with q|Bg;rotate_left;refine xA Bg ?_;(try clear Bg);intro _ q;rotate_left
    . (rcases BL.sm.only q with Bu|C9|Ck;refine DB Bu ?_;(try clear Bu);intro _ _ z;rotate_left;refine AC C9 ?_;(try clear C9);intro _ z z';rotate_left;refine xE Ck ?_;(try clear Ck);intro _ z;rotate_left)<;>(first|(exfalso;cases z)|cases z);(exfalso;cases z')
    . cases gens with
 |nil=>exact(Ac q).elim|cons g' gens=>
      refine fin nG (z8 (f:=f') E1.s E1.l AE.s ?_ g);rw[show Fp A3 K (ev A3 m) (.ListComp C_ (g'::gens) sc KJ) H=.ok (.v v) AB from q];exact BD
  . have h:A0.of (Vx ts e) _=_:=h;exact aj2 AE.s h g|AugAssign t op e pos=>
  cases t<;>first|(exact(Ac h).elim;done)|skip
  rename_i id p;exact yb AE.s OU h g|If t a b pos=>exact y5 AE.s h g|While t b o pos=>match o,h with
  |[],h=>exact yN AE.s h g|_::_,h=>exact(Ac h).elim
 |For t it b o pos=>match o,h with
  |[],h=>cases he:Sk it with
   |none=>exact yZ AE.s he h g|some x=>exact ak0 BL.g BL.en AE.s AE.e he h g
  |_::_,h=>exact(Ac h).elim
 |Try body hs o fin pos=>match hs,o,fin,h with
  |_::_,[],[],h=>exact aj7 AE.s h g|[],_,_,h=>exact(Ac h).elim|_::_,_::_,_,h=>exact(Ac h).elim|_::_,[],_::_,h=>exact(Ac h).elim
 |_=>exact(Ac h).elim
theorem av4:All B A3 0:=⟨⟨λh=>(by exact(Ac h).elim),λh=>(by exact(Ac h).elim),λh=>(by exact(Ac h).elim),λh=>(by exact(Ac h).elim),λh=>(by exact(Ac h).elim),λh=>(by exact(Ac h).elim),λh=>(by exact(Ac h).elim),λh=>(by exact(Ac h).elim),λh=>(by exact(Ac h).elim),λh=>(by exact(Ac h).elim),λh=>(by exact(Ac h).elim),λh=>(by exact(Ac h).elim),λh=>(by exact(Ac h).elim),λh=>(by exact(Ac h).elim)⟩,⟨λh=>(by exact(Ac h).elim),λh=>(by exact(Ac h).elim),λh=>(by exact(Ac h).elim)⟩,⟨λh=>(by exact(Ac h).elim)⟩,⟨λh=>(by exact(Ac h).elim)⟩,λh=>(by exact(Ac h).elim)⟩
theorem av5(BL:Ok B A3 Kf)(AE:All B A3 n)(E1:∀m,n=m+1->All B A3 m):All B A3 (n+1):=by
 have st:∀{K:Kx}{H:Mine.St}{c:Cd}{o:A0},ev A3 (n+1) K c H=o->(∀f args,c≠.call f args)->(∀x,c≠.e x)->(∀x,c≠.s x)->step A3 K (ev A3 n) c H=o:=λh=>BL.sm.step h;refine⟨⟨?_,?_,?_,?_,?_,?_,?_,?_,?_,?_,?_,?_,?_,?_⟩,⟨?_,?_,?_⟩,⟨?_⟩,⟨?_⟩,?_⟩
 . intro K x H A7 v h F A C s g;rcases Ql h with q|D8;rotate_left;refine xA D8 ?_;(try clear D8);intro _ q;rotate_left;. exact BL.sm.e q g
   . exact av1 BL AE q g
 . intro K l H A7 v h F A C s pos g;exact xt AE.s (st h (λ_ _ e=>by(exfalso;cases e)) (λ_ e=>by(exfalso;cases e)) (λ_ e=>by(exfalso;cases e))) pos g
 . intro K x H A7 v h F A C s g;exact y4 AE.s OU (st h (λ_ _ e=>by(exfalso;cases e)) (λ_ e=>by(exfalso;cases e)) (λ_ e=>by(exfalso;cases e))) g
 . intro K a l H A7 v h F A C s g;exact y3 AE.s (st h (λ_ _ e=>by(exfalso;cases e)) (λ_ e=>by(exfalso;cases e)) (λ_ e=>by(exfalso;cases e))) g
 . intro K x H A7 f h F A C s g;rcases Ql h with q|DX;rotate_left;refine xA DX ?_;(try clear DX);intro _ q;rotate_left;. exact BL.sm.s q g
   . exact av3 BL AE E1 q g
 . intro K l H A7 f h F A C s g;exact xu AE.s (st h (λ_ _ e=>by(exfalso;cases e)) (λ_ e=>by(exfalso;cases e)) (λ_ e=>by(exfalso;cases e))) g
 . intro K t v H A7 f h F A C s u g r;exact av2 BL AE (st h (λ_ _ e=>by(exfalso;cases e)) (λ_ e=>by(exfalso;cases e)) (λ_ e=>by(exfalso;cases e))) g r
 . intro K ts vs H A7 f h F A C s us g r;exact yB AE.s (st h (λ_ _ e=>by(exfalso;cases e)) (λ_ e=>by(exfalso;cases e)) (λ_ e=>by(exfalso;cases e))) g r
 . intro K ts v H A7 f h F A C s u g r;exact yE AE.s (st h (λ_ _ e=>by(exfalso;cases e)) (λ_ e=>by(exfalso;cases e)) (λ_ e=>by(exfalso;cases e))) g r
 . intro K v H A7 r h;have :=st h (λ_ _ e=>by(exfalso;cases e)) (λ_ e=>by(exfalso;cases e)) (λ_ e=>by(exfalso;cases e));exact(FG this).2.symm
 . intro K id pos v H A7 f h F A C s u g r;have q:Kz A3 K (ev A3 n) (.Name id pos) v H=.ok (.f f) A7:=st h (λ_ _ e=>by(exfalso;cases e)) (λ_ e=>by(exfalso;cases e)) (λ_ e=>by(exfalso;cases e));exact aU q g r
 . intro K f args H A7 v h F A C s fu us g r rs;rcases Ql h with q|Ed;rotate_left;refine xA Ed ?_;(try clear Ed);intro _ q;rotate_left;. exact BL.sm.call q g r rs
   . exact as6 BL.x BL.y BL.fns BL.Gr AE.s q g r rs
 . intro K t b H A7 f h F A C s AS g k;exact yM AE.s (st h (λ_ _ e=>by(exfalso;cases e)) (λ_ e=>by(exfalso;cases e)) (λ_ e=>by(exfalso;cases e))) g k
 . intro K t it i b H A7 f h F A C BG s Af I' AS g Cq hI fr r k;exact yY AE.s (st h (λ_ _ e=>by(exfalso;cases e)) (λ_ e=>by(exfalso;cases e)) (λ_ e=>by(exfalso;cases e))) g Cq hI fr r k
 . intro K f args H A7 v h F A C s fu g r;rcases Ql h with q|FE;rotate_left;refine xA FE ?_;(try clear FE);intro _ q;rotate_left;. exact BL.sm.MZ q g r
   . exact as5 BL.x BL.y BL.fns q g r
 . intro K kd o m args H A7 v h F A C s u fv first g mv;exact as8 BL.fns AE.c (st h (λ_ _ e=>by(exfalso;cases e)) (λ_ e=>by(exfalso;cases e)) (λ_ e=>by(exfalso;cases e))) g mv
 . intro K kd o m args H A7 v h F A C s u fv first us g mv r rs;exact as9 BL.y BL.x.AV (av0 BL.x BL.y BL.lt) AE.s (st h (λ_ _ e=>by(exfalso;cases e)) (λ_ e=>by(exfalso;cases e)) (λ_ e=>by(exfalso;cases e))) g mv r rs
 . intro K C_ g gens it i Am l H A7 h GZ sc pos depth hd ha F A C BG s Af I' D AS Bl Cq hI fr r ac ne k;exact ym AE.s AE.l (st h (λ_ _ e=>by(exfalso;cases e)) (λ_ e=>by(exfalso;cases e)) (λ_ e=>by(exfalso;cases e))) hd ha Bl Cq hI fr r ac ne k
 . intro K kk v g it i d H A7 f h sc pos ha F A C BG s Af I' D AS Bl hD Cq hI fr r k;exact zV AE.s AE.d (st h (λ_ _ e=>by(exfalso;cases e)) (λ_ e=>by(exfalso;cases e)) (λ_ e=>by(exfalso;cases e))) ha Bl hD Cq hI fr r k
 . intro K ts kd p x i b H A7 f h F A C BG s Af I' bY0 AS g Cq hI hJ fI fJ r k;exact aj6 AE.s AE.e (st h (λ_ _ e=>by(exfalso;cases e)) (λ_ e=>by(exfalso;cases e)) (λ_ e=>by(exfalso;cases e))) g Cq hI hJ fI fJ r k
theorem Wv(BL:Ok B A3 Kf):∀n,∀m,m<=n->All B A3 m
 |0=>λm h=>by
  obtain rfl:m=0:=by(with_reducible exact Nat.eq_zero_of_le_zero (by assumption))
  exact av4|n+1=>λm h=>by
  by_cases e:m<=n;. exact Wv BL n m e
  . obtain rfl:m=n+1:=by(with_reducible exact Mine.yG (by assumption) (by assumption))
    exact av5 BL (Wv BL n n (DF _)) λm e=>Wv BL n m (by omega)
theorem Ww(BL:Ok B A3 Kf)(n:O):All B A3 n:=Wv BL n n (DF _)
end
theorem av6{a b:U}:(a==b)=M↔a=b:=by simp
theorem Wx{p:U×J}{l:I (U×J)}(h:(x==p.1)=A6):(p::l).lookup x=l.lookup x:=(congrArg (λb=>match b with|true=>G p.2|false=>l.lookup x) h:(match x==p.1 with|true=>G p.2|false=>l.lookup x)=_)
theorem Wy{a b:U}(h:a≠b):(a==b)=A6:=t6.mpr λe=>h (av6.mp e)
theorem cB(nd:names.Nodup):∀{us:I J}{k:O},names[k]?=G x->(names.zip us).lookup x=us[k]?:=by induction names with
 |nil=>exactλh=>nomatch h|cons n names ih=>
 intro us k h;cases us with
 |nil=>exact uV.symm|cons u us=>cases k with
 |zero=>exact Bm h▸bE8|succ k=>exact(Wx (p:=(n,u)) (Wy λe:x=n=>(EU.mp nd).1 (e▸Ew h))).trans (ih (EU.mp nd).2 h)
theorem av7{l:I (U×J)}:∀{A9:I (U×J)},(l.map (·.1)).Nodup->l.foldl (λA9 p=>if(A9.lookup p.1).isNone then A9++[p]else A9) A9=A9++l.filter λp=>(A9.lookup p.1).isNone:=by induction l with
 |nil=>intro A9 _;exact(HN A9).symm|cons p l ih=>
 intro A9 nd;have n2:=EU.mp nd;rw[tv,ih n2.2,bE9];by_cases h:(A9.lookup p.1).isNone=M
 . rw[DA h,DA h,Uo];refine congrArg (A9++p::·) (List.filter_congr λq hq=>congrArg Option.isNone ?_);rw[bF0,Wx (p:=p) (Wy λe:q.1=p.1=>n2.1 (show p.1∈_ from e▸gt hq))];exact Option.or_none
 . rw[CS h,CS h]
theorem av8{g:U->AD J}:∀{full:I J},(∀(k:O)(x:U),names[k]?=G x->g x=full[k]?)->names.filterMap (λn=>(g n).map (n,·))=names.zip full:=by induction names with
 |nil=>intro full _;rfl|cons n names ih=>
 intro full h;rw[RW,h 0 n rfl];cases full with
 |nil=>exact(ih (full:=[]) λk x e=>(h (k+1) x e).trans (uV.trans uV.symm)).trans uW|cons u full=>exact congrArg ((n,u)::·) (ih λk x e=>h (k+1) x e)
theorem av9{f:U->AK}(hx:f x=M){l:I (U×J)}:(l.filter λp=>f p.1).lookup x=l.lookup x:=by induction l with
 |nil=>rfl|cons p l ih=>
 rw[bE9];cases h:f p.1 with
 |true=>rw[DA rfl];exact congrArg (λo=>match x==p.1 with|true=>G p.2|false=>o) ih|false=>rw[CS NW,ih];exact(Wx (p:=p) (Wy λe=>by rw[e,h]at hx;exact(E5 hx).elim)).symm
noncomputable def Od(n:O)(us ds:I J):I J:=us.take n++ds.drop (ds.length-(n-us.length))
theorem ar1{u k:O}(hd:d<=n)(hg:n-d<=u)(hu:u<=k)(hk:k<n):d-(n-u)+(k-u)=k-(n-d):=by rw[bF1 _ hd,bF1 _ (B4 hu (Gi hk)),Ll k d,<-Nat.sub_add_comm (Nat.sub_le_iff_le_add'.mp hg),<-sg hu,Y1,bp3]
theorem nH{l:I J}{k:O}{x:J}(h:l[k]?=G x):k<l.length:=(HL.mp h).1
theorem aw0{us ds:I J}(nd:names.Nodup)(hd:ds.length<=names.length)(hg:names.length-ds.length<=us.length):names.filterMap (λn=>((((names.drop (names.length-ds.length)).zip ds).foldl (λA9 p=>if(A9.lookup p.1).isNone then A9++[p]else A9) (names.zip us)).lookup n).map (n,·))=names.zip (Od names.length us ds):=by
 rw[av7 (by rw[bF2 (by rw[V6,uX hd];exact DF _)];exact nd.drop)];refine av8 λk x hx=>?_;have hk:=nH hx;have hz:=cB (us:=us) nd hx;rw[bF0,hz];by_cases hu:k<us.length
 . rw[Hk hu];exact(Hk hu).symm.trans ((bF3 hk).symm.trans (Y4 (by rw[Pe];exact bp7.mpr ⟨hk,hu⟩)).symm)
 . have hu:=Uq.mp hu;have Wm:=B4 hu (Gi hk);have hn:=VE (l:=us) hu;rw[hn,Option.none_or,av9 (f:=λx=>((names.zip us).lookup x).isNone) (by rw[hz,hn];rfl),cB (k:=k-(names.length-ds.length)) nd.drop (by rw[uI,by1 (B4 hg hu)];exact hx),Od,gM Wm,VF hu,uI,ar1 hd hg hu hk]
theorem aw1{us:I J}(nd:names.Nodup){f:O}(hg:f<=us.length):((names.take f).filter λn=>((names.zip us).lookup n).isNone)=[]:=by
 refine List.filter_eq_nil_iff.mpr λx hx=>?_;refine xE (List.mem_iff_getElem?.mp hx) ?_;intro k e;have hk:=J' (nH e) (B4 (Ek Pe) (Y' ..));rw[cB nd ((bF3 hk).symm.trans e),Hk (J' hk hg)];exact NW
theorem aw2{l:I (U×A4)}:∀{A9:I (U×A4)},(forIn l A9 λx A9=>if(g6 x.1 A9).isNone=M then pure (G2 (A9++[(x.1,x.2)]))else pure (G2 A9):Dz (I (U×A4)))=pure (l.foldl (λA9 p=>if(A9.lookup p.1).isNone then A9++[p]else A9) A9):=by induction l with
 |nil=>intro A9;rfl|cons p l ih=>
 intro A9;rw[Rf,tv];by_cases h:(A9.lookup p.1).isNone=M;. rw[DA h,DA h,pure_bind];exact ih
 . rw[CS h,CS h,pure_bind];exact ih
noncomputable def aw3(va:AD Arg)(us:I A4)(l:I (U×A4)):Dz (I (U×A4)):=match va with
 |some a=>YJ us>>=λv=>pure (l++[(a.arg,v)])|none=>pure l
theorem aw4(h1:fd.params.posonlyargs=[])(h2:fd.params.kwonlyargs=[])(h3:fd.params.kwarg=L)(hN:fd.params.args.map (·.arg)=names){AS:Prop}(k:∀(AG An:AD (BW A4)->Dz (I (U×A4)))(AM:I (U×A4)->Dz (I (U×A4))),fx fd ⟨us,[]⟩=(Nd fd.defaults>>=λY=>if(decide (us.length>names.length)&&fd.params.vararg.isNone)=M then AG Y else if(!((names.take (names.length-((Y.getD #[]).toList.drop ((Y.getD #[]).toList.length-names.length)).length)).filter λn=>((names.zip us).lookup n).isNone).isEmpty)=M then An Y else(forIn ((names.drop (names.length-((Y.getD #[]).toList.drop ((Y.getD #[]).toList.length-names.length)).length)).zip ((Y.getD #[]).toList.drop ((Y.getD #[]).toList.length-names.length))) (names.zip us) λx A9=>if(g6 x.1 A9).isNone=M then pure (G2 (A9++[(x.1,x.2)]))else pure (G2 A9))>>=AM)->(∀A9,AM A9=aw3 fd.params.vararg (us.drop names.length) ((names++[]).filterMap (λn=>(A9.lookup n).map (n,·))))->AS):AS:=by
 subst hN;obtain⟨n,q,⟨bY1,bY2,va,bY3,kw,kwa,dfs⟩,b,sc,g,cl,df,kd,d,m,an,co,ct,bY4⟩:=fd;dsimp only at h1 h2 h3;subst h1;subst h2;subst h3;exact k _ _ _ rfl λA9=>by cases va<;>rfl
theorem aw5{ds:I A4}{c:AK}{AG An:Dz (I (U×A4))}{k:I (U×A4)->Dz (I (U×A4))}(nd:names.Nodup)(hd:ds.length<=names.length)(hg:names.length-ds.length<=us.length)(hc:c=A6):(if c=M then AG else if(!((names.take (names.length-(ds.drop (ds.length-names.length)).length)).filter λn=>((names.zip us).lookup n).isNone).isEmpty)=M then An else(forIn ((names.drop (names.length-(ds.drop (ds.length-names.length)).length)).zip (ds.drop (ds.length-names.length))) (names.zip us) λx A9=>if(g6 x.1 A9).isNone=M then pure (G2 (A9++[(x.1,x.2)]))else pure (G2 A9))>>=λA9=>k ((names++[]).filterMap (λn=>(A9.lookup n).map (n,·))))=k (names.zip (Od names.length us ds)):=by
 rw[hc,CS NW,show ds.length-names.length=0 from Nat.sub_eq_zero_of_le hd,YN,aw1 nd hg];exact(congrArg (·>>=_) aw2).trans (congrArg k ((congrArg (λl=>List.filterMap _ l) (HN names)).trans (aw0 nd hd hg)))
section
theorem aw6{ds:I A4}{A2:I (U×A4)->AR->Prop}(h1:fd.params.posonlyargs=[])(h2:fd.params.kwonlyargs=[])(h3:fd.params.kwarg=L)(hN:fd.params.args.map (·.arg)=names)(nd:names.Nodup)(hd:ds.length<=names.length)(hg:names.length-ds.length<=us.length)(hv:us.length<=names.length\/fd.params.vararg.isSome=M)(hs:∀A2:AD (BW A4)->AR->Prop,(∀Y,(Y.getD #[]).toList=ds->A2 Y s)->AH Av A (Nd fd.defaults) A2 E s)(h:match fd.params.vararg with
 |none=>A2 (names.zip (Od names.length us ds)) s|some a=>AH Av A (YJ (us.drop names.length)) (λv s'=>A2 (names.zip (Od names.length us ds)++[(a.arg,v)]) s') E s):AH Av A (fx fd ⟨us,[]⟩) A2 E s:=by
 refine aw4 (us:=us) h1 h2 h3 hN ?_;intro AG An AM e eZ;rw[e,show AM=_ from funext eZ];clear e eZ h1 h2 h3 hN;generalize fd.params.vararg=va at h hv ⊢;refine A5 (hs _ λY cC=>?_);clear hs;subst cC;refine(congrArg (λx=>AH Av A x A2 E s) (aw5 nd hd hg ?_)).mpr ?_;. cases va with
 |none=>
  rcases hv with hv|hv;. rw[Rj (Uq.mpr hv)];rfl
  . exact(E5 hv).elim|some a=>exact Bool.and_false _
 . cases va with
 |none=>exact AW h|some a=>exact A5 (Fg h (λ_ _ q=>AW q) λ_ _ q=>q)
end
theorem any_some{o:AD J}{f:J->AK}(h:o.any f=M):∃x,o=G x/\f x=M:=by cases o with
 |none=>exact(B0 h).elim|some x=>exact⟨x,rfl,h⟩
noncomputable def Qm(v:A4)(d k:J):J:=if v.ctorIdx=0 then k else d
theorem aw7{v:A4}{d k:J}{r:J}(h:Qm v d k=r)(hd:d=r->Bj){P:A4->Prop}(c:k=r->P .none):P v:=if q:v.ctorIdx=0 then bF4 (motive:=λv=>Qm v d k=r->P v) v q (λh=>c h) h else(hd ((CS q).symm.trans h)).elim
theorem aw8{v:A4}{d k:J}{r:J}(h:Qm v d k=r){P:A4->Prop}(c:k=r->P .none)(e:d=r->P v):P v:=if q:v.ctorIdx=0 then bF4 (motive:=λv=>Qm v d k=r->P v) v q (λh=>c h) h else e ((CS q).symm.trans h)
noncomputable def cD(v:A4)(d:J)(k:AK->J):J:=if h:v.ctorIdx=3 then bF5 (motive:=λ_=>J) v h k else d
theorem aw9{v:A4}{d:J}{k:AK->J}{r:J}(h:cD v d k=r)(hd:d=r->Bj){P:A4->Prop}(c:∀x,k x=r->P (.bool x)):P v:=if q:v.ctorIdx=3 then bF5 (motive:=λv=>cD v d k=r->P v) v q (λx h=>c x h) h else(hd ((D3 q).symm.trans h)).elim
noncomputable def Tt(v:A4)(d:J)(k:U->EP->J):J:=if h:v.ctorIdx=6 then bF6 (motive:=λ_=>J) v h k else d
theorem cE{v:A4}{d:J}{k:U->EP->J}{r:J}(h:Tt v d k=r)(hd:d=r->Bj){P:A4->Prop}(c:∀x t,k x t=r->P (.str x t)):P v:=if q:v.ctorIdx=6 then bF6 (motive:=λv=>Tt v d k=r->P v) v q (λx t h=>c x t h) h else(hd ((D3 q).symm.trans h)).elim
noncomputable def cF(d:NP):AD Kg:=if h:d.ctorIdx=7 then bF7 (motive:=λ_=>AD Kg) d h G else L
theorem nI{d:NP}{f:Kg}(h:cF d=G f):d=.func f:=if q:d.ctorIdx=7 then bF7 (motive:=λd=>cF d=G f->d=.func f) d q (λ_ h=>congrArg Data.func (Bm h)) h else nomatch(D3 q).symm.trans h
noncomputable def cG(d:NP):AD (BW A4):=if h:d.ctorIdx=2 then bF8 (motive:=λ_=>AD (BW A4)) d h λus _=>G us else L
theorem ax0{d:NP}{us:BW A4}(h:cG d=G us):∃n,d=.seq us n:=if q:d.ctorIdx=2 then bF8 (motive:=λd=>cG d=G us->∃n,d=.seq us n) d q (λ_ n h=>⟨n,congrArg (gu · n) (Bm h)⟩) h else nomatch(D3 q).symm.trans h
noncomputable def cH(d:NP):AD (BW A4):=if h:d.ctorIdx=9 then sy (motive:=λ_=>AD (BW A4)) d h G else L
theorem ax1{d:NP}{us:BW A4}(h:cH d=G us):d=.fields us:=if q:d.ctorIdx=9 then sy (motive:=λd=>cH d=G us->d=.fields us) d q (λ_ h=>congrArg Data.fields (Bm h)) h else nomatch(D3 q).symm.trans h
noncomputable def cI(d:NP):AD (BW FQ):=if h:d.ctorIdx=3 then sx (motive:=λ_=>AD (BW FQ)) d h λN _=>G N else L
theorem ax2{d:NP}{N:BW FQ}(h:cI d=G N):∃n,d=.dict N n:=if q:d.ctorIdx=3 then sx (motive:=λd=>cI d=G N->∃n,d=.dict N n) d q (λ_ n h=>⟨n,congrArg (Data.dict · n) (Bm h)⟩) h else nomatch(D3 q).symm.trans h
noncomputable def cK(v:A4)(d:J)(k:AX->J):J:=if h:v.ctorIdx=4 then bF9 (motive:=λ_=>J) v h λi _=>k i else d
theorem ax3{v:A4}{d:J}{k:AX->J}{r:J}(h:cK v d k=r)(hd:d=r->Bj){P:A4->Prop}(c:∀x t,k x=r->P (.int x t)):P v:=if q:v.ctorIdx=4 then bF9 (motive:=λv=>cK v d k=r->P v) v q (λx t h=>c x t h) h else(hd ((D3 q).symm.trans h)).elim
noncomputable def cL(v:V)(u:A4):AK:=IS v (vBool v (vInt v (vStr v A6 λs=>Tt u A6 λt _=>CU s t.cps.toList) λi=>cK u A6 λj=>decide (i=j)) λb=>cD u A6 λc=>b==c) (Qm u A6 M)
theorem ax4(e:cL v u=M):VR h C v u:=by
 apply Zi e;. intro e;apply aw7 e B0;intro _;exact rfl
 intro e;apply jV e;. intro b e;apply aw9 e B0;intro c e;exact eq_of_beq e▸rfl
 intro e;apply Py e;. intro i e;apply ax3 e B0;intro j k e;exact⟨k,of_decide_eq_true e▸rfl⟩
 intro e;apply Dd e B0;intro s e;apply cE e B0;intro t k e;exact⟨k,Ec.mp e▸rfl⟩
theorem ax5(e:all2 cL vs us=M):Aa h C vs us:=VU (P:=Aa h C) rfl (λ_ _ _ _ q ih=>.cons (ax4 q) ih) e
noncomputable def Wz(Kf:Gg)(a:A8):AD Kg:=B' (Kf.lookup a) λo=>cF o.data
noncomputable def Il(Kf:Gg)(a:A8):Kg:=(Wz Kf a).getD default
noncomputable def nJ(Kf:Gg)(v:A4):AD (I A4):=Qm v (Kv v L λt=>B' (Kf.lookup t) λo=>B' (cG o.data) λus=>G us.toList) (G [])
noncomputable def codeIn(Kf:Gg)(v:A4):AD U:=Kv v L λc=>B' (Kf.lookup c) λo=>B' (cH o.data) λvs=>B' vs[1]? λw=>Tt w L λt _=>G t
noncomputable def ax6(o:AD E3):AK:=o==G .local||o==G .cell
noncomputable def fdA(fd:Kg):AK:=(fd.closure.isEmpty&&!fd.scope.isCoroutine)&&((!fd.scope.isGenerator&&fd.scope.kind==.function)&&(BC fd.globals 3&&BC fd.builtins 0))
noncomputable def fdB(fn:Fn):AK:=(QC fn.sc&&Sn fn.sc.names)&&(fn.sc.names.all (λp=>p.2 !=.free)&&(QF (fn.ps++fn.va.toList)&&(fn.ps++fn.va.toList).all λx=>ax6 (Ah fn.sc.names x)))
noncomputable def nK(Kf:Gg)(fd:Kg)(fn:Fn):AK:=(fd.params.posonlyargs.isEmpty&&fd.params.kwonlyargs.isEmpty)&&(fd.params.kwarg.isNone&&(EQ fn.dflt.length fn.ps.length&&(nJ Kf fd.defaults).any (all2 cL fn.dflt)))
noncomputable def nL(Kf:Gg)(fd:Kg)(fn:Fn):AK:=(fdA fd&&fdB fn)&&(nK Kf fd fn&&(codeIn Kf fd.code).any (Cw fd.qualname))
structure cM(Kf:Gg)(a:A8)(fn:Fn):Prop where
 at_:(Wz Kf a).isSome=M
 sc:(Il Kf a).scope=fn.sc
 body:(Il Kf a).body=.stmts fn.body
 ps:(Il Kf a).params.args.map (·.arg)=fn.ps
 va:(Il Kf a).params.vararg.map (·.arg)=fn.va
 ok:nL Kf (Il Kf a) fn=M
theorem nN(r:Aa h C vs us):∀{ps:I U},BR h C (ps.zip vs) (ps.zip us):=Aa.ind (P:=λvs us=>∀{ps:I U},BR h C (ps.zip vs) (ps.zip us)) (λ{ps}=>by rw[uW,uW];exact rfl) (λv u vs us a _ ih ps=>by cases ps with
 |nil=>exact rfl|cons p ps=>exact .cons a ih) r
theorem BR.snoc{b:I (U×V)}{l:I (U×A4)}(r:BR h C b l)(a:VR h C v u):BR h C (b++[(x,v)]) (l++[(x,u)]):=BR.ind (P:=λb l=>BR h C (b++[(x,v)]) (l++[(x,u)])) (.cons a rfl) (λ_ _ _ _ _ a _ ih=>.cons a ih) r
theorem Aa.ax7{x:I V}{l:I A4}(r:Aa h C x l):Aa h C (x.take n) (l.take n):=Aa.ind (P:=λx l=>∀n,Aa h C (x.take n) (l.take n)) (λn=>by cases n<;>rfl) (λ_ _ _ _ a _ ih n=>by cases n with|zero=>rfl|succ n=>exact .cons a (ih n)) r n
theorem Aa.nO{x:I V}{l:I A4}(r:Aa h C x l):Aa h C (x.drop n) (l.drop n):=Aa.ind (P:=λx l=>∀n,Aa h C (x.drop n) (l.drop n)) (λn=>by cases n<;>rfl) (λ_ _ _ _ a b ih n=>by cases n with|zero=>exact .cons a b|succ n=>exact ih n) r n
theorem nP{C:Type}{l:I (U×C)}:l.lookup x=Ah l x:=by induction l with
 |nil=>rfl|cons p l ih=>
 rw[Sy];by_cases e:x=p.1;. rw[E2.mpr e.symm];exact e▸bE8
 . rw[show Cw p.1 x=A6 from t6.mpr λq=>e (E2.mp q).symm,Wx (Wy e)];exact ih
theorem nb(h:(!b)=M):b=A6:=by cases b;rfl;exact(B0 h).elim
theorem ax8(AV:Kf.In B.base){v:A4}(h:nJ Kf v=G us)(st:B.base.StaysIn s.heap){A2:AD (BW A4)->AR->Prop}(k:∀Y,(Y.getD #[]).toList=us->A2 Y s):AH Av A (Nd v) A2 E s:=by
 apply aw8 h;. intro h;exact AW (k L (Bm h))
 intro h;apply Q0 h AF;intro t h;apply BI h;intro o hl h;apply BI h;intro Y hs h;refine A5 (NV (st _ _ (AV _ _ hl)) ?_);refine xE (ax0 hs) ?_;intro n e;rw[e];exact AW (k _ (Bm h))
theorem ax9(AV:Kf.In B.base){fn:Fn}(ps:fd.params.args.map (·.arg)=fn.ps)(va:fd.params.vararg.map (·.arg)=fn.va)(hC:nK Kf fd fn=M)(nd:fn.ps.Nodup){b:I (U×V)}(hb:JH fn args=G b):b.map (·.1)=fn.ps++fn.va.toList/\∀{s:AR}{C:I A8}{us:I A4},B.base.StaysIn s.heap->Aa s.heap C args us->∀{Av:fY}{A:CK}{A2:I (U×A4)->AR->Prop}{E:A4->AR->Prop},(∀KA Q,(∀b o,s.heap.get? b=G o->Q.get? b=G o)->BR Q C b KA->A2 KA {s with heap:=Q})->AH Av A (fx fd ⟨us,[]⟩) A2 E s:=by
 apply Ce hb AF;intro q hb;have len:=CD (Ak q);have hd:=Dk (B1 (Ak (Ak hC)));rw[<-Bm hb];refine⟨by rw[NZ,bF2 (Ek len),Hl];exact congrArg _ (bD8 _),λ{s C us}st rs{Av A A2 E}k=>?_⟩;refine AC (any_some (Ak (Ak (Ak hC)))) ?_;intro ds hds hcv;have cv:=ax5 (h:=s.heap) (C:=C) hcv;have full:Aa s.heap C (Sh fn args) (Od fn.ps.length us ds):=by
   unfold Sh Od;rw[rs.length,cv.length];exact rs.ax7.app cv.nO
 refine aw6 (ds:=ds) (Yb.mp (B1 (B1 hC))) (Yb.mp (Ak (B1 hC))) (Option.isNone_iff_eq_none.mp (B1 (Ak hC))) ps nd (cv.length▸hd) ?_ ?_ (λA2 hQ=>ax8 AV hds st hQ) ?_
 . rw[<-cv.length,<-rs.length];refine bp5 (len▸?_);rw[Sh,FD,Pe,V6];exact Um (sn ..) (gV ..)
 . have hl:=Dk (B1 q);rw[rs.length,<-va]at hl;revert hl;cases fd.params.vararg with
 |none=>exact .inl|some a=>exactλ_=>.inr rfl
 . have hl:=Dk (B1 q);rw[<-va]at k hl;revert k hl;cases fd.params.vararg with
 |none=>intro k _;exact k _ s.heap (λ_ _ e=>e) (by rw[show(gU _ L).toList.map _=[]from rfl,HN];exact nN full)|some a=>
   intro k hl;have hl:args.length<=1000:=hl;refine gi ?_ (B4 (by rw[V6];exact B4 (gV ..) (rs.length▸hl)) (by decide));have kp:∀b o,s.heap.get? b=G o->(s.heap.push {cls:=.type "tuple",data:=.seq (us.drop fn.ps.length).toArray}).get? b=G o:=λb o e=>C1 _ e;exact k _ _ kp ((nN (full.Bw λb o e _=>kp b o e)).snoc ⟨_,_,(us.drop fn.ps.length).toArray,0,rfl,CY _ rfl,⟨rfl,λ_=>⟨rfl,rfl⟩⟩,rfl,rfl,rs.nO.Bw λb o e _=>kp b o e⟩)
theorem ay0(AV:Kf.In h){v:A4}{t:U}(ht:codeIn Kf v=G t):h.CodeRec v t:=by
 apply Q0 ht AF;intro c ht;apply BI ht;intro oc hc ht;apply BI ht;intro vs hs ht;apply BI ht;intro w hv ht;revert hv;apply cE ht AF;intro x tk ht hv;exact⟨c,oc,vs,tk,rfl,AV _ _ hc,ax1 hs,Bm ht▸hv⟩
theorem Ml(AV:Kf.In B.base)(lim:B.base.NoLimit){fn:Fn}(AG:cM Kf a fn):∃o fd,FnAt B a fn o fd:=by
 refine xE (uY.mp AG.at_) ?_;intro fd e;have hf:Il Kf a=fd:=congrArg (·.getD default) e;apply BI e;intro o hl hd;have A:=B1 (B1 AG.ok);have b:=Ak (B1 AG.ok);have nd:=bQ (B1 (Ak (Ak b)));refine⟨o,Il Kf a,AV _ _ hl,hf▸nI hd,AG.sc,AG.body,Yb.mp (B1 (B1 A)),nb (Ak (B1 A)),nb (B1 (B1 (Ak A))),eq_of_beq (Ak (B1 (Ak A))),CD (B1 (Ak (Ak A))),CD (Ak (Ak (Ak A))),B1 (B1 b),ak (Ak (B1 b)),λx e=>?_,?_,lim,λhb=>?_⟩
 . have :=Bn.mp (B1 (Ak b)) _ (FF (nP▸e));exact B0 this
 . refine AC (any_some (Ak (Ak AG.ok))) ?_;intro t ht e;rw[E2.mp e];exact ay0 AV ht
 . have z:=ax9 AV AG.ps AG.va (B1 (Ak AG.ok)) (ID.mp nd).1 hb;refine⟨z.1▸nd,λx hx=>?_,z.2⟩;have :=Bn.mp (Ak (Ak (Ak b))) x (z.1▸hx);rw[nP];exact(Bool.or_eq_true_iff.mp this).imp eq_of_beq eq_of_beq
noncomputable def nQ:I AA->I V
 |.Constant c _ _::r=>(match O3 c with|some v=>[v]|none=>[])++nQ r|_=>[]
noncomputable def DE(s:As):Fn:={sc:=BV s,ps:=(SE s).args.map (·.arg),va:=(SE s).vararg.map (·.arg),body:=Fj s,dflt:=nQ (SE s).defaults}
noncomputable def Im:I (O×Fn):=[(82,DE (DC 3 4)),(89,DE (DC 3 5)),(160,DE (DC 5 1)),(167,DE (DC 5 2)),(174,DE (DC 5 3)),(181,DE (DC 5 4)),(188,DE (DC 5 5)),(196,DE (DC 5 6)),(203,DE (DC 5 7)),(210,DE (DC 5 8)),(253,DE (Ba 6)),(326,DE (Ba 15)),(340,DE (Ba 19)),(347,DE (Ba 20)),(354,DE (Ba 21)),(361,DE (Ba 22)),(368,DE (Ba 23)),(375,DE (Ba 24)),(387,DE (Ba 28)),(392,DE (Ba 29)),(399,DE (Ba 30)),(404,DE (Ba 31)),(411,DE (Ba 32)),(416,DE (Ba 33)),(423,DE (Ba 34)),(430,DE (Ba 35)),(435,DE (Ba 36)),(442,DE (Ba 37))]
noncomputable def X':I (U×V):=[(⟨⟨[95,119,97,108,108]⟩⟩,V.top (.ref 21)),(⟨⟨[95,116,117,112,108,101,103,101,116,116,101,114]⟩⟩,V.top (.ref 60)),(⟨⟨[77,97,116,99,104]⟩⟩,V.top (.ref 135)),(⟨⟨[95,99,97,108,99,117,108,97,116,101,95,114,97,116,105,111]⟩⟩,V.top (.ref 145)),(⟨⟨[83,101,113,117,101,110,99,101,77,97,116,99,104,101,114]⟩⟩,V.top (.ref 242)),(⟨⟨[95,102,111,114,109,97,116,95,114,97,110,103,101,95,117,110,105,102,105,101,100]⟩⟩,V.top (.ref 253)),(⟨⟨[95,112,108,97,105,110,95,110,97,109,101]⟩⟩,V.top (.ref 260)),(⟨⟨[65,66,67,77,101,116,97]⟩⟩,V.top (.ref 277)),(⟨⟨[95,65,66,67,76,105,107,101]⟩⟩,V.top (.ref 310)),(⟨⟨[95,97,98,99,95,112,108,97,105,110,95,109,101,116,97]⟩⟩,V.top (.ref 319)),(⟨⟨[102,115,112,97,116,104]⟩⟩,V.top (.ref 326)),(⟨⟨[95,99,104,101,99,107,95,97,114,103,95,116,121,112,101,115]⟩⟩,V.top (.ref 333)),(⟨⟨[95,103,101,116,95,115,101,112]⟩⟩,V.top (.ref 340)),(⟨⟨[106,111,105,110]⟩⟩,V.top (.ref 347)),(⟨⟨[115,112,108,105,116,114,111,111,116]⟩⟩,V.top (.ref 354)),(⟨⟨[98,97,115,101,110,97,109,101]⟩⟩,V.top (.ref 361)),(⟨⟨[100,105,114,110,97,109,101]⟩⟩,V.top (.ref 368)),(⟨⟨[110,111,114,109,112,97,116,104]⟩⟩,V.top (.ref 375)),(⟨⟨[115,111,114,116,101,100,95,108,105,115,116,95,100,105,102,102,101,114,101,110,99,101]⟩⟩,V.top (.ref 382)),(⟨⟨[95,108,97,119,95,116,114,101,101,115]⟩⟩,V.top (.ref 387)),(⟨⟨[95,108,97,119,95,115,116,114,97,105,103,104,116]⟩⟩,V.top (.ref 392)),(⟨⟨[95,108,97,119,95,105,110,110,101,114]⟩⟩,V.top (.ref 399)),(⟨⟨[95,108,97,119,95,116,111,108,100]⟩⟩,V.top (.ref 404)),(⟨⟨[95,108,97,119,95,103,114,111,119,110]⟩⟩,V.top (.ref 411)),(⟨⟨[95,108,97,119,95,112,97,105,114,115]⟩⟩,V.top (.ref 416)),(⟨⟨[95,108,97,119,95,114,97,110,103,101]⟩⟩,V.top (.ref 423)),(⟨⟨[95,108,97,119,95,99,104,97,110,103,101,115]⟩⟩,V.top (.ref 430)),(⟨⟨[95,108,97,119,95,119,97,108,107,101,100]⟩⟩,V.top (.ref 435)),(⟨⟨[108,97,119]⟩⟩,V.top (.ref 442)),(⟨⟨[108,101,110]⟩⟩,V.top (.builtin "len")),(⟨⟨[109,105,110]⟩⟩,V.top (.builtin "min")),(⟨⟨[109,97,120]⟩⟩,V.top (.builtin "max")),(⟨⟨[115,111,114,116,101,100]⟩⟩,V.top (.builtin "sorted")),(⟨⟨[105,115,105,110,115,116,97,110,99,101]⟩⟩,V.top (.builtin "isinstance")),(⟨⟨[105,115,115,117,98,99,108,97,115,115]⟩⟩,V.top (.builtin "issubclass")),(⟨⟨[116,121,112,101]⟩⟩,V.top (.type "type")),(⟨⟨[115,116,114]⟩⟩,V.top (.type "str")),(⟨⟨[98,121,116,101,115]⟩⟩,V.top (.type "bytes")),(⟨⟨[114,97,110,103,101]⟩⟩,V.top (.type "range")),(⟨⟨[101,110,117,109,101,114,97,116,101]⟩⟩,V.top (.type "enumerate")),(⟨⟨[115,101,116]⟩⟩,V.top (.type "set")),(⟨⟨[108,105,115,116]⟩⟩,V.top (.type "list")),(⟨⟨[109,97,112]⟩⟩,V.top (.type "map")),(⟨⟨[116,117,112,108,101]⟩⟩,V.top (.type "tuple"))]
noncomputable def cN:I (U×A8):=[(⟨⟨[95,95,105,110,105,116,95,95]⟩⟩,160),(⟨⟨[115,101,116,95,115,101,113,115]⟩⟩,167),(⟨⟨[115,101,116,95,115,101,113,49]⟩⟩,174),(⟨⟨[115,101,116,95,115,101,113,50]⟩⟩,181),(⟨⟨[95,83,101,113,117,101,110,99,101,77,97,116,99,104,101,114,95,95,99,104,97,105,110,95,98]⟩⟩,188),(⟨⟨[102,105,110,100,95,108,111,110,103,101,115,116,95,109,97,116,99,104]⟩⟩,196),(⟨⟨[103,101,116,95,109,97,116,99,104,105,110,103,95,98,108,111,99,107,115]⟩⟩,203),(⟨⟨[103,101,116,95,111,112,99,111,100,101,115]⟩⟩,210)]
noncomputable def Fv(on:AK)(CR:Kx->Cd->Mine.St->AD A0):Mine.Ctx:={glob:=X',fn:=λa=>AL Im a,Bp:=135,Sj:=82,jq:=89,Dl:=242,Q9:=160,Gr:=382,Vl:=on,HV:=cN,CR:=CR}
noncomputable abbrev Mm(CR:Kx->Cd->Mine.St->AD A0):Mine.Ctx:=Fv M CR
noncomputable abbrev FL:Mine.Ctx:=Mm λ_ _ _=>L
theorem ay1{C:Type}{x:O}{v:C}{l:I (O×C)}(h:AL l x=G v):(x,v)∈l:=Sz h
theorem Oe(P:Dq){fn:Fn}(h:AL Im a=G fn):cM (Bb P) a fn:=by
 have e:=H5.mp (show Im.map (λp=>((Wz (Bb P) p.1).isSome,(Il (Bb P) p.1).scope,(Il (Bb P) p.1).body,(Il (Bb P) p.1).params.args.map (·.arg),(Il (Bb P) p.1).params.vararg.map (·.arg),nL (Bb P) (Il (Bb P) p.1) p.2))=Im.map (λp=>(M,p.2.sc,.stmts p.2.body,p.2.ps,p.2.va,M))by kernel_rfl) _ (ay1 h);exact⟨congrArg (·.1) e,congrArg (·.2.1) e,congrArg (·.2.2.1) e,congrArg (·.2.2.2.1) e,congrArg (·.2.2.2.2.1) e,congrArg (·.2.2.2.2.2) e⟩
section
variable{CR:Kx->Cd->Mine.St->AD A0}
theorem cO(AV:(Bb P).In B.base):Cx B (Fv on CR) (Bb P)where
 AV:=AV;makes:=by kernel_rfl
 init:=by kernel_rfl
 lR:=by kernel_rfl
 ga:=by kernel_rfl
 lS:=by kernel_rfl
 lT:=by kernel_rfl
 over:=by kernel_rfl
 b7:=by kernel_rfl
 attrs:=λa h=>by
  refine AC (II.mp h) ?_;intro x hx e;exact E2.mp e▸H5.mp (show aC.map (Gn (Bb P) (.ref 242))=aC.map λ_=>G L by kernel_rfl) x hx
 meths:=λm a h=>by
  have e:=H5.mp (show cN.map (λp=>(Gn (Bb P) (.ref 242) p.1,tS (Bb P) (.ref p.2)))=cN.map (λp=>(G (G (.ref p.2)),G (.type "function")))by kernel_rfl) _ (FF h);exact⟨congrArg (·.1) e,congrArg (·.2) e⟩
theorem nR:HZ B (Fv on CR) (Bb P)where
 at_:=rfl;cls:=by
  have :∃o,(Bb P).lookup 135=G o/\(match o.data with|.cls cd=>!cd.hasDel|_=>A6)=M:=⟨jM P,by kernel_rfl,by kernel_rfl⟩;refine AC this ?_;(try clear this);intro Aw e h;obtain⟨oc,od,d,sl⟩:=Aw;cases d<;>first|(exact(E5 h).elim;done)|skip
  exact⟨_,_,_,_,e,by simpa using h⟩
 call:=by kernel_rfl
 typ:=by kernel_rfl
 self:=by kernel_rfl
 tup:=by kernel_rfl
 obj:=by kernel_rfl
 init:=by kernel_rfl
 len:=by kernel_rfl
 iter:=by kernel_rfl
 mro:=λA9=>by kernel_rfl
 made:=λA9=>by kernel_rfl
 lX:=λA9=>by kernel_rfl
 here:=λA9=>by kernel_rfl
 lY:=λA9 T=>by kernel_rfl
 reads:=by kernel_rfl
 new:=⟨136,by kernel_rfl,[],by kernel_rfl⟩
theorem cP:Ws (Bb P)where
 mx:=λA9=>by kernel_rfl
 typ:=λA9=>by kernel_rfl
 bv:=by kernel_rfl
 sub:=by kernel_rfl
 new:=by kernel_rfl
theorem nU:Gn (Bb P) (.ref (Fv on CR).Bp) "__lt__"=G (G (.builtin "tuple.__lt__")):=by kernel_rfl
theorem nV:Ah (Fv on CR).glob Wg=G (.top (.type "enumerate")):=by kernel_rfl
noncomputable def nY(Kf:Gg)(a:A8):AD (BW FQ):=B' (Kf.lookup a) λo=>cI o.data
noncomputable def Tu(Kf:Gg)(a:A8):BW FQ:=(nY Kf a).getD #[]
noncomputable def ay2(Kf:Gg)(a:A8):AK:=(nY Kf a).any λN=>N.toList.all λe=>Tt e.key A6 λ_ _=>M
theorem Tv(AV:Kf.In h)(e:ay2 Kf a=M):h.Ns a (N_ (Tu Kf a)):=by
 refine AC (any_some e) ?_;intro N e1 e2;rw[show Tu Kf a=N from congrArg (·.getD #[]) e1];apply BI e1;intro o hl hd;refine xE (ax2 hd) ?_;intro ep he;refine⟨o,N,ep,AV _ _ hl,he,λx hx=>?_,λ_=>rfl⟩;have :=Bn.mp e2 x (gC.mpr hx);revert this;generalize x.key=k;intro q;apply cE q B0;intro n t _;exact⟨n,t,rfl⟩
theorem Mn(AV:(Bb P).In h):h.NoLimit:=⟨_,Tv AV (by kernel_rfl),by kernel_rfl⟩
theorem X0(AV:(Bb P).In B.base):Tm B (Fv on CR)where
 fn:=λa fn h=>Ml AV (Mn AV) (Oe P h);Gr:=by
  refine xE (uY.mp (show(Wz (Bb P) 382).isSome=M by kernel_rfl)) ?_;intro fd h;apply BI h;intro o hl hd;exact⟨o,fd,AV _ _ hl,nI hd⟩
theorem GH(AV:(Bb P).In B.base):Gl B (Fv on CR):=⟨_,_,Tv AV (by kernel_rfl),Tv AV (by kernel_rfl),λx v h=>by
 have e:=H5.mp (show X'.map (λp=>(match N_ (Tu (Bb P) 3) p.1 with|some w=>G w|none=>N_ (Tu (Bb P) 0) p.1).map V.top)=X'.map (λp=>G p.2)by kernel_rfl) _ (FF h);refine AC (uZ.mp e) ?_;clear e;intro w e q;refine⟨w,q.symm,?_⟩;revert e;cases N_ (Tu (Bb P) 3) x with
 |none=>exactλe=>.inr ⟨rfl,e⟩|some w=>exact .inl⟩
end
mutual
noncomputable def E7(BA:O->O):V->V
 |.ref i=>.ref (BA i)|.B' k i=>.B' k (BA i)|.tup c Y=>.tup c (Cr BA Y)|v=>v
noncomputable def Cr(BA:O->O):I V->I V
 |[]=>[]|v::l=>E7 BA v::Cr BA l
end
noncomputable def JU(BA:O->O)(e:V×V):V×V:=(e.1,E7 BA e.2)
noncomputable def Qn(BA:O->O)(e:U×V):U×V:=(e.1,E7 BA e.2)
noncomputable def DV(BA:O->O):Ob->Ob
 |.list Y=>.list (Cr BA Y)|.dict N=>.dict (N.map (JU BA))|.B3 N=>.B3 (N.map (JU BA))|.EY N=>.EY (N.map (Qn BA))|.rows r Y=>.rows r Y|.HT=>.HT|.inst c d=>.inst c (BA d)
theorem cQ{f:J->EH}:∀{m:I EH}{l:I J},m.Perm (l.map f)->∃l':I J,l'.Perm l/\m=l'.map f
 |[],l,h=>by
  have :=h.length_eq;cases l with
  |nil=>exact⟨[],.refl _,rfl⟩|cons _ _=>simp at this
 |b::m,l,h=>by
  refine AC (E0.mp (h.subset (Co ..))) ?_;intro a ha Aw;subst Aw;refine DB (List.append_of_mem ha) ?_;intro s t B6;clear ha;subst B6;have h2:(f a::m).Perm (f a::(s++t).map f):=h.trans (by
  rw[NZ,J3,NZ];exact bG0);refine AC (cQ (bT6 h2)) ?_;intro l' hl BJ;clear h h2;subst BJ;exact⟨a::l',(hl.cons a).trans bG0.symm,rfl⟩
section
theorem VR.DW(Dj:∀j,A_[j]?=Au[BA j]?):VR h A_ v u↔VR h Au (E7 BA v) u:=V.rec (motive_1:=λv=>∀u,VR h A_ v u↔VR h Au (E7 BA v) u) (motive_2:=λY=>∀us,Aa h A_ Y us↔Aa h Au (Cr BA Y) us) (λ_=>.rfl) (λ_ _=>.rfl) (λ_ _=>.rfl) (λ_ _=>.rfl) (λ_ _ ih _=>HQ λ_=>HQ λ_=>HQ λus=>HQ λ_=>Hm .rfl (Hm .rfl (Hm .rfl (Hm .rfl (Hm .rfl (ih us.toList)))))) (λ_ _=>.rfl) (λi _=>HQ λ_=>Hm (Dj i▸.rfl) .rfl) (λ_ _ _=>.rfl) (λ_ i _=>HQ λ_=>HQ λ_=>Hm .rfl (Hm (Dj i▸.rfl) .rfl)) (λ_ _ _ _=>.rfl) (λ_ _ _=>.rfl) (λ_ _=>.rfl) (λ_=>.rfl) (λ_=>.rfl) (λ_ _ x y _=>HQ λu=>HQ λus=>Hm .rfl (Hm (x u) (y us))) v u
theorem Aa.DW(Dj:∀j,A_[j]?=Au[BA j]?){v:I V}:∀{u:I A4},Aa h A_ v u↔Aa h Au (Cr BA v) u:=by induction v with
 |nil=>exact .rfl|cons x l ih=>exact HQ λu=>HQ λus=>Hm .rfl (Hm (VR.DW Dj) ih)
theorem Of:∀{l:I V},Cr BA l=l.map (E7 BA)
 |[]=>rfl|_::l=>by simp[Cr,Of (l:=l)]
theorem LP(l:I Tx):Cr BA (l.map V.str)=l.map V.str:=by rw[Of,Hl];rfl
theorem ay3{p:Tx}:E7 BA (O8 p l)=O8 p l:=by cases l with
 |nil=>rfl|cons t r=>
 show V.tup L (Cr BA (.str t::.str p::r.map .str))=_;simp only[Cr,LP];rfl
theorem ay4{x:Sg}:Cr BA (IZ x)=IZ x:=by cases x with
 |it l=>
  show[V.tup L (Cr BA (l.map V.str))]=_;rw[LP];rfl|tx t=>rfl|run p a b=>
  show Cr BA ((C8 a b).map (O8 p))=(C8 a b).map (O8 p);rw[Of,Hl];exact Yc λl _=>ay3
theorem ay5{l:I Sg}:Cr BA (DS l)=DS l:=by
 rw[Of];unfold DS;induction l with
 |nil=>rfl|cons x l ih=>rw[Yd,NZ,ih,<-Of,ay4]
theorem DR.DW{key:T->V}(Dj:∀j,A_[j]?=Au[BA j]?):∀{l:I (T×A4)},DR key h A_ N l↔DR key h Au (N.map (JU BA)) l:=by induction N with
 |nil=>exact VG|cons e N ih=>exact HQ λk=>HQ λu=>HQ λr=>Hm VG (Hm VG (Hm (VR.DW Dj) ih))
theorem Dn.DW(Dj:∀j,A_[j]?=Au[BA j]?):Dn prog w h A_ a N↔Dn prog w h Au a (N.map (JU BA)):=by
 unfold Dn;simp only[DR.DW Dj]
theorem Tw{N:I (U×V)}:Ah (N.map (Qn BA)) x=(Ah N x).map (E7 BA):=by induction N with
 |nil=>rfl|cons e N ih=>
 show bC (Cw e.1 x) (G (E7 BA e.2)) (Ah (N.map (Qn BA)) x)=(bC (Cw e.1 x) (G e.2) (Ah N x)).map (E7 BA);cases Cw e.1 x with
 |true=>rfl|false=>exact ih
theorem Ca.DW(Dj:∀j,A_[j]?=Au[BA j]?):Ca prog w h A_ a o↔Ca prog w h Au a (DV BA o):=by cases o with
 |list Y=>simp only[Ca,DV,Aa.DW Dj]|dict N=>exact Dn.DW Dj|B3 N=>
  simp only[Ca,DV,W4,and_true];constructor;. rintro⟨BN,p,y⟩;exact⟨_,p.map _,(Dn.DW Dj).mp y⟩
  . rintro⟨BN,p,y⟩;refine AC (cQ p) ?_;intro ay6 p' BP;clear p;subst BP;exact⟨ay6,p',(Dn.DW Dj).mpr y⟩|EY N=>
  simp only[Ca,DV];constructor
  . rintro⟨m,ns,r⟩;refine⟨m,ns,λx=>?_⟩;have :=r x;rw[Tw];cases e:Ah N x with
 |none=>rw[e]at this;exact this|some v=>rw[e]at this;refine AC this ?_;(try clear this);intro u q z;exact⟨u,q,(VR.DW Dj).mp z⟩
  . rintro⟨m,ns,r⟩;refine⟨m,ns,λx=>?_⟩;have :=r x;rw[Tw]at this;cases e:Ah N x with
  |none=>rw[e]at this;exact this|some v=>rw[e]at this;refine AC this ?_;(try clear this);intro u q z;exact⟨u,q,(VR.DW Dj).mpr z⟩
 |rows r Y=>
  simp only[Ca,DV];have :∀{us:I A4},Aa h A_ (DS Y) us↔Aa h Au (DS Y) us:=λ{us}=>by
    have :=Aa.DW (h:=h) (BA:=BA) Dj (v:=DS Y) (u:=us);rw[ay5]at this;exact this
  simp only[this]|HT=>exact VG|inst c d=>
  show(∃da,A_[d]?=G da/\_)↔∃da,Au[BA d]?=G da/\_;rw[Dj]
end
noncomputable def DJ(n:O)(B7:I O)(j:O):O:=match B7[j]? with|some i=>i|none=>n+(j-B7.length)
structure Sub(H:Mine.St)(DI:Mine.St)(B7:I O):Prop where
 len:B7.length=DI.n
 nodup:B7.Nodup
 lt:∀i∈B7,i<H.n
 obs:∀j o,AL DI.h j=G o->∃i,B7[j]?=G i/\AL H.h i=G (DV (DJ H.n B7) o)
noncomputable def C'(C:I A8)(B7:I O):I A8:=B7.map λi=>C.getD i 0
section
variable{J:I A8}
theorem GI(hl:C.length=n)(KN:∀i∈B7,i<n)(j:O):(C' C B7++J)[j]?=(C++J)[DJ n B7 j]?:=by
 have hz:(C' C B7).length=B7.length:=by simp[C']
 unfold DJ;cases e:B7[j]? with
 |none=>
  have :B7.length<=j:=by simpa using e
  show _=(C++J)[n+(j-B7.length)]?;rw[VF (hz▸this),VF (hl▸H3 _ _),hz,hl,bG1]|some i=>
  have hi:i<C.length:=by rw[hl];exact KN i (Ew e)
  refine xE (HL.mp e) ?_;intro hj _;rw[Y4 (hz.symm▸hj),Y4 hi];unfold C';rw[VH,e];simp[Kp,hi]
theorem LQ(hl:C.length=n)(KN:∀i∈B7,i<n)(h:a∈C' C B7):a∈C:=by
 refine AC (E0.mp h) ?_;intro i hi Aw;clear h;subst Aw;have :i<C.length:=by rw[hl];exact KN i hi
 simp[Kp,this]
theorem Gd.sub(g:Gd B F K A H C s)(AG:Sub H DI B7)(hd:d<=K.d)(he:Cf F s.heap (C' C B7) DI.env):Gd B F ⟨K.sc,d⟩ A DI (C' C B7) s where
 kinds:=⟨g.kinds.fn,g.kinds.sc,g.kinds.kd,g.kinds.g3,g.kinds.b0,g.kinds.cells,g.kinds.I_,g.kinds.MR⟩;len:=by rw[<-AG.len];simp[C']
 nodup:=by
  unfold C';rw[u_,g7];refine AG.nodup.imp_of_mem λ{a b}ha hb Cc e=>Cc ?_;have h1:a<C.length:=by rw[g.len];exact AG.lt a ha
  have h2:b<C.length:=by rw[g.len];exact AG.lt b hb
  have e':C[a]?=C[b]?:=by simpa[Kp,h1,h2]using e
  exact(RX h1 g.nodup).mp e'
 fresh:=λa m=>g.fresh a (LQ g.len AG.lt m);live:=λa m=>g.live a (LQ g.len AG.lt m);D5:=λa m=>⟨(g.D5 a m).1,λz=>(g.D5 a m).2.1 (LQ g.len AG.lt z),(g.D5 a m).2.2⟩;D1:=λc m=>⟨λz=>(g.D1 c m).1 (LQ g.len AG.lt z),(g.D1 c m).2⟩;objs:=λj o e=>by
  refine AC (AG.obs j o e) ?_;intro i hi e';refine AC (g.objs i _ e') ?_;intro a ha r;have Es:∀j,(C' C B7)[j]?=C[DJ H.n B7 j]?:=λj=>by
   have :=GI (J:=[]) g.len AG.lt j;simpa using this
  refine⟨a,?_,(Ca.DW Es).mpr r⟩;rw[Es];unfold DJ;rw[hi];exact ha
 env:=he;base:=g.base;os:=g.os;gens:=g.gens;frames:=g.frames;DT:=g.DT;Cy:=λA1 m=>⟨λz=>(g.Cy A1 m).1 (LQ g.len AG.lt z),(g.Cy A1 m).2⟩;mods:=g.mods;handled:=g.handled;depth:=by have :=g.depth;show A.depth+3*d<900;(with_reducible exact Mine.yW (by assumption) (by assumption))
 units:=by have :=g.units;show A.units+10*d<9000;(with_reducible exact Mine.yW (by assumption) (by assumption))
theorem Cf.nil(g:Gd B F K A H C s):Cf F s.heap BG []:=by
 refine CZ g.env ?_;intro m ns ce _;exact⟨m,ns,ce,λx v e=>(AF e).elim⟩
structure nZ(H DI AB A7:Mine.St)(B7:I O):Prop where
 env:A7.env=H.env
 le:DI.n<=AB.n
 n:A7.n=H.n+(AB.n-DI.n)obs:∀i o,AL A7.h i=G o->(∃j LR,AL AB.h j=G LR/\i=DJ H.n B7 j/\o=DV (DJ H.n B7) LR)\/(AL H.h i=G o/\i∉B7)
theorem Gd.out(g:Gd B F K A H C s)(AG:Sub H DI B7)(g':Gd B F K' A' AB AT s')(x:Nx F.D [] s.heap s'.heap (C' C B7) AT)(BL:nZ H DI AB A7 B7):∃J,AT=C' C B7++J/\Gd B F K A A7 (C++J) s'/\Nx F.D [] s.heap s'.heap C (C++J):=by
 refine AC x.pre ?_;intro J B6 GA;subst B6;have hz:(C' C B7).length=B7.length:=by simp[C']
 have Tk:=g'.len;rw[FD,hz,AG.len]at Tk;have hx:Nx F.D [] s.heap s'.heap C (C++J):=⟨⟨J,rfl,GA⟩,x.live,x.Bw,λb o e n m=>x.same b o e (λz=>n (LQ g.len AG.lt z)) m⟩;have nd:=g'.nodup;rw[ID]at nd;refine⟨J,rfl,g.back hx (by rw[FD,g.len,BL.n];exact congrArg (H.n+·) (bp4 Tk)) ?_ ?_ ?_ ?_ g'.base g'.os g'.gens (by rw[BL.env];exact Cf.Gv g g.env hx),hx⟩
 . refine ID.mpr ⟨g.nodup,nd.2.1,λa ha b hb e=>?_⟩;subst e;refine xE (g.live a ha) ?_;intro o e;rw[GA a hb]at e;exact(BE e).elim
 . intro a m;rcases Dr.mp m with m|m;. exact g.fresh a m
   . exact g'.fresh a (Pj _ m)
 . intro a m;rcases Dr.mp m with m|m;. refine xE (g.live a m) ?_;intro o e;exact x.live a o e
   . exact g'.live a (Pj _ m)
 . intro i o e;have Es:=GI (C:=C) (J:=J) g.len AG.lt;rcases BL.obs i o e with BP|Bq;refine Bv BP ?_;(try clear BP);intro j LR ej Bg Bu;subst Bg;subst Bu;rotate_left;refine xA Bq ?_;(try clear Bq);intro e hi;rotate_left
   . refine AC (g'.objs j LR ej) ?_;intro a ha r;exact⟨a,by rw[<-Es];exact ha,(Ca.DW Es).mp r⟩
   . refine AC (g.objs i o e) ?_;intro a ha r;refine⟨a,FY ha,r.mono x.Bw λy ey=>x.keep a y ey (λz=>hi ?_) (by simp) (λz=>absurd (Ew ha) (g.Cy a z).1)⟩;refine AC (E0.mp z) ?_;intro j hj e';have h1:j<C.length:=by rw[g.len];exact AG.lt j hj
     have h2:C[j]?=G a:=by rw[<-e'];simp[Kp,h1]
     have :j=i:=(RX h1 g.nodup).mp (h2.trans ha.symm);exact this▸hj
theorem n_{X1:V}(Og:∀{F:Fm}{A:CK}{C:I A8}{s:AR}{us:I A4},Gd B F ⟨K.sc,d⟩ A DI C s->Aa s.heap C MT us->Ae B F ⟨K.sc,d⟩ A AB C s (CE fu us) (RV X1))(he:DI.env=[])(hd:d<=K.d)(g:Gd B F K A H C s)(AG:Sub H DI B7)(BL:nZ H DI AB A7 B7)(ha:args=Cr (DJ H.n B7) MT)(hv:v=E7 (DJ H.n B7) X1)(rs:Aa s.heap C args us):Ae B F K A A7 C s (CE fu us) (RV v):=by
 intro A2 E k;have cR:∀j,(C' C B7)[j]?=C[DJ H.n B7 j]?:=λj=>by
  have :=GI (J:=[]) g.len AG.lt j;simpa using this
 subst ha;subst hv;refine Og (g.sub AG hd (by rw[he];exact Cf.nil g)) ((Aa.DW cR).mpr rs) A2 E λu AT s' g' x' r'=>?_;refine CZ (g.out AG g' x' BL) ?_;intro J BJ gg xx;clear g' x';subst BJ;exact k u _ s' gg xx ((VR.DW (GI g.len AG.lt)).mp r')
end
section
variable{CR:Kx->Cd->Mine.St->AD A0}
structure Dg(B:Bs):Prop where
 Gr:∀CR,To B (Mm CR)sset:∀CR,c8 B (Mm CR)lmap:∀CR,c9 B (Mm CR)
theorem cS(AV:(Bb P).In B.base)(AS:Dg B)(sm:Mk B (Mm CR)):Ok B (Mm CR) (Bb P):=⟨cO AV,nR,cP,X0 AV,GH AV,nV,nU,AS.Gr _,AS.sset _,AS.lmap _,sm⟩
theorem ay7:Mk B FL:=⟨λh=>(by exact(BE h).elim),λh=>(by exact(BE h).elim),λh=>(by exact(BE h).elim),λh=>(by exact(BE h).elim),λh=>(by exact(BE h).elim)⟩
theorem Tz(AV:(Bb P).In B.base)(AS:Dg B)(n:O):All B FL n:=Ww (cS AV AS ay7) n
end
mutual
noncomputable def Fw:V->AK
 |.ref _=>A6|.B' _ _=>A6|.tup _ Y=>JV Y|_=>M
noncomputable def JV:I V->AK
 |[]=>M|v::l=>Fw v&&JV l
end
section
theorem nc(h:JV vs=M):∀v∈vs,Fw v=M:=by induction vs with
 |nil=>exactλ_ m=>nomatch m|cons x l ih=>exactλv m=>(Cj.mp m).elim (λe=>e▸B1 h) (ih (Ak h) v)
theorem VR.Fw:Mine.Fw v=M->VR h A_ v u->VR h Au v u:=V.ind (P:=λv=>∀u,Mine.Fw v=M->VR h A_ v u->VR h Au v u) (λ_ k u _ e=>k _ _ _ _ u e) (λ_ _ _ _ e=>e) (λ_ _ c=>(B0 c).elim) (λ_ _ _ c=>(B0 c).elim) (λ_ _ ih _ c e=>Kt e λa o us n e g t k d r=>⟨a,o,us,n,e,g,t,k,d,r.imp λv m u=>ih v m u (nc c v m)⟩) v u
theorem Aa.Fw{v:I V}{u:I A4}(c:JV v=M)(r:Aa h A_ v u):Aa h Au v u:=r.imp λv m _=>VR.Fw (nc c v m)
end
section
variable{J:I A8}
theorem call_plain(Og:∀{F:Fm}{A:CK}{C:I A8}{s:AR}{us:I A4},Gd B F ⟨K.sc,d⟩ A ⟨[],[],0⟩ C s->Aa s.heap C args us->Ae B F ⟨K.sc,d⟩ A AB C s (CE fu us) (RV v))(ha:JV args=M)(hv:Fw v=M)(hd:d<=K.d)(g:Gd B F K A H C s)(rs:Aa s.heap C args us):Ae B F K A H C s (CE fu us) (RV v):=by
 intro A2 E k;have AG:Sub H ⟨[],[],0⟩ []:=⟨rfl,HM,λi m=>(by(exfalso;cases m)),λj o e=>(by exact(BE e).elim)⟩;refine Og (g.sub AG hd (Cf.nil g)) (Aa.Fw ha rs) A2 E λu AT s' g' x' r'=>?_;have hx:Nx F.D [] s.heap s'.heap C C:=⟨⟨[],by simp,λb m=>(by(exfalso;cases m))⟩,x'.live,x'.Bw,λb o e n m=>x'.same b o e (λz=>(by(exfalso;cases z))) m⟩;refine k u C s' (g.back hx g.len g.nodup g.fresh (λa m=>?_) (λi o e=>?_) g'.base g'.os g'.gens (Cf.Gv g g.env hx)) hx (VR.Fw hv r');. refine xE (g.live a m) ?_;intro o e;exact x'.live a o e
 . refine AC (g.objs i o e) ?_;intro a ha r;have :=r.mono (J:=[]) x'.Bw λy ey=>x'.keep a y ey (λz=>by(exfalso;cases z)) (by simp) (λz=>absurd (Ew ha) (g.Cy a z).1);exact⟨a,ha,by simpa using this⟩
end
noncomputable def U0(a b:V):AK:=vInt a (vStr a (IS a A6 (IS b A6 M)) λx=>vStr b A6 λy=>CU x y) λx=>vInt b A6 λy=>decide (x=y)
theorem nf{a b:V}(h:U0 a b=M){P:V->V->Prop}(n:P .none .none)(i:∀x,P (.int x) (.int x))(s:∀x,P (.str x) (.str x)):P a b:=by
 apply Py h;. intro x h;apply Cu h B0;intro y h;exact of_decide_eq_true h▸i x
 intro h;apply O' h;. intro x h;apply Dd h B0;intro y h;exact Ec.mp h▸s x
 intro h;apply Pz h B0;intro h;apply Pz h B0;intro _;exact n
theorem ng{a b:V}(h:U0 a b=M):a=b:=nf (P:=λa b=>a=b) h rfl (λ_=>rfl) λ_=>rfl
theorem nh{a b:V}(h:U0 a b=M):Fw b=M:=nf (P:=λ_ b=>Fw b=M) h rfl (λ_=>rfl) λ_=>rfl
noncomputable def U1(a b:I V):AK:=all2 U0 a b
theorem nk{a b:I V}(h:U1 a b=M):a=b:=Np (λ_ _=>ng) a b h
theorem ay8{a b:I V}(h:U1 a b=M):JV b=M:=VU (P:=λ_ b=>JV b=M) rfl (λa b x y q ih=>show(Fw b&&JV y)=M by rw[nh q,ih];rfl) h
noncomputable def LS(o:A0)(v:V):AK:=K3 o A6 λw _=>U0 w v
theorem ay9{o:A0}(h:LS o v=M):(∃H,o=.ok (.v v) H)/\Fw v=M:=by
 apply W2 h B0;intro w H h;exact⟨⟨H,by rw[ng h]⟩,nh h⟩
noncomputable def X2:I (I V×V)->I V->AD V
 |[],_=>L|e::l,a=>bC (U1 a e.1) (G e.2) (X2 l a)
theorem nn{a:I V}{l:I (I V×V)}:X2 l a=G v->(a,v)∈l/\JV a=M:=by induction l with
 |nil=>exactλh=>(AF h).elim|cons e l ih=>
 intro h;refine Eb (show bC (U1 a e.1) (G e.2) (X2 l a)=G v from h) (λq h=>?_) λ_ h=>⟨Cp _ (ih h).1,(ih h).2⟩;have :=nk q;exact⟨by rw[this,<-Bm h];exact Co,this▸ay8 q⟩
noncomputable def no:I (I V×V):=[([.str [47]],.str [47]),([.str [47,97]],.str [47]),([.str [47,97,47,98]],.str [47,97]),([.str [47,97,47,98,47,103]],.str [47,97,47,98]),([.str [47,97,47,102]],.str [47,97]),([.str [47,103]],.str [47]),([.str [47,103,47,112]],.str [47,103]),([.str [47,103,47,113]],.str [47,103]),([.str [47,104]],.str [47]),([.str [47,107]],.str [47]),([.str [47,107,47,112]],.str [47,107]),([.str [47,107,47,113]],.str [47,107]),([.str [47,109]],.str [47]),([.str [47,110]],.str [47]),([.str [47,110,47,107]],.str [47,110])]
noncomputable def np:I (I V×V):=[([.str [47]],.str []),([.str [47,97]],.str [97]),([.str [47,97,47,98]],.str [98]),([.str [47,97,47,98,47,103]],.str [103]),([.str [47,97,47,102]],.str [102]),([.str [47,103]],.str [103]),([.str [47,103,47,112]],.str [112]),([.str [47,103,47,113]],.str [113]),([.str [47,104]],.str [104]),([.str [47,107]],.str [107]),([.str [47,107,47,112]],.str [112]),([.str [47,107,47,113]],.str [113]),([.str [47,109]],.str [109]),([.str [47,110]],.str [110]),([.str [47,110,47,107]],.str [107])]
noncomputable def nq:I (I V×V):=[([.str [47],.str [97]],.str [47,97]),([.str [47],.str [103]],.str [47,103]),([.str [47],.str [104]],.str [47,104]),([.str [47],.str [107]],.str [47,107]),([.str [47],.str [109]],.str [47,109]),([.str [47],.str [110]],.str [47,110]),([.str [47,97],.str [98]],.str [47,97,47,98]),([.str [47,97],.str [102]],.str [47,97,47,102]),([.str [47,97,47,98],.str [103]],.str [47,97,47,98,47,103]),([.str [47,103],.str [112]],.str [47,103,47,112]),([.str [47,103],.str [113]],.str [47,103,47,113]),([.str [47,107],.str [112]],.str [47,107,47,112]),([.str [47,107],.str [113]],.str [47,107,47,113]),([.str [47,110],.str [107]],.str [47,110,47,107])]
noncomputable def nr:I (I V×V):=[([.str [47,115,47,46,46,47,47,97,47,47,102,47,46]],.str [47,97,47,102]),([.str [47,115,47,46,46,47,47,97,47,47,98,47,47,103,47,46]],.str [47,97,47,98,47,103]),([.str [47,115,47,46,46,47,47,104,47,46]],.str [47,104]),([.str [47,115,47,46,46,47,47,109,47,46]],.str [47,109]),([.str [47,115,47,46,46,47,47,107,47,47,112,47,46]],.str [47,107,47,112]),([.str [47,115,47,46,46,47,47,107,47,47,113,47,46]],.str [47,107,47,113]),([.str [47,115,47,46,46,47,47,97,47,47,98,47,46]],.str [47,97,47,98]),([.str [47,115,47,46,46,47,47,110,47,47,107,47,46]],.str [47,110,47,107]),([.str [47,115,47,46,46,47,47,97,47,46]],.str [47,97]),([.str [47,115,47,46,46,47,47,103,47,47,112,47,46]],.str [47,103,47,112]),([.str [47,115,47,46,46,47,47,103,47,47,113,47,46]],.str [47,103,47,113])]
noncomputable def nt:I (I V×V):=[([.int 0,.int 0],.str [48,44,48]),([.int 0,.int 1],.str [49]),([.int 0,.int 2],.str [49,44,50]),([.int 0,.int 3],.str [49,44,51]),([.int 0,.int 4],.str [49,44,52]),([.int 0,.int 5],.str [49,44,53]),([.int 0,.int 6],.str [49,44,54]),([.int 1,.int 1],.str [49,44,48]),([.int 1,.int 2],.str [50]),([.int 1,.int 3],.str [50,44,50]),([.int 1,.int 4],.str [50,44,51]),([.int 1,.int 5],.str [50,44,52]),([.int 1,.int 6],.str [50,44,53]),([.int 2,.int 2],.str [50,44,48]),([.int 2,.int 3],.str [51]),([.int 2,.int 4],.str [51,44,50]),([.int 2,.int 5],.str [51,44,51]),([.int 2,.int 6],.str [51,44,52]),([.int 3,.int 3],.str [51,44,48]),([.int 3,.int 4],.str [52]),([.int 3,.int 5],.str [52,44,50]),([.int 3,.int 6],.str [52,44,51]),([.int 4,.int 4],.str [52,44,48]),([.int 4,.int 5],.str [53]),([.int 4,.int 6],.str [53,44,50]),([.int 5,.int 5],.str [53,44,48]),([.int 5,.int 6],.str [54]),([.int 6,.int 6],.str [54,44,48])]
noncomputable def nu:I (I V×V):=[([.int 0,.int 0],.str [48,44,48]),([.int 0,.int 1],.str [49]),([.int 0,.int 2],.str [49,44,50]),([.int 0,.int 3],.str [49,44,51]),([.int 0,.int 4],.str [49,44,52]),([.int 0,.int 5],.str [49,44,53]),([.int 0,.int 6],.str [49,44,54]),([.int 1,.int 0],.str [49,44,48]),([.int 1,.int 1],.str [50]),([.int 1,.int 2],.str [50,44,50]),([.int 1,.int 3],.str [50,44,51]),([.int 1,.int 4],.str [50,44,52]),([.int 1,.int 5],.str [50,44,53]),([.int 2,.int 0],.str [50,44,48]),([.int 2,.int 1],.str [51]),([.int 2,.int 2],.str [51,44,50]),([.int 2,.int 3],.str [51,44,51]),([.int 2,.int 4],.str [51,44,52]),([.int 3,.int 0],.str [51,44,48]),([.int 3,.int 1],.str [52]),([.int 3,.int 2],.str [52,44,50]),([.int 3,.int 3],.str [52,44,51]),([.int 4,.int 0],.str [52,44,48]),([.int 4,.int 1],.str [53]),([.int 4,.int 2],.str [53,44,50]),([.int 5,.int 0],.str [53,44,48]),([.int 5,.int 1],.str [54]),([.int 6,.int 0],.str [54,44,48])]
noncomputable def U2:I (O×I (I V×V)):=[(368,no),(361,np),(347,nq),(375,nr),(253,nt),(423,nu)]
noncomputable def Qo(K:Kx)(c:Cd)(H:Mine.St):AD A0:=jp (λ_ _ _=>L) (λ_ _ _=>L) (λf args K H=>IR f L λw=>Kv w L λa=>bT (EQ 5 K.d) L<|B' (AL U2 a) λt=>B' (X2 t args) λv=>G (.ok (.v v) H)) c K H
noncomputable abbrev CQ:Mine.Ctx:=Mm Qo
theorem az0(sc:BU):(no.all λe=>LS (ev FL 60 ⟨sc,5⟩ (.call (.top (.ref 368)) e.1) ⟨[],[],0⟩) e.2)=M:=by kernel_rfl
theorem az1(sc:BU):(np.all λe=>LS (ev FL 60 ⟨sc,5⟩ (.call (.top (.ref 361)) e.1) ⟨[],[],0⟩) e.2)=M:=by kernel_rfl
theorem az2(sc:BU):(nq.all λe=>LS (ev FL 60 ⟨sc,5⟩ (.call (.top (.ref 347)) e.1) ⟨[],[],0⟩) e.2)=M:=by kernel_rfl
theorem az3(sc:BU):(nr.all λe=>LS (ev FL 60 ⟨sc,5⟩ (.call (.top (.ref 375)) e.1) ⟨[],[],0⟩) e.2)=M:=by kernel_rfl
theorem az4(sc:BU):(nt.all λe=>LS (ev FL 60 ⟨sc,5⟩ (.call (.top (.ref 253)) e.1) ⟨[],[],0⟩) e.2)=M:=by kernel_rfl
theorem az5(sc:BU):(nu.all λe=>LS (ev FL 60 ⟨sc,5⟩ (.call (.top (.ref 423)) e.1) ⟨[],[],0⟩) e.2)=M:=by kernel_rfl
theorem az6{a:O}{t:I (I V×V)}(h:AL U2 a=G t)(sc:BU):(t.all λe=>LS (ev FL 60 ⟨sc,5⟩ (.call (.top (.ref a)) e.1) ⟨[],[],0⟩) e.2)=M:=all_cons (p:=λp:O×I (I V×V)=>(p.2.all λe=>LS (ev FL 60 ⟨sc,5⟩ (.call (.top (.ref p.1)) e.1) ⟨[],[],0⟩) e.2)=M) (az0 sc) (all_cons (az1 sc) (all_cons (az2 sc) (all_cons (az3 sc) (all_cons (az4 sc) (all_cons (az5 sc) EE))))) (a,t) (Sz h)
theorem az7:(U2.all λp=>(AL Im p.1).isSome)=M:=by kernel_rfl
theorem az8{a:O}{t:I (I V×V)}(h:AL U2 a=G t):∃fn,AL Im a=G fn:=uY.mp (Bn.mp az7 (a,t) (Sz h))
section
theorem nw{f:V}(h:Qo K (.call f args) H=G (.ok (.v v) A7)):∃a t,f=.top (.ref a)/\AL U2 a=G t/\5<=K.d/\(args,v)∈t/\JV args=M/\A7=H:=by
 apply O0 (v:=f) h AF;intro w h;apply Q0 h AF;intro a h;refine Ce h AF λhd h=>BI h λt ht h=>BI h λw hw h=>?_;injection Bm h with h1 h2;injection h1 with h1;subst h1;subst h2;exact⟨a,t,rfl,ht,Dk hd,(nn hw).1,(nn hw).2,rfl⟩
theorem cU(AV:(Bb P).In B.base)(AS:Dg B):Mk B CQ where
 only:=λ{K c H o}h=>by cases c with
 |call f args=>exact .inl ⟨_,_,rfl⟩|_=>exact(AF h).elim
 MZ:=λ{K f args H A7 v}h{F A C s fu}g r=>by
  refine M9 (nw h) ?_;intro a t Aw ht _ _ _ _;subst Aw;cases r;refine xE (az8 ht) ?_;intro fn hf;refine DB ((X0 (on:=M) (CR:=Qo) AV).fn a fn hf) ?_;intro o fd ok;exact CW.func (g.base _ _ ok.get) ok.data
 call:=λ{K f args H A7 v}h{F A C s fu us}g r rs=>by
  refine M9 (nw h) ?_;intro a t B6 ht hd hm hc BJ;subst B6;subst BJ;cases r;refine xA (ay9 (Bn.mp (az6 ht K.sc) _ hm)) ?_;intro BP hv;refine xE BP ?_;(try clear BP);intro AB e;exact call_plain (λ{F A C s us}g rs=>(Tz AV AS 60).s.call e g rfl rs) hc hv hd g rs
 e:=λh=>(AF h).elim;s:=λh=>(AF h).elim
theorem all1(AV:(Bb P).In B.base)(AS:Dg B)(n:O):All B CQ n:=Ww (cS AV AS (cU AV AS)) n
end
noncomputable def cV(l:I V)(m:I (I Tx)):AK:=all2 (λv r=>FU v A6 λc Y=>oN c A6 (U1 Y (r.map .str))) l m
theorem ny{l:I V}{m:I (I Tx)}(h:cV l m=M):l=m.map λr=>.tup L (r.map .str):=vX (λv r h=>by apply IQ (v:=v) h B0;intro c Y h;apply GP h B0;intro h;rw[nk h]) h
noncomputable def Io(o:A0)(m:I (I Tx)):AK:=K3 o A6 λv H=>DQ v A6 λi=>oS (AL H.h i) A6 λob=>EJ ob A6 λl=>cV l m
theorem JW{o:A0}{m:I (I Tx)}(h:Io o m=M):∃i H,o=.ok (.v (.ref i)) H/\AL H.h i=G (.list (m.map λr=>.tup L (r.map .str))):=by
 apply W2 h B0;intro v H h;apply EI h B0;intro i h;refine VV h B0 λob e h=>?_;revert e;apply IT h B0;intro l h e;exact⟨i,H,rfl,by rw[<-ny h];exact e⟩
noncomputable def runC(sc:BU)(a b:Tx):A0:=ev FL 300 ⟨sc,20⟩ (.call (.top (.ref 430)) [.str a,.str b]) ⟨[],[],0⟩
theorem az9(sc:BU):((Bo M).all λb=>Io (runC sc [] b) (C8 [] b))=M:=by kernel_rfl
theorem aA0(sc:BU):((Bo M).all λb=>Io (runC sc [120] b) (C8 [120] b))=M:=by kernel_rfl
theorem aA1(sc:BU):((Bo M).all λb=>Io (runC sc [120,121] b) (C8 [120,121] b))=M:=by kernel_rfl
theorem aA2(sc:BU):((Bo M).all λb=>Io (runC sc [121,120] b) (C8 [121,120] b))=M:=by kernel_rfl
theorem aA3(sc:BU):((Bo M).all λb=>Io (runC sc [120,121,122] b) (C8 [120,121,122] b))=M:=by kernel_rfl
theorem aA4(sc:BU):((Bo M).all λb=>Io (runC sc [122,120,121] b) (C8 [122,120,121] b))=M:=by kernel_rfl
theorem aA5(sc:BU):((Bo M).all λb=>Io (runC sc [121,121] b) (C8 [121,121] b))=M:=by kernel_rfl
theorem aA6(sc:BU):((Bo M).all λb=>Io (runC sc [120,122,120,121] b) (C8 [120,122,120,121] b))=M:=by kernel_rfl
theorem aA7(sc:BU):((Bo M).all λb=>Io (runC sc [120,118,121,122,117,119] b) (C8 [120,118,121,122,117,119] b))=M:=by kernel_rfl
theorem aA8(sc:BU):((Bo M).all λb=>Io (runC sc [118,121,122] b) (C8 [118,121,122] b))=M:=by kernel_rfl
theorem aA9(sc:BU):((Bo M).all λb=>Io (runC sc [120,120] b) (C8 [120,120] b))=M:=by kernel_rfl
theorem aB0{a b:Tx}(ha:a∈Bo A6)(hb:b∈Bo M)(sc:BU):∃i H,runC sc a b=.ok (.v (.ref i)) H/\AL H.h i=G (.list ((C8 a b).map λr=>.tup L (r.map .str))):=by
 simp only[Bo,Cj,Jq,Jr]at ha;rcases ha with rfl|rfl|rfl|rfl|rfl|rfl|rfl|rfl|rfl|rfl|rfl;. exact JW (Bn.mp (az9 sc) b hb)
 . exact JW (Bn.mp (aA0 sc) b hb)
 . exact JW (Bn.mp (aA1 sc) b hb)
 . exact JW (Bn.mp (aA2 sc) b hb)
 . exact JW (Bn.mp (aA3 sc) b hb)
 . exact JW (Bn.mp (aA4 sc) b hb)
 . exact JW (Bn.mp (aA5 sc) b hb)
 . exact JW (Bn.mp (aA6 sc) b hb)
 . exact JW (Bn.mp (aA7 sc) b hb)
 . exact JW (Bn.mp (aA8 sc) b hb)
 . exact JW (Bn.mp (aA9 sc) b hb)
structure Op where
 tag:Tx
 i:O
 k:O
 j:O
 m:O
noncomputable def F3(o:Op):V:=.tup L [.str o.tag,.int o.i,.int o.k,.int o.j,.int o.m]
noncomputable def U3:AX->AD O|.ofNat n=>G n|_=>L
noncomputable def cW(v:V):AD Op:=FU v L λc l=>oN c L<|lC l L λt l=>lC l L λi l=>lC l L λk l=>l2 l L λj m=>vStr t L λt=>vInt i L λi=>vInt k L λk=>vInt j L λj=>vInt m L λm=>B' (U3 i) λi=>B' (U3 k) λk=>B' (U3 j) λj=>B' (U3 m) λm=>G ⟨t,i,k,j,m⟩
noncomputable def X3:I V->AD (I Op)
 |[]=>G []|v::l=>B' (cW v) λo=>B' (X3 l) λm=>G (o::m)
theorem X4{i:AX}(h:U3 i=G n):i=n:=by cases i<;>cases h;rfl
theorem aB1{o:Op}(h:cW v=G o):v=F3 o:=by
 apply IQ h AF;intro c l h;apply GP h AF;intro h;apply FT h AF;intro t l h;apply FT h AF;intro i l h;apply FT h AF;intro k l h;apply Hn h AF;intro j m h;apply Dd h AF;intro t h;apply Cu h AF;intro i h;apply Cu h AF;intro k h;apply Cu h AF;intro j h;apply Cu h AF;intro m h;refine BI h λi' h1 h=>BI h λk' h2 h=>BI h λj' h3 h=>BI h λm' h4 h=>?_;rw[<-Bm h,X4 h1,X4 h2,X4 h3,X4 h4];rfl
theorem aB2{l:I V}:∀{m:I Op},X3 l=G m->l=m.map F3:=by induction l with
 |nil=>intro m h;rw[<-Bm h];rfl|cons v l ih=>exactλh=>BI (x:=cW v) h λo h1 h=>BI h λm' h2 h=>by rw[<-Bm h,aB1 h1,ih h2];rfl
noncomputable def aB3:Tx:=[101,113,117,97,108]
noncomputable def Ip(o:Op):I (I Tx):=match CU o.tag aB3 with
 |true=>[]|false=>[[o.tag,W5 o.i (o.k-o.i),W5 o.j (o.m-o.j)]]
noncomputable def cX(a b:I Tx):AK:=all2 CU a b
noncomputable def cY(a b:I (I Tx)):AK:=all2 cX a b
theorem o4{a b:I Tx}(h:cX a b=M):a=b:=Np (λ_ _=>Ec.mp) a b h
theorem aB4{a b:I (I Tx)}(h:cY a b=M):a=b:=Np (λ_ _=>o4) a b h
noncomputable def KO:I Op:=[⟨[100,101,108,101,116,101],0,1,0,0⟩,⟨[100,101,108,101,116,101],0,2,0,0⟩,⟨[100,101,108,101,116,101],0,3,0,0⟩,⟨[100,101,108,101,116,101],0,4,0,0⟩,⟨[100,101,108,101,116,101],0,6,0,0⟩,⟨[100,101,108,101,116,101],1,2,1,1⟩,⟨[100,101,108,101,116,101],1,2,2,2⟩,⟨[100,101,108,101,116,101],1,2,3,3⟩,⟨[100,101,108,101,116,101],1,2,4,4⟩,⟨[100,101,108,101,116,101],1,3,1,1⟩,⟨[100,101,108,101,116,101],1,3,2,2⟩,⟨[100,101,108,101,116,101],1,4,1,1⟩,⟨[100,101,108,101,116,101],1,4,2,2⟩,⟨[100,101,108,101,116,101],1,6,1,1⟩,⟨[100,101,108,101,116,101],1,6,2,2⟩,⟨[100,101,108,101,116,101],2,3,1,1⟩,⟨[100,101,108,101,116,101],2,3,2,2⟩,⟨[100,101,108,101,116,101],2,3,3,3⟩,⟨[100,101,108,101,116,101],2,3,4,4⟩,⟨[100,101,108,101,116,101],3,6,2,2⟩,⟨[100,101,108,101,116,101],3,6,3,3⟩,⟨[100,101,108,101,116,101],3,6,4,4⟩,⟨[100,101,108,101,116,101],4,6,3,3⟩,⟨[101,113,117,97,108],0,1,0,1⟩,⟨[101,113,117,97,108],0,1,1,2⟩,⟨[101,113,117,97,108],0,1,2,3⟩,⟨[101,113,117,97,108],0,1,3,4⟩,⟨[101,113,117,97,108],0,2,0,2⟩,⟨[101,113,117,97,108],0,2,1,3⟩,⟨[101,113,117,97,108],0,2,2,4⟩,⟨[101,113,117,97,108],0,3,0,3⟩,⟨[101,113,117,97,108],0,3,1,4⟩,⟨[101,113,117,97,108],0,4,0,4⟩,⟨[101,113,117,97,108],1,2,0,1⟩,⟨[101,113,117,97,108],1,2,1,2⟩,⟨[101,113,117,97,108],1,2,2,3⟩,⟨[101,113,117,97,108],1,2,3,4⟩,⟨[101,113,117,97,108],1,3,0,2⟩,⟨[101,113,117,97,108],1,3,1,3⟩,⟨[101,113,117,97,108],1,3,2,4⟩,⟨[101,113,117,97,108],1,4,0,3⟩,⟨[101,113,117,97,108],2,3,0,1⟩,⟨[101,113,117,97,108],2,3,1,2⟩,⟨[101,113,117,97,108],2,3,2,3⟩,⟨[101,113,117,97,108],2,3,3,4⟩,⟨[101,113,117,97,108],2,4,0,2⟩,⟨[101,113,117,97,108],2,4,1,3⟩,⟨[101,113,117,97,108],2,4,2,4⟩,⟨[101,113,117,97,108],3,4,0,1⟩,⟨[101,113,117,97,108],5,6,5,6⟩,⟨[105,110,115,101,114,116],0,0,0,1⟩,⟨[105,110,115,101,114,116],0,0,0,2⟩,⟨[105,110,115,101,114,116],0,0,0,3⟩,⟨[105,110,115,101,114,116],0,0,0,4⟩,⟨[105,110,115,101,114,116],0,0,0,6⟩,⟨[105,110,115,101,114,116],1,1,1,2⟩,⟨[105,110,115,101,114,116],1,1,1,3⟩,⟨[105,110,115,101,114,116],1,1,1,4⟩,⟨[105,110,115,101,114,116],1,1,1,6⟩,⟨[105,110,115,101,114,116],1,1,2,3⟩,⟨[105,110,115,101,114,116],2,2,1,2⟩,⟨[105,110,115,101,114,116],2,2,2,3⟩,⟨[105,110,115,101,114,116],2,2,2,4⟩,⟨[105,110,115,101,114,116],2,2,3,4⟩,⟨[105,110,115,101,114,116],2,2,3,6⟩,⟨[105,110,115,101,114,116],3,3,1,2⟩,⟨[105,110,115,101,114,116],3,3,2,3⟩,⟨[105,110,115,101,114,116],3,3,3,4⟩,⟨[105,110,115,101,114,116],3,3,4,6⟩,⟨[105,110,115,101,114,116],4,4,1,2⟩,⟨[105,110,115,101,114,116],4,4,2,3⟩,⟨[114,101,112,108,97,99,101],0,1,0,1⟩,⟨[114,101,112,108,97,99,101],0,1,0,2⟩,⟨[114,101,112,108,97,99,101],0,1,0,3⟩,⟨[114,101,112,108,97,99,101],0,1,0,4⟩,⟨[114,101,112,108,97,99,101],0,2,0,1⟩,⟨[114,101,112,108,97,99,101],0,2,0,2⟩,⟨[114,101,112,108,97,99,101],0,2,0,4⟩,⟨[114,101,112,108,97,99,101],0,3,0,1⟩,⟨[114,101,112,108,97,99,101],1,2,1,2⟩,⟨[114,101,112,108,97,99,101],1,2,1,3⟩,⟨[114,101,112,108,97,99,101],1,2,1,6⟩,⟨[114,101,112,108,97,99,101],1,2,2,3⟩,⟨[114,101,112,108,97,99,101],1,2,2,4⟩,⟨[114,101,112,108,97,99,101],1,2,3,6⟩,⟨[114,101,112,108,97,99,101],1,3,3,4⟩,⟨[114,101,112,108,97,99,101],1,3,4,6⟩,⟨[114,101,112,108,97,99,101],2,3,1,2⟩,⟨[114,101,112,108,97,99,101],2,4,3,4⟩,⟨[114,101,112,108,97,99,101],2,4,4,6⟩,⟨[114,101,112,108,97,99,101],3,6,1,2⟩,⟨[114,101,112,108,97,99,101],4,5,4,5⟩,⟨[114,101,112,108,97,99,101],4,6,3,4⟩]
noncomputable def cZ(a b:Op):AK:=CU a.tag b.tag&&BC a.i b.i&&BC a.k b.k&&BC a.j b.j&&BC a.m b.m
noncomputable def c_(o:Op)(l:I Op):AK:=l.any (cZ o)
theorem aB5{a b:Op}(h:cZ a b=M):a=b:=by
 obtain⟨a1,a2,a3,a4,bY5⟩:=a;obtain⟨b1,b2,b3,bY6,bY7⟩:=b;simp only[cZ,D6]at h;rw[Ec.mp h.1.1.1.1,CD h.1.1.1.2,CD h.1.1.2,CD h.1.2,CD h.2]
theorem aB6{o:Op}{l:I Op}(h:c_ o l=M):o∈l:=AC (II.mp h) λ_ m e=>aB5 e▸m
noncomputable def o5(sc:BU)(a b:Tx):A0:=ev FL 300 ⟨sc,20⟩ (.call (.top (.ref 242)) [.none,.str a,.str b]) ⟨[],[],0⟩
noncomputable def Mo:U:=⟨⟨[103,101,116,95,111,112,99,111,100,101,115]⟩⟩
noncomputable def o6(sc:BU)(i:O)(H:Mine.St):A0:=ev FL 300 ⟨sc,20⟩ (.HV (.fn 210) (.ref i) Mo []) H
noncomputable def ca(k:MK)(d:J)(f:O->J):J:=match k with|.fn a=>f a|.str=>d|.lst=>d|.F1=>d|.tup=>d
theorem aB7{k:MK}{d:J}{f:O->J}{r:J}(h:ca k d f=r)(hd:d=r->Bj){P:MK->Prop}(c:∀a,f a=r->P (.fn a)):P k:=by cases k with
 |fn a=>exact c a h|_=>exact(hd h).elim
noncomputable def o7(o:A0)(ro:O->Mine.St->A0)(a b:Tx):AK:=K3 o A6 λv H=>DQ v A6 λi=>l0 H.env A6<|oS (QE CQ (.ref i) Mo H.h) A6 λk=>ca k A6 λm=>bT (BC m 210) A6<|K3 (ro i H) A6 λv Bc=>DQ v A6 λj=>oS (AL Bc.h j) A6 λob=>EJ ob A6 λl=>oS (X3 l) A6 λCN=>CN.all (λo=>c_ o KO)&&(cY (CN.flatMap Ip) (C8 a b)&&EQ CN.length 15)
noncomputable def Iq(sc:BU)(a b:Tx):AK:=o7 (o5 sc a b) (o6 sc) a b
theorem aB8(sc:BU):((Bo M).all λb=>Iq sc [] b)=M:=by kernel_rfl
theorem aB9(sc:BU):((Bo M).all λb=>Iq sc [120] b)=M:=by kernel_rfl
theorem aC0(sc:BU):((Bo M).all λb=>Iq sc [120,121] b)=M:=by kernel_rfl
theorem aC1(sc:BU):((Bo M).all λb=>Iq sc [121,120] b)=M:=by kernel_rfl
theorem aC2(sc:BU):((Bo M).all λb=>Iq sc [120,121,122] b)=M:=by kernel_rfl
theorem aC3(sc:BU):((Bo M).all λb=>Iq sc [122,120,121] b)=M:=by kernel_rfl
theorem aC4(sc:BU):((Bo M).all λb=>Iq sc [121,121] b)=M:=by kernel_rfl
theorem aC5(sc:BU):((Bo M).all λb=>Iq sc [120,122,120,121] b)=M:=by kernel_rfl
theorem aC6(sc:BU):((Bo M).all λb=>Iq sc [120,118,121,122,117,119] b)=M:=by kernel_rfl
theorem aC7(sc:BU):((Bo M).all λb=>Iq sc [118,121,122] b)=M:=by kernel_rfl
theorem aC8(sc:BU):((Bo M).all λb=>Iq sc [120,120] b)=M:=by kernel_rfl
theorem aC9{a b:Tx}(ha:a∈Bo A6)(hb:b∈Bo M)(sc:BU):Iq sc a b=M:=by
 simp only[Bo,Cj,Jq,Jr]at ha;rcases ha with rfl|rfl|rfl|rfl|rfl|rfl|rfl|rfl|rfl|rfl|rfl;. exact Bn.mp (aB8 sc) b hb
 . exact Bn.mp (aB9 sc) b hb
 . exact Bn.mp (aC0 sc) b hb
 . exact Bn.mp (aC1 sc) b hb
 . exact Bn.mp (aC2 sc) b hb
 . exact Bn.mp (aC3 sc) b hb
 . exact Bn.mp (aC4 sc) b hb
 . exact Bn.mp (aC5 sc) b hb
 . exact Bn.mp (aC6 sc) b hb
 . exact Bn.mp (aC7 sc) b hb
 . exact Bn.mp (aC8 sc) b hb
theorem aD0{o:A0}{ro:O->Mine.St->A0}{a b:Tx}(h:o7 o ro a b=M):∃(i:O)(AB:Mine.St)(j:O)(Bc:Mine.St)(CN:I Op),o=.ok (.v (.ref i)) AB/\AB.env=[]/\QE CQ (.ref i) Mo AB.h=G (.fn 210)/\ro i AB=.ok (.v (.ref j)) Bc/\AL Bc.h j=G (.list (CN.map F3))/\(∀o∈CN,o∈KO)/\CN.flatMap Ip=C8 a b/\CN.length<=15:=by
 refine W3 h B0 λv H hM h=>?_;revert hM;apply EI h B0;intro i h hM;obtain⟨env,hp,n⟩:=H;cases env with
 |cons _ _=>exact(B0 h).elim|nil=>
 have h:oS (QE CQ (.ref i) Mo hp) A6 (λk=>ca k A6 λm=>bT (BC m 210) A6<|K3 (ro i ⟨[],hp,n⟩) A6 λv Bc=>DQ v A6 λj=>oS (AL Bc.h j) A6 λob=>EJ ob A6 λl=>oS (X3 l) A6 λCN=>CN.all (λo=>c_ o KO)&&(cY (CN.flatMap Ip) (C8 a b)&&EQ CN.length 15))=M:=h;refine VV h B0 λk hk h=>?_;revert hk;apply aB7 h B0;intro m h hk;refine Ce h B0 λh2 h=>?_;have :=CD h2;clear h2;subst this;refine W3 h B0 λv Bc hO h=>?_;revert hO;apply EI h B0;intro j h hO;refine VV h B0 λob hl h=>?_;revert hl;apply IT h B0;intro l h hl;refine VV h B0 λCN ho h=>?_;rw[aB2 ho]at hl;exact⟨i,_,j,Bc,CN,hM,rfl,hk,hO,hl,(λo m=>aB6 (Bn.mp (B1 h) o m)),aB4 (B1 (Ak h)),Dk (Ak (Ak h))⟩
theorem o8{a b:Tx}(ha:a∈Bo A6)(hb:b∈Bo M)(sc:BU):∃(i:O)(AB:Mine.St)(j:O)(Bc:Mine.St)(CN:I Op),o5 sc a b=.ok (.v (.ref i)) AB/\AB.env=[]/\QE CQ (.ref i) Mo AB.h=G (.fn 210)/\o6 sc i AB=.ok (.v (.ref j)) Bc/\AL Bc.h j=G (.list (CN.map F3))/\(∀o∈CN,o∈KO)/\CN.flatMap Ip=C8 a b/\CN.length<=15:=by exact aD0 (aC9 ha hb sc)
theorem Ci{p:J->Prop}{x y:I J}(h:∀o∈x,p o)(t:∀o∈y,p o):∀o∈x++y,p o:=λo m=>(Dr.mp m).elim (h o) (t o)
@[irreducible]noncomputable def Fx:As:=Ba 28
@[irreducible]noncomputable def X5:I As:=lC (Fj Fx) [] λ_ z1=>lC z1 [] λ_ z2=>lC z2 [] λ_ z3=>lC z3 [] λz4 z5=>G4 z4 [] λ_ _ b _ _=>l1 z5 [] λ_=>b
noncomputable def JX:U:=⟨⟨[110,117,109,98,101,114,115]⟩⟩
noncomputable def Mp:U:=⟨⟨[112,108,97,99,101,115]⟩⟩
noncomputable def Oh:U:=⟨⟨[116,101,120,116,115]⟩⟩
noncomputable def Qp:U:=⟨⟨[116,114,101,101,115]⟩⟩
noncomputable def nmX:U:=⟨⟨[120]⟩⟩
noncomputable def EO:I Tx:=[[47,97,47,102],[47,97,47,98,47,103],[47,104],[47,97,47,98],[47,110,47,107],[47,97]]
noncomputable def KP:AK->I Tx
 |false=>[[47,97,47,102],[47,97,47,98,47,103],[47,104],[47,109],[47,107,47,112],[47,107,47,113]]|true=>[[47,97,47,102],[47,97,47,98],[47,104],[47,109],[47,110,47,107],[47,103,47,112],[47,103,47,113]]
noncomputable def Oi(A1:I Tx)(p:Tx):I Tx:=A1.filter (λq=>!K1 (p++[47]) (q++[47])&&!K1 (q++[47]) (p++[47]))++[p]
noncomputable def BM(w:Tx->V)(A1:I Tx):I (V×V):=A1.map λp=>(.str p,w p)
noncomputable def KQ(w:Tx->V)(p:Tx)(v:V)(q:Tx):V:=match CU q p with|true=>v|false=>w q
noncomputable def Gy(rs:I V)(e0 e1:I (V×V)):Mine.St:=⟨[(JX,.ref 0),(Mp,.ref 1),(Oh,.ref 2),(Qp,.ref 3)],[(0,.list rs),(1,.list (EO.map .str)),(2,.list (IN.map .str)),(3,.list [.ref 4,.ref 5]),(4,.dict e0),(5,.dict e1)],6⟩
noncomputable def cb(r:O)(H:Mine.St):Mine.St:=⟨E_ H.env nmX (.IP 12 r),H.h,H.n⟩
noncomputable def X6(o:A0):AD Mine.St:=aE o L λr H=>rF r L λf=>kI f L<|B' (AL H.h 0) λo0=>B' (AL H.h 1) λo1=>B' (AL H.h 2) λo2=>B' (AL H.h 3) λo3=>EJ o0 L λrs=>EJ o1 L λps=>EJ o2 L λts=>EJ o3 L λij=>l2 ij L λvi vj=>DQ vi L λi=>DQ vj L λj=>bC (BC i j) L<|B' (AL H.h i) λoi=>B' (AL H.h j) λoj=>FV oi L λe0=>FV oj L λe1=>B' (Ah H.env JX) λa=>B' (Ah H.env Mp) λb=>B' (Ah H.env Oh) λc=>B' (Ah H.env Qp) λd=>G ⟨[(JX,a),(Mp,b),(Oh,c),(Qp,d)],[(0,.list rs),(1,.list ps),(2,.list ts),(3,.list [.ref 4,.ref 5]),(4,.dict e0),(5,.dict e1)],6⟩
noncomputable def X7(r:O)(rs:I V)(e0 e1:I (V×V)):AD Mine.St:=X6 (ev FL 60 ⟨BV Fx,3⟩ (.ss X5) (cb r (Gy rs e0 e1)))
noncomputable def JY(A1:I Tx)(r:O):Prop:=∀(w:Tx->V)(rs:I V)(e:I (V×V)),X7 (2*r) rs (BM w A1) e=G (Gy rs (BM (KQ w (EO.getD r []) .any) (Oi A1 (EO.getD r []))) e)
noncomputable def JZ(A1:I Tx)(r:O):Prop:=∀(w:Tx->V)(rs:I V)(e:I (V×V)),X7 (2*r+1) rs e (BM w A1)=G (Gy rs e (BM (KQ w (EO.getD r []) .any) (Oi A1 (EO.getD r []))))
noncomputable abbrev q0:Tx:=[47,97]
noncomputable abbrev q1:Tx:=[47,97,47,98]
noncomputable abbrev q2:Tx:=[47,97,47,98,47,103]
noncomputable abbrev q3:Tx:=[47,97,47,102]
noncomputable abbrev q4:Tx:=[47,103,47,112]
noncomputable abbrev q5:Tx:=[47,103,47,113]
noncomputable abbrev q6:Tx:=[47,104]
noncomputable abbrev q7:Tx:=[47,107,47,112]
noncomputable abbrev q8:Tx:=[47,107,47,113]
noncomputable abbrev q9:Tx:=[47,109]
noncomputable abbrev AY:Tx:=[47,110,47,107]
theorem Mq{l:I (I Tx)}(h:∀(w:Tx->V)(rs:I V)(e:I (V×V)),l.map (λA1=>(DN 6).map λr=>X7 (2*r) rs (BM w A1) e)=l.map (λA1=>(DN 6).map λr=>G (Gy rs (BM (KQ w (EO.getD r []) .any) (Oi A1 (EO.getD r []))) e))):∀A1∈l,∀r∈DN 6,JY A1 r:=λA1 m r m' w rs e=>H5.mp (H5.mp (h w rs e) A1 m) r m'
theorem Mr{l:I (I Tx)}(h:∀(w:Tx->V)(rs:I V)(e:I (V×V)),l.map (λA1=>(DN 6).map λr=>X7 (2*r+1) rs e (BM w A1))=l.map (λA1=>(DN 6).map λr=>G (Gy rs e (BM (KQ w (EO.getD r []) .any) (Oi A1 (EO.getD r [])))))):∀A1∈l,∀r∈DN 6,JZ A1 r:=λA1 m r m' w rs e=>H5.mp (H5.mp (h w rs e) A1 m) r m'
noncomputable def o9:I (I Tx):=[[q2,q6,q9,q7,q8,q3],[q2,q6,q9,q7,q8,q3,AY],[q2,q6,q9,q7,q8,AY,q3],[q2,q9,q7,q8,q3,q6]]
theorem aD1:∀A1∈o9,∀r∈DN 6,JY A1 r:=Mq λw rs e=>by kernel_rfl
noncomputable def oA:I (I Tx):=[[q2,q9,q7,q8,q6,q3],[q3,q2,q6,q9,q7,q8],[q3,q2,q6,q9,q7,q8,AY],[q3,q2,q9,q7,q8,q6]]
theorem aD2:∀A1∈oA,∀r∈DN 6,JY A1 r:=Mq λw rs e=>by kernel_rfl
noncomputable def oB:I (I Tx):=[[q3,q2,q9,q7,q8,q6,AY],[q3,q2,q9,q7,q8,AY,q6],[q3,q6,q9,q7,q8,q1],[q3,q6,q9,q7,q8,q1,AY]]
theorem aD3:∀A1∈oB,∀r∈DN 6,JY A1 r:=Mq λw rs e=>by kernel_rfl
noncomputable def oC:I (I Tx):=[[q3,q6,q9,q7,q8,q2],[q3,q6,q9,q7,q8,q2,AY],[q3,q6,q9,q7,q8,AY,q1],[q3,q6,q9,q7,q8,AY,q2]]
theorem aD4:∀A1∈oC,∀r∈DN 6,JY A1 r:=Mq λw rs e=>by kernel_rfl
noncomputable def oE:I (I Tx):=[[q3,q9,q7,q8,q1,q6],[q3,q9,q7,q8,q2,q6],[q3,q9,q7,q8,q6,q1],[q3,q9,q7,q8,q6,q2]]
theorem aD5:∀A1∈oE,∀r∈DN 6,JY A1 r:=Mq λw rs e=>by kernel_rfl
noncomputable def oF:I (I Tx):=[[q6,q9,q7,q8,q0],[q6,q9,q7,q8,q0,AY],[q6,q9,q7,q8,q1],[q6,q9,q7,q8,q1,q3]]
theorem aD6:∀A1∈oF,∀r∈DN 6,JY A1 r:=Mq λw rs e=>by kernel_rfl
noncomputable def oG:I (I Tx):=[[q6,q9,q7,q8,q2],[q6,q9,q7,q8,q2,q3],[q6,q9,q7,q8,q3],[q6,q9,q7,q8,q3,q1]]
theorem aD7:∀A1∈oG,∀r∈DN 6,JY A1 r:=Mq λw rs e=>by kernel_rfl
noncomputable def oH:I (I Tx):=[[q6,q9,q7,q8,q3,q2],[q6,q9,q7,q8,AY,q0],[q9,q7,q8,q0,q6],[q9,q7,q8,q6,q0]]
theorem aD8:∀A1∈oH,∀r∈DN 6,JY A1 r:=Mq λw rs e=>by kernel_rfl
noncomputable def oI:I (I Tx):=[[q1,q6,q9,q4,q5,q3,AY],[q1,q6,q9,q4,q5,AY,q3],[q1,q6,q9,AY,q4,q5,q3],[q1,q9,AY,q4,q5,q3,q6]]
theorem aD9:∀A1∈oI,∀r∈DN 6,JZ A1 r:=Mr λw rs e=>by kernel_rfl
noncomputable def oJ:I (I Tx):=[[q1,q9,AY,q4,q5,q6,q3],[q3,q1,q6,q9,q4,q5,AY],[q3,q1,q6,q9,AY,q4,q5],[q3,q1,q9,q4,q5,q6,AY]]
theorem aE0:∀A1∈oJ,∀r∈DN 6,JZ A1 r:=Mr λw rs e=>by kernel_rfl
noncomputable def oK:I (I Tx):=[[q3,q1,q9,q4,q5,AY,q6],[q3,q1,q9,AY,q4,q5,q6],[q3,q6,q9,q4,q5,q1,AY],[q3,q6,q9,q4,q5,q2,AY]]
theorem aE1:∀A1∈oK,∀r∈DN 6,JZ A1 r:=Mr λw rs e=>by kernel_rfl
noncomputable def oM:I (I Tx):=[[q3,q6,q9,q4,q5,AY,q1],[q3,q6,q9,q4,q5,AY,q2],[q3,q6,q9,AY,q4,q5,q1],[q3,q6,q9,AY,q4,q5,q2]]
theorem aE2:∀A1∈oM,∀r∈DN 6,JZ A1 r:=Mr λw rs e=>by kernel_rfl
noncomputable def oO:I (I Tx):=[[q3,q9,AY,q4,q5,q1,q6],[q3,q9,AY,q4,q5,q2,q6],[q3,q9,AY,q4,q5,q6,q1],[q3,q9,AY,q4,q5,q6,q2]]
theorem aE3:∀A1∈oO,∀r∈DN 6,JZ A1 r:=Mr λw rs e=>by kernel_rfl
noncomputable def oP:I (I Tx):=[[q6,q9,q4,q5,q0,AY],[q6,q9,q4,q5,AY,q0],[q6,q9,AY,q4,q5,q0],[q6,q9,AY,q4,q5,q1]]
theorem aE4:∀A1∈oP,∀r∈DN 6,JZ A1 r:=Mr λw rs e=>by kernel_rfl
noncomputable def oQ:I (I Tx):=[[q6,q9,AY,q4,q5,q1,q3],[q6,q9,AY,q4,q5,q2],[q6,q9,AY,q4,q5,q2,q3],[q6,q9,AY,q4,q5,q3]]
theorem aE5:∀A1∈oQ,∀r∈DN 6,JZ A1 r:=Mr λw rs e=>by kernel_rfl
noncomputable def oR:I (I Tx):=[[q6,q9,AY,q4,q5,q3,q1],[q6,q9,AY,q4,q5,q3,q2],[q9,AY,q4,q5,q0,q6],[q9,AY,q4,q5,q6,q0]]
theorem aE6:∀A1∈oR,∀r∈DN 6,JZ A1 r:=Mr λw rs e=>by kernel_rfl
section
variable{J:I A8}
theorem aE7{fn:Fn}{o:Bi}(ok:FnAt B a fn o fd){b:I (U×V)}(hb:JH fn args=G b)(hd:K.d=d+1)(hf:f=.next/\v=.none\/f=.ret v)(D:∀{F:Fm}{A:CK}{C:I A8}{s:AR}{C4:I Gh},F.outs=F.env::C4->F.env.frame=G F.env.locals->Gd B F ⟨fn.sc,d⟩ A ⟨b,H.h,H.n⟩ C s->CJ B F ⟨fn.sc,d⟩ A AB C s (J2 fn.body F.env) (FR f))(g:Gd B F K A H C s)(rs:Aa s.heap C args us):Ae B F K A ⟨H.env,AB.h,AB.n⟩ C s (CE (.ref a) us) (RV v):=λA2 E k=>HP (ab ok hb hd hf D g rs λu AT s' g' x' r'=>k u AT s' g' x' r')
theorem oU{fn:Fn}{o:Bi}(ok:FnAt B a fn o fd){b:I (U×V)}(hb:JH fn args=G b)(hd:K.d=d+1)(hf:f=.next/\v=.none\/f=.ret v)(D:∀{F:Fm}{A:CK}{C:I A8}{s:AR},Gd B F ⟨fn.sc,d⟩ A ⟨b,H.h,H.n⟩ C s->CJ B F ⟨fn.sc,d⟩ A AB C s (J2 fn.body F.env) (FR f))(g:Gd B F K A H C s)(rs:Aa s.heap C args us):Ae B F K A ⟨H.env,AB.h,AB.n⟩ C s (CE (.ref a) us) (RV v):=λA2 E k=>HP (ab ok hb hd hf (λ_ _ g=>D g) g rs λu AT s' g' x' r'=>k u AT s' g' x' r')
structure cc(H DI AB A7:Mine.St)(B7:I O):Prop where
 env:A7.env=AB.env.map (Qn (DJ H.n B7))le:DI.n<=AB.n
 n:A7.n=H.n+(AB.n-DI.n)obs:∀i o,AL A7.h i=G o->(∃j LR,AL AB.h j=G LR/\i=DJ H.n B7 j/\o=DV (DJ H.n B7) LR)\/(AL H.h i=G o/\i∉B7)
theorem Cf.DW(Dj:∀j,A_[j]?=Au[BA j]?){env:I (U×V)}:Cf F h A_ env↔Cf F h Au (env.map (Qn BA)):=by
 refine HQ λm=>ua λ_=>ua λ_=>?_;have key:∀x v,(∃u,T4 F h m x u/\VR h A_ v u)↔∃u,T4 F h m x u/\VR h Au (E7 BA v) u:=λx v=>HQ λu=>ua λ_=>VR.DW Dj;constructor
 . intro q x v e f;rw[Tw]at e;refine AC (uZ.mp e) ?_;intro w e' BJ;exact BJ▸(key x w).mp (q x w e' f)
 . intro q x v e f;exact(key x v).mpr (q x _ (by rw[Tw,e];rfl) f)
theorem Gd.oW(g:Gd B F K A H C s)(AG:Sub H DI B7)(g':Gd B F K' A AB AT s')(x:Nx F.D F.AZ s.heap s'.heap (C' C B7) AT)(BL:cc H DI AB A7 B7):∃J,AT=C' C B7++J/\Gd B F K A A7 (C++J) s'/\Nx F.D F.AZ s.heap s'.heap C (C++J):=by
 refine AC x.pre ?_;intro J BP GA;subst BP;have hz:(C' C B7).length=B7.length:=by simp[C']
 have Tk:=g'.len;rw[FD,hz,AG.len]at Tk;have hx:Nx F.D F.AZ s.heap s'.heap C (C++J):=⟨⟨J,rfl,GA⟩,x.live,x.Bw,λb o e n m=>x.same b o e (λz=>n (LQ g.len AG.lt z)) m⟩;have Es:=GI (C:=C) (J:=J) g.len AG.lt;have nd:=g'.nodup;rw[ID]at nd;refine⟨J,rfl,⟨g.kinds,by rw[FD,g.len,BL.n];(with_reducible exact Mine.vZ (by assumption)),?_,?_,?_,?_,?_,?_,?_,g'.base,g'.os,g'.gens,g.frames,g'.DT,?_,g.mods,g.handled,g.depth,g.units⟩,hx⟩
 . refine ID.mpr ⟨g.nodup,nd.2.1,λa ha b hb e=>?_⟩;subst e;refine xE (g.live a ha) ?_;intro o e;rw[GA a hb]at e;exact(BE e).elim
 . intro a m;rcases Dr.mp m with m|m;. exact g.fresh a m
   . exact g'.fresh a (Pj _ m)
 . intro a m;rcases Dr.mp m with m|m;. refine xE (g.live a m) ?_;intro o e;exact x.live a o e
   . exact g'.live a (Pj _ m)
 . intro a m;refine IM (g.D5 a m) ?_;intro h1 h2 o h3;refine⟨h1,λz=>?_,x.live a o h3⟩;rcases Dr.mp z with z|z;. exact h2 z
   . rw[GA a z]at h3;exact(BE h3).elim
 . intro c m;refine H8 (g.D1 c m) ?_;intro h2 o h3;refine⟨λz=>?_,x.live _ o h3⟩;rcases Dr.mp z with z|z;. exact h2 z
   . rw[GA _ z]at h3;exact(BE h3).elim
 . intro i o e;rcases BL.obs i o e with Bg|Bu;refine Bv Bg ?_;(try clear Bg);intro j LR ej C9 Ck;subst C9;subst Ck;rotate_left;refine xA Bu ?_;(try clear Bu);intro e hi;rotate_left
   . refine AC (g'.objs j LR ej) ?_;intro a ha r;exact⟨a,by rw[<-Es];exact ha,(Ca.DW Es).mp r⟩
   . refine AC (g.objs i o e) ?_;intro a ha r;refine⟨a,FY ha,r.mono x.Bw λy ey=>x.keep a y ey (λz=>hi ?_) (λz=>(g.D5 a z).2.1 (Ew ha)) (λz=>absurd (Ew ha) (g.Cy a z).1)⟩;refine AC (E0.mp z) ?_;intro j hj e';have h1:j<C.length:=by rw[g.len];exact AG.lt j hj
     have h2:C[j]?=G a:=by rw[<-e'];simp[Kp,h1]
     have :j=i:=(RX h1 g.nodup).mp (h2.trans ha.symm);exact this▸hj
 . rw[BL.env];exact(Cf.DW Es).mp g'.env
 . intro A1 m;refine G5 (g.Cy A1 m) ?_;intro h1 h2 _;refine⟨λz=>?_,h2,(g'.Cy A1 m).2.2⟩;rcases Dr.mp z with z|z;. exact h1 z
   . exact(g'.Cy A1 m).1 (Pj _ z)
theorem aE8{t:Dz HO}(hf:∀{h:BK}{C:I A8}{u:HO},FR f h C u->∀Q AT,FR f Q AT u)(Og:∀{C:I A8}{s:AR},Gd B F ⟨K.sc,d⟩ A DI C s->CJ B F ⟨K.sc,d⟩ A AB C s t (FR f))(hd:d<=K.d)(g:Gd B F K A H C s)(AG:Sub H DI B7)(he:Cf F s.heap (C' C B7) DI.env)(BL:cc H DI AB A7 B7):CJ B F K A A7 C s t (FR f):=by
 intro A2 E k;refine Og (g.sub AG hd he) A2 E λu AT s' g' x' r'=>?_;refine CZ (g.oW AG g' x' BL) ?_;intro J Bq gg xx;clear g' x';subst Bq;exact k u _ s' gg xx (hf r' _ _)
end
section
variable{J:I A8}
theorem Cf.pick(Dj:∀j,A_[j]?=Au[BA j]?){env:I (U×V)}(x:Cf F h Au env)(hs:∀x v,Ah K6 x=G v->Ah env x=G (E7 BA v)):Cf F h A_ K6:=by
 refine(Cf.DW Dj).mpr ?_;refine CZ x ?_;(try clear x);intro m ns ce r;refine⟨m,ns,ce,λy v e f=>?_⟩;rw[Tw]at e;refine AC (uZ.mp e) ?_;intro w e' Aw;clear e;subst Aw;exact r y _ (hs y w e') f
theorem Gd.pick(g:Gd B F K A H C s)(AG:Sub H DI B7)(hs:∀x v,Ah DI.env x=G v->Ah H.env x=G (E7 (DJ H.n B7) v)):Gd B F K A DI (C' C B7) s:=by
 have cR:∀j,(C' C B7)[j]?=C[DJ H.n B7 j]?:=λj=>by
  have :=GI (J:=[]) g.len AG.lt j;simpa using this
 exact g.sub AG (DF _) (Cf.pick cR g.env hs)
theorem oX{o:A0}{rs:I V}{e0 e1:I (V×V)}(h:X6 o=G (Gy rs e0 e1)){P:Prop}(c:∀(H:Mine.St)(i j:O),o=.ok (.f .next) H->i≠j->AL H.h 0=G (.list rs)->AL H.h 1=G (.list (EO.map .str))->AL H.h 2=G (.list (IN.map .str))->AL H.h 3=G (.list [.ref i,.ref j])->AL H.h i=G (.dict e0)->AL H.h j=G (.dict e1)->Ah H.env JX=G (.ref 0)->Ah H.env Mp=G (.ref 1)->Ah H.env Oh=G (.ref 2)->Ah H.env Qp=G (.ref 3)->P):P:=by
 revert c;apply kJ h AF;intro r H h;apply xj h AF;intro f h;apply xk h AF;intro h;refine BI h λo0 h0 h=>BI h λo1 h1 h=>BI h λo2 h2 h=>BI h λo3 h3 h=>?_;revert h0 h1 h2 h3;apply IT h AF;intro Ft h;apply IT h AF;intro ps h;apply IT h AF;intro ts h;apply IT h AF;intro ij h;apply Hn h AF;intro vi vj h;apply EI h AF;intro i h;apply EI h AF;intro j h h0 h1 h2 h3;refine Eb h (λ_ h=>(AF h).elim) λQi h=>BI h λoi hi h=>BI h λoj hj h=>?_;revert hi hj;apply JD h AF;intro e0' h;apply JD h AF;intro bg h hi hj;refine BI h λa ha h=>BI h λb hb h=>BI h λc hc h=>BI h λd hd h=>?_;have q:=Bm h;intro k;exact k H i j rfl (λe=>by rw[e,J1]at Qi;(exfalso;cases Qi)) (h0.trans (congrArg (λs:Mine.St=>AL s.h 0) q:G (Ob.list Ft)=G (.list rs))) (h1.trans (congrArg (λs:Mine.St=>AL s.h 1) q:G (Ob.list ps)=G (.list (EO.map .str)))) (h2.trans (congrArg (λs:Mine.St=>AL s.h 2) q:G (Ob.list ts)=G (.list (IN.map .str)))) h3 (hi.trans (congrArg (λs:Mine.St=>AL s.h 4) q:G (Ob.dict e0')=G (.dict e0))) (hj.trans (congrArg (λs:Mine.St=>AL s.h 5) q:G (Ob.dict bg)=G (.dict e1))) (ha.trans (congrArg (λs:Mine.St=>Ah s.env JX) q:G a=G (.ref 0))) (hb.trans (congrArg (λs:Mine.St=>Ah s.env Mp) q:G b=G (.ref 1))) (hc.trans (congrArg (λs:Mine.St=>Ah s.env Oh) q:G c=G (.ref 2))) (hd.trans (congrArg (λs:Mine.St=>Ah s.env Qp) q:G d=G (.ref 3)))
noncomputable def Cl(v:V):Prop:=∀BA,E7 BA v=v
theorem Ir(g:Gd B F K A H C s)(e:AL H.h i=G o):i<H.n:=by
 refine AC (g.objs i o e) ?_;intro a ha _;refine xE (HL.mp ha) ?_;intro h _;rw[<-g.len];exact h
theorem cg:∀{l:I V},(∀v∈l,Cl v)->Cr BA l=l
 |[],_=>rfl|v::l,h=>by
  simp only[Cr];rw[h v (Co ..) BA,cg λw m=>h w (Cp _ m)]
theorem KR{l:I (V×V)}(h:∀e∈l,Cl e.2):l.map (JU BA)=l:=by induction l with
 |nil=>rfl|cons e l ih=>
 rw[J3,ih λx m=>h x (Cp _ m)];unfold JU;rw[h e (Co ..) BA]
theorem aE9{rs:I V}{e0 e1:I (V×V)}(hr:∀v∈rs,Cl v)(h0:∀e∈e0,Cl e.2)(h1:∀e∈e1,Cl e.2)(g:Gd B F K A H C s)(h:X6 (.ok (.f .next) H)=G (Gy rs e0 e1)):∃i j,Gd B F K A (Gy rs e0 e1) (C' C [0,1,2,3,i,j]) s/\(∀k∈[0,1,2,3,i,j],k<H.n)/\[0,1,2,3,i,j].Nodup:=by
 refine oX h ?_;intro Bc i j q Qi a0 a1 a2 a3 ai aj b0 b1 b2 b3;injection q with _ q;subst q;have ni:i≠0/\i≠1/\i≠2/\i≠3:=by refine⟨?_,?_,?_,?_⟩<;>(rintro rfl;simp_all)
 have nj:j≠0/\j≠1/\j≠2/\j≠3:=by refine⟨?_,?_,?_,?_⟩<;>(rintro rfl;simp_all)
 have lt:∀k∈[0,1,2,3,i,j],k<H.n:=by
  intro k hk;simp only[Cj,Jq,Jr]at hk;rcases hk with rfl|rfl|rfl|rfl|rfl|rfl;. exact Ir g a0
  . exact Ir g a1
  . exact Ir g a2
  . exact Ir g a3
  . exact Ir g ai
  . exact Ir g aj
 have nd:[0,1,2,3,i,j].Nodup:=by
  refine M8 ni ?_;(try clear ni);intro p0 p1 p2 p3;refine M8 nj ?_;(try clear nj);intro bY8 r1 r2 r3;simp[EU,CX p0,CX p1,CX p2,CX p3,CX bY8,CX r1,CX r2,CX r3,Qi]
 refine⟨i,j,g.pick ⟨rfl,nd,lt,λk o e=>?_⟩ λx v e=>?_,lt,nd⟩;. match k,e with
 |0,e=>injection e with e;subst e;exact⟨0,rfl,by rw[a0];show _=G (Ob.list (Cr _ rs));rw[cg hr]⟩|1,e=>injection e with e;subst e;exact⟨1,rfl,by rw[a1];show _=G (Ob.list (Cr _ (EO.map .str)));rw[LP]⟩|2,e=>injection e with e;subst e;exact⟨2,rfl,by rw[a2];show _=G (Ob.list (Cr _ (IN.map .str)));rw[LP]⟩|3,e=>injection e with e;subst e;exact⟨3,rfl,a3⟩|4,e=>injection e with e;subst e;exact⟨i,rfl,by rw[ai];show _=G (Ob.dict (e0.map _));rw[KR h0]⟩|5,e=>injection e with e;subst e;exact⟨j,rfl,by rw[aj];show _=G (Ob.dict (e1.map _));rw[KR h1]⟩|k+6,e=>exact(BE e).elim
 . exact(show∀p∈(Gy rs e0 e1).env,Ah H.env p.1=G (E7 (DJ H.n [0,1,2,3,i,j]) p.2)from all_cons b0 (all_cons b1 (all_cons b2 (all_cons b3 EE)))) _ (FF e)
noncomputable def E8(rs:I O):I V:=rs.map (V.IP 12)
theorem oY:∀v∈E8 rs,Cl v:=λv m=>by
 refine AC (E0.mp m) ?_;intro r _ DX;clear m;subst DX;exactλ_=>rfl
structure Tr where
 L0:I Tx
 w0:Tx->V
 L1:I Tx
 w1:Tx->V
noncomputable def Tr.st(T:Tr)(rs:I V):Mine.St:=Gy rs (BM T.w0 T.L0) (BM T.w1 T.L1)
noncomputable def Tr.turn(T:Tr)(r:O):Tr:=match BC (r%2) 0 with
 |true=>⟨Oi T.L0 (EO.getD (r/2) []),KQ T.w0 (EO.getD (r/2) []) .any,T.L1,T.w1⟩|false=>⟨T.L0,T.w0,Oi T.L1 (EO.getD (r/2) []),KQ T.w1 (EO.getD (r/2) []) .any⟩
structure Tr.Cl(T:Tr):Prop where
 c0:∀p,Mine.Cl (T.w0 p)c1:∀p,Mine.Cl (T.w1 p)
theorem oZ{w:Tx->V}{p:Tx}(h:∀p,Cl (w p)):∀q,Cl (KQ w p .any q):=λq=>by
 unfold KQ;split;. exactλ_=>rfl
 . exact h q
theorem Tr.Cl.turn{T:Tr}(h:T.Cl)(r:O):(T.turn r).Cl:=by
 unfold Tr.turn;split;. exact⟨oZ h.c0,h.c1⟩
 . exact⟨h.c0,oZ h.c1⟩
theorem Ms{w:Tx->V}(h:∀p,Cl (w p)):∀e∈BM w A1,Cl e.2:=λe m=>by
 refine AC (E0.mp m) ?_;intro p _ Ed;clear m;subst Ed;exact h p
noncomputable def Tr.Known(T:Tr):Prop:=(∀r,r<6->JY T.L0 r)/\∀r,r<6->JZ T.L1 r
theorem aF0{T:Tr}(h:T.Known)(hr:r<12)(rs:I V):X6 (ev FL 60 ⟨BV Fx,3⟩ (.ss X5) (cb r (T.st rs)))=G ((T.turn r).st rs):=by
 unfold Tr.turn;cases e:BC (r%2) 0 with
 |true=>
  have e:=CD e;have :=h.1 (r/2) (gW hr) T.w0 rs (BM T.w1 T.L1);rw[Nat.mul_div_cancel' (by3 e)]at this;exact this|false=>
  have e:r%2=1:=by exact(Nat.mod_two_eq_zero_or_one r).resolve_left λz=>by rw[z]at e;(exfalso;cases e)
  have :=h.2 (r/2) (gW hr) T.w1 rs (BM T.w0 T.L0);rw[(congrArg (2*(r/2)+·) e.symm).trans (Nat.div_add_mod r 2)]at this;exact this
end
@[irreducible]noncomputable def ch:AA:=lC (Fj Fx) (.Constant .none 0 ⟨0,0,0,0⟩) λ_ z1=>lC z1 (.Constant .none 0 ⟨0,0,0,0⟩) λ_ z2=>lC z2 (.Constant .none 0 ⟨0,0,0,0⟩) λ_ z3=>lC z3 (.Constant .none 0 ⟨0,0,0,0⟩) λz4 z5=>G4 z4 (.Constant .none 0 ⟨0,0,0,0⟩) λt _ _ _ _=>l1 z5 (.Constant .none 0 ⟨0,0,0,0⟩) λ_=>t
theorem aF1(d r:O)(rs:I V)(e0 e1:I (V×V)):ev FL 60 ⟨BV Fx,d⟩ (.asg ch (.IP 12 r)) (Gy rs e0 e1)=.ok (.f .next) (cb r (Gy rs e0 e1)):=by kernel_rfl
section
variable{J:I A8}
theorem Gd.low(g:Gd B F K A H C s)(hd:d<=K.d):Gd B F ⟨K.sc,d⟩ A H C s:=⟨⟨g.kinds.fn,g.kinds.sc,g.kinds.kd,g.kinds.g3,g.kinds.b0,g.kinds.cells,g.kinds.I_,g.kinds.MR⟩,g.len,g.nodup,g.fresh,g.live,g.D5,g.D1,g.objs,g.env,g.base,g.os,g.gens,g.frames,g.DT,g.Cy,g.mods,g.handled,by have :=g.depth;show A.depth+3*d<900;(with_reducible exact Mine.yW (by assumption) (by assumption)),by have :=g.units;show A.units+10*d<9000;(with_reducible exact Mine.yW (by assumption) (by assumption))⟩
theorem Gd.lift(g:Gd B F K A H C s)(g':Gd B F ⟨K.sc,d⟩ A A7 AT s'):Gd B F K A A7 AT s':=⟨g.kinds,g'.len,g'.nodup,g'.fresh,g'.live,g'.D5,g'.D1,g'.objs,g'.env,g'.base,g'.os,g'.gens,g'.frames,g'.DT,g'.Cy,g'.mods,g'.handled,g.depth,g.units⟩
theorem o_(x:Nx AM AZ h Q [a0] C)(nd:C.Nodup)(hp:∀k∈0::B7,k<C.length)(hn:(0::B7).Nodup):Nx AM AZ h Q [a0] (C' C (0::B7)):=by
 refine AC x.pre ?_;intro J Aw GA;clear nd;subst Aw;refine⟨⟨C' ([a0]++J) B7,rfl,λb m=>?_⟩,x.live,x.Bw,x.same⟩;refine AC (E0.mp m) ?_;intro k hk B6;clear m;subst B6;have h0:k≠0:=λz=>(EU.mp hn).1 (z▸hk);have hl:=hp k (Cp _ hk);refine GA _ ?_;obtain⟨j,rfl⟩:∃j,k=j+1:=⟨k-1,by(with_reducible exact Mine.yI (fK (by assumption)))⟩;have hj:j<J.length:=by simpa using hl
 simp[Kp,hj]
theorem CM.pick(f:CM B F C h AE)(hl:C.length=n)(KN:∀i∈B7,i<n):CM B F (C' C B7) h AE:=⟨λz=>f.C (LQ hl KN z),f.w,f.cells,f.base,f.outs,f.live⟩
theorem aF2(AV:(Bb P).In B.base)(AM:Dg B)(hd:3<=d){AS:Dt->AR->Prop}(hI:Af.get? AE=L)(post:I O):∀(pre:I O)(T:Tr){C:I A8}{s:AR},(∀r∈post,r<12)->T.Cl->(∀Iu I2,post=Iu++I2->I2≠[]->(Iu.foldl Tr.turn T).Known)->Gd B F ⟨BV Fx,d⟩ A (T.st (E8 (pre++post))) C s->Nx F.D F.AZ Af s.heap [a0] C->CM B F C s.heap AE->E6 s.heap C (.lst 0) pre.length AE->(∀AT s',Gd B F ⟨BV Fx,d⟩ A ((post.foldl Tr.turn T).st (E8 (pre++post))) AT s'->Nx F.D F.AZ Af s'.heap [a0] AT->AS (.ok .next) s')->D7 (AQ B.prog B.w) A (.forLoop ch (.ref AE) X5 [] F.env) AS s:=by induction post with
 |nil=>
  intro pre T C s _ _ _ g Cq fr it k;have AP:IU (.lst 0) pre.length (T.st (E8 (pre++[]))).h=G L:=by
    show G (Gq (E8 (pre++[])) pre.length)=_;rw[HX];simp[E8]
  refine MX (K8 g fr it AP (λx hx=>by exact(BE hx).elim) λhx Q tk AN DU=>?_);exact k C _ AN (Cq.F2 DU hI)|cons r post ih=>
  intro pre T C s hr hc hk g Cq fr it k;have AP:IU (.lst 0) pre.length (T.st (E8 (pre++r::post))).h=G (G (.IP 12 r)):=by
    show G (Gq (E8 (pre++r::post)) pre.length)=_;rw[HX];simp[E8]
  have A9:=(Tz AV AM 60).s;refine MX (K8 g fr it AP (λx hx u Q tk AN DU Eo Aq Hx=>?_) λhx=>by(exfalso;cases hx));injection hx with hx;subst hx;have L8:=Cq.F2 DU hI;have ht:=aF0 (hk [] (r::post) rfl (by simp)) (hr r (Co ..)) (E8 (pre++r::post));simp only[List.foldl_nil]at ht;refine oX ht λBc i j C3 _ _ _ _ _ _ _ _ _ _ _=>?_;rw[C3]at ht;refine QM Aq (A9.asg (aF1 d r _ _ _) AN Hx _ _ λ_ Au Ai AU Al _=>A9.ss C3 (AU.low hd) _ _ λMY BS Ax Ap B8 BQ=>?_);cases BQ;have xx:=Al.trans B8;have EF:=Eo.nx xx;have Gu:=Aq.nx xx Eo.C Eo.w;have Ep:=L8.trans xx;have GC:=hc.turn r;refine Bv (aE9 oY (Ms GC.c0) (Ms GC.c1) (AU.lift Ap) ht) ?_;intro i j CA lt nd;have e:pre++r::post=(pre++[r])++post:=by simp
  refine ih (pre++[r]) (T.turn r) (C:=C' BS [0,1,2,3,i,j]) (λq m=>hr q (Cp _ m)) GC (λIu I2 q z=>?_) (by rw[<-e];exact CA) (o_ Ep Ap.nodup (by rw[Ap.len];exact lt) nd) (EF.pick Ap.len lt) ?_ (by rw[<-e];exact k);. exact hk (r::Iu) I2 (by rw[q];rfl) z
  . refine AC Gu ?_;(try clear Gu);intro a ha hi;refine⟨a,?_,by rw[FD];exact hi⟩;have :=GI (J:=[]) Ap.len lt 0;simp only[HN]at this;rw[this];exact ha
end
@[irreducible]noncomputable def Iv(k:O):As:=(Fj Fx)[k]?.getD (.Pass ⟨0,0,0,0⟩)
@[irreducible]noncomputable def X8:AA:=G4 (Iv 3) (.Constant .none 0 ⟨0,0,0,0⟩) λ_ it _ _ _=>it
@[irreducible]noncomputable def aF3:B9:=G4 (Iv 3) ⟨0,0,0,0⟩ λ_ _ _ _ p=>p
theorem aF4:Fj Fx=[Iv 0,Iv 1,Iv 2,Iv 3,Iv 4]:=by kernel_rfl
theorem aF5:Iv 3=.For ch X8 X5 [] aF3:=by kernel_rfl
noncomputable def ci:AK->I Tx
 |false=>[[120,118,121,122,117,119],[120,120],[120,121],[118,121,122],[],[]]|true=>[[120,119,121,122,116,119],[],[121,120],[119,121,122,118],[120],[],[]]
noncomputable def Qq:I Tx->I Tx->Tx->V
 |p::A1,t::l,q=>match CU q p with|true=>.str t|false=>Qq A1 l q
 |_,_,_=>.any
noncomputable def KS(k:AK):Tx->V:=Qq (KP k) (ci k)
noncomputable def T0:Tr:=⟨KP A6,KS A6,KP M,KS M⟩
noncomputable def og(rs:I V):Mine.St:=⟨[(JX,.ref 0),(Mp,.ref 1),(Oh,.ref 2),(Qp,.ref 5)],[(5,.list [.ref 3,.ref 4]),(4,.dict (BM (KS M) (KP M))),(3,.dict (BM (KS A6) (KP A6))),(2,.list (IN.map .str)),(1,.list (EO.map .str)),(0,.list rs)],6⟩
noncomputable def oh(rs:I V):Mine.St:=⟨[(JX,.ref 0)],[(0,.list rs)],1⟩
noncomputable def om(rs:I V):Mine.St:=⟨[(JX,.ref 0),(Mp,.ref 1)],[(1,.list (EO.map .str)),(0,.list rs)],2⟩
noncomputable def oo(rs:I V):Mine.St:=⟨[(JX,.ref 0),(Mp,.ref 1),(Oh,.ref 2)],[(2,.list (IN.map .str)),(1,.list (EO.map .str)),(0,.list rs)],3⟩
theorem aF6(d:O)(rs:I V):ev FL 60 ⟨BV Fx,d⟩ (.s (Iv 0)) (oh rs)=.ok (.f .next) (om rs):=by kernel_rfl
theorem aF7(d:O)(rs:I V):ev FL 60 ⟨BV Fx,d⟩ (.s (Iv 1)) (om rs)=.ok (.f .next) (oo rs):=by kernel_rfl
theorem aF8(d:O)(rs:I V):ev FL 60 ⟨BV Fx,d⟩ (.s (Iv 2)) (oo rs)=.ok (.f .next) (og rs):=by kernel_rfl
theorem aF9(d:O)(rs:I V)(e0 e1:I (V×V)):ev FL 60 ⟨BV Fx,d⟩ (.e X8) (Gy rs e0 e1)=.ok (.v (.ref 0)) (Gy rs e0 e1):=by kernel_rfl
theorem aG0(d:O)(rs:I V)(e0 e1:I (V×V)):ev FL 60 ⟨BV Fx,d⟩ (.s (Iv 4)) (Gy rs e0 e1)=.ok (.f (.ret (.ref 3))) (Gy rs e0 e1):=by kernel_rfl
@[irreducible]noncomputable def aG1:B9:=DO X8 ⟨0,0,0,0⟩ λ_ p=>p
theorem aG2:X8=.Name JX aG1:=by kernel_rfl
theorem U4:∀{A1 l:I Tx}(p:Tx),Cl (Qq A1 l p)
 |[],_,_=>λ_=>rfl|_::_,[],_=>λ_=>rfl|q::A1,t::l,p=>by
  unfold Qq;split;. exactλ_=>rfl
  . exact U4 p
theorem oq:T0.Cl:=⟨λp=>U4 p,λp=>U4 p⟩
section
variable{J:I A8}
theorem aG3{rs:I V}(hr:∀v∈rs,Cl v)(g:Gd B F K A (og rs) C s):Gd B F K A (T0.st rs) (C' C [0,1,2,5,3,4]) s:=by
 refine g.pick (DI:=T0.st rs) (B7:=[0,1,2,5,3,4]) ⟨rfl,by decide,by show∀i∈_,i<6;decide,λk o e=>?_⟩ λx v e=>?_;. match k,e with
 |0,e=>injection e with e;subst e;exact⟨0,rfl,by show G (Ob.list rs)=G (Ob.list (Cr _ rs));rw[cg hr]⟩|1,e=>injection e with e;subst e;exact⟨1,rfl,by show G (Ob.list (EO.map .str))=G (Ob.list (Cr _ (EO.map .str)));rw[LP]⟩|2,e=>injection e with e;subst e;exact⟨2,rfl,by show G (Ob.list (IN.map .str))=G (Ob.list (Cr _ (IN.map .str)));rw[LP]⟩|3,e=>injection e with e;subst e;exact⟨5,rfl,rfl⟩|4,e=>injection e with e;subst e;exact⟨3,rfl,by show G (Ob.dict (BM (KS A6) (KP A6)))=G (Ob.dict (bG2 _ (BM (KS A6) (KP A6))));rw[KR (Ms (w:=KS A6) λp=>U4 p)]⟩|5,e=>injection e with e;subst e;exact⟨4,rfl,by show G (Ob.dict (BM (KS M) (KP M)))=G (Ob.dict (bG2 _ (BM (KS M) (KP M))));rw[KR (Ms (w:=KS M) λp=>U4 p)]⟩|k+6,e=>exact(BE e).elim
 . exact T9 (f:=E7 _) (by rfl) e
theorem aG4(AV:(Bb P).In B.base)(AM:Dg B)(hd:3<=d)(hr:∀r∈rs,r<12)(hk:∀Iu I2,rs=Iu++I2->I2≠[]->(Iu.foldl Tr.turn T0).Known)(g:Gd B F ⟨BV Fx,d⟩ A (oh (E8 rs)) C s):CJ B F ⟨BV Fx,d⟩ A ((rs.foldl Tr.turn T0).st (E8 rs)) C s (J2 (Fj Fx) F.env) (FR (.ret (.ref 3))):=by
 intro A2 E k;have A9:=(Tz AV AM 60).s;rw[aF4];refine DH (A9.s (aF6 d _) g _ _ λu A_ AJ AN Ab Aq=>?_);cases Aq;refine DH (A9.s (aF7 d _) AN _ _ λu Au Ai AU Al BB=>?_);cases BB;refine DH (A9.s (aF8 d _) AU _ _ λu BS Ax Ap B8 BQ=>?_);cases BQ;obtain⟨a0,rfl⟩:∃a0,C=[a0]:=by
   have :=g.len;match C,this with|[a],_=>exact⟨a,rfl⟩
 have CA:=aG3 oY Ap;have nd:[0,1,2,5,3,4].Nodup:=by decide
 have Cz:=o_ (Ab.trans (Al.trans B8)) Ap.nodup (B7:=[1,2,5,3,4]) (by rw[Ap.len];show∀k∈_,k<6;decide) nd;refine DH ?_;rw[aF5];refine Y7 (A9.eW (aF9 d _ _ _) CA _ _ λu QT Eg Cn EL Ii=>OE Cn Ii (it:=.lst 0) rfl λAE Q tk G_ GF hI cj ck=>?_) ?_
 . have WH:s.heap.get? AE=L:=HC (Cz.trans EL).live hI;refine aF2 AV AM hd WH rs [] T0 hr oq hk G_ ((Cz.trans EL).trans GF.FZ) cj ck λbq br Tl Qj=>?_;refine DH (A9.s (aG0 d _ _ _) Tl _ _ λu aG5 aG6 cm aG7 X9=>?_);refine AC X9 ?_;(try clear X9);intro y Aw X9;subst Aw;exact k _ aG5 aG6 cm (Qj.trans aG7) ⟨y,rfl,X9⟩
 . intro x;rw[aG2];kernel_rfl
end
noncomputable def ot:I (I Tx):=o9++oA++oB++oC++oE++oF++oG++oH
theorem aG8(h:A1∈ot):∀r,r<6->JY A1 r:=λr hr=>((Ci (Ci (Ci (Ci (Ci (Ci (Ci aD1 aD2) aD3) aD4) aD5) aD6) aD7) aD8) A1 h) r (Ni.mpr hr)
noncomputable def ou:I (I Tx):=oI++oJ++oK++oM++oO++oP++oQ++oR
theorem aG9(h:A1∈ou):∀r,r<6->JZ A1 r:=λr hr=>((Ci (Ci (Ci (Ci (Ci (Ci (Ci aD9 aE0) aE1) aE2) aE3) aE4) aE5) aE6) A1 h) r (Ni.mpr hr)
noncomputable def lv(k:AK):O->I (I Tx)
 |0=>[KP k]|a+1=>(lv k a).flatMap λA1=>EO.map (Oi A1)
noncomputable def U5(A1:I Tx)(l:I (I Tx)):AK:=l.any (cX A1)
theorem XA{l:I (I Tx)}(h:U5 A1 l=M):A1∈l:=AC (II.mp h) λ_ m e=>o4 e▸m
theorem aH0:((lv A6 0++lv A6 1++lv A6 2).all λA1=>U5 A1 ot)=M:=by kernel_rfl
theorem aH1:((lv M 0++lv M 1++lv M 2).all λA1=>U5 A1 ou)=M:=by kernel_rfl
theorem cp{k:AK}{a:O}(ha:a<=2)(h:A1∈lv k a):A1∈lv k 0++lv k 1++lv k 2:=by
 simp only[Dr];exact(show∀a∈[0,1,2],A1∈lv k a->(A1∈lv k 0\/A1∈lv k 1)\/A1∈lv k 2 from all_cons (λh=>.inl (.inl h)) (all_cons (λh=>.inl (.inr h)) (all_cons .inr EE))) a (Ni.mpr (fQ ha):a∈DN 3) h
structure Tr.At(T:Tr)(a b:O):Prop where
 l0:T.L0∈lv A6 a
 l1:T.L1∈lv M b
theorem Tr.At.known{T:Tr}{a b:O}(h:T.At a b)(ha:a<=2)(hb:b<=2):T.Known:=⟨aG8 (XA (Bn.mp aH0 _ (cp ha h.l0))),aG9 (XA (Bn.mp aH1 _ (cp hb h.l1)))⟩
theorem ow(h:r<12):EO.getD (r/2) []∈EO:=by
 have h6:r/2<EO.length:=gW h;rw[Kp,Hk h6];exact gR h6
theorem Tr.At.turn{T:Tr}{a b:O}(h:T.At a b)(hr:r<12):(T.turn r).At (a+1) b\/(T.turn r).At a (b+1):=by
 unfold Tr.turn;split;. exact .inl ⟨ub.mpr ⟨_,h.l0,gt (ow hr)⟩,h.l1⟩
 . exact .inr ⟨h.l0,ub.mpr ⟨_,h.l1,gt (ow hr)⟩⟩
theorem XB:∀(l:I O){T:Tr}{a b:O},T.At a b->(∀r∈l,r<12)->∃a' b',a'+b'=a+b+l.length/\(l.foldl Tr.turn T).At a' b'
 |[],T,a,b,h,_=>⟨a,b,by simp,h⟩|r::l,T,a,b,h,hr=>by
  rcases h.turn (hr r (Co ..))with h|h
  . refine EX (XB l h λx m=>hr x (Cp _ m)) ?_;intro a' b' e q;exact⟨a',b',by rw[e,V'];(with_reducible exact Mine.w2),q⟩
  . refine EX (XB l h λx m=>hr x (Cp _ m)) ?_;intro a' b' e q;exact⟨a',b',by rw[e,V'];omega,q⟩
theorem ox:T0.At 0 0:=⟨CI.mpr rfl,CI.mpr rfl⟩
theorem aH2(h3:rs.length<=3)(hr:∀r∈rs,r<12):∀Iu I2,rs=Iu++I2->I2≠[]->(Iu.foldl Tr.turn T0).Known:=λIu I2 e Cc=>by
 subst e;refine EX (XB Iu ox λr m=>hr r (bG3 _ m)) ?_;intro a b q h;have :1<=I2.length:=by cases I2 with|nil=>exact absurd rfl Cc|cons _ _=>simp
 rw[FD]at h3;exact h.known (by omega) (by(with_reducible exact Mine.vq (by assumption) (by assumption) (by assumption)))
section
variable{env:I (U×V)}
theorem aH3(AV:(Bb P).In B.base)(AM:Dg B)(hd:K.d=d+1)(h3:3<=d)(hl:rs.length<=3)(hr:∀r∈rs,r<12)(g:Gd B F K A ⟨env,[(0,.list (E8 rs))],1⟩ C s)(ru:VR s.heap C (.ref 0) u):Ae B F K A ⟨env,((rs.foldl Tr.turn T0).st (E8 rs)).h,6⟩ C s (CE (.ref 387) [u]) (RV (.ref 3)):=by
 have hf:AL Im 387=G (DE (Ba 28)):=by kernel_rfl
 refine DB (Ml AV (Mn AV) (Oe P hf)) ?_;intro o fd ok;exact oU (H:=⟨env,[(0,.list (E8 rs))],1⟩) ok (AB:=(rs.foldl Tr.turn T0).st (E8 rs)) (b:=[(JX,.ref 0)]) (args:=[.ref 0]) (by kernel_rfl) hd (.inr rfl) (λg'=>(by have q:=@aG4;rw[show Fx=Ba 28 by unfold Fx;rfl]at q;exact q AV AM h3 hr (aH2 hl hr) g')) g ⟨u,[],rfl,ru,rfl⟩
end
noncomputable def oy(o:A0):AD (I (V×V)×I (V×V)):=K3 o L λv H=>DQ v L λi=>bT (EQ 1 i) L<|B' (AL H.h i) λa=>FV a L λN=>B' (AL H.h 0) λb=>FV b L λcq=>G (N,cq)
noncomputable def Fc(A1:I Tx):Prop:=∀(sc:BU)(w:Tx->V),oy (ev CQ 100 ⟨sc,8⟩ (.call (.top (.ref 392)) [.ref 0]) ⟨[],[(0,.dict (BM w A1))],1⟩)=G (BM w A1,BM w A1)
theorem Gz{l:I (I Tx)}(h:∀(sc:BU)(w:Tx->V),l.map (λA1=>oy (ev CQ 100 ⟨sc,8⟩ (.call (.top (.ref 392)) [.ref 0]) ⟨[],[(0,.dict (BM w A1))],1⟩))=l.map λA1=>G (BM w A1,BM w A1)):∀A1∈l,Fc A1:=λA1 m sc w=>H5.mp (h sc w) A1 m
noncomputable def cr:I (I Tx):=[[q2,q6,q9,q7,q8,q3],[q2,q6,q9,q7,q8,q3,AY],[q2,q6,q9,q7,q8,AY,q3],[q2,q9,q7,q8,q3,q6],[q2,q9,q7,q8,q3,q6,AY],[q2,q9,q7,q8,q3,AY,q6],[q2,q9,q7,q8,q6,q3],[q2,q9,q7,q8,q6,q3,AY],[q2,q9,q7,q8,q6,AY,q3],[q2,q9,q7,q8,AY,q3,q6],[q2,q9,q7,q8,AY,q6,q3],[q3,q2,q6,q9,q7,q8]]
theorem aH4:∀A1∈cr,Fc A1:=Gz λsc w=>by kernel_rfl
noncomputable def cu:I (I Tx):=[[q3,q2,q6,q9,q7,q8,AY],[q3,q2,q9,q7,q8,q6],[q3,q2,q9,q7,q8,q6,AY],[q3,q2,q9,q7,q8,AY,q6],[q3,q6,q9,q7,q8,q1],[q3,q6,q9,q7,q8,q1,AY],[q3,q6,q9,q7,q8,q2],[q3,q6,q9,q7,q8,q2,AY],[q3,q6,q9,q7,q8,AY,q1],[q3,q6,q9,q7,q8,AY,q2],[q3,q9,q7,q8,q1,q6],[q3,q9,q7,q8,q1,q6,AY]]
theorem aH5:∀A1∈cu,Fc A1:=Gz λsc w=>by kernel_rfl
noncomputable def cw:I (I Tx):=[[q3,q9,q7,q8,q1,AY,q6],[q3,q9,q7,q8,q2,q6],[q3,q9,q7,q8,q2,q6,AY],[q3,q9,q7,q8,q2,AY,q6],[q3,q9,q7,q8,q6,q1],[q3,q9,q7,q8,q6,q1,AY],[q3,q9,q7,q8,q6,q2],[q3,q9,q7,q8,q6,q2,AY],[q3,q9,q7,q8,q6,AY,q1],[q3,q9,q7,q8,q6,AY,q2],[q3,q9,q7,q8,AY,q1,q6],[q3,q9,q7,q8,AY,q2,q6]]
theorem aH6:∀A1∈cw,Fc A1:=Gz λsc w=>by kernel_rfl
noncomputable def cx:I (I Tx):=[[q3,q9,q7,q8,AY,q6,q1],[q3,q9,q7,q8,AY,q6,q2],[q6,q9,q7,q8,q0],[q6,q9,q7,q8,q0,AY],[q6,q9,q7,q8,q1],[q6,q9,q7,q8,q1,q3],[q6,q9,q7,q8,q1,q3,AY],[q6,q9,q7,q8,q1,AY],[q6,q9,q7,q8,q1,AY,q3],[q6,q9,q7,q8,q2],[q6,q9,q7,q8,q2,q3],[q6,q9,q7,q8,q2,q3,AY]]
theorem aH7:∀A1∈cx,Fc A1:=Gz λsc w=>by kernel_rfl
noncomputable def cy:I (I Tx):=[[q6,q9,q7,q8,q2,AY],[q6,q9,q7,q8,q2,AY,q3],[q6,q9,q7,q8,q3],[q6,q9,q7,q8,q3,q1],[q6,q9,q7,q8,q3,q1,AY],[q6,q9,q7,q8,q3,q2],[q6,q9,q7,q8,q3,q2,AY],[q6,q9,q7,q8,q3,AY],[q6,q9,q7,q8,q3,AY,q1],[q6,q9,q7,q8,q3,AY,q2],[q6,q9,q7,q8,AY,q0],[q6,q9,q7,q8,AY,q1]]
theorem aH8:∀A1∈cy,Fc A1:=Gz λsc w=>by kernel_rfl
noncomputable def cz:I (I Tx):=[[q6,q9,q7,q8,AY,q1,q3],[q6,q9,q7,q8,AY,q2],[q6,q9,q7,q8,AY,q2,q3],[q6,q9,q7,q8,AY,q3],[q6,q9,q7,q8,AY,q3,q1],[q6,q9,q7,q8,AY,q3,q2],[q9,q7,q8,q0,q6],[q9,q7,q8,q0,q6,AY],[q9,q7,q8,q0,AY,q6],[q9,q7,q8,q1,q3,q6],[q9,q7,q8,q1,q6],[q9,q7,q8,q1,q6,q3]]
theorem aH9:∀A1∈cz,Fc A1:=Gz λsc w=>by kernel_rfl
noncomputable def d0:I (I Tx):=[[q9,q7,q8,q2,q3,q6],[q9,q7,q8,q2,q6],[q9,q7,q8,q2,q6,q3],[q9,q7,q8,q3,q1,q6],[q9,q7,q8,q3,q2,q6],[q9,q7,q8,q3,q6],[q9,q7,q8,q3,q6,q1],[q9,q7,q8,q3,q6,q2],[q9,q7,q8,q6,q0],[q9,q7,q8,q6,q0,AY],[q9,q7,q8,q6,q1],[q9,q7,q8,q6,q1,q3]]
theorem aI0:∀A1∈d0,Fc A1:=Gz λsc w=>by kernel_rfl
noncomputable def d3:I (I Tx):=[[q9,q7,q8,q6,q2],[q9,q7,q8,q6,q2,q3],[q9,q7,q8,q6,q3],[q9,q7,q8,q6,q3,q1],[q9,q7,q8,q6,q3,q2],[q9,q7,q8,q6,AY,q0],[q9,q7,q8,AY,q0,q6],[q9,q7,q8,AY,q6,q0]]
theorem aI1:∀A1∈d3,Fc A1:=Gz λsc w=>by kernel_rfl
noncomputable def Oj:I (I Tx):=cr++cu++cw++cx++cy++cz++d0++d3
theorem aI2(h:A1∈Oj):Fc A1:=(Ci (Ci (Ci (Ci (Ci (Ci (Ci aH4 aH5) aH6) aH7) aH8) aH9) aI0) aI1) A1 h
theorem aI3:((lv A6 0++lv A6 1++lv A6 2++lv A6 3).all λA1=>U5 A1 Oj)=M:=by kernel_rfl
noncomputable def d4:I (I Tx):=[[q1,q6,q9,q4,q5,q3,AY],[q1,q6,q9,q4,q5,AY,q3],[q1,q6,q9,AY,q4,q5,q3],[q1,q9,q4,q5,q3,q6,AY],[q1,q9,q4,q5,q3,AY,q6],[q1,q9,q4,q5,q6,q3,AY],[q1,q9,q4,q5,q6,AY,q3],[q1,q9,q4,q5,AY,q3,q6],[q1,q9,q4,q5,AY,q6,q3],[q1,q9,AY,q4,q5,q3,q6],[q1,q9,AY,q4,q5,q6,q3],[q3,q1,q6,q9,q4,q5,AY]]
theorem aI4:∀A1∈d4,Fc A1:=Gz λsc w=>by kernel_rfl
noncomputable def d5:I (I Tx):=[[q3,q1,q6,q9,AY,q4,q5],[q3,q1,q9,q4,q5,q6,AY],[q3,q1,q9,q4,q5,AY,q6],[q3,q1,q9,AY,q4,q5,q6],[q3,q6,q9,q4,q5,q1,AY],[q3,q6,q9,q4,q5,q2,AY],[q3,q6,q9,q4,q5,AY,q1],[q3,q6,q9,q4,q5,AY,q2],[q3,q6,q9,AY,q4,q5,q1],[q3,q6,q9,AY,q4,q5,q2],[q3,q9,q4,q5,q1,q6,AY],[q3,q9,q4,q5,q1,AY,q6]]
theorem aI5:∀A1∈d5,Fc A1:=Gz λsc w=>by kernel_rfl
noncomputable def d6:I (I Tx):=[[q3,q9,q4,q5,q2,q6,AY],[q3,q9,q4,q5,q2,AY,q6],[q3,q9,q4,q5,q6,q1,AY],[q3,q9,q4,q5,q6,q2,AY],[q3,q9,q4,q5,q6,AY,q1],[q3,q9,q4,q5,q6,AY,q2],[q3,q9,q4,q5,AY,q1,q6],[q3,q9,q4,q5,AY,q2,q6],[q3,q9,q4,q5,AY,q6,q1],[q3,q9,q4,q5,AY,q6,q2],[q3,q9,AY,q4,q5,q1,q6],[q3,q9,AY,q4,q5,q2,q6]]
theorem aI6:∀A1∈d6,Fc A1:=Gz λsc w=>by kernel_rfl
noncomputable def d7:I (I Tx):=[[q3,q9,AY,q4,q5,q6,q1],[q3,q9,AY,q4,q5,q6,q2],[q6,q9,q4,q5,q0,AY],[q6,q9,q4,q5,q1,q3,AY],[q6,q9,q4,q5,q1,AY],[q6,q9,q4,q5,q1,AY,q3],[q6,q9,q4,q5,q2,q3,AY],[q6,q9,q4,q5,q2,AY],[q6,q9,q4,q5,q2,AY,q3],[q6,q9,q4,q5,q3,q1,AY],[q6,q9,q4,q5,q3,q2,AY],[q6,q9,q4,q5,q3,AY]]
theorem aI7:∀A1∈d7,Fc A1:=Gz λsc w=>by kernel_rfl
noncomputable def d8:I (I Tx):=[[q6,q9,q4,q5,q3,AY,q1],[q6,q9,q4,q5,q3,AY,q2],[q6,q9,q4,q5,AY,q0],[q6,q9,q4,q5,AY,q1],[q6,q9,q4,q5,AY,q1,q3],[q6,q9,q4,q5,AY,q2],[q6,q9,q4,q5,AY,q2,q3],[q6,q9,q4,q5,AY,q3],[q6,q9,q4,q5,AY,q3,q1],[q6,q9,q4,q5,AY,q3,q2],[q6,q9,AY,q4,q5,q0],[q6,q9,AY,q4,q5,q1]]
theorem aI8:∀A1∈d8,Fc A1:=Gz λsc w=>by kernel_rfl
noncomputable def d9:I (I Tx):=[[q6,q9,AY,q4,q5,q1,q3],[q6,q9,AY,q4,q5,q2],[q6,q9,AY,q4,q5,q2,q3],[q6,q9,AY,q4,q5,q3],[q6,q9,AY,q4,q5,q3,q1],[q6,q9,AY,q4,q5,q3,q2],[q9,q4,q5,q0,q6,AY],[q9,q4,q5,q0,AY,q6],[q9,q4,q5,q6,q0,AY],[q9,q4,q5,q6,AY,q0],[q9,q4,q5,AY,q0,q6],[q9,q4,q5,AY,q6,q0]]
theorem aI9:∀A1∈d9,Fc A1:=Gz λsc w=>by kernel_rfl
noncomputable def dA:I (I Tx):=[[q9,AY,q4,q5,q0,q6],[q9,AY,q4,q5,q1,q3,q6],[q9,AY,q4,q5,q1,q6],[q9,AY,q4,q5,q1,q6,q3],[q9,AY,q4,q5,q2,q3,q6],[q9,AY,q4,q5,q2,q6],[q9,AY,q4,q5,q2,q6,q3],[q9,AY,q4,q5,q3,q1,q6],[q9,AY,q4,q5,q3,q2,q6],[q9,AY,q4,q5,q3,q6],[q9,AY,q4,q5,q3,q6,q1],[q9,AY,q4,q5,q3,q6,q2]]
theorem aJ0:∀A1∈dA,Fc A1:=Gz λsc w=>by kernel_rfl
noncomputable def dB:I (I Tx):=[[q9,AY,q4,q5,q6,q0],[q9,AY,q4,q5,q6,q1],[q9,AY,q4,q5,q6,q1,q3],[q9,AY,q4,q5,q6,q2],[q9,AY,q4,q5,q6,q2,q3],[q9,AY,q4,q5,q6,q3],[q9,AY,q4,q5,q6,q3,q1],[q9,AY,q4,q5,q6,q3,q2]]
theorem aJ1:∀A1∈dB,Fc A1:=Gz λsc w=>by kernel_rfl
noncomputable def Ol:I (I Tx):=d4++d5++d6++d7++d8++d9++dA++dB
theorem aJ2(h:A1∈Ol):Fc A1:=(Ci (Ci (Ci (Ci (Ci (Ci (Ci aI4 aI5) aI6) aI7) aI8) aI9) aJ0) aJ1) A1 h
theorem aJ3:((lv M 0++lv M 1++lv M 2++lv M 3).all λA1=>U5 A1 Ol)=M:=by kernel_rfl
noncomputable def Mt(k:AK)(v:V):Prop:=v=.any\/∃t,t∈Bo k/\v=.str t
theorem aJ4(k:AK):∀t∈IN,t∈Bo k:=by
 have h:(IN.all λt=>(Bo k).any (CU t))=M:=by cases k<;>kernel_rfl
 intro t m;refine AC (II.mp (Bn.mp h t m)) ?_;intro x hx e;rw[Ec.mp e];exact hx
theorem oz(k:AK):∀t∈ci k,t∈Bo k:=by
 have h:((ci k).all λt=>(Bo k).any (CU t))=M:=by cases k<;>kernel_rfl
 intro t m;refine AC (II.mp (Bn.mp h t m)) ?_;intro x hx e;rw[Ec.mp e];exact hx
theorem dC{k:AK}:∀{A1 l:I Tx}(p:Tx),(∀t∈l,t∈Bo k)->Mt k (Qq A1 l p)
 |[],_,_,_=>.inl rfl|_::_,[],_,_=>.inl rfl|q::A1,t::l,p,h=>by
  unfold Qq;split;. exact .inr ⟨t,h t (Co ..),rfl⟩
  . exact dC p λx m=>h x (Cp _ m)
structure Tr.Ok(T:Tr):Prop where
 w0:∀p,Mt A6 (T.w0 p)w1:∀p,Mt M (T.w1 p)
theorem pA{k:AK}{w:Tx->V}{p:Tx}(h:∀p,Mt k (w p)):∀q,Mt k (KQ w p .any q):=λq=>by
 unfold KQ;split;. exact .inl rfl
 . exact h q
theorem aJ5:T0.Ok:=⟨λp=>dC p (oz A6),λp=>dC p (oz M)⟩
theorem Tr.Ok.turn{T:Tr}(h:T.Ok)(r:O):(T.turn r).Ok:=by
 unfold Tr.turn;split;. exact⟨pA h.w0,h.w1⟩
 . exact⟨h.w0,pA h.w1⟩
theorem pB:∀(l:I O){T:Tr},T.Ok->(l.foldl Tr.turn T).Ok
 |[],_,h=>h|r::l,_,h=>pB l (h.turn r)
noncomputable def LU:I Tx->AK
 |[]=>M|x::l=>!l.any (CU x)&&LU l
theorem Mu:∀{l:I Tx},LU l=M->l.Nodup
 |[],_=>by simp|x::l,h=>by
  simp only[LU,D6,PT,Y9]at h;exact EU.mpr ⟨λm=>h.1 x m (Ec.mpr rfl),Mu h.2⟩
theorem pC(k:AK):((lv k 0++lv k 1++lv k 2++lv k 3).all LU)=M:=by cases k<;>kernel_rfl
theorem XC{k:AK}{a:O}(ha:a<=3)(h:A1∈lv k a):A1∈lv k 0++lv k 1++lv k 2++lv k 3:=by
 by_cases h2:a<=2;. exact bG3 _ (cp h2 h)
 . obtain rfl:a=3:=by(with_reducible exact Mine.yG (by assumption) (by assumption))
   exact Pj _ h
noncomputable abbrev CB(k:AK):Type:=Tx->{t:Tx//t∈Bo k}
noncomputable def Ay{k:AK}(AO:CB k)(p:Tx):V:=.sym k (AO p).1 (AO p).2
section
variable{k:AK}
theorem aJ6(hw:Mt k v)(r:VR h C v u):∃t,∃hm:t∈Bo k,VR h C (.sym k t hm) u:=by
 rcases hw with rfl|Aw;rotate_left;refine AC Aw ?_;(try clear Aw);intro t hm Bg;subst Bg;rotate_left
 . refine EX r ?_;(try clear r);intro t tk e hm;exact⟨t,aJ4 k t hm,tk,e⟩
 . exact⟨t,hm,r⟩
theorem aJ7(k:AK):[]∈Bo k:=by cases k<;>exact Co ..
theorem dD{key:T->V}{w:Tx->V}(hw:∀p,Mt k (w p)):∀{A1:I Tx}{l:I (T×A4)},A1.Nodup->DR key h C (BM w A1) l->∃AO:CB k,DR key h C (BM (Ay AO) A1) l
 |[],_,_,e=>⟨λ_=>⟨[],aJ7 k⟩,e⟩|p::A1,_,nd,⟨k',u,r,e,a,b,c⟩=>by
  refine xE (dD hw (EU.mp nd).2 c) ?_;intro AO d;obtain⟨t,hm,b'⟩:=aJ6 (hw p) b;refine⟨λq=>if q=p then⟨t,hm⟩else AO q,k',u,r,e,a,?_,?_⟩
  . show VR h C (Ay (k:=k) (λq=>if q=p then⟨t,hm⟩else AO q) p) u;simp only[Ay,Km];exact b'
  . have :BM (Ay λq=>if q=p then(⟨t,hm⟩:{t:Tx//t∈Bo k})else AO q) A1=BM (Ay AO) A1:=by
     refine Yc λq hq=>?_;have Cc:q≠p:=λz=>(EU.mp nd).1 (z▸hq);simp only[Ay,CS Cc]
    show DR key h C (BM _ A1) r;rw[this];exact d
theorem Gd.KU(g:Gd B F K A H C s)(hi:AL H.h i=G o)(ho:∀a,C[i]?=G a->Ca B.prog B.w s.heap C a o->Ca B.prog B.w s.heap C a o'):Gd B F K A (H.set i o') C s:=⟨g.kinds,g.len,g.nodup,g.fresh,g.live,g.D5,g.D1,λj p e=>by
 rcases aK e with B6|BJ;refine xA B6 ?_;(try clear B6);intro Bu C9;subst Bu;subst C9;rotate_left;refine xA BJ ?_;(try clear BJ);intro _ e;rotate_left;. refine AC (g.objs _ _ hi) ?_;intro a ha r;exact⟨a,ha,ho a ha r⟩
 . exact g.objs j p e,g.env,g.base,g.os,g.gens,g.frames,g.DT,g.Cy,g.mods,g.handled,g.depth,g.units⟩
theorem Gd.syms(g:Gd B F K A H C s){w:Tx->V}(hi:AL H.h i=G (.dict (BM w A1)))(nd:A1.Nodup)(hw:∀p,Mt k (w p)):∃AO:CB k,Gd B F K A (H.set i (.dict (BM (Ay AO) A1))) C s:=by
 refine AC (g.objs i _ hi) ?_;intro a ha r;have key:∃AO:CB k,Dn B.prog B.w s.heap C a (BM (Ay AO) A1):=by
  rcases r with BP|Bq;refine AC BP ?_;(try clear BP);intro Az d r;rotate_left;refine AC Bq ?_;(try clear Bq);intro Az d r;rotate_left;. refine xE (dD hw nd r) ?_;(try clear r);intro AO r;exact⟨AO,.inl ⟨Az,d,r⟩⟩
  . refine xE (dD hw nd r) ?_;(try clear r);intro AO r;exact⟨AO,.inr ⟨Az,d,r⟩⟩
 refine xE key ?_;(try clear key);intro AO q;refine⟨AO,g.KU hi λa' Fq _=>?_⟩;rw[ha]at Fq;injection Fq with Fq;subst Fq;exact q
end
noncomputable def U6(p:Tx)(l:I Tx):AK:=l.any (CU p)
theorem XD{p:Tx}(h:U6 p l=M):p∈l:=AC (II.mp h) λ_ m e=>Ec.mp e▸m
noncomputable def keyLt(a b:V):AK:=vStr a A6 λx=>vStr b A6 λy=>EZ x y
noncomputable def XE(e:V×V):I (V×V)->I (V×V)
 |[]=>[e]|x::l=>bC (keyLt e.1 x.1) (e::x::l) (x::XE e l)
noncomputable def XG:I (V×V)->I (V×V)
 |[]=>[]|e::l=>XE e (XG l)
theorem aJ8{e:V×V}{l:I (V×V)}:(XE e l).Perm (e::l):=by induction l with
 |nil=>exact .refl _|cons x l ih=>
 refine(?_:(bC (keyLt e.1 x.1) (e::x::l) (x::XE e l)).Perm _);cases keyLt e.1 x.1 with
 |true=>exact .refl _|false=>exact(ih.cons x).trans (.swap ..)
theorem aJ9{l:I (V×V)}:(XG l).Perm l:=by induction l with
 |nil=>exact .refl _|cons e l ih=>exact aJ8.trans (ih.cons e)
noncomputable def XH(h:I (O×Ob)):O->V->AD (I O)
 |0,_=>L|n+1,v=>DQ v (G []) λi=>B' (AL h i) λo=>FV o L λN=>B' ((XG N).foldr (λe r=>B' (XH h n e.2) λa=>B' r λb=>G (a++b)) (G [])) λl=>G (i::l)
theorem aK0{h:I (O×Ob)}(e:XH h n (.ref i)=G B7):B7[0]?=G i:=by cases n with
 |zero=>exact(BE e).elim|succ n=>
 refine BI (show B' (AL h i) _=G B7 from e) λo _ e=>?_;apply JD e AF;intro N e;exact BI e λl _ e=>Bm e▸rfl
noncomputable def XI:I O->O->AD O
 |[],_=>L|a::l,i=>bC (BC a i) (G 0) (B' (XI l i) λk=>G (k+1))
theorem aK1{l:I O}:∀{k:O},XI l i=G k->l[k]?=G i:=by induction l with
 |nil=>exactλh=>(AF h).elim|cons a l ih=>
 intro k h;refine Eb (show bC (BC a i) (G 0) (B' (XI l i) λk=>G (k+1))=G k from h) (λe h=>?_) λ_ h=>BI h λk' hk h=>?_;. rw[<-Bm h,CD e];rfl
 . rw[<-Bm h];exact ih hk
noncomputable def dE(B7:I O)(v:V):AD V:=DQ v (bT (Vo v) L (G v)) λi=>B' (XI B7 i) λk=>G (.ref k)
theorem aK2(h:Vo v=M):E7 BA v=v:=by cases v<;>first|rfl|exact(B0 h).elim
theorem aK3(h:dE B7 v=G v'):E7 (DJ n B7) v'=v:=by
 apply Vf h
 . intro i h;refine BI h λk hk h=>?_;rw[<-Bm h];refine congrArg V.ref ?_;unfold DJ;rw[aK1 hk]
 . intro h;exact Ce h AF λq h=>Bm h▸aK2 q
noncomputable def dF(B7:I O):I (V×V)->AD (I (V×V))
 |[]=>G []|e::l=>B' (dE B7 e.2) λv=>B' (dF B7 l) λm=>G ((e.1,v)::m)
theorem aK4{l:I (V×V)}:∀{m:I (V×V)},dF B7 l=G m->m.map (JU (DJ n B7))=l:=by induction l with
 |nil=>exactλh=>Bm h▸rfl|cons e l ih=>
 intro m h;refine BI (show B' (dE B7 e.2) _=G m from h) λv hv h=>BI h λr hm h=>?_;rw[<-Bm h,J3,ih hm];exact congrArg (·::l) (NQ rfl (aK3 hv))
noncomputable def XJ(h:I (O×Ob))(B7:I O):I O->O->AD (I (O×Ob))
 |[],_=>G []|i::l,j=>B' (AL h i) λo=>FV o L λN=>B' (dF B7 (XG N)) λm=>B' (XJ h B7 l (j+1)) λr=>G ((j,.B3 m)::r)
noncomputable def pE(o:A0):AD (I O×I (O×Ob)):=K3 o L λv H=>DQ v L λi=>B' (XH H.h 20 (.ref i)) λB7=>B' (XJ H.h B7 B7 0) λBF=>G (B7,BF)
theorem pF{o:A0}{p:I O×I (O×Ob)}(e:pE o=G p){P:Prop}(c:∀i H,o=.ok (.v (.ref i)) H->XH H.h 20 (.ref i)=G p.1->XJ H.h p.1 p.1 0=G p.2->P):P:=by
 apply W3 e AF;intro v H ho e;revert ho;apply EI e AF;intro i e ho;refine BI e λB7 h1 e=>BI e λBF h2 e=>?_;exact c i H ho (Bm e▸h1) (Bm e▸h2)
theorem pG{h:I (O×Ob)}{l:I O}:∀{j:O}{BF:I (O×Ob)},XJ h B7 l j=G BF->BF.length=l.length/\(∀i∈l,∃N,AL h i=G (.dict N))/\∀j' o,AL BF j'=G o->∃k i N BN,j'=j+k/\l[k]?=G i/\AL h i=G (.dict BN)/\o=.B3 N/\∀n,BN.Perm (N.map (JU (DJ n B7))):=by induction l with
 |nil=>exactλe=>Bm e▸⟨rfl,λ_ m=>(nomatch m),λ_ _ q=>(AF q).elim⟩|cons i l ih=>
 intro j BF e;refine BI (show B' (AL h i) _=G BF from e) λob hi e=>?_;revert hi;apply JD e AF;intro N e hi;refine BI e λm hm e=>BI e λr hr e=>?_;rw[<-Bm e];have z:=ih hr;refine⟨congrArg (·+1) z.1,λi' m=>(Cj.mp m).elim (λe=>⟨N,e▸hi⟩) (z.2.1 i'),λj' o q=>?_⟩;refine aD (P:=λj' o=>∃k i' N BN,j'=j+k/\(i::l)[k]?=G i'/\AL h i'=G (.dict BN)/\o=.B3 N/\∀n,BN.Perm (N.map (JU (DJ n B7)))) q ?_ λ_ q=>?_;. exact⟨0,i,m,N,rfl,rfl,hi,rfl,λn=>by rw[aK4 hm];exact aJ9.symm⟩
 . refine VS (z.2.2 j' o q) ?_;intro k i' F4 es2 e1 e2 e3 e4 e5;exact⟨k+1,i',F4,es2,by rw[e1,NO,Ll 1 k],e2,e3,e4,e5⟩
noncomputable def grown(sc:BU)(k:AK)(AO:CB k)(A1:I Tx):A0:=ev CQ 100 ⟨sc,8⟩ (.call (.top (.ref 411)) [.ref 0]) ⟨[],[(0,.dict (BM (Ay AO) A1))],1⟩
noncomputable def dG:I O->AK
 |[]=>M|x::l=>!l.any (BC x)&&dG l
noncomputable def Et(sc:BU)(k:AK)(AO:CB k)(A1:I Tx):AD (I (O×Ob)):=B' (pE (grown sc k AO A1)) λp=>bT (dG p.1&&p.1.all (EQ 1)) L (G p.2)
noncomputable def U7(A1 Av:I Tx):AK:=A1.all (λp=>U6 p Av)&&Av.all (λp=>U6 p A1)
noncomputable def CC(A1:I Tx):I (I Tx)->O
 |[]=>0|Av::l=>match U7 A1 Av with|true=>0|false=>CC A1 l+1
noncomputable def DY:I (I Tx):=[[q0,q6,q7,q8,q9],[q0,q6,q7,q8,q9,AY],[q1,q3,q6,q7,q8,q9],[q1,q3,q6,q7,q8,q9,AY],[q1,q6,q7,q8,q9],[q1,q6,q7,q8,q9,AY],[q2,q3,q6,q7,q8,q9],[q2,q3,q6,q7,q8,q9,AY],[q2,q6,q7,q8,q9],[q2,q6,q7,q8,q9,AY],[q3,q6,q7,q8,q9],[q3,q6,q7,q8,q9,AY]]
noncomputable def F5:O->CB A6->I (O×Ob)
 |0,AO=>[(0,.B3 [(.str [97],Ay AO q0),(.str [104],Ay AO q6),(.str [107],.ref 1),(.str [109],Ay AO q9)]),(1,.B3 [(.str [112],Ay AO q7),(.str [113],Ay AO q8)])]|1,AO=>[(0,.B3 [(.str [97],Ay AO q0),(.str [104],Ay AO q6),(.str [107],.ref 1),(.str [109],Ay AO q9),(.str [110],.ref 2)]),(1,.B3 [(.str [112],Ay AO q7),(.str [113],Ay AO q8)]),(2,.B3 [(.str [107],Ay AO AY)])]|2,AO=>[(0,.B3 [(.str [97],.ref 1),(.str [104],Ay AO q6),(.str [107],.ref 2),(.str [109],Ay AO q9)]),(1,.B3 [(.str [98],Ay AO q1),(.str [102],Ay AO q3)]),(2,.B3 [(.str [112],Ay AO q7),(.str [113],Ay AO q8)])]|3,AO=>[(0,.B3 [(.str [97],.ref 1),(.str [104],Ay AO q6),(.str [107],.ref 2),(.str [109],Ay AO q9),(.str [110],.ref 3)]),(1,.B3 [(.str [98],Ay AO q1),(.str [102],Ay AO q3)]),(2,.B3 [(.str [112],Ay AO q7),(.str [113],Ay AO q8)]),(3,.B3 [(.str [107],Ay AO AY)])]|4,AO=>[(0,.B3 [(.str [97],.ref 1),(.str [104],Ay AO q6),(.str [107],.ref 2),(.str [109],Ay AO q9)]),(1,.B3 [(.str [98],Ay AO q1)]),(2,.B3 [(.str [112],Ay AO q7),(.str [113],Ay AO q8)])]|5,AO=>[(0,.B3 [(.str [97],.ref 1),(.str [104],Ay AO q6),(.str [107],.ref 2),(.str [109],Ay AO q9),(.str [110],.ref 3)]),(1,.B3 [(.str [98],Ay AO q1)]),(2,.B3 [(.str [112],Ay AO q7),(.str [113],Ay AO q8)]),(3,.B3 [(.str [107],Ay AO AY)])]|6,AO=>[(0,.B3 [(.str [97],.ref 1),(.str [104],Ay AO q6),(.str [107],.ref 3),(.str [109],Ay AO q9)]),(1,.B3 [(.str [98],.ref 2),(.str [102],Ay AO q3)]),(2,.B3 [(.str [103],Ay AO q2)]),(3,.B3 [(.str [112],Ay AO q7),(.str [113],Ay AO q8)])]|7,AO=>[(0,.B3 [(.str [97],.ref 1),(.str [104],Ay AO q6),(.str [107],.ref 3),(.str [109],Ay AO q9),(.str [110],.ref 4)]),(1,.B3 [(.str [98],.ref 2),(.str [102],Ay AO q3)]),(2,.B3 [(.str [103],Ay AO q2)]),(3,.B3 [(.str [112],Ay AO q7),(.str [113],Ay AO q8)]),(4,.B3 [(.str [107],Ay AO AY)])]|8,AO=>[(0,.B3 [(.str [97],.ref 1),(.str [104],Ay AO q6),(.str [107],.ref 3),(.str [109],Ay AO q9)]),(1,.B3 [(.str [98],.ref 2)]),(2,.B3 [(.str [103],Ay AO q2)]),(3,.B3 [(.str [112],Ay AO q7),(.str [113],Ay AO q8)])]|9,AO=>[(0,.B3 [(.str [97],.ref 1),(.str [104],Ay AO q6),(.str [107],.ref 3),(.str [109],Ay AO q9),(.str [110],.ref 4)]),(1,.B3 [(.str [98],.ref 2)]),(2,.B3 [(.str [103],Ay AO q2)]),(3,.B3 [(.str [112],Ay AO q7),(.str [113],Ay AO q8)]),(4,.B3 [(.str [107],Ay AO AY)])]|10,AO=>[(0,.B3 [(.str [97],.ref 1),(.str [104],Ay AO q6),(.str [107],.ref 2),(.str [109],Ay AO q9)]),(1,.B3 [(.str [102],Ay AO q3)]),(2,.B3 [(.str [112],Ay AO q7),(.str [113],Ay AO q8)])]|_,AO=>[(0,.B3 [(.str [97],.ref 1),(.str [104],Ay AO q6),(.str [107],.ref 2),(.str [109],Ay AO q9),(.str [110],.ref 3)]),(1,.B3 [(.str [102],Ay AO q3)]),(2,.B3 [(.str [112],Ay AO q7),(.str [113],Ay AO q8)]),(3,.B3 [(.str [107],Ay AO AY)])]
theorem H'{k:AK}{f:I Tx->CB k->I (O×Ob)}{l:I (I Tx)}(h:∀(sc:BU)(AO:CB k),l.map (Et sc k AO)=l.map λA1=>G (f A1 AO)):∀A1∈l,∀(sc:BU)(AO:CB k),Et sc k AO A1=G (f A1 AO):=λA1 m sc AO=>H5.mp (h sc AO) A1 m
theorem aK5:∀A1∈cr,∀(sc:BU)(AO:CB A6),Et sc A6 AO A1=G (F5 (CC A1 DY) AO):=H' (f:=λA1=>F5 (CC A1 DY)) λsc AO=>by kernel_rfl
theorem aK6:∀A1∈cu,∀(sc:BU)(AO:CB A6),Et sc A6 AO A1=G (F5 (CC A1 DY) AO):=H' (f:=λA1=>F5 (CC A1 DY)) λsc AO=>by kernel_rfl
theorem aK7:∀A1∈cw,∀(sc:BU)(AO:CB A6),Et sc A6 AO A1=G (F5 (CC A1 DY) AO):=H' (f:=λA1=>F5 (CC A1 DY)) λsc AO=>by kernel_rfl
theorem aK8:∀A1∈cx,∀(sc:BU)(AO:CB A6),Et sc A6 AO A1=G (F5 (CC A1 DY) AO):=H' (f:=λA1=>F5 (CC A1 DY)) λsc AO=>by kernel_rfl
theorem aK9:∀A1∈cy,∀(sc:BU)(AO:CB A6),Et sc A6 AO A1=G (F5 (CC A1 DY) AO):=H' (f:=λA1=>F5 (CC A1 DY)) λsc AO=>by kernel_rfl
theorem aL0:∀A1∈cz,∀(sc:BU)(AO:CB A6),Et sc A6 AO A1=G (F5 (CC A1 DY) AO):=H' (f:=λA1=>F5 (CC A1 DY)) λsc AO=>by kernel_rfl
theorem aL1:∀A1∈d0,∀(sc:BU)(AO:CB A6),Et sc A6 AO A1=G (F5 (CC A1 DY) AO):=H' (f:=λA1=>F5 (CC A1 DY)) λsc AO=>by kernel_rfl
theorem aL2:∀A1∈d3,∀(sc:BU)(AO:CB A6),Et sc A6 AO A1=G (F5 (CC A1 DY) AO):=H' (f:=λA1=>F5 (CC A1 DY)) λsc AO=>by kernel_rfl
theorem aL3(h:A1∈Oj):∀(sc:BU)(AO:CB A6),Et sc A6 AO A1=G (F5 (CC A1 DY) AO):=(Ci (Ci (Ci (Ci (Ci (Ci (Ci aK5 aK6) aK7) aK8) aK9) aL0) aL1) aL2) A1 h
noncomputable def DZ:I (I Tx):=[[q0,q4,q5,q6,q9,AY],[q1,q3,q4,q5,q6,q9,AY],[q1,q4,q5,q6,q9,AY],[q2,q3,q4,q5,q6,q9,AY],[q2,q4,q5,q6,q9,AY],[q3,q4,q5,q6,q9,AY]]
noncomputable def F6:O->CB M->I (O×Ob)
 |0,AO=>[(0,.B3 [(.str [97],Ay AO q0),(.str [103],.ref 1),(.str [104],Ay AO q6),(.str [109],Ay AO q9),(.str [110],.ref 2)]),(1,.B3 [(.str [112],Ay AO q4),(.str [113],Ay AO q5)]),(2,.B3 [(.str [107],Ay AO AY)])]|1,AO=>[(0,.B3 [(.str [97],.ref 1),(.str [103],.ref 2),(.str [104],Ay AO q6),(.str [109],Ay AO q9),(.str [110],.ref 3)]),(1,.B3 [(.str [98],Ay AO q1),(.str [102],Ay AO q3)]),(2,.B3 [(.str [112],Ay AO q4),(.str [113],Ay AO q5)]),(3,.B3 [(.str [107],Ay AO AY)])]|2,AO=>[(0,.B3 [(.str [97],.ref 1),(.str [103],.ref 2),(.str [104],Ay AO q6),(.str [109],Ay AO q9),(.str [110],.ref 3)]),(1,.B3 [(.str [98],Ay AO q1)]),(2,.B3 [(.str [112],Ay AO q4),(.str [113],Ay AO q5)]),(3,.B3 [(.str [107],Ay AO AY)])]|3,AO=>[(0,.B3 [(.str [97],.ref 1),(.str [103],.ref 3),(.str [104],Ay AO q6),(.str [109],Ay AO q9),(.str [110],.ref 4)]),(1,.B3 [(.str [98],.ref 2),(.str [102],Ay AO q3)]),(2,.B3 [(.str [103],Ay AO q2)]),(3,.B3 [(.str [112],Ay AO q4),(.str [113],Ay AO q5)]),(4,.B3 [(.str [107],Ay AO AY)])]|4,AO=>[(0,.B3 [(.str [97],.ref 1),(.str [103],.ref 3),(.str [104],Ay AO q6),(.str [109],Ay AO q9),(.str [110],.ref 4)]),(1,.B3 [(.str [98],.ref 2)]),(2,.B3 [(.str [103],Ay AO q2)]),(3,.B3 [(.str [112],Ay AO q4),(.str [113],Ay AO q5)]),(4,.B3 [(.str [107],Ay AO AY)])]|_,AO=>[(0,.B3 [(.str [97],.ref 1),(.str [103],.ref 2),(.str [104],Ay AO q6),(.str [109],Ay AO q9),(.str [110],.ref 3)]),(1,.B3 [(.str [102],Ay AO q3)]),(2,.B3 [(.str [112],Ay AO q4),(.str [113],Ay AO q5)]),(3,.B3 [(.str [107],Ay AO AY)])]
theorem aL4:∀A1∈d4,∀(sc:BU)(AO:CB M),Et sc M AO A1=G (F6 (CC A1 DZ) AO):=H' (f:=λA1=>F6 (CC A1 DZ)) λsc AO=>by kernel_rfl
theorem aL5:∀A1∈d5,∀(sc:BU)(AO:CB M),Et sc M AO A1=G (F6 (CC A1 DZ) AO):=H' (f:=λA1=>F6 (CC A1 DZ)) λsc AO=>by kernel_rfl
theorem aL6:∀A1∈d6,∀(sc:BU)(AO:CB M),Et sc M AO A1=G (F6 (CC A1 DZ) AO):=H' (f:=λA1=>F6 (CC A1 DZ)) λsc AO=>by kernel_rfl
theorem aL7:∀A1∈d7,∀(sc:BU)(AO:CB M),Et sc M AO A1=G (F6 (CC A1 DZ) AO):=H' (f:=λA1=>F6 (CC A1 DZ)) λsc AO=>by kernel_rfl
theorem aL8:∀A1∈d8,∀(sc:BU)(AO:CB M),Et sc M AO A1=G (F6 (CC A1 DZ) AO):=H' (f:=λA1=>F6 (CC A1 DZ)) λsc AO=>by kernel_rfl
theorem aL9:∀A1∈d9,∀(sc:BU)(AO:CB M),Et sc M AO A1=G (F6 (CC A1 DZ) AO):=H' (f:=λA1=>F6 (CC A1 DZ)) λsc AO=>by kernel_rfl
theorem aM0:∀A1∈dA,∀(sc:BU)(AO:CB M),Et sc M AO A1=G (F6 (CC A1 DZ) AO):=H' (f:=λA1=>F6 (CC A1 DZ)) λsc AO=>by kernel_rfl
theorem aM1:∀A1∈dB,∀(sc:BU)(AO:CB M),Et sc M AO A1=G (F6 (CC A1 DZ) AO):=H' (f:=λA1=>F6 (CC A1 DZ)) λsc AO=>by kernel_rfl
theorem aM2(h:A1∈Ol):∀(sc:BU)(AO:CB M),Et sc M AO A1=G (F6 (CC A1 DZ) AO):=(Ci (Ci (Ci (Ci (Ci (Ci (Ci aL4 aL5) aL6) aL7) aL8) aL9) aM0) aM1) A1 h
@[irreducible]noncomputable def Eu:As:=Ba 30
@[irreducible]noncomputable def Iw(k:O):As:=(Fj Eu)[k]?.getD (.Pass ⟨0,0,0,0⟩)
@[irreducible]noncomputable def dH:AA:=G4 (Iw 1) (.Constant .none 0 ⟨0,0,0,0⟩) λt _ _ _ _=>t
@[irreducible]noncomputable def XK:AA:=G4 (Iw 1) (.Constant .none 0 ⟨0,0,0,0⟩) λ_ t _ _ _=>t
@[irreducible]noncomputable def KV:I As:=G4 (Iw 1) [] λ_ _ b _ _=>b
@[irreducible]noncomputable def aM3:B9:=G4 (Iw 1) ⟨0,0,0,0⟩ λ_ _ _ _ p=>p
noncomputable def Mv:U:=⟨⟨[116,114,101,101]⟩⟩
noncomputable def Ha:U:=⟨⟨[112,108,97,99,101]⟩⟩
noncomputable def Hb:U:=⟨⟨[105,110,110,101,114]⟩⟩
noncomputable def Mw:U:=⟨⟨[112,97,116,104]⟩⟩
noncomputable def dI:Tx->Tx
 |[]=>[]|c::l=>match BC c 47 with|true=>[]|false=>c::dI l
noncomputable def Qr(q p:Tx):AD Tx:=match q with
 |[47]=>G (dI (p.drop 1))|q=>match K1 (q++[47]) p with|true=>G (dI (p.drop (q.length+1)))|false=>L
noncomputable def Om(r:O)(Y:I Sg)(N:I (V×V))(q p:Tx):Mine.St:=⟨[(Mv,.ref 1),(Ha,.str q),(Hb,.ref 0),(Mw,.str p)],[(0,.rows r Y),(1,.dict N)],2⟩
noncomputable def XM(r:O)(Y:I Sg)(N:I (V×V))(q p:Tx):Mine.St:=match Qr q p with
 |some t=>Om r (Y++[.tx t]) N q [47]|none=>Om (r+1) Y N q [47]
noncomputable def pH(q p:Tx):Prop:=∀(r:O)(Y:I Sg)(N:I (V×V)),ev CQ 60 ⟨BV Eu,6⟩ (.ss KV) (Om (r+1) Y N q p)=.ok (.f .next) (XM r Y N q p)
noncomputable def KW:I Tx:=[q0,q1,q2,q3,q4,q5,q6,q7,q8,q9,AY]
noncomputable def KX:I Tx:=[[47],[47,97],[47,97,47,98],[47,107],[47,110],[47,103]]
theorem in_tab:∀q∈KX,∀p∈KW,pH q p:=λq m p m' r Y N=>H5.mp (H5.mp (show KX.map (λq=>KW.map λp=>ev CQ 60 ⟨BV Eu,6⟩ (.ss KV) (Om (r+1) Y N q p))=KX.map (λq=>KW.map λp=>.ok (.f .next) (XM r Y N q p))by kernel_rfl) q m) p m'
theorem aM4{p:Tx}(hq:q∈KX)(hp:p∈KW):pH q p:=in_tab q hq p hp
noncomputable def LV(r:O)(Y:I Sg)(N:I (V×V))(q:Tx):Mine.St:=⟨[(Mv,.ref 0),(Ha,.str q),(Hb,.ref 1)],[(1,.rows r Y),(0,.dict N)],2⟩
noncomputable def On(r:O)(Y:I Sg)(N:I (V×V))(q p:Tx):Mine.St:=⟨[(Mv,.ref 0),(Ha,.str q),(Hb,.ref 1),(Mw,.str p)],[(1,.rows r Y),(0,.dict N)],2⟩
theorem aM5(d r:O)(Y:I Sg)(N:I (V×V))(q p:Tx):ev CQ 60 ⟨BV Eu,d⟩ (.asg dH (.str p)) (LV r Y N q)=.ok (.f .next) (On r Y N q p):=by kernel_rfl
noncomputable def E9(q:Tx)(l:I Tx):I Tx:=l.filterMap (Qr q)
section
variable{J:I A8}
theorem Gd.drop{env:I (U×V)}{h:I (O×Ob)}(g:Gd B F K A ⟨env,h,n⟩ C s)(hs:∀x v,Ah K6 x=G v->Ah env x=G v):Gd B F K A ⟨K6,h,n⟩ C s:=⟨g.kinds,g.len,g.nodup,g.fresh,g.live,g.D5,g.D1,g.objs,by
 refine CZ g.env ?_;intro m ns ce r;exact⟨m,ns,ce,λx v e=>r x v (hs x v e)⟩,g.base,g.os,g.gens,g.frames,g.DT,g.Cy,g.mods,g.handled,g.depth,g.units⟩
theorem aM6(AV:(Bb P).In B.base)(AM:Dg B)(hd:6<=d){p:Tx}(hq:q∈KX)(hp:p∈KW){Y:I Sg}(hc:∀e∈N,Cl e.2)(g:Gd B F ⟨BV Eu,d⟩ A (On (r+1) Y N q p) C s):CJ B F ⟨BV Eu,d⟩ A (match Qr q p with|some t=>On r (Y++[.tx t]) N q [47]|none=>On (r+1) Y N q [47]) C s (J2 KV F.env) (FR .next):=by
 have A9:=(all1 AV AM 60).s;have run:=aM4 hq hp r Y N;have Es:∀j,(C' C [1,0])[j]?=C[DJ 2 [1,0] j]?:=λj=>by
   have :=GI (J:=[]) (n:=2) g.len (B7:=[1,0]) (by decide) j;rw[HN,HN]at this;exact this
 refine aE8 (K:=⟨BV Eu,d⟩) (d:=6) (DI:=Om (r+1) Y N q p) (AB:=XM r Y N q p) (B7:=[1,0]) (λ{h C u}e Q AT=>e) (λg'=>A9.ss run g') hd g ⟨rfl,by decide,by show∀i∈_,i<2;decide,λj o e=>?_⟩ (Cf.pick Es g.env λx v e=>?_) ?_;. match j,e with
 |0,e=>injection e with e;subst e;exact⟨1,rfl,rfl⟩|1,e=>injection e with e;subst e;exact⟨0,rfl,by show G (Ob.dict N)=G (Ob.dict (N.map _));rw[KR hc]⟩|j+2,e=>exact(BE e).elim
 . exact T9 (f:=E7 _) (by rfl) e
 . have fin:∀(r':O)(ys:I Sg),cc (On (r+1) Y N q p) (Om (r+1) Y N q p) (Om r' ys N q [47]) (On r' ys N q [47]) [1,0]:=λr' ys=>by
    refine⟨rfl,DF _,rfl,λi o e=>?_⟩;match i,e with
 |0,e=>injection e with e;subst e;exact .inl ⟨1,_,rfl,rfl,by show Ob.dict N=Ob.dict (N.map _);rw[KR hc]⟩|1,e=>injection e with e;subst e;exact .inl ⟨0,_,rfl,rfl,rfl⟩|i+2,e=>exact(BE e).elim
   unfold XM;cases Qr q p with
 |some t=>exact fin _ _|none=>exact fin _ _
theorem aM7(AV:(Bb P).In B.base)(AM:Dg B)(hd:6<=d)(hq:q∈KX)(hc:∀e∈N,Cl e.2){AS:Dt->AR->Prop}(hI:Af.get? AE=L)(post:I Tx):∀(pre:I Tx)(r:O)(Y:I Sg){C:I A8}{s:AR},(∀p∈post,p∈KW)->post.length<=r->N.map (·.1)=(pre++post).map .str->Gd B F ⟨BV Eu,d⟩ A (LV r Y N q) C s->Nx F.D F.AZ Af s.heap BG C->CM B F C s.heap AE->E6 s.heap C (.keys 0 N.length) pre.length AE->(∀r' AT s',Gd B F ⟨BV Eu,d⟩ A (LV r' (Y++(E9 q post).map .tx) N q) AT s'->Nx F.D F.AZ Af s'.heap BG AT->AS (.ok .next) s')->D7 (AQ B.prog B.w) A (.forLoop dH (.ref AE) KV [] F.env) AS s:=by induction post with
 |nil=>
  intro pre r Y C s _ _ U8 g Cq fr it k;have hn:(Gq N pre.length).map (·.1)=L:=by rw[HX,<-VH,U8];simp
  have AP:IU (.keys 0 N.length) pre.length (LV r Y N q).h=G L:=by
   show bT (BC N.length N.length) L (G ((Gq N pre.length).map (·.1)))=_;rw[J1,hn];rfl
  refine MX (K8 g fr it AP (λx hx=>by exact(BE hx).elim) λhx Q tk AN DU=>?_);refine k r C _ ?_ (Cq.F2 DU hI);simpa[E9]using AN|cons p post ih=>
  intro pre r Y C s hp hr U8 g Cq fr it k;have hn:(Gq N pre.length).map (·.1)=G (.str p):=by rw[HX,<-VH,U8];simp
  have AP:IU (.keys 0 N.length) pre.length (LV r Y N q).h=G (G (.str p)):=by
   show bT (BC N.length N.length) L (G ((Gq N pre.length).map (·.1)))=_;rw[J1,hn];rfl
  have A9:=(all1 AV AM 60).s;obtain⟨r,rfl⟩:∃r',r=r'+1:=⟨r-1,by simp at hr;(with_reducible exact Mine.yH (by assumption))⟩;refine MX (K8 g fr it AP (λx hx u Q tk AN DU Eo Aq Hx=>?_) λhx=>by(exfalso;cases hx));injection hx with hx;subst hx;have L8:=Cq.F2 DU hI;refine QM Aq (A9.asg (aM5 d _ _ _ _ p) AN Hx _ _ λ_ Au Ai AU Al _=>aM6 AV AM hd hq (hp p (Co ..)) hc AU _ _ λMY BS Ax Ap B8 BQ=>?_);cases BQ;have xx:=Al.trans B8;have EF:=Eo.nx xx;have Gu:=Aq.nx xx Eo.C Eo.w;have Ep:=L8.trans xx;have e:pre++p::post=(pre++[p])++post:=by simp
  have drop:∀{r':O}{ys:I Sg}{a:I A8}{s:AR},Gd B F ⟨BV Eu,d⟩ A (On r' ys N q [47]) a s->Gd B F ⟨BV Eu,d⟩ A (LV r' ys N q) a s:=λg=>g.drop λx v e=>T9 (f:=id) (by rfl) e;have HY:E6 Ax.heap BS (.keys 0 N.length) (pre++[p]).length AE:=by rw[FD];exact Gu
  cases J_:Qr q p with
 |some t=>
   rw[J_]at Ap;refine ih (pre++[p]) r (Y++[.tx t]) (λq m=>hp q (Cp _ m)) (by simp at hr;(with_reducible assumption)) (by rw[<-e];exact U8) (drop Ap) Ep EF HY λr' AT s' g' x'=>k r' AT s' ?_ x';simpa[E9,J_]using g'|none=>
   rw[J_]at Ap;refine ih (pre++[p]) (r+1) Y (λq m=>hp q (Cp _ m)) (by simp at hr;(with_reducible exact gr (by assumption))) (by rw[<-e];exact U8) (drop Ap) Ep EF HY λr' AT s' g' x'=>k r' AT s' ?_ x';simpa[E9,J_]using g'
end
@[irreducible]noncomputable def dJ:AA:=S3 (Iw 2) (.Constant .none 0 ⟨0,0,0,0⟩) λz1 _=>oS z1 (.Constant .none 0 ⟨0,0,0,0⟩) λe=>e
@[irreducible]noncomputable def aM8:B9:=(Iw 2).pos
@[irreducible]noncomputable def aM9:B9:=ED dJ ⟨0,0,0,0⟩ λz1 _ _ _=>DO z1 ⟨0,0,0,0⟩ λ_ p=>p
@[irreducible]noncomputable def aN0:B9:=ED dJ ⟨0,0,0,0⟩ λ_ _ _ p=>p
@[irreducible]noncomputable def pI:B9:=ED dJ ⟨0,0,0,0⟩ λ_ z1 _ _=>l1 z1 ⟨0,0,0,0⟩ λz2=>DO z2 ⟨0,0,0,0⟩ λ_ p=>p
@[irreducible]noncomputable def aN1:B9:=DO XK ⟨0,0,0,0⟩ λ_ p=>p
theorem aN2:Fj Eu=[Iw 0,Iw 1,Iw 2]:=by kernel_rfl
theorem aN3:Iw 1=.For dH XK KV [] aM3:=by kernel_rfl
theorem aN4:XK=.Name Mv aN1:=by kernel_rfl
theorem aN5:Iw 2=.Return (G (.Call (.Name QB aM9) [.Name Hb pI] [] aN0)) aM8:=by kernel_rfl
noncomputable def pJ(N:I (V×V))(q:Tx):Mine.St:=⟨[(Mv,.ref 0),(Ha,.str q)],[(0,.B3 N)],1⟩
noncomputable def dK(N:I (V×V))(q:Tx):Mine.St:=⟨[(Mv,.ref 0),(Ha,.str q),(Hb,.ref 1)],[(1,.list []),(0,.B3 N)],2⟩
theorem aN6(d:O)(N:I (V×V))(q:Tx):ev CQ 60 ⟨BV Eu,d⟩ (.s (Iw 0)) (pJ N q)=.ok (.f .next) (dK N q):=by kernel_rfl
theorem aN7(d r:O)(Y:I Sg)(N:I (V×V))(q:Tx):ev CQ 60 ⟨BV Eu,d⟩ (.e XK) (LV r Y N q)=.ok (.v (.ref 0)) (LV r Y N q):=by kernel_rfl
noncomputable def Qs(l:I Tx)(N:I (V×V))(q:Tx):Mine.St:=⟨[(Mv,.ref 0),(Ha,.str q),(Hb,.ref 1)],[(1,.list (l.map .str)),(0,.B3 N)],2⟩
theorem aN8(d:O)(l:I Tx)(N:I (V×V))(q:Tx):ev CQ 60 ⟨BV Eu,d⟩ (.e (.Name Hb pI)) (Qs l N q)=.ok (.v (.ref 1)) (Qs l N q):=by kernel_rfl
theorem aN9:Di (BV Eu) QB=M:=by kernel_rfl
theorem aO0:Ah CQ.glob QB=G (.top (.builtin "sorted")):=by kernel_rfl
theorem pK:∀{l:I Tx},DS (l.map .tx)=l.map .str
 |[]=>rfl|t::l=>by
  show IZ (.tx t)++DS (l.map .tx)=_;rw[pK];rfl
section
variable{J:I A8}
theorem pL:HU (l.map .str)=G l:=by induction l with
 |nil=>rfl|cons t l ih=>exact congrArg (λo=>B' o λr=>G (t::r)) ih
theorem aO1{m:I Tx}(p:l.Perm m):Ea l=Ea m:=bC6 (le:=(·<=·)) (λa b _ _ h1 h2=>bC7 h1 h2) (Wr l) (Wr m) ((Wq l).trans (p.trans (Wq m).symm))
theorem Gd.forget{env:I (U×V)}{h Q:I (O×Ob)}(g:Gd B F K A ⟨env,h,n⟩ C s)(hs:∀i o,AL Q i=G o->AL h i=G o):Gd B F K A ⟨env,Q,n⟩ C s:=⟨g.kinds,g.len,g.nodup,g.fresh,g.live,g.D5,g.D1,λi o e=>g.objs i o (hs i o e),g.env,g.base,g.os,g.gens,g.frames,g.DT,g.Cy,g.mods,g.handled,g.depth,g.units⟩
theorem aO2(AV:(Bb P).In B.base)(AM:Dg B)(hd:6<=d)(hq:q∈KX){w:Tx->V}(hw:∀p,Cl (w p))(hL:∀p∈A1,p∈KW)(Ch:A1.length<=20)(g:Gd B F ⟨BV Eu,d⟩ A (pJ (BM w A1) q) C s):CJ B F ⟨BV Eu,d⟩ A ⟨(dK (BM w A1) q).env,[(2,.list ((Ea (E9 q A1)).map .str)),(0,.B3 (BM w A1))],3⟩ C s (J2 (Fj Eu) F.env) (FR (.ret (.ref 2))):=by
 intro A2 E k;have A9:=(all1 AV AM 60).s;rw[aN2];refine DH (A9.s (aN6 d _ _) g _ _ λu A_ AJ AN Ab Aq=>?_);cases Aq;refine S6 (AN.open (i:=0) (N:=BM w A1) rfl) ?_;intro BN hp AU _ _ _;have Ja:BN.Perm (BM w A1):=hp.1;have hc:∀e∈BN,Cl e.2:=λe m=>Ms hw e (Ja.subset m);refine AC (by
   refine AC (cQ (f:=λp=>((V.str p,w p):V×V)) Ja) ?_;intro L' a b;exact⟨L',a,b⟩) ?_;intro L' Qt BJ;subst BJ;have Ap:Gd B F ⟨BV Eu,d⟩ A (LV Dm [] (BM w L') q) A_ AJ:=AU.KU (i:=1) (o:=.list []) (o':=.rows Dm []) rfl λa _ r=>by
   refine AC r ?_;(try clear r);intro us p v;exact⟨us,p,v,by show 0+Dm<=Dm;omega⟩
 refine DH ?_;rw[aN3];refine Y7 (A9.eW (aN7 d _ _ _ _) Ap _ _ λu QT Eg Cn EL Ii=>OE Cn Ii (it:=.keys 0 (BM w L').length) rfl λAE Q tk G_ GF hI cj ck=>?_) ?_
 . refine aM7 AV AM hd hq hc hI L' [] Dm [] (λp m=>hL p (Qt.subset m)) ?_ ?_ G_ GF.FZ cj ck λr' bq br Tl Qj=>?_;. rw[Qt.length_eq];exact B4 Ch (by decide)
   . show(L'.map λp=>((V.str p,w p):V×V)).map (·.1)=(L':I Tx).map .str;rw[Hl];rfl
   . have cm:Gd B F ⟨BV Eu,d⟩ A (Qs (E9 q L') (BM w A1) q) bq br:=by
      have a1:=Tl.KU (i:=1) (o:=.rows r' ([]++(E9 q L').map .tx)) (o':=.list ((E9 q L').map .str)) rfl λa _ r=>by
       refine CZ r ?_;(try clear r);intro us p v _;rw[uL,pK]at v;exact⟨us,p,v⟩
      exact a1.KU (i:=0) (o:=.dict (BM w L')) (o':=.B3 (BM w A1)) rfl λa _ r=>⟨BM w L',⟨Ja,trivial⟩,r⟩
     refine DH ?_;rw[aN5];have aO3:(E9 q L').length<60:=by
      have :(E9 q L').length<=L'.length:=bA1 ..;have :=Qt.length_eq;(with_reducible exact Mine.wI (by assumption) (by assumption) (by assumption))
     have hs:O5 ((E9 q L').map .str) (Qs (E9 q L') (BM w A1) q)=.ok (.v (.ref 2)) ((Qs (E9 q L') (BM w A1) q).new (.list ((Ea (E9 q L')).map .str))).2:=by
      unfold O5;rw[pL];show A0.iff (G0 (E9 q L').length 60) _=_;rw[show G0 (E9 q L').length 60=M from uc aO3];rfl
     refine tE (bf (Bl:=GH AV) (AB:=Qs (E9 q L') (BM w A1) q) aN9 aO0 (λh=>CW.builtin) rfl cm (λBG EN p Fa Cq=>Wh rfl (A9.e (aN8 d _ _ _) Fa) p) λus bN7 bN8 aO4 aO5 pM=>?_);refine Bv pM ?_;(try clear pM);intro u1 us1 B6 ru e1;subst B6;cases e1;refine mw aO4 (i:=1) rfl ru hs _ _ λy aO6 aO7 pN aO8 aO9=>?_;have hm:(E9 q L').Perm (E9 q A1):=Qt.filterMap (Qr q);rw[aO1 hm]at pN;refine k _ aO6 aO7 (pN.forget (Q:=[(2,.list ((Ea (E9 q A1)).map .str)),(0,.B3 (BM w A1))]) λi o e=>?_) ?_ ⟨y,rfl,aO9⟩;. match i,e with
 |0,e=>injection e with e;subst e;rfl|2,e=>injection e with e;subst e;rfl|1,e=>exact(BE e).elim|i+3,e=>exact(BE e).elim
     . exact Ab.trans (EL.trans (Qj.trans ((aO5.trans aO8).FZ)))
 . intro x;rw[aN4];kernel_rfl
end
noncomputable def Ix:I (V×V)->Tx->V
 |[],_=>.none|e::l,p=>match e.1 with
 |.str q=>(match CU q p with|true=>e.2|false=>Ix l p)|_=>Ix l p
noncomputable def U9:I (V×V)->AD (I Tx)
 |[]=>G []|e::l=>match e.1,U9 l with|.str q,G m=>G (q::m)|_,_=>L
noncomputable def Oo:I (V×V)->AK
 |[]=>M|e::l=>match e.2 with|.str _=>Oo l|.sym _ _ _=>Oo l|_=>A6
set_option tactic.hygienic true in
theorem pO:∀{N:I (V×V)}{A1:I Tx},U9 N=G A1->A1.Nodup->N=BM (Ix N) A1
 |[],A1,h,_=>by injection h with h;subst h;rfl|e::l,A1,h,nd=>by
  simp only[U9]at h;split at h
  . rename_i q m he hm;injection h with h;subst h;obtain⟨e1,e2⟩:=e;simp only at he;subst he;have ih:=pO hm (EU.mp nd).2;show _=(V.str q,Ix ((V.str q,e2)::l) q)::BM (Ix ((V.str q,e2)::l)) m;have h1:Ix ((V.str q,e2)::l) q=e2:=by simp only[Ix];rw[Ec.mpr rfl]
    have h2:BM (Ix ((V.str q,e2)::l)) m=BM (Ix l) m:=by
     refine Yc λp hp=>?_;have Cc:CU q p=A6:=by cases z:CU q p with
 |false=>rfl|true=>exact absurd (Ec.mp z▸hp) (EU.mp nd).1
     simp only[Ix,Cc]
    rw[h1,h2,<-ih]
  . exact(BE h).elim
set_option tactic.hygienic true in
theorem dL:∀{N:I (V×V)},Oo N=M->∀p,Cl (Ix N p)
 |[],_,p=>λ_=>rfl|e::l,h,p=>by
  have hl:Oo l=M/\Cl e.2:=by
    simp only[Oo]at h;split at h;. rename_i q;exact⟨h,by rw[q];exactλ_=>rfl⟩
    . rename_i q;exact⟨h,by rw[q];exactλ_=>rfl⟩
    . exact(E5 h).elim
  simp only[Ix];split
  . split;. exact hl.2
    . exact dL hl.1 p
  . exact dL hl.1 p
section
variable{J:I A8}
theorem aP0(AV:(Bb P).In B.base)(AM:Dg B)(hq:q∈KX){w:Tx->V}(hw:∀p,Cl (w p))(hL:∀p∈A1,p∈KW)(Ch:A1.length<=20)(g:Gd B F ⟨sc,7⟩ A ⟨[],[(0,.B3 (BM w A1))],1⟩ C s)(rs:Aa s.heap C [.ref 0,.str q] us):Ae B F ⟨sc,7⟩ A ⟨[],[(2,.list ((Ea (E9 q A1)).map .str)),(0,.B3 (BM w A1))],3⟩ C s (CE (.ref 399) us) (RV (.ref 2)):=by
 have hf:AL Im 399=G (DE (Ba 30)):=by kernel_rfl
 refine DB (Ml AV (Mn AV) (Oe P hf)) ?_;intro o fd ok;have hb:JH (DE (Ba 30)) [.ref 0,.str q]=G [(Mv,.ref 0),(Ha,.str q)]:=by kernel_rfl
 exact oU (H:=⟨[],[(0,.B3 (BM w A1))],1⟩) (K:=⟨sc,7⟩) (d:=6) ok (AB:=⟨(dK (BM w A1) q).env,[(2,.list ((Ea (E9 q A1)).map .str)),(0,.B3 (BM w A1))],3⟩) hb rfl (.inr rfl) (λg'=>(by have q:=@aO2;rw[show Eu=Ba 30 by unfold Eu;rfl]at q;exact q AV AM (DF _) hq hw hL Ch g')) g rs
theorem aP1(AV:(Bb P).In B.base)(AM:Dg B)(hq:q∈KX)(hk:U9 N=G A1)(nd:A1.Nodup)(hc:Oo N=M)(hL:∀p∈A1,p∈KW)(Ch:A1.length<=20)(hd:7<=K.d)(hi:AL H.h i=G (.B3 N))(g:Gd B F K A H C s)(rs:Aa s.heap C [.ref i,.str q] us):Ae B F K A ⟨H.env,(H.n+1,.list ((Ea (E9 q A1)).map .str))::H.h,H.n+2⟩ C s (CE (.ref 399) us) (RV (.ref (H.n+1))):=by
 have he:=pO hk nd;have hw:=dL hc;have pP:∀e∈N,Cl e.2:=by rw[he];exact Ms hw
 refine n_ (A7:=⟨H.env,(H.n+1,.list ((Ea (E9 q A1)).map .str))::H.h,H.n+2⟩) (B7:=[i]) (DI:=⟨[],[(0,.B3 N)],1⟩) (AB:=⟨[],[(2,.list ((Ea (E9 q A1)).map .str)),(0,.B3 N)],3⟩) (d:=7) (MT:=[.ref 0,.str q]) (X1:=.ref 2) (λ{F A C s us}g' Ft=>?_) rfl hd g ⟨rfl,EU.mpr ⟨(by simp),HM⟩,λj m=>?_,λj o e=>?_⟩ ⟨rfl,by show 1<=3;(with_reducible exact fN _ _),rfl,λj o e=>?_⟩ rfl rfl rs
 . rw[he]at g' ⊢;have :=aP0 AV AM hq hw hL Ch g' Ft;exact this
 . rw[CI.mp m];exact Ir g hi
 . match j,e with
 |0,e=>injection e with e;subst e;exact⟨i,rfl,by rw[hi];show _=G (Ob.B3 (N.map _));rw[KR pP]⟩|j+1,e=>exact(BE e).elim
 . refine Eb (y:=AL H.h j) e (λhj e=>?_) λ_ e=>?_
   . injection e with e;subst e;have :=CD hj;clear hj;subst this;refine .inl ⟨2,_,rfl,rfl,?_⟩;show _=Ob.list (Cr _ ((Ea (E9 q A1)).map .str));rw[LP]
   . by_cases pQ:j=i
     . clear rs;subst pQ;rw[hi]at e;injection e with e;subst e;exact .inl ⟨0,_,rfl,rfl,by show _=Ob.B3 (N.map _);rw[KR pP]⟩
     . exact .inr ⟨e,by simpa using pQ⟩
end
noncomputable def I3(a b:B9):AK:=BC a.line b.line&&(BC a.col b.col&&(BC a.endLine b.endLine&&BC a.endCol b.endCol))
theorem Iy{a b:B9}(h:I3 a b=M):a=b:=by
 cases a;cases b;have n:=λ{x y:O}(e:BC x y=M)=>CD e;exact congr (congr (congr (congrArg Pos.mk (n (B1 h))) (n (B1 (Ak h)))) (n (B1 (Ak (Ak h))))) (n (Ak (Ak (Ak h))))
noncomputable def pR(f:AA->AA->AK)(g g':FP):AK:=f g.target g'.target&&(f g.iter g'.iter&&(all2 f g.ifs g'.ifs&&decide (g.is_async=g'.is_async)))
noncomputable def pS(f:AA->AA->AK)(a b:AA):AK:=DO a A6 (λx p=>DO b A6 λy q=>Cw x y&&I3 p q)||(HR a A6 (λc k p=>HR b A6 λc' l q=>decide (c=c')&&(BC k l&&I3 p q))||(Jt a A6 (λY k p=>Jt b A6 λys l q=>all2 f Y ys&&(BC k l&&I3 p q))||(ED a A6 (λg Y kw p=>ED b A6 λg' ys pT q=>f g g'&&(all2 f Y ys&&l0 kw A6 (l0 pT A6 (I3 p q))))||(H7 a A6 (λv i p=>H7 b A6 λw j q=>f v w&&(Cw i j&&I3 p q))||(J9 a A6 (λv i p=>J9 b A6 λw j q=>f v w&&(f i j&&I3 p q))||(Ks a A6 (λl o r p=>Ks b A6 λl' o' r' q=>f l l'&&(decide (o=o')&&(all2 f r r'&&I3 p q)))||(Nk a A6 (λl o r p=>Nk b A6 λl' o' r' q=>f l l'&&(decide (o=o')&&(f r r'&&I3 p q)))||IK a A6 λe gs sc p=>IK b A6 λe' gs' IV q=>f e e'&&(all2 (pR f) gs gs'&&(decide (sc=IV)&&I3 p q)))))))))
theorem aP2{f:AA->AA->AK}(hf:∀a b,f a b=M->a=b)(a b:FP)(h:pR f a b=M):a=b:=by
 cases a;cases b;exact congr (congr (congr (congrArg bT7 (hf _ _ (B1 h))) (hf _ _ (B1 (Ak h)))) (Np hf _ _ (B1 (Ak (Ak h))))) (of_decide_eq_true (Ak (Ak (Ak h))))
theorem aP3{f:AA->AA->AK}(hf:∀a b,f a b=M->a=b)(a b:AA)(h:pS f a b=M):a=b:=by
 have F:=λ{a b:AA}(e:f a b=M)=>hf a b e;have n:=λ{x y:O}(e:BC x y=M)=>CD e;have A:=Np hf;refine Jv h (λh=>?_) λh=>?_
 . apply EV h B0;intro x p h;apply EV h B0;intro y q h;exact congr (congrArg Expr.Name (E2.mp (B1 h))) (Iy (Ak h))
 refine Jv h (λh=>?_) λh=>?_
 . apply J8 h B0;intro c k p h;apply J8 h B0;intro c' l q h;exact congr (congr (congrArg Expr.Constant (of_decide_eq_true (B1 h))) (n (B1 (Ak h)))) (Iy (Ak (Ak h)))
 refine Jv h (λh=>?_) λh=>?_
 . apply S' h B0;intro x k p h;apply S' h B0;intro y l q h;exact congr (congr (congrArg Expr.Tuple (A _ _ (B1 h))) (n (B1 (Ak h)))) (Iy (Ak (Ak h)))
 refine Jv h (λh=>?_) λh=>?_
 . apply M5 h B0;intro g Y kw p h;apply M5 h B0;intro g' ys pT q h;apply EW (Ak (Ak h)) B0;intro h1;apply EW h1 B0;intro h2;exact congr (congr (congr (congrArg Expr.Call (F (B1 h))) (A _ _ (B1 (Ak h)))) rfl) (Iy h2)
 refine Jv h (λh=>?_) λh=>?_
 . apply S0 h B0;intro v i p h;apply S0 h B0;intro w j q h;exact congr (congr (congrArg Expr.Attribute (F (B1 h))) (E2.mp (B1 (Ak h)))) (Iy (Ak (Ak h)))
 refine Jv h (λh=>?_) λh=>?_
 . apply Nj h B0;intro v i p h;apply Nj h B0;intro w j q h;exact congr (congr (congrArg Expr.Subscript (F (B1 h))) (F (B1 (Ak h)))) (Iy (Ak (Ak h)))
 refine Jv h (λh=>?_) λh=>?_
 . apply S1 h B0;intro v i r p h;apply S1 h B0;intro w j s q h;exact congr (congr (congr (congrArg Expr.Compare (F (B1 h))) (of_decide_eq_true (B1 (Ak h)))) (A _ _ (B1 (Ak (Ak h))))) (Iy (Ak (Ak (Ak h))))
 refine Jv h (λh=>?_) λh=>?_
 . apply i7 h B0;intro v i r p h;apply i7 h B0;intro w j s q h;exact congr (congr (congr (congrArg Expr.BinOp (F (B1 h))) (of_decide_eq_true (B1 (Ak h)))) (F (B1 (Ak (Ak h))))) (Iy (Ak (Ak (Ak h))))
 apply Yk h B0;intro v i r p h;apply Yk h B0;intro w j s q h;exact congr (congr (congr (congrArg Expr.ListComp (F (B1 h))) (Np (aP2 hf) _ _ (B1 (Ak h)))) (of_decide_eq_true (B1 (Ak (Ak h))))) (Iy (Ak (Ak (Ak h))))
noncomputable def pU(n:O):AA->AA->AK:=RS (λ_ _=>A6) (λ_ f=>pS f) n
theorem aP4(n:O):∀a b,pU n a b=M->a=b:=RS (λ_ _ h=>(B0 h).elim) (λ_ ih=>aP3 ih) n
noncomputable def Qu(a b:AA):AK:=pU 12 a b
theorem Qv{a b:AA}(h:Qu a b=M):a=b:=aP4 12 a b h
noncomputable def pV(a b:As):AK:=Ju a A6 λc s o p=>Ju b A6 λc' s' o' q=>Qu c c'&&(I3 p q&&l0 o A6 (l0 o' A6 (l1 s A6 λx=>l1 s' A6 λy=>Pm x A6 λe p=>Pm y A6 λe' q=>Qu e e'&&I3 p q)))
theorem aP5{a b:As}(h:pV a b=M):a=b:=by
 apply Yl h B0;intro c s o p h;apply Yl h B0;intro c' s' o' q h;apply EW (Ak (Ak h)) B0;intro h1;apply EW h1 B0;intro h1;apply Cs h1 B0;intro x h1;apply Cs h1 B0;intro y h1;apply Ym h1 B0;intro e p1 h1;apply Ym h1 B0;intro e' q1 h1;rw[Qv (B1 h),Iy (B1 (Ak h)),Qv (B1 h1),Iy (Ak h1)]
noncomputable def pW(a b:As):AK:=G4 a A6 λt i s o p=>G4 b A6 λt' i' s' o' q=>Qu t t'&&(Qu i i'&&(I3 p q&&l0 o A6 (l0 o' A6 (l1 s A6 λx=>l1 s' A6 λy=>pV x y))))
theorem aP6{a b:As}(h:pW a b=M):a=b:=by
 apply i9 h B0;intro c i s o p h;apply i9 h B0;intro c' i' s' o' q h;apply EW (Ak (Ak (Ak h))) B0;intro h1;apply EW h1 B0;intro h1;apply Cs h1 B0;intro x h1;apply Cs h1 B0;intro y h1;rw[Qv (B1 h),Qv (B1 (Ak h)),Iy (B1 (Ak (Ak h))),aP5 h1]
noncomputable def HG:As:=Ba 31
noncomputable def Mx:As:=Ba 36
noncomputable def Qw(l:I As)(k:O):As:=l[k]?.getD (.Pass ⟨0,0,0,0⟩)
noncomputable def My:As:=G4 (Qw (Fj HG) 3) (.Pass ⟨0,0,0,0⟩) λ_ _ b _ _=>Ju (Qw b 1) (.Pass ⟨0,0,0,0⟩) λ_ s _ _=>Qw s 0
noncomputable def Mz:AA:=G4 (Qw (Fj Mx) 1) (.Constant .none 0 ⟨0,0,0,0⟩) λ_ _ b _ _=>Ju (Qw b 1) (.Constant .none 0 ⟨0,0,0,0⟩) λ_ s _ _=>Pn (Qw s 0) (.Constant .none 0 ⟨0,0,0,0⟩) λ_ e _=>e
section
variable{J:I A8}
theorem Ca.Fw(hc:∀BA,DV BA o=o)(r:Ca prog w h A_ a o):Ca prog w h Au a o:=by
 have h1:Ca prog w h [] a o:=by
  refine(Ca.DW (BA:=λj=>A_.length+j) (Au:=A_) λj=>?_).mpr (by rw[hc];exact r);rw[VE (H3 ..)];rfl
 have :=(Ca.DW (h:=h) (prog:=prog) (w:=w) (a:=a) (o:=o) (BA:=λj=>Au.length+j) (A_:=[]) (Au:=Au) λj=>(by rw[VE (H3 ..)];rfl)).mp h1;rw[hc]at this;exact this
theorem pX(g:Gd B F K A H C s)(g':Gd B F K' A' AB AT s')(x':Nx F.D [] s.heap s'.heap [] AT)(hj:AL AB.h j=G o)(hc:∀BA,DV BA o=o)(r:VR s'.heap AT (.ref j) u):∃a,u=.ref a/\Gd B F K A ⟨H.env,(H.n,o)::H.h,H.n+1⟩ (C++[a]) s'/\Nx F.D [] s.heap s'.heap C (C++[a]):=by
 refine AC r ?_;(try clear r);intro a ha Aw;subst Aw;have hm:=Ew ha;refine AC (x'.pre) ?_;intro J e GA;rw[uL]at e;subst e;have hn:=GA a hm;have hx:Nx F.D [] s.heap s'.heap C (C++[a]):=⟨⟨[a],rfl,λb m=>by rw[CI.mp m];exact hn⟩,x'.live,x'.Bw,λb o e _ m=>x'.same b o e (by simp) m⟩;refine⟨a,rfl,g.back hx (by rw[FD,g.len];rfl) ?_ ?_ ?_ ?_ g'.base g'.os g'.gens (Cf.Gv g g.env hx),hx⟩
 . refine ID.mpr ⟨g.nodup,by simp,λb hb c hc e=>?_⟩;rw[CI.mp hc]at e;clear ha hc hm hx;subst e;refine xE (g.live b hb) ?_;intro o q;rw[hn]at q;exact(BE q).elim
 . intro b m;rcases Dr.mp m with m|m;. exact g.fresh b m
   . rw[CI.mp m];exact g'.fresh a hm
 . intro b m;rcases Dr.mp m with m|m;. refine xE (g.live b m) ?_;intro o e;exact x'.live b o e
   . rw[CI.mp m];exact g'.live a hm
 . intro i p e;refine Eb (y:=AL H.h i) e (λq e=>?_) λ_ e=>?_
   . injection e with e;subst e;have q:=CD q;subst q;have ro:=g'.obj hj ha;exact⟨a,by rw[<-g.len];simp,ro.Fw hc⟩
   . refine AC (g.objs i p e) ?_;intro b hb rb;exact⟨b,FY hb,rb.mono x'.Bw λy ey=>x'.keep b y ey (by simp) (by simp) (λz=>absurd (Ew hb) (g.Cy b z).1)⟩
theorem pY(g:Gd B F K A H C s)(hd:d<=K.d):Gd B F ⟨K.sc,d⟩ A ⟨[],[],0⟩ [] s:=g.sub (B7:=[]) ⟨rfl,HM,λi m=>(by(exfalso;cases m)),λj o e=>(by exact(BE e).elim)⟩ hd (Cf.nil g)
theorem aP7(Og:∀{F:Fm}{A:CK}{C:I A8}{s:AR}{us:I A4},Gd B F ⟨K.sc,d⟩ A ⟨[],[],0⟩ C s->Aa s.heap C args us->Ae B F ⟨K.sc,d⟩ A AB C s (CE fu us) (RV (.ref i)))(hi:AL AB.h i=G o)(hc:∀BA,DV BA o=o)(ha:JV args=M)(hd:d<=K.d)(g:Gd B F K A H C s)(rs:Aa s.heap C args us):Ae B F K A ⟨H.env,(H.n,o)::H.h,H.n+1⟩ C s (CE fu us) (RV (.ref H.n)):=by
 intro A2 E k;refine Og (pY g hd) (Aa.Fw ha rs) A2 E λu AT s' g' x' r'=>?_;refine CZ (pX g g' x' hi hc r') ?_;intro a B6 gg xx;clear r';subst B6;exact k _ _ s' gg xx ⟨a,by rw[<-g.len];simp,rfl⟩
theorem pZ{l:I (I Tx)}:DV BA (.list (l.map λr=>.tup L (r.map .str)))=.list (l.map λr=>.tup L (r.map .str)):=by
 show Ob.list (Cr BA _)=_;rw[Of,Hl];refine congrArg Ob.list (Yc λr _=>?_);show V.tup L (Cr BA (r.map .str))=_;rw[LP]
theorem Qx{v:A4}:VR h C (.top v) v:=rfl
theorem aP8(AV:(Bb P).In B.base)(AM:Dg B){a b:Tx}(ha:a∈Bo A6)(hb:b∈Bo M)(hd:20<=K.d)(g:Gd B F K A H C s)(rs:Aa s.heap C [.str a,.str b] us):Ae B F K A ⟨H.env,(H.n,.list ((C8 a b).map λr=>.tup L (r.map .str)))::H.h,H.n+1⟩ C s (CE (.ref 430) us) (RV (.ref H.n)):=by
 refine EX (aB0 ha hb K.sc) ?_;intro i AB h1 h2;exact aP7 (λ{F A C s us}g' Ft=>(Tz AV AM 300).s.call h1 g' Qx Ft) h2 (λBA=>pZ) rfl hd g rs
end
@[irreducible]noncomputable def dM:AA:=G4 My (.Constant .none 0 ⟨0,0,0,0⟩) λt _ _ _ _=>t
@[irreducible]noncomputable def N0:AA:=G4 My (.Constant .none 0 ⟨0,0,0,0⟩) λ_ t _ _ _=>t
@[irreducible]noncomputable def XO:I As:=G4 My [] λ_ _ b _ _=>b
@[irreducible]noncomputable def aP9:B9:=G4 My ⟨0,0,0,0⟩ λ_ _ _ _ p=>p
theorem aQ0:My=.For dM N0 XO [] aP9:=by kernel_rfl
noncomputable def Qy:U:=⟨⟨[83,101,113,117,101,110,99,101,77,97,116,99,104,101,114]⟩⟩
@[irreducible]noncomputable def Oq:I AA:=ED N0 [] λz1 _ _ _=>H7 z1 [] λz2 _ _=>ED z2 [] λ_ a _ _=>a
@[irreducible]noncomputable def dN:B9:=ED N0 ⟨0,0,0,0⟩ λz1 _ _ _=>H7 z1 ⟨0,0,0,0⟩ λz2 _ _=>ED z2 ⟨0,0,0,0⟩ λz3 _ _ _=>DO z3 ⟨0,0,0,0⟩ λ_ p=>p
@[irreducible]noncomputable def dO:B9:=ED N0 ⟨0,0,0,0⟩ λz1 _ _ _=>H7 z1 ⟨0,0,0,0⟩ λz2 _ _=>ED z2 ⟨0,0,0,0⟩ λ_ _ _ p=>p
@[irreducible]noncomputable def Qz:B9:=ED N0 ⟨0,0,0,0⟩ λz1 _ _ _=>H7 z1 ⟨0,0,0,0⟩ λ_ _ p=>p
@[irreducible]noncomputable def I4:B9:=ED N0 ⟨0,0,0,0⟩ λ_ _ _ p=>p
theorem p_:N0=.Call (.Attribute (.Call (.Name Qy dN) Oq [] dO) Mo Qz) [] [] I4:=by kernel_rfl
theorem aQ1:BC Qz.endLine I4.line=M:=by kernel_rfl
theorem aQ2:Oq.all CP=M:=by kernel_rfl
theorem aQ3:Vn (.Call (.Name Qy dN) Oq [] dO)=M:=by kernel_rfl
theorem aQ4:Ah CQ.glob Qy=G (.top (.ref 242)):=by kernel_rfl
section
variable{J:I A8}
theorem LW{Bl:Gl B A3}{args:I AA}{w:A4}(hg:Di K.sc id=M)(hw:Ah A3.glob id=G (.top w))(hp:args.all CP=M)(g:Gd B F K A H C s)(h:∀BG EN p,Gd B F K A H BG EN->Nx F.D [] s.heap EN.heap C BG->Ae B F K A AB BG EN (Lp (F9 p (E' args F.env))) (OA vs))(hk:∀us A_ AJ,Gd B F K A AB A_ AJ->Nx F.D [] s.heap AJ.heap C A_->Aa AJ.heap A_ vs us->CW (AQ B.prog B.w) AJ.heap w/\AH (AQ B.prog B.w) A (CE w us) A2 E AJ):AH (AQ B.prog B.w) A (eval (.Call (.Name id p) args [] pos) F.env) A2 E s:=by exact Wi (Bl:=Bl) hg hw hp g λA_ AJ AN Ab=>h A_ AJ pos AN Ab _ E λus Au Ai AU Al BB=>hk us Au Ai AU (Ab.trans Al) BB
theorem pa{l:I Op}:DV BA (.list (l.map F3))=.list (l.map F3):=by
 show Ob.list (Cr BA _)=_;rw[Of,Hl];rfl
theorem aQ5(AV:(Bb P).In B.base)(AM:Dg B){a b:Tx}(ha:a∈Bo A6)(hb:b∈Bo M)(hd:20<=K.d)(hg:Di K.sc Qy=M)(hv:ev CQ 60 K (.N Oq) H=.ok (.vs [.none,.sym A6 a ha,.sym M b hb]) AB)(g:Gd B F K A H C s)(k:∀(CN:I Op)u AT s',(∀o∈CN,o∈KO)->CN.flatMap Ip=C8 a b->CN.length<=15->Gd B F K A ⟨AB.env,(AB.n,.list (CN.map F3))::AB.h,AB.n+1⟩ AT s'->Nx F.D [] s.heap s'.heap C AT->VR s'.heap AT (.ref AB.n) u->A2 u s'):AH (AQ B.prog B.w) A (eval N0 F.env) A2 E s:=by
 rw[p_];have A9:=(all1 AV AM 60).s;refine iP (o8 ha hb K.sc) ?_;intro i σM j σO CN hM pb hk hO hj dP R' Ch;obtain⟨bN9,pc,nM⟩:=σM;dsimp only at pb;subst pb;have T:=Tz AV AM 300;rw[bs6,ag aQ3];refine A5 (LW (Bl:=GH AV) (A3:=CQ) hg aQ4 aQ2 g (λBG EN p Fa Cq=>A9.N hv p Fa) λus A_ AJ AN Ab Aq=>?_);have gs:=pY (d:=20) AN hd;have ru:Aa AJ.heap [] [.none,.str a,.str b] us:=Aa.Fw (v:=[.none,.str a,.str b]) rfl (show Aa AJ.heap A_ [.none,.str a,.str b] us from Aq);refine⟨T.c.MZ hM gs Qx,T.s.call hM gs Qx ru _ _ λum Au Ai AU Al BB=>A5 (El ?_)⟩;show AH _ A (PZ _ Mo Qz I4 F.env um (([]:I AA).length+0) (F9 I4 (E' [] F.env)) (Ur I4 (Us [] F.env))) A2 E Ai;unfold PZ;rw[show bs7 (([]:I AA).length+0) (F9 I4 (E' [] F.env)) (Ur I4 (Us [] F.env))=M from rfl];refine A5 (C0 ?_);show AH _ A (Jl um Mo _) _ E Ai;refine n7 (cO AV) cP AU BB hk _ _ _ λfv first Ax Ap B8 mv=>?_;show AH _ A (Jm M _ F.env Qz I4>>=λp=>PY p fv first (F9 I4 (E' [] F.env)) []) A2 E Ax;have OF:Jm M (.Call (.Name Qy dN) Oq [] dO) F.env Qz I4=pure I4:=by
  unfold Jm;have :(Qz.endLine==I4.line)=M:=by simpa using aQ1
  rw[this];rfl
 rw[OF];refine A5 (AW ?_);refine fy (P:=λh=>CW (AQ B.prog B.w) h fv) (by rfl) (λh c=>c) ?_;refine af ?_;refine(T.s.N (l:=[]) (v:=[]) (K:=⟨K.sc,20⟩) (H:=⟨[],pc,nM⟩) (A7:=⟨[],pc,nM⟩) rfl I4 Ap) _ _ λus Ic EG CA Cz JP=>?_;cases JP;refine⟨T.c.kj hO CA mv,T.c.HV hO CA mv (VR.nx Cz (VR.nx B8 BB)) rfl _ _ λbY9 QT Eg Cn EL Ii=>?_⟩;refine CZ (pX AN Cn (Al.trans (B8.trans (Cz.trans EL))) hj (λBA=>pa) Ii) ?_;intro ad Aw gg xx;clear Ii;subst Aw;exact k CN _ _ Eg dP R' Ch gg (Ab.trans xx) ⟨ad,by rw[<-AN.len];simp,rfl⟩
end
noncomputable def Ot:U:=⟨⟨[111,110,101]⟩⟩
noncomputable def Ou:U:=⟨⟨[116,119,111]⟩⟩
noncomputable def Ov:U:=⟨⟨[103,111,110,101]⟩⟩
noncomputable def Ow:U:=⟨⟨[99,111,109,101]⟩⟩
noncomputable def Jb:U:=⟨⟨[114,111,119,115]⟩⟩
noncomputable def KY:U:=⟨⟨[110,97,109,101]⟩⟩
noncomputable def aQ6:U:=⟨⟨[116,97,103]⟩⟩
noncomputable def nmI:U:=⟨⟨[105]⟩⟩
noncomputable def nmK:U:=⟨⟨[107]⟩⟩
noncomputable def nmJ:U:=⟨⟨[106]⟩⟩
noncomputable def nmM:U:=⟨⟨[109]⟩⟩
noncomputable def R0(f:U->A4)(p:Tx):I (U×V):=[(Ot,.top (f Ot)),(Ou,.top (f Ou)),(Ha,.top (f Ha)),(Hb,.top (f Hb)),(Ov,.top (f Ov)),(Ow,.top (f Ow)),(Jb,.ref 0),(KY,.top (f KY)),(Mw,.str p)]
noncomputable def N1(f:U->A4)(p:Tx)(r:O)(Y:I Sg)(l:I V):Mine.St:=⟨R0 f p,[(0,.rows r Y),(1,.list l)],2⟩
noncomputable def N2(f:U->A4)(p:Tx)(o:Op)(r:O)(Y:I Sg)(l:I V):Mine.St:=⟨R0 f p++[(aQ6,.str o.tag),(nmI,.int o.i),(nmK,.int o.k),(nmJ,.int o.j),(nmM,.int o.m)],[(0,.rows r Y),(1,.list l)],2⟩
theorem aQ7(d:O)(f:U->A4)(p:Tx)(o:Op)(r:O)(Y:I Sg)(l:I V):ev CQ 60 ⟨BV HG,d⟩ (.asg dM (F3 o)) (N1 f p r Y l)=.ok (.f .next) (N2 f p o r Y l):=by kernel_rfl
noncomputable def Hc(p:Tx):I Tx->Sg
 |t::r=>.it (t::p::r)|[]=>.it [p]
noncomputable def I5(p:Tx)(o:Op):I Sg:=(Ip o).map (Hc p)
noncomputable def pd(o:Op):Prop:=∀(f:U->A4)(p:Tx)(r:O)(Y:I Sg)(l:I V),ev CQ 60 ⟨BV HG,6⟩ (.ss XO) (N2 f p o (r+1) Y l)=.ok (.f .next) (match I5 p o with|[]=>N2 f p o (r+1) Y l|x::_=>N2 f p o r (Y++[x]) l)
theorem dQ(o:Op):(∃x,Ip o=[x])\/Ip o=[]:=by
 unfold Ip;split;. exact .inr rfl
 . exact .inl ⟨_,rfl⟩
section
variable{J:I A8}
theorem Gd.aQ8{env:I (U×V)}{h:I (O×Ob)}{Y:I Sg}(g:Gd B F K A ⟨env,h,m⟩ C s)(hi:AL h i=G (.rows (r+1) Y)):Gd B F K A ⟨env,putN h i (.rows r Y),m⟩ C s:=g.KU (H:=⟨env,h,m⟩) hi λa _ q=>by
 refine CZ q ?_;(try clear q);intro us p v l;exact⟨us,p,v,by omega⟩
theorem aQ9(AV:(Bb P).In B.base)(AM:Dg B)(hd:6<=d)(tt:∀o∈KO,pd o){f:U->A4}{p:Tx}{AS:Dt->AR->Prop}(hI:Af.get? AE=L)(post:I Op):∀(pre:I Op)(r:O)(Y:I Sg){C:I A8}{s:AR},(∀o∈post,o∈KO)->post.length<=r->Gd B F ⟨BV HG,d⟩ A (N1 f p r Y ((pre++post).map F3)) C s->Nx F.D F.AZ Af s.heap BG C->CM B F C s.heap AE->E6 s.heap C (.lst 1) pre.length AE->(∀AT s',Gd B F ⟨BV HG,d⟩ A (N1 f p (r-post.length) (Y++post.flatMap (I5 p)) ((pre++post).map F3)) AT s'->Nx F.D F.AZ Af s'.heap BG AT->AS (.ok .next) s')->D7 (AQ B.prog B.w) A (.forLoop dM (.ref AE) XO [] F.env) AS s:=by induction post with
 |nil=>
  intro pre r Y C s _ _ g Cq fr it k;have AP:IU (.lst 1) pre.length (N1 f p r Y ((pre++[]).map F3)).h=G L:=by
   show G (Gq ((pre++[]).map F3) pre.length)=_;rw[HX];simp
  refine MX (K8 g fr it AP (λx hx=>by exact(BE hx).elim) λhx Q tk AN DU=>?_);refine k C _ ?_ (Cq.F2 DU hI);simpa using AN|cons o post ih=>
  intro pre r Y C s hp hr g Cq fr it k;have AP:IU (.lst 1) pre.length (N1 f p r Y ((pre++o::post).map F3)).h=G (G (F3 o)):=by
   show G (Gq ((pre++o::post).map F3) pre.length)=_;rw[HX];simp
  have A9:=(all1 AV AM 60).s;obtain⟨r,rfl⟩:∃r',r=r'+1:=⟨r-1,by simp at hr;(with_reducible exact Mine.yH (by assumption))⟩;refine MX (K8 g fr it AP (λx hx u Q tk AN DU Eo Aq Hx=>?_) λhx=>by(exfalso;cases hx));injection hx with hx;subst hx;have L8:=Cq.F2 DU hI;refine QM Aq (A9.asg (aQ7 d f p o _ _ _) AN Hx _ _ λ_ Au Ai AU Al _=>A9.ss (tt o (hp o (Co ..)) f p r Y _) (AU.low hd) _ _ λMY BS Ax Ap B8 BQ=>?_);cases BQ;have Ap:=AU.lift Ap;have xx:=Al.trans B8;have EF:=Eo.nx xx;have Gu:=Aq.nx xx Eo.C Eo.w;have Ep:=L8.trans xx;have e:pre++o::post=(pre++[o])++post:=by simp
  have drop:∀{r':O}{ys:I Sg}{l:I V}{a:I A8}{s:AR},Gd B F ⟨BV HG,d⟩ A (N2 f p o r' ys l) a s->Gd B F ⟨BV HG,d⟩ A (N1 f p r' ys l) a s:=λg=>g.drop λx v e=>T9 (l:=R0 f p) (f:=id) rfl e;have HY:E6 Ax.heap BS (.lst 1) (pre++[o]).length AE:=by rw[FD];exact Gu
  have CA:Gd B F ⟨BV HG,d⟩ A (N1 f p r (Y++I5 p o) ((pre++o::post).map F3)) BS Ax:=by
   rcases dQ o with D8|hx;refine xE D8 ?_;(try clear D8);intro x hx;rotate_left;rotate_left
   . have hs:I5 p o=[Hc p x]:=by unfold I5;rw[hx];rfl
     rw[hs]at Ap ⊢;exact drop Ap
   . have hs:I5 p o=[]:=by unfold I5;rw[hx];rfl
     rw[hs]at Ap ⊢;rw[HN];exact Gd.aQ8 (drop Ap) (i:=0) rfl
  refine ih (pre++[o]) r (Y++I5 p o) (λq m=>hp q (Cp _ m)) (by simp at hr;(with_reducible assumption)) (by rw[<-e];exact CA) Ep EF HY λAT s' g' x'=>k AT s' ?_ x';rw[<-e]at g';have hl:r+1-(o::post).length=r-post.length:=by simp
  rw[hl,Yd,<-Uo];exact g'
end
theorem aR0:∀o∈KO,pd o:=λo m f p r Y l=>H5.mp (show KO.map (λo=>ev CQ 60 ⟨BV HG,6⟩ (.ss XO) (N2 f p o (r+1) Y l))=KO.map λo=>.ok (.f .next) (match I5 p o with|[]=>N2 f p o (r+1) Y l|x::_=>N2 f p o r (Y++[x]) l)by kernel_rfl) o m
section
variable{J:I A8}
theorem Cf.pe{env:I (U×V)}(e:Cf F h C env):∃f:U->A4,(∀x v,Ah env x=G v->K4 F x->VR h C v (f x))/\∀(AT:I A8)(CV:I (U×V)),(∀x v',Ah CV x=G v'->K4 F x->(∃v,Ah env x=G v)/\VR h AT v' (f x))->Cf F h AT CV:=by
 refine CZ e ?_;intro m ns ce r;have key:∀x,∃u,∀v,Ah env x=G v->K4 F x->T4 F h m x u/\VR h C v u:=λx=>by cases hv:Ah env x with
 |none=>exact⟨.none,λv e=>(AF e).elim⟩|some v=>
  by_cases hf:K4 F x;. exact xE (r x v hv hf) λu q=>⟨u,λv' e _=>Bm e▸q⟩
  . exact⟨.none,λ_ _ q=>absurd q hf⟩
 have hf:=λx=>(key x).choose_spec;exact⟨λx=>(key x).choose,λx v e q=>(hf x v e q).2,λAT CV he=>⟨m,ns,ce,λx v' e q=>⟨_,xE (he x v' e q).1 λv hv=>(hf x v hv q).1,(he x v' e q).2⟩⟩⟩
theorem Gd.aR1{env:I (U×V)}{h:I (O×Ob)}(g:Gd B F K A ⟨env,h,m⟩ C s)(he:Cf F s.heap C CV):Gd B F K A ⟨CV,h,m⟩ C s:=⟨g.kinds,g.len,g.nodup,g.fresh,g.live,g.D5,g.D1,g.objs,he,g.base,g.os,g.gens,g.frames,g.DT,g.Cy,g.mods,g.handled,g.depth,g.units⟩
theorem aR2{p:Tx}{CN:I Op}{a b:Tx}(h:CN.flatMap Ip=C8 a b):DS (CN.flatMap (I5 p))=(C8 a b).map (O8 p):=by
 rw[<-h];clear h;induction CN with
 |nil=>rfl|cons o CN ih=>
 rw[Yd,Yd,NZ,<-ih];show(I5 p o++_).flatMap IZ=_;rw[by0];congr 1;unfold I5;rcases dQ o with Bq|hx;refine xE Bq ?_;(try clear Bq);intro x hx;rotate_left;rotate_left
 . rw[hx];cases x<;>rfl
 . rw[hx];rfl
noncomputable def R1(v:O->V)(k:O)(p:Tx):I (U×V):=[(Ot,v 0),(Ou,v 1),(Ha,v 2),(Hb,v 3),(Ov,v 4),(Ow,v 5),(Jb,.ref k),(KY,v 6),(Mw,.str p)]
noncomputable def aR3(env:I (U×V))(v:O->V)(k:O)(p:Tx):Prop:=∀x w,Ah (R1 v k p) x=G w->Ah env x=G w
theorem aR4:Di (BV HG) Qy=M:=by kernel_rfl
theorem aR5(AV:(Bb P).In B.base)(AM:Dg B)(hd:20<=d){a b p:Tx}(ha:a∈Bo A6)(hb:b∈Bo M){v:O->V}{k:O}{Y:I Sg}(hv:ev CQ 60 ⟨BV HG,d⟩ (.N Oq) H=.ok (.vs [.none,.sym A6 a ha,.sym M b hb]) AB)(he:aR3 AB.env v k p)(pf:k<AB.n)(UA:AL AB.h AB.n=L)(hk:AL AB.h k=G ob)(hr:FW ob=G (r,Y))(pg:15<=r)(g:Gd B F ⟨BV HG,d⟩ A H C s):CJ B F ⟨BV HG,d⟩ A ⟨R1 v k p,(k,.rows (r-15) (Y++[.run p a b]))::AB.h,AB.n+1⟩ C s (exec My F.env) (FR .next):=by
 intro A2 E kk;rw[aQ0];refine Y7 (aQ5 AV AM ha hb (K:=⟨BV HG,d⟩) hd aR4 hv g λCN u A_ AJ dP R' Ch AN Ab Aq=>?_) ?_
 . have N3:AL ((AB.n,Ob.list (CN.map F3))::AB.h) k=G ob:=by
    have :BC AB.n k=A6:=by cases q:BC AB.n k with
 |false=>rfl|true=>exact absurd (CD q) (by(with_reducible exact PX (by assumption)))
    simp only[AL,this,S4];exact hk
   have AU:=AN.KU (i:=k) (o:=ob) (o':=.rows r Y) N3 λa ha _=>by
    refine HS (WZ AN ⟨a,ha,rfl⟩ N3 hr) ?_;intro a' us e p v l;injection e with e;subst e;exact⟨us,p,v,l⟩
   refine AC AU.env.pe ?_;intro f hf mk;generalize LX:Mine.St.set ⟨AB.env,(AB.n,Ob.list (CN.map F3))::AB.h,AB.n+1⟩ k (.rows r Y)=Bc at AU;have XP:Bc.n=AB.n+1:=by rw[<-LX];rfl
   have OJ:AL Bc.h k=G (.rows r Y):=by rw[<-LX];exact MO N3
   have I6:∀i,i≠k->AL Bc.h i=AL ((AB.n,Ob.list (CN.map F3))::AB.h) i:=λi hi=>by rw[<-LX];exact MP (o:=.rows r Y) (l:=(AB.n,Ob.list (CN.map F3))::AB.h) hi
   have Eh:AL Bc.h AB.n=G (.list (CN.map F3)):=by rw[I6 _ (by(with_reducible exact PX (by assumption)))];exact JL
   have AG:Sub Bc (N1 f p r Y (CN.map F3)) [k,AB.n]:=⟨rfl,by simp;(with_reducible exact ER (by assumption)),λi m=>by rw[XP];simp at m;(with_reducible exact Mine.vt (by assumption) (by assumption)),λj o e=>by match j,e with
 |0,e=>injection e with e;subst e;exact⟨k,rfl,OJ⟩|1,e=>injection e with e;subst e;exact⟨AB.n,rfl,by rw[Eh,pa]⟩|j+2,e=>exact(BE e).elim⟩;have Es:∀j,(C' A_ [k,AB.n])[j]?=A_[DJ Bc.n [k,AB.n] j]?:=λj=>by
    have :=GI (J:=[]) AU.len AG.lt j;simpa using this
   have gS:=AU.sub AG (DF d) (mk _ _ λx v' e q=>by
    have rows:VR AJ.heap (C' A_ [k,AB.n]) (.ref 0) (f Jb)↔VR AJ.heap A_ (.ref k) (f Jb):=VR.DW Es;exact(show∀z∈R0 f p,K4 F z.1->(∃v,Ah AB.env z.1=G v)/\VR AJ.heap (C' A_ [k,AB.n]) z.2 (f z.1)from all_cons (λq=>⟨⟨_,he Ot _ rfl⟩,rfl⟩) (all_cons (λq=>⟨⟨_,he Ou _ rfl⟩,rfl⟩) (all_cons (λq=>⟨⟨_,he Ha _ rfl⟩,rfl⟩) (all_cons (λq=>⟨⟨_,he Hb _ rfl⟩,rfl⟩) (all_cons (λq=>⟨⟨_,he Ov _ rfl⟩,rfl⟩) (all_cons (λq=>⟨⟨_,he Ow _ rfl⟩,rfl⟩) (all_cons (λq=>⟨⟨_,he Jb _ rfl⟩,rows.mpr (hf _ _ (he Jb _ rfl) q)⟩) (all_cons (λq=>⟨⟨_,he KY _ rfl⟩,rfl⟩) (all_cons (λq=>⟨⟨_,he Mw _ rfl⟩,hf _ _ (he Mw _ rfl) q⟩) EE))))))))) _ (FF e) q);have rS:VR AJ.heap (C' A_ [k,AB.n]) (.ref 1) u:=(VR.DW Es).mpr Aq;refine OE gS rS (it:=.lst 1) rfl λAE Q tk Ap B8 hI EF Gu=>?_;refine aQ9 AV AM (by omega) aR0 (Af:=AJ.heap) hI CN [] r Y dP (by(with_reducible exact B4 (by assumption) (by assumption))) Ap B8.FZ EF Gu λAT s' g' x'=>?_;have CA:=g'.KU (i:=0) (o':=.rows (r-15) (Y++[.run p a b])) rfl λa' _ q=>by
    refine CZ q ?_;(try clear q);intro us pl vr l;have N:DS (Y++CN.flatMap (I5 p))=DS (Y++[.run p a b]):=by
      rw[OS,OS,aR2 R'];show _=_++(IZ (.run p a b)++[]);rw[HN];rfl
    rw[N]at vr l;exact⟨us,pl,vr,by(with_reducible exact Mine.vY (by assumption) (by assumption))⟩
   have Cn:=Gd.drop (K6:=[]) CA λx v e=>by exact(BE e).elim
   refine CZ (AU.oW AG Cn x' (A7:=⟨[],(k,.rows (r-15) (Y++[.run p a b]))::AB.h,AB.n+1⟩) ⟨rfl,DF _,by rw[XP];rfl,λi o e=>by
    refine Eb (b:=BC k i) (y:=AL AB.h i) e (λq e=>?_) λq e=>?_
    . injection e with e;subst e;rw[<-CD q];exact .inl ⟨0,_,rfl,rfl,rfl⟩
    . have h1:i≠k:=λz=>by rw[z,J1]at q;(exfalso;cases q)
      have h2:i≠AB.n:=λz=>by rw[z,UA]at e;exact(BE e).elim
      refine .inr ⟨?_,by simp;exact⟨h1,h2⟩⟩;rw[I6 i h1];have :BC AB.n i=A6:=by cases q:BC AB.n i with
 |false=>rfl|true=>exact absurd (CD q).symm h2
      simp only[AL,this,S4];exact e⟩) ?_;intro J BP gg xx;clear CA Cn x';subst BP;refine AC (g'.env.pe) ?_;intro f' FJ mk';refine kk _ _ s' (gg.aR1 (mk' _ (R1 v k p) λx w e q=>?_)) (Ab.FZ.trans xx) rfl;have same:∀(y:U)(z:V),K4 F y->Ah (R0 f p) y=G (.top (f y))->Ah AB.env y=G z->VR s'.heap (A_++J) z (f' y):=λy z q h1 h2=>by
    have e1:=FJ y _ h1 q;have e1:f' y=f y:=e1;rw[e1];exact(hf y z h2 q).nx xx
   exact(show∀z∈R1 v k p,K4 F z.1->(∃v,Ah (R0 f p) z.1=G v)/\VR s'.heap (A_++J) z.2 (f' z.1)from all_cons (λq=>⟨⟨_,rfl⟩,same Ot _ q rfl (he Ot _ rfl)⟩) (all_cons (λq=>⟨⟨_,rfl⟩,same Ou _ q rfl (he Ou _ rfl)⟩) (all_cons (λq=>⟨⟨_,rfl⟩,same Ha _ q rfl (he Ha _ rfl)⟩) (all_cons (λq=>⟨⟨_,rfl⟩,same Hb _ q rfl (he Hb _ rfl)⟩) (all_cons (λq=>⟨⟨_,rfl⟩,same Ov _ q rfl (he Ov _ rfl)⟩) (all_cons (λq=>⟨⟨_,rfl⟩,same Ow _ q rfl (he Ow _ rfl)⟩) (all_cons (λq=>⟨⟨_,rfl⟩,(VR.DW (GI AU.len AG.lt)).mp (FJ Jb (.ref 0) rfl q)⟩) (all_cons (λq=>⟨⟨_,rfl⟩,same KY _ q rfl (he KY _ rfl)⟩) (all_cons (λq=>⟨⟨_,rfl⟩,FJ Mw (.str p) rfl q⟩) EE))))))))) _ (FF e) q
 . intro x;rw[p_];kernel_rfl
end
@[irreducible]noncomputable def LY:AA:=Nk Mz (.Constant .none 0 ⟨0,0,0,0⟩) λ_ _ r _=>r
@[irreducible]noncomputable def aR6:B9:=Nk Mz ⟨0,0,0,0⟩ λz1 _ _ _=>DO z1 ⟨0,0,0,0⟩ λ_ p=>p
@[irreducible]noncomputable def aR7:B9:=Nk Mz ⟨0,0,0,0⟩ λ_ _ _ p=>p
@[irreducible]noncomputable def dR:AA:=IK LY (.Constant .none 0 ⟨0,0,0,0⟩) λe _ _ _=>e
@[irreducible]noncomputable def waT:AA:=IK LY (.Constant .none 0 ⟨0,0,0,0⟩) λ_ z1 _ _=>l1 z1 (.Constant .none 0 ⟨0,0,0,0⟩) λz2=>z2.target
@[irreducible]noncomputable def UB:I AA:=IK LY [] λ_ z1 _ _=>l1 z1 [] λz2=>ED z2.iter [] λ_ a _ _=>a
@[irreducible]noncomputable def ph:B9:=IK LY ⟨0,0,0,0⟩ λ_ z1 _ _=>l1 z1 ⟨0,0,0,0⟩ λz2=>ED z2.iter ⟨0,0,0,0⟩ λz3 _ _ _=>DO z3 ⟨0,0,0,0⟩ λ_ p=>p
@[irreducible]noncomputable def pi:B9:=IK LY ⟨0,0,0,0⟩ λ_ z1 _ _=>l1 z1 ⟨0,0,0,0⟩ λz2=>ED z2.iter ⟨0,0,0,0⟩ λ_ _ _ p=>p
noncomputable def UC:BU:=IK LY ⟨.function,[],A6,A6,[]⟩ λ_ _ sc _=>sc
@[irreducible]noncomputable def aR8:B9:=IK LY ⟨0,0,0,0⟩ λ_ _ _ p=>p
noncomputable def XQ:U:=⟨⟨[95,108,97,119,95,99,104,97,110,103,101,115]⟩⟩
noncomputable def dS:U:=⟨⟨[119,97,121]⟩⟩
noncomputable def R2:FP:=⟨waT,.Call (.Name XQ ph) UB [] pi,[],0⟩
theorem aR9:Mz=.BinOp (.Name Jb aR6) .Add LY aR7:=by kernel_rfl
theorem aS0:LY=.ListComp dR [R2] UC aR8:=by kernel_rfl
theorem aS1:MJ R2=M:=by kernel_rfl
theorem aS2:UB.all CP=M:=by kernel_rfl
theorem aS3:Di (BV Mx) XQ=M:=by kernel_rfl
theorem aS4:Ah CQ.glob XQ=G (.top (.ref 430)):=by kernel_rfl
noncomputable def UD:I (Tx×Tx):=[([47,97,47],[102]),([47,97,47,98,47],[103]),([47],[104]),([47],[109]),([47,97,47],[98]),([47,110,47],[107]),([47],[97])]
noncomputable def UE(p:Tx×Tx):I (U×V):=[(dS,.str p.1),(KY,.str p.2)]
noncomputable def Gc(p:Tx):I Tx->I Tx
 |t::r=>t::p::r|[]=>[p]
noncomputable def F7(m:I (I Tx)):I V:=m.map λr=>.tup L (r.map .str)
noncomputable def pj(a b:Tx)(p:Tx×Tx):AK:=match ev CQ 60 ⟨UC,6⟩ (.GS dR R2 [] (.lst 0) 0 []) ⟨UE p,[(0,.list (F7 (C8 a b)))],1⟩with
 |.ok (.vs l) H=>BC H.n 1&&cV l ((C8 a b).map (Gc (p.1++p.2)))|_=>A6
theorem aS5:(UD.all λp=>Kw (BV Mx) UC (UE p))=M:=by kernel_rfl
theorem aS6:∀a∈Bo A6,((Bo M).all λb=>UD.all (pj a b))=M:=by
 unfold Bo;repeat(refine all_cons (by kernel_rfl) ?_)
 exact EE
set_option tactic.hygienic true in
theorem aS7{a b:Tx}(ha:a∈Bo A6)(hb:b∈Bo M){p:Tx×Tx}(hp:p∈UD):∃H,ev CQ 60 ⟨UC,6⟩ (.GS dR R2 [] (.lst 0) 0 []) ⟨UE p,[(0,.list (F7 (C8 a b)))],1⟩=.ok (.vs (F7 ((C8 a b).map (Gc (p.1++p.2))))) H/\H.n=1:=by
 have h:=Bn.mp (Bn.mp (aS6 a ha) b hb) p hp;unfold pj at h;split at h
 . rename_i l H e;simp only[D6]at h;refine⟨H,?_,CD h.1⟩;rw[e,ny h.2];rfl
 . exact(E5 h).elim
theorem pk{m:I (I Tx)}:Cr BA (F7 m)=F7 m:=by
 have :=pZ (BA:=BA) (l:=m);injection this
theorem aS8{p:Tx}{x:I Tx}:Vm (.tup L ((Gc p x).map .str))=G (Hc p x):=(congrArg (λo=>B' o λl=>G (Sg.it l)) pL).trans (by cases x<;>rfl)
theorem aS9{p:Tx}{m:I (I Tx)}:QA (F7 (m.map (Gc p)))=G (m.map (Hc p)):=by induction m with
 |nil=>rfl|cons x m ih=>exact(congrArg (λo=>B' o λt=>B' (QA (F7 (m.map (Gc p)))) λr=>G (t::r)) aS8).trans (congrArg (λo=>B' o λr=>G (Hc p x::r)) ih)
theorem aT0{p:Tx}{m:I (I Tx)}:DS (m.map (Hc p))=m.map (O8 p):=by induction m with
 |nil=>rfl|cons x m ih=>exact(congrArg (IZ (Hc p x)++·) ih).trans (by cases x<;>rfl)
theorem aT1(o:Op):(Ip o).length<=1:=by
 rcases dQ o with⟨x,e⟩|e<;>rw[e];. exact DF _
 . exact Nh _
theorem aT2{CN:I Op}:(CN.flatMap Ip).length<=CN.length:=by induction CN with
 |nil=>exact DF _|cons o CN ih=>rw[Yd,FD];exact B4 (Um (aT1 o) ih) (Ek (Ll 1 _))
theorem aT3{a b:Tx}(ha:a∈Bo A6)(hb:b∈Bo M):(C8 a b).length<=15:=by
 refine iP (o8 ha hb UC) ?_;intro _ _ _ _ CN _ _ _ _ _ _ h l;rw[<-h];exact B4 aT2 l
section
variable{J:I A8}
theorem aT4(SL:OG B A3 n){A1 l:I V}(Ig:MJ g=M)(Bl:Gd B F K A H C s)(hs:Kw K.sc sc K6=M)(hd:d<=K.d)(hi:Ae B F K A ⟨AB.env,(AB.n,.list A1)::AB.h,AB.n+1⟩ C s (eval g.iter F.env) (RV (.ref AB.n)))(UA:AL AB.h AB.n=L)(hL:∀BA,Cr BA A1=A1)(hl:∀BA,Cr BA l=l)(he:∀x v,Ah K6 x=G v->Ah AB.env x=G v/\Cl v)(h:ev A3 n ⟨sc,d⟩ (.GS C_ g gens (.lst 0) 0 []) ⟨K6,[(0,.list A1)],1⟩=.ok (.vs l) Bc)(hn:Bc.n=1):Ae B F K A ⟨AB.env,(AB.n+1,.list l)::AB.h,AB.n+2⟩ C s (eval (.ListComp C_ (g::gens) sc pos) F.env) (RV (.ref (AB.n+1))):=by
 refine xA (QN Ig) ?_;intro hp ha;intro A2 E kk;refine S5 (Bl.kinds.comp hs (A1:=s.heap.objs.size) rfl λc m z=>by refine H8 (Bl.D1 c m) ?_;intro _ o e;rw[z,GD]at e;exact(BE e).elim) ?_;intro _ hk Mb D2 Mc _;rw[bt6];have OL:Uv (g::gens)=A6:=by obtain⟨_,_,_,k⟩:=g;show(k !=0)=A6;simp only at ha;rw[ha];rfl
 have OM:Uw (g::gens) F.env=eval g.iter F.env:=by obtain⟨_,_,_,_⟩:=g;rfl
 rw[OL,OM];refine g8 (use:=L) (g:=g) (gs:=gens) rfl (λx=>QK hp x) (WL D2) hk Mc ?_;refine hi _ _ λu A_ AJ AN Ab Aq=>?_;have Eh:AL ((AB.n,Ob.list A1)::AB.h) AB.n=G (.list A1):=JL;have AG:Sub ⟨AB.env,(AB.n,.list A1)::AB.h,AB.n+1⟩ ⟨K6,[(0,.list A1)],1⟩ [AB.n]:=⟨rfl,by simp,λi m=>by simp at m;show i<AB.n+1;omega,λj o e=>by match j,e with
 |0,e=>injection e with e;subst e;exact⟨AB.n,rfl,by show AL ((AB.n,Ob.list A1)::AB.h) AB.n=G (Ob.list (Cr _ A1));rw[Eh,hL]⟩|j+1,e=>exact(BE e).elim⟩;have Es:∀j,(C' A_ [AB.n])[j]?=A_[DJ (AB.n+1) [AB.n] j]?:=λj=>by
  have :=GI (J:=[]) AN.len AG.lt j;simpa using this
 have gS:=AN.sub AG hd (Cf.pick Es AN.env λx v e=>by rw[(he x v e).2];exact(he x v e).1);have rS:VR AJ.heap (C' A_ [AB.n]) (.ref 0) u:=(VR.DW Es).mpr Aq;refine au (K:=⟨K.sc,d⟩) (RR:=λAm A1=>tM (AQ B.prog B.w) A E L A2 Am A1) SL Ig gS hs rS (it:=.lst 0) rfl h λLf D AT s' g' Qt hD x' a'=>?_;refine AC (id g'.env) ?_;intro m ns _;refine⟨m,ns,λQ Df=>?_⟩;refine Ho a' ?_;(try clear a');intro fD us F_ vr;have Hz:∀o,s'.heap.get? Lf=G o->C2 o=A6:=λo e=>by
  refine Gp ns ?_;(try clear ns);intro o' N ep e' d _;have e':s'.heap.get? Lf=G o':=e';rw[e']at e;injection e with e;subst e;unfold C2;rw[d];simp
 have KG:D≠Lf:=λz=>fD.w (by rw[z];exact CI.mpr rfl);have im:=Gs Df.extBut Hz;refine xA (gS.leave (F':=I0 F sc Lf) rfl g' Qt hD x' fD Df Hz (o:=.list l) ⟨us,F_.extBut Df.extBut KG,vr.mono im⟩) ?_;intro gg xx;have I6:=g'.len;rw[hn]at I6;refine CZ (AN.out AG gg xx (A7:=⟨AB.env,(AB.n+1,.list l)::AB.h,AB.n+2⟩) ⟨rfl,by show 1<=Bc.n+1;(with_reducible exact fN _ _),by show AB.n+2=AB.n+1+(Bc.n+1-1);(with_reducible exact Mine.v_ (by assumption)),λi o e=>by
  refine Eb (b:=BC (AB.n+1) i) (y:=AL AB.h i) e (λq e=>?_) λq e=>?_
  . injection e with e;subst e;rw[<-CD q];refine .inl ⟨Bc.n,.list l,(by show AL ((Bc.n,Ob.list l)::Bc.h) Bc.n=_;exact JL),?_,?_⟩;. rw[hn];rfl
    . show _=Ob.list (Cr _ l);rw[hl]
  . have h2:i≠AB.n:=λz=>by rw[z,UA]at e;exact(BE e).elim
    refine .inr ⟨?_,by simpa using h2⟩;have :BC AB.n i=A6:=by cases q:BC AB.n i with
 |false=>rfl|true=>exact absurd (CD q).symm h2
    show AL ((AB.n,_)::AB.h) i=G o;simp only[AL,this,S4];exact e⟩) ?_;intro J eα bZ0 xb;refine kk _ _ _ bZ0 (Ab.trans xb) ⟨D,?_,rfl⟩;have GA:(C' A_ [AB.n]++J)[1]?=G D:=by
  rw[<-eα];have :(AT++[D])[AT.length]?=G D:=by simp
  rw[I6]at this;exact this
 have :=GI (J:=J) AN.len AG.lt 1;rw[GA]at this;exact this.symm
end
section
variable{J:I A8}
theorem XR{a b:O}(h:a≠b):BC a b=A6:=by cases q:BC a b with
 |false=>rfl|true=>exact absurd (CD q) h
theorem aT5{Y:I Sg}(hr:FW ob=G (r,Y))(q:Ca prog w h C a (.rows r Y)):Ca prog w h C a ob:=by
 refine CZ (id q) ?_;intro us p v _;revert q;apply bL hr;. exactλ_ _ _=>⟨us,p,v⟩
 . exact id
theorem aT6(AV:(Bb P).In B.base)(AM:Dg B)(hd:20<=d){a b:Tx}(ha:a∈Bo A6)(hb:b∈Bo M){p:Tx×Tx}(hp:p∈UD){k:O}{Y:I Sg}(R':Ah H.env Jb=G (.ref k))(hv:ev CQ 60 ⟨BV Mx,d⟩ (.N UB) H=.ok (.vs [.sym A6 a ha,.sym M b hb]) AB)(hw:Ah AB.env dS=G (.str p.1))(hnm:Ah AB.env KY=G (.str p.2))(pf:k<AB.n)(UA:AL AB.h AB.n=L)(hn2:AL AB.h (AB.n+1)=L)(hk:AL AB.h k=G ob)(hr:FW ob=G (r,Y))(pg:15<=r)(hrc:r<=Dm)(g:Gd B F ⟨BV Mx,d⟩ A H C s):Ae B F ⟨BV Mx,d⟩ A ⟨AB.env,(AB.n+2,.rows (r-15) (Y++[.run (p.1++p.2) a b]))::AB.h,AB.n+3⟩ C s (eval Mz F.env) (RV (.ref (AB.n+2))):=by
 intro A2 E kk;rw[aR9];have A9:=(all1 AV AM 60).s;refine AC (aS7 ha hb hp) ?_;intro σw LZ hn;refine tB (aR (v:=.ref k) g (by kernel_rfl) R' _ _ λu A_ AJ AN Ab Aq=>?_);rw[aS0];have hi:Ae B F ⟨BV Mx,d⟩ A ⟨AB.env,(AB.n,.list (F7 (C8 a b)))::AB.h,AB.n+1⟩ A_ AJ (eval R2.iter F.env) (RV (.ref AB.n)):=by
   intro A2 E k;show AH _ A (eval (.Call (.Name XQ ph) UB [] pi) F.env) A2 E AJ;refine LW (Bl:=GH AV) (A3:=CQ) aS3 aS4 aS2 AN (λBG EN p Fa Cq=>A9.N hv p Fa) λus Au Ai AU Al BB=>?_;have hf:AL Im 430=G (DE (Ba 35)):=by kernel_rfl
   refine DB (Ml AV (Mn AV) (Oe P hf)) ?_;intro o fd ok;refine⟨CW.func (AU.base _ _ ok.get) ok.data,aP8 AV AM ha hb hd AU (show Aa Ai.heap Au [.str a,.str b] us from BB) _ _ λu BS Ax Ap B8 BQ=>k u BS Ax Ap (Al.trans B8) BQ⟩
 refine aT4 (all1 AV AM 60).l (g:=R2) (gens:=[]) (K6:=UE p) (A1:=F7 (C8 a b)) aS1 AN (Bn.mp aS5 p hp) (d:=6) (by show 6<=d;omega) hi UA (λBA=>pk) (λBA=>pk) (λx v e=>?_) LZ hn _ _ λu' Au Ai AU Al BB=>?_
 . have :=FF e;simp only[UE,Cj,bG4,Jq,Jr]at this;rcases this with Aw|B6;refine xA Aw ?_;(try clear Aw);intro BJ BP;subst BJ;subst BP;rotate_left;refine xA B6 ?_;(try clear B6);intro Bq Bg;subst Bq;subst Bg;rotate_left;. exact⟨hw,λ_=>rfl⟩
   . exact⟨hnm,λ_=>rfl⟩
 . have N3:AL ((AB.n+1,Ob.list (F7 ((C8 a b).map (Gc (p.1++p.2)))))::AB.h) k=G ob:=by rw[IY (show AB.n+1≠k by omega)];exact hk
   have Ap:=AU.KU (i:=k) (o:=ob) (o':=.rows r Y) N3 λa' Fq _=>by
     refine HS (WZ AU ⟨a',Fq,rfl⟩ N3 hr) ?_;intro a'' us e p v l;injection e with e;subst e;exact⟨us,p,v,l⟩
   generalize LX:Mine.St.set ⟨AB.env,(AB.n+1,Ob.list (F7 ((C8 a b).map (Gc (p.1++p.2)))))::AB.h,AB.n+2⟩ k (.rows r Y)=Bc at Ap;have XP:Bc.n=AB.n+2:=by rw[<-LX];rfl
   have Ij:Bc.env=AB.env:=by rw[<-LX];rfl
   have OJ:AL Bc.h k=G (.rows r Y):=by rw[<-LX];exact MO N3
   have I6:∀i,i≠k->AL Bc.h i=AL ((AB.n+1,Ob.list (F7 ((C8 a b).map (Gc (p.1++p.2)))))::AB.h) i:=λi hi=>by rw[<-LX];exact MP (o:=.rows r Y) (l:=(AB.n+1,Ob.list (F7 ((C8 a b).map (Gc (p.1++p.2)))))::AB.h) hi
   have Eh:AL Bc.h (AB.n+1)=G (.list (F7 ((C8 a b).map (Gc (p.1++p.2))))):=by rw[I6 _ (by omega)];exact JL
   have Ch:=aT3 ha hb;have hL:(F7 ((C8 a b).map (Gc (p.1++p.2)))).length=(C8 a b).length:=by simp[F7]
   have pn:CH (F7 ((C8 a b).map (Gc (p.1++p.2))))=M:=by unfold CH;rw[hL];exact uc (by(with_reducible exact B4 (by assumption) (by decide)))
   have I1:Vu .Add (.ref k) (.ref (AB.n+1)) Bc=.ok (.v (.ref (AB.n+2))) ⟨AB.env,(AB.n+2,.rows (r-(C8 a b).length) (Y++(C8 a b).map (Hc (p.1++p.2))))::Bc.h,AB.n+3⟩:=by
     have e0:Ss k (AB.n+1) Bc=A0.of (FW (.rows r Y)) λx=>A0.of (FW (.list (F7 ((C8 a b).map (Gc (p.1++p.2)))))) λy=>A0.iff (EQ Dm (x.1+y.1)) (FX (Bc.new (.rows (x.1+y.1-Dm) (x.2++y.2)))):=by unfold Ss;rw[OJ,Eh];rfl
     show Ss k (AB.n+1) Bc=_;rw[e0,show FW (.rows r Y)=G (r,Y)from rfl,show FW (.list (F7 ((C8 a b).map (Gc (p.1++p.2)))))=bT (CH (F7 ((C8 a b).map (Gc (p.1++p.2))))) L (B' (QA (F7 ((C8 a b).map (Gc (p.1++p.2))))) λl=>G (Dm-(F7 ((C8 a b).map (Gc (p.1++p.2)))).length,l))from rfl,pn,aS9,hL];simp only[bT,B',A0.of];have h1:r+(Dm-(C8 a b).length)-Dm=r-(C8 a b).length:=yC (B4 Ch (by decide));rw[show EQ Dm (r+(Dm-(C8 a b).length))=M from uc (yD (B4 Ch (by decide)) (B4 Ch pg))];simp only[A0.iff,FX,St.new,XP,Ij,h1]
   refine OU.bin Ap (Aq.nx Al) BB I1 _ _ λy BS Ax CA B8 BQ=>?_;have Qb:AL ((AB.n+2,Ob.rows (r-(C8 a b).length) (Y++(C8 a b).map (Hc (p.1++p.2))))::Bc.h) k=G (.rows r Y):=by rw[IY (show AB.n+2≠k by omega)];exact OJ
   have Cn:=(CA.KU (i:=k) (o':=ob) Qb λa' _ q=>aT5 hr q).KU (i:=AB.n+2) (o:=.rows (r-(C8 a b).length) (Y++(C8 a b).map (Hc (p.1++p.2)))) (o':=.rows (r-15) (Y++[.run (p.1++p.2) a b])) (by
     refine(MP (j:=AB.n+2) (o:=ob) (l:=(AB.n+2,Ob.rows (r-(C8 a b).length) (Y++(C8 a b).map (Hc (p.1++p.2))))::Bc.h) (by omega)).trans ?_;exact JL) λa' _ q=>by
     refine CZ q ?_;(try clear q);intro us pl vr l;have N:DS (Y++(C8 a b).map (Hc (p.1++p.2)))=DS (Y++[.run (p.1++p.2) a b]):=by
       rw[OS,OS,aT0];show _=_++(IZ (.run (p.1++p.2) a b)++[]);rw[HN];rfl
     rw[N]at vr l;exact⟨us,pl,vr,B4 (HK (fH Ch r) _) l⟩
   refine kk y BS Ax (Gd.forget (env:=AB.env) (n:=AB.n+3) Cn λi o e=>?_) (Ab.trans (Al.trans B8)) BQ;show AL (putN (putN ((AB.n+2,Ob.rows (r-(C8 a b).length) (Y++(C8 a b).map (Hc (p.1++p.2))))::Bc.h) k ob) (AB.n+2) (.rows (r-15) (Y++[.run (p.1++p.2) a b]))) i=G o;by_cases h2:i=AB.n+2
   . subst h2;rw[JL]at e;replace e:=Bm e;rw[<-e];refine MO (w:=.rows (r-(C8 a b).length) (Y++(C8 a b).map (Hc (p.1++p.2)))) ?_;rw[MP (by omega)];exact JL
   . rw[IY (CX h2)]at e;rw[MP h2];by_cases h3:i=k
     . clear Cn I1 pf N3 OJ I6 R' LX Aq;subst h3;rw[hk]at e;injection e with e;subst e;exact MO Qb
     . rw[MP h3];have h4:i≠AB.n+1:=λz=>by rw[z,hn2]at e;exact(BE e).elim
       rw[IY (CX h2)];rw[I6 i h3];rw[IY (CX h4)];exact e
end
noncomputable def po(a b:I (U×E3)):AK:=all2 (λa b=>Cw a.1 b.1&&decide (a.2=b.2)) a b
theorem aT7{a b:I (U×E3)}(h:po a b=M):a=b:=Np (λa b e=>NQ (E2.mp (B1 e)) (of_decide_eq_true (Ak e))) a b h
noncomputable def dU(a b:BU):AK:=decide (a.kind=b.kind)&&(po a.names b.names&&(decide (a.isGenerator=b.isGenerator)&&(decide (a.isCoroutine=b.isCoroutine)&&decide (a.more=b.more))))
theorem pp{a b:BU}(h:dU a b=M):a=b:=by
 cases a;cases b;exact congr (congr (congr (congr (congrArg Scope.mk (of_decide_eq_true (B1 h))) (aT7 (B1 (Ak h)))) (of_decide_eq_true (B1 (Ak (Ak h))))) (of_decide_eq_true (B1 (Ak (Ak (Ak h)))))) (of_decide_eq_true (Ak (Ak (Ak (Ak h)))))
noncomputable def dV(v:V)(d:J)(k:(b:AK)->(t:Tx)->t∈Bo b->J):J:=if h:v.ctorIdx=9 then V.sym.elim (motive_1:=λ_=>J) v h k else d
theorem aT8{d:J}{k:(b:AK)->(t:Tx)->t∈Bo b->J}{r:J}(h:dV v d k=r)(hd:d=r->Bj){P:V->Prop}(c:∀b t ok,k b t ok=r->P (.sym b t ok)):P v:=if q:v.ctorIdx=9 then V.sym.elim (motive_1:=λv=>dV v d k=r->P v) v q (λb t ok h=>c b t ok h) h else(hd ((D3 q).symm.trans h)).elim
noncomputable def UF(b:AK)(v:V):AD {t:Tx//t∈Bo b}:=dV v L λb' t ok=>if h:b'=b then G ⟨t,h▸ok⟩else L
theorem XS{a:{t:Tx//t∈Bo b}}(h:UF b v=G a){P:V->Prop}(c:P (.sym b a.1 a.2)):P v:=by
 apply aT8 h AF;intro b' t ok h;cases bT8 (b'=b)with
 |inr n=>rw[D3 n]at h;exact(AF h).elim|inl e=>
 subst e;rw[dif_pos rfl]at h;have :=Bm h;clear h;subst this;exact c
noncomputable def dW(o:A0)(k:I V->Mine.St->AD J):AD J:=match o with|.bad=>L|.ok r H=>match r with|.vs l=>k l H|.v _=>L|.b _=>L|.f _=>L|.ps _=>L
theorem pq{o:A0}{k:I V->Mine.St->AD J}{r:J}(h:dW o k=G r){P:A0->Prop}(c:∀l H,k l H=G r->P (.ok (.vs l) H)):P o:=by cases o with
 |bad=>exact(AF h).elim|ok x H=>cases x with
 |vs l=>exact c l H h|_=>exact(AF h).elim
noncomputable def pr(o:A0):AD ({t:Tx//t∈Bo A6}×{t:Tx//t∈Bo M}×Mine.St):=dW o λl H=>lC l L λz l=>IS z L (l2 l L λa b=>B' (UF A6 a) λa=>B' (UF M b) λb=>G (a,b,H))
theorem aT9{o:A0}{a:{t:Tx//t∈Bo A6}}{b:{t:Tx//t∈Bo M}}(h:pr o=G (a,b,H)):o=.ok (.vs [.none,.sym A6 a.1 a.2,.sym M b.1 b.2]) H:=by
 apply pq h;intro l A7 h;apply FT h AF;intro z l h;apply Pz h AF;intro h;apply Hn h AF;intro x y h;refine BI h λa' ha h=>BI h λb' hb h=>?_;apply XS ha;apply XS hb;apply M7 h;rfl
noncomputable def pt(o:A0):AD ({t:Tx//t∈Bo A6}×{t:Tx//t∈Bo M}×Mine.St):=dW o λl H=>l2 l L λa b=>B' (UF A6 a) λa=>B' (UF M b) λb=>G (a,b,H)
theorem aU0{o:A0}{a:{t:Tx//t∈Bo A6}}{b:{t:Tx//t∈Bo M}}(h:pt o=G (a,b,H)):o=.ok (.vs [.sym A6 a.1 a.2,.sym M b.1 b.2]) H:=by
 apply pq h;intro l A7 h;apply Hn h AF;intro x y h;refine BI h λa' ha h=>BI h λb' hb h=>?_;apply XS ha;apply XS hb;apply M7 h;rfl
noncomputable def dZ(v:V):AD O:=DQ v L G
noncomputable def isStr(v:V):AD Tx:=vStr v L G
theorem pu{k:O}(h:dZ v=G k):v=.ref k:=by apply EI h AF;intro i h;apply Br h;rfl
theorem d_{k:Tx}(h:isStr v=G k):v=.str k:=by apply Dd h AF;intro i h;apply Br h;rfl
noncomputable def pw(a b c d e f g:V):O->V|0=>a|1=>b|2=>c|3=>d|4=>e|5=>f|_=>g
noncomputable def XV(h:I (O×Ob))(i:O):AK:=oN (AL h i) A6 M
theorem db{h:I (O×Ob)}(e:XV h i=M):AL h i=L:=by exact GP (P:=λo=>o=L) e B0 λ_=>rfl
noncomputable def UG(b:AK)(x:AD J):AD J:=bT b L x
noncomputable def py(K:Kx)(H:Mine.St):AD A0:=UG (EQ 20 K.d&&dU K.sc (BV HG))<|B' (pr (ev CQ 60 K (.N Oq) H)) λt=>B' (Ah t.2.2.env Ot) λv0=>B' (Ah t.2.2.env Ou) λv1=>B' (Ah t.2.2.env Ha) λv2=>B' (Ah t.2.2.env Hb) λv3=>B' (Ah t.2.2.env Ov) λv4=>B' (Ah t.2.2.env Ow) λv5=>B' (Ah t.2.2.env KY) λv6=>B' (Ah t.2.2.env Jb) λrv=>B' (dZ rv) λk=>B' (Ah t.2.2.env Mw) λpv=>B' (isStr pv) λp=>B' (AL t.2.2.h k) λob=>B' (FW ob) λrx=>UG (G0 k t.2.2.n&&(XV t.2.2.h t.2.2.n&&EQ 15 rx.1)) (G (.ok (.f .next) ⟨R1 (pw v0 v1 v2 v3 v4 v5 v6) k p,(k,.rows (rx.1-15) (rx.2++[.run p t.1.1 t.2.1.1]))::t.2.2.h,t.2.2.n+1⟩))
noncomputable def pz(p:Tx×Tx)(l:I (Tx×Tx)):AK:=l.any λx=>CU p.1 x.1&&CU p.2 x.2
theorem aU1{p:Tx×Tx}{l:I (Tx×Tx)}(h:pz p l=M):p∈l:=by
 refine AC (II.mp h) ?_;intro x m e;rw[show p=x from NQ (Ec.mp (B1 e)) (Ec.mp (Ak e))];exact m
noncomputable def qA(K:Kx)(H:Mine.St):AD A0:=UG (EQ 20 K.d&&dU K.sc (BV Mx))<|B' (Ah H.env Jb) λrv=>B' (dZ rv) λk=>B' (pt (ev CQ 60 K (.N UB) H)) λt=>B' (Ah t.2.2.env dS) λwv=>B' (isStr wv) λw=>B' (Ah t.2.2.env KY) λnv=>B' (isStr nv) λnm=>B' (AL t.2.2.h k) λob=>B' (FW ob) λrx=>UG (pz (w,nm) UD&&(G0 k t.2.2.n&&(XV t.2.2.h t.2.2.n&&(XV t.2.2.h (t.2.2.n+1)&&(EQ 15 rx.1&&EQ rx.1 Dm))))) (G (.ok (.v (.ref (t.2.2.n+2))) ⟨t.2.2.env,(t.2.2.n+2,.rows (rx.1-15) (rx.2++[.run (w++nm) t.1.1 t.2.1.1]))::t.2.2.h,t.2.2.n+3⟩))
noncomputable def dc(K:Kx)(args:I V)(H:Mine.St):AD A0:=l2 args L λa b=>DQ a L λi=>vStr b L λq=>B' (AL H.h i) λo=>MG o L λN=>B' (U9 N) λA1=>UG (EQ 7 K.d&&(U6 q KX&&(LU A1&&(Oo N&&(A1.all (U6 · KW)&&EQ A1.length 20))))) (G (.ok (.v (.ref (H.n+1))) ⟨H.env,(H.n+1,.list ((Ea (E9 q A1)).map .str))::H.h,H.n+2⟩))
noncomputable def de(K:Kx)(c:Cd)(H:Mine.St):AD A0:=jp (λx K H=>bT (Qu x Mz) L (qA K H)) (λx K H=>bT (pW x My) L (py K H)) (λf args K H=>IR f L λw=>Kv w L λa=>bC (BC a 399) (dc K args H) (Qo K (.call (.top (.ref a)) args) H)) c K H
noncomputable abbrev UH:Mine.Ctx:=Mm de
theorem aU2:JK Mz=A6:=by kernel_rfl
section
theorem aU3(AV:(Bb P).In B.base)(AM:Dg B)(h:dc K args H=G (.ok (.v v) A7))(g:Gd B F K A H C s)(rs:Aa s.heap C args us):Ae B F K A A7 C s (CE (.ref 399) us) (RV v):=by
 revert rs;apply Hn h AF;intro a b h;apply EI h AF;intro i h;apply Dd h AF;intro q h rs;refine BI h λo hi h=>?_;revert hi;apply Sb h AF;intro N h hi;refine BI h λA1 hk h=>Ce h AF λhc h=>?_;apply B5 (Bm h);have c1:=Ak hc;have c2:=Ak c1;have c3:=Ak c2;have c4:=Ak c3;exact aP1 AV AM (XD (B1 c1)) hk (Mu (B1 c2)) (B1 c3) (λp m=>XD (Bn.mp (B1 c4) p m)) (Dk (Ak c4)) (Dk (B1 hc)) hi g rs
theorem qB{f:V}{o:A0}(h:de K (.call f args) H=G o){AS:V->Prop}(i:dc K args H=G o->AS (.top (.ref 399)))(e:Qo K (.call f args) H=G o->AS f):AS f:=by
 revert e;apply O0 h AF;intro w h;apply Q0 h AF;intro a h e;refine Nn h (λq h=>?_) e;rw[CD q];exact i h
theorem aU4(AV:(Bb P).In B.base)(AM:Dg B)(h:qA K H=G (.ok (.v v) A7))(g:Gd B F K A H C s):Ae B F K A A7 C s (eval Mz F.env) (RV v):=by
 refine Ce h AF λh0 h=>?_;obtain⟨sc,d⟩:=K;obtain rfl:=pp (Ak h0);refine BI h λrv e1 h=>BI h λk e2 h=>BI h λt e3 h=>BI h λwv e4 h=>BI h λw e5 h=>BI h λnv e6 h=>BI h λnm bZ1 h=>BI h λob e8 h=>BI h λrx e9 h=>Ce h AF λhc h=>?_;apply B5 (Bm h);rw[pu e2]at e1;rw[d_ e5]at e4;rw[d_ bZ1]at e6;have c1:=Ak hc;have c2:=Ak c1;have c3:=Ak c2;have c4:=Ak c3;exact aT6 AV AM (Dk (B1 h0)) t.1.2 t.2.1.2 (p:=(w,nm)) (aU1 (B1 hc)) e1 (aU0 e3) e4 e6 (gX (Dk (B1 c1))) (db (B1 c2)) (db (B1 c3)) e8 e9 (Dk (B1 c4)) (Dk (Ak c4)) g
theorem aU5(AV:(Bb P).In B.base)(AM:Dg B)(h:py K H=G (.ok (.f f) A7))(g:Gd B F K A H C s):CJ B F K A A7 C s (exec My F.env) (FR f):=by
 refine Ce h AF λh0 h=>?_;obtain⟨sc,d⟩:=K;obtain rfl:=pp (Ak h0);refine BI h λt e3 h=>BI h λv0 e10 h=>BI h λv1 e11 h=>BI h λv2 e12 h=>BI h λv3 e13 h=>BI h λv4 e14 h=>BI h λv5 e15 h=>BI h λv6 e16 h=>BI h λrv e1 h=>BI h λk e2 h=>BI h λpv e4 h=>BI h λp e5 h=>BI h λob e8 h=>BI h λrx e9 h=>Ce h AF λhc h=>?_;apply BX (Bm h);rw[pu e2]at e1;rw[d_ e5]at e4;have all:∀q∈R1 (pw v0 v1 v2 v3 v4 v5 v6) k p,Ah t.2.2.env q.1=G q.2:=all_cons e10 (all_cons e11 (all_cons e12 (all_cons e13 (all_cons e14 (all_cons e15 (all_cons e1 (all_cons e16 (all_cons e4 EE))))))));exact aR5 AV AM (Dk (B1 h0)) t.1.2 t.2.1.2 (aT9 e3) (λx w e=>all _ (FF e)) (gX (Dk (B1 hc))) (db (B1 (Ak hc))) e8 e9 (Dk (Ak (Ak hc))) g
theorem sm3(AV:(Bb P).In B.base)(AM:Dg B):Mk B UH where
 only:=λ{K c H o}h=>by
  change de K c H=G o at h;cases c with
 |call f args=>exact .inl ⟨_,_,rfl⟩|s x=>exact .inr (.inr ⟨_,rfl⟩)|e x=>exact Ce h AF λq _=>.inr (.inl ⟨_,rfl,by rw[Qv q];exact aU2⟩)|_=>exact(AF h).elim
 MZ:=λ{K f args H A7 v}h{F A C s fu}g r=>by
  revert r;refine qB (AS:=λf=>VR s.heap C f fu->CW (AQ B.prog B.w) s.heap fu) h ?_ ?_;rotate_left;. exactλh r=>(cU AV AM).MZ h g r
  intro _ r;cases r;have hf:AL Im 399=G (DE (Ba 30)):=by kernel_rfl
  refine DB (Ml AV (Mn AV) (Oe P hf)) ?_;intro o fd ok;exact CW.func (g.base _ _ ok.get) ok.data
 call:=λ{K f args H A7 v}h{F A C s fu us}g r rs=>by
  revert r;refine qB (AS:=λf=>VR s.heap C f fu->Ae B F K A A7 C s (call fu us) (RV v)) h ?_ ?_;rotate_left;. exactλh r=>(cU AV AM).call h g r rs
  intro h r;cases r;exact aU3 AV AM h g rs
 e:=λ{K x H A7 v}h{F A C s}g=>Ce h AF λq h=>by rw[Qv q];exact aU4 AV AM h g
 s:=λ{K x H A7 f}h{F A C s}g=>Ce h AF λq h=>by rw[aP6 q];exact aU5 AV AM h g
theorem aU6(AV:(Bb P).In B.base)(AM:Dg B)(n:O):All B UH n:=Ww (cS AV AM (sm3 AV AM)) n
end
noncomputable def XW(k:O)(o:A0):AD (I Sg):=K3 o L λv H=>DQ v L λi=>bT (EQ k i) L<|B' (AL H.h i) λo=>B' (FW o) λr=>G r.2
noncomputable def qC(CG:CB A6)(C7:CB M)(L0 L1:I Tx):Mine.St:=⟨[],[(0,.B3 (BM (Ay CG) L0)),(1,.B3 (BM (Ay C7) L1))],2⟩
noncomputable def UI(sc:BU)(CG:CB A6)(C7:CB M)(L0 L1:I Tx):AD (I Sg):=XW 2 (ev UH 200 ⟨sc,40⟩ (.call (.top (.ref 404)) [.ref 0,.ref 1,.str [47]]) (qC CG C7 L0 L1))
noncomputable def Ge(n:O)(BF:I (O×Ob)):I (O×Ob):=BF.map λp=>(n+p.1,DV (n+·) p.2)
noncomputable def qD(H0 H1:I (O×Ob)):Mine.St:=⟨[],H0++Ge H0.length H1,H0.length+H1.length⟩
noncomputable def dg(sc:BU)(H0 H1:I (O×Ob)):AD (I Sg):=XW (H0.length+H1.length) (ev UH 200 ⟨sc,40⟩ (.call (.top (.ref 435)) [.ref 0,.ref H0.length,.str [47]]) (qD H0 H1))
noncomputable def Agree(L0 L1:I Tx)(H0:CB A6->I (O×Ob))(H1:CB M->I (O×Ob)):Prop:=∀(sc:BU)(CG:CB A6)(C7:CB M),∃l,UI sc CG C7 L0 L1=G l/\dg sc (H0 CG) (H1 C7)=G l
theorem Ox{H0:CB A6->I (O×Ob)}{H1:CB M->I (O×Ob)}(h:∀(sc:BU)(CG:CB A6)(C7:CB M),(UI sc CG C7 L0 L1,dg sc (H0 CG) (H1 C7))=(G ((UI sc CG C7 L0 L1).getD []),G ((UI sc CG C7 L0 L1).getD []))):Agree L0 L1 H0 H1:=λsc CG C7=>⟨_,congrArg tm (h sc CG C7),congrArg Prod.snd (h sc CG C7)⟩
noncomputable def Ag(p:O×O):Prop:=Agree (DY.getD p.1 []) (DZ.getD p.2 []) (F5 p.1) (F6 p.2)
theorem ag0:∀p∈[((0,0):O×O),(0,1),(0,2),(0,3),(0,4),(0,5)],Ag p:=by
 repeat(refine all_cons (Ox λsc CG C7=>by kernel_rfl) ?_)
 exact EE
theorem ag1:∀p∈[((1,0):O×O),(1,1),(1,3),(2,0),(2,1),(2,2)],Ag p:=by
 repeat(refine all_cons (Ox λsc CG C7=>by kernel_rfl) ?_)
 exact EE
theorem ag2:∀p∈[((2,3):O×O),(2,4),(2,5),(3,0),(3,1),(3,3)],Ag p:=by
 repeat(refine all_cons (Ox λsc CG C7=>by kernel_rfl) ?_)
 exact EE
theorem ag3:∀p∈[((4,0):O×O),(4,1),(4,3),(5,1),(6,0),(6,1)],Ag p:=by
 repeat(refine all_cons (Ox λsc CG C7=>by kernel_rfl) ?_)
 exact EE
theorem ag4:∀p∈[((6,2):O×O),(6,3),(6,4),(6,5),(7,0),(7,1)],Ag p:=by
 repeat(refine all_cons (Ox λsc CG C7=>by kernel_rfl) ?_)
 exact EE
theorem ag5:∀p∈[((7,2):O×O),(7,3),(7,4),(7,5),(8,0),(8,1)],Ag p:=by
 repeat(refine all_cons (Ox λsc CG C7=>by kernel_rfl) ?_)
 exact EE
theorem ag6:∀p∈[((8,3):O×O),(9,1),(10,0),(10,1),(10,3),(11,1)],Ag p:=by
 repeat(refine all_cons (Ox λsc CG C7=>by kernel_rfl) ?_)
 exact EE
noncomputable def qE:I (O×O):=[(0,0),(0,1),(0,2),(0,3),(0,4),(0,5)]++[(1,0),(1,1),(1,3),(2,0),(2,1),(2,2)]++[(2,3),(2,4),(2,5),(3,0),(3,1),(3,3)]++[(4,0),(4,1),(4,3),(5,1),(6,0),(6,1)]++[(6,2),(6,3),(6,4),(6,5),(7,0),(7,1)]++[(7,2),(7,3),(7,4),(7,5),(8,0),(8,1)]++[(8,3),(9,1),(10,0),(10,1),(10,3),(11,1)]
theorem aU7:∀p∈qE,Ag p:=(Ci (Ci (Ci (Ci (Ci (Ci ag0 ag1) ag2) ag3) ag4) ag5) ag6)
noncomputable def Hd(k:AK)(a:O):I O:=match k,a with
 |false,0=>[6]|false,1=>[0,2,6,7]|false,2=>[0,1,2,3,4,6,7,8,10]|false,_=>[0,1,2,3,4,5,6,7,8,9,10,11]|true,0=>[1]|true,1=>[0,1,3]|true,2=>[0,1,2,3,4,5]|true,_=>[0,1,2,3,4,5]
noncomputable def Jc(a:O):I O->AK
 |[]=>A6|x::l=>match BC a x with|true=>M|false=>Jc a l
set_option tactic.hygienic true in
theorem L_{a:O}:∀{l:I O},Jc a l=M->a∈l
 |[],h=>by exact(E5 h).elim|x::l,h=>by
  simp only[Jc]at h;split at h;. rename_i e;rw[CD e];exact Co ..
  . exact Cp _ (L_ h)
noncomputable def XX(a:O×O):I (O×O)->AK
 |[]=>A6|x::l=>match BC a.1 x.1&&BC a.2 x.2 with|true=>M|false=>XX a l
set_option tactic.hygienic true in
theorem qF{a:O×O}:∀{l:I (O×O)},XX a l=M->a∈l
 |[],h=>by exact(E5 h).elim|x::l,h=>by
  simp only[XX]at h;split at h
  . rename_i e;simp only[D6]at e;rw[show a=x from NQ (CD e.1) (CD e.2)];exact Co ..
  . exact Cp _ (qF h)
theorem aU8:((lv A6 0).all λA1=>Jc (CC A1 DY) (Hd A6 0))=M:=by kernel_rfl
theorem aU9:((lv M 0).all λA1=>Jc (CC A1 DZ) (Hd M 0))=M:=by kernel_rfl
theorem aV0:((lv A6 1).all λA1=>Jc (CC A1 DY) (Hd A6 1))=M:=by kernel_rfl
theorem aV1:((lv M 1).all λA1=>Jc (CC A1 DZ) (Hd M 1))=M:=by kernel_rfl
theorem aV2:((lv A6 2).all λA1=>Jc (CC A1 DY) (Hd A6 2))=M:=by kernel_rfl
theorem aV3:((lv M 2).all λA1=>Jc (CC A1 DZ) (Hd M 2))=M:=by kernel_rfl
theorem aV4:((lv A6 3).all λA1=>Jc (CC A1 DY) (Hd A6 3))=M:=by kernel_rfl
theorem aV5:((lv M 3).all λA1=>Jc (CC A1 DZ) (Hd M 3))=M:=by kernel_rfl
theorem li0{a:O}(ha:a<=3)(h:A1∈lv A6 a):CC A1 DY∈Hd A6 a:=by exact(show∀a∈[0,1,2,3],A1∈lv A6 a->CC A1 DY∈Hd A6 a from all_cons (λh=>L_ (Bn.mp aU8 A1 h)) (all_cons (λh=>L_ (Bn.mp aV0 A1 h)) (all_cons (λh=>L_ (Bn.mp aV2 A1 h)) (all_cons (λh=>L_ (Bn.mp aV4 A1 h)) EE)))) a (Ni.mpr (fQ ha):a∈DN 4) h
theorem li1{a:O}(ha:a<=3)(h:A1∈lv M a):CC A1 DZ∈Hd M a:=by exact(show∀a∈[0,1,2,3],A1∈lv M a->CC A1 DZ∈Hd M a from all_cons (λh=>L_ (Bn.mp aU9 A1 h)) (all_cons (λh=>L_ (Bn.mp aV1 A1 h)) (all_cons (λh=>L_ (Bn.mp aV3 A1 h)) (all_cons (λh=>L_ (Bn.mp aV5 A1 h)) EE)))) a (Ni.mpr (fQ ha):a∈DN 4) h
theorem aV6:((DN 4).all λa=>(DN (4-a)).all λb=>(Hd A6 a).all λi=>(Hd M b).all λj=>XX (i,j) qE)=M:=by kernel_rfl
theorem aV7(h:Ag (i,j)):Agree (DY.getD i []) (DZ.getD j []) (F5 i) (F6 j):=by unfold Ag at h;exact h
theorem aV8{a b:O}(Gb:a+b<=3){Av:I Tx}(h:A1∈lv A6 a)(Q:Av∈lv M b):Agree (DY.getD (CC A1 DY) []) (DZ.getD (CC Av DZ) []) (F5 (CC A1 DY)) (F6 (CC Av DZ)):=by
 have h1:=li0 (by omega) h;have h2:=li1 (by omega) Q;have :=Bn.mp (Bn.mp (Bn.mp (Bn.mp aV6 a (Ni.mpr (by omega))) b (Ni.mpr (by(with_reducible exact Mine.wF (by assumption))))) _ h1) _ h2;exact aV7 (aU7 (CC A1 DY,CC Av DZ) (qF this))
theorem dh{J:Type}{o:J}{x y:I (O×J)}:AL (x++y) i=G o->AL x i=G o\/(AL x i=L/\AL y i=G o):=by induction x with
 |nil=>exactλh=>.inr ⟨rfl,h⟩|cons p x ih=>
 intro h;rw[IX];refine Eb (show bC (BC p.1 i) (G p.2) (AL (x++y) i)=G o from h) (λq h=>?_) λq h=>?_;. rw[q];exact .inl h
 . rw[q];exact ih h
theorem XY:AL (Ge n BF) i=G o->∃j o',i=n+j/\AL BF j=G o'/\o=DV (n+·) o':=by induction BF with
 |nil=>exactλh=>(AF h).elim|cons p BF ih=>
 intro h;refine Eb (show bC (BC (n+p.1) i) (G (DV (n+·) p.2)) (AL (Ge n BF) i)=G o from h) (λq h=>?_) λq h=>?_;. exact⟨p.1,p.2,(CD q).symm,JL,(Bm h).symm⟩
 . refine Bv (ih h) ?_;intro j o' e l r;exact⟨j,o',e,(IY λz=>by rw[z,<-e,J1]at q;(exfalso;cases q)).trans l,r⟩
theorem qG(hc:∀BA,DV BA o=o):Ge n [(0,o)]=[(n,o)]:=by
 show[(n+0,DV (n+·) o)]=_;rw[hc];rfl
section
variable{J:I A8}
theorem di(g:Gd B F K A H C s)(AG:Sub H DI Dx)(g':Gd B F K' A' AB AT s')(x':Nx F.D [] s.heap s'.heap (C' C Dx) AT)(nd:B7.Nodup)(KN:∀i∈B7,Dx.length<=i/\i<AB.n){Q:I (O×Ob)}(hH:∀j o,AL BF j=G o->∃i o',B7[j]?=G i/\AL AB.h i=G o'/\∀a,Ca B.prog B.w s'.heap AT a o'->Ca B.prog B.w s'.heap AT a (DV (DJ AB.n B7) o))(hh:∀i o,AL Q i=G o->(AL H.h i=G o/\i∉Dx)\/∃j,Dx[j]?=G i/\AL AB.h j=G o/\∀BA,DV BA o=o):Gd B F K A ⟨H.env,Ge H.n BF++Q,H.n+B7.length⟩ (C++C' AT B7) s'/\Nx F.D [] s.heap s'.heap C (C++C' AT B7):=by
 refine AC (x'.pre) ?_;intro J Aw GA;subst Aw;have hz:(C' C Dx).length=Dx.length:=by simp[C']
 have CF:∀i∈B7,i<AB.n:=λi m=>(KN i m).2;have KV:∀a∈C' (C' C Dx++J) B7,a∈J:=λa m=>by
   refine AC (E0.mp m) ?_;intro i hi B6;clear m;subst B6;have h1:=KN i hi;have hl:i<(C' C Dx++J).length:=by rw[g'.len];exact h1.2
   have hb:i-Dx.length<J.length:=by rw[FD,hz]at hl;(with_reducible exact Mine.w7 (by assumption) (by assumption))
   have :(C' C Dx++J)[i]?=G J[i-Dx.length]:=by rw[VF (by omega),hz,Hk hb]
   rw[Kp,this];exact gR hb
 have hx:Nx F.D [] s.heap s'.heap C (C++C' (C' C Dx++J) B7):=⟨⟨_,rfl,λb m=>GA b (KV b m)⟩,x'.live,x'.Bw,λb o e n m=>x'.same b o e (λz=>n (LQ g.len AG.lt z)) m⟩;have UJ:∀j,(C' (C' C Dx++J) B7)[j]?=(C' C Dx++J)[DJ AB.n B7 j]?:=λj=>by
   have :=GI (J:=[]) g'.len CF j;simpa using this
 have qH:∀j,(C' (C' C Dx++J) B7)[j]?=(C++C' (C' C Dx++J) B7)[H.n+j]?:=λj=>by rw[VF (by rw[g.len];(with_reducible exact H3 _ _)),g.len,bG1]
 refine⟨g.back hx (by rw[FD,g.len];simp[C']) ?_ ?_ ?_ ?_ g'.base g'.os g'.gens (Cf.Gv g g.env hx),hx⟩
 . refine ID.mpr ⟨g.nodup,?_,λa ha b hb e=>?_⟩
   . unfold C';rw[u_,g7];refine nd.imp_of_mem λ{a b}ha hb Cc e=>Cc ?_;have h1:a<(C' C Dx++J).length:=by rw[g'.len];exact CF a ha
     have h2:b<(C' C Dx++J).length:=by rw[g'.len];exact CF b hb
     have e':(C' C Dx++J)[a]?=(C' C Dx++J)[b]?:=by
       change(C' C Dx++J).getD a 0=(C' C Dx++J).getD b 0 at e;rw[Kp,Kp,Hk h1,Hk h2]at e;rw[Hk h1,Hk h2];exact congrArg G e
     exact(RX h1 g'.nodup).mp e'
   . subst e;refine xE (g.live a ha) ?_;intro o e;rw[GA a (KV a hb)]at e;exact(BE e).elim
 . intro a m;rcases Dr.mp m with m|m;. exact g.fresh a m
   . exact g'.fresh a (Pj _ (KV a m))
 . intro a m;rcases Dr.mp m with m|m;. refine xE (g.live a m) ?_;intro o e;exact x'.live a o e
   . exact g'.live a (Pj _ (KV a m))
 . intro i o e;rcases dh e with e|Bg;rotate_left;refine xA Bg ?_;(try clear Bg);intro _ e;rotate_left
   . refine Bv (XY e) ?_;intro j o' BJ hj BP;clear e;subst BJ;clear e;subst BP;refine Bv (hH j o' hj) ?_;intro i' o'' hp hl conv;refine AC (g'.objs i' o'' hl) ?_;intro a ha r;refine⟨a,?_,(Ca.DW qH).mp ((Ca.DW UJ).mpr (conv a r))⟩;rw[<-qH,UJ];unfold DJ;rw[hp];exact ha
   . rcases hh i o e with Bu|C9;refine xA Bu ?_;(try clear Bu);intro e hi;rotate_left;refine CZ C9 ?_;(try clear C9);intro j hj hl hc;rotate_left
     . refine AC (g.objs i o e) ?_;intro a ha r;refine⟨a,FY ha,r.mono x'.Bw λy ey=>x'.keep a y ey (λz=>hi ?_) (by simp) (λz=>absurd (Ew ha) (g.Cy a z).1)⟩;refine AC (E0.mp z) ?_;intro j hj e';have h1:j<C.length:=by rw[g.len];exact AG.lt j hj
       have h2:C[j]?=G a:=by rw[<-e'];simp[Kp,h1]
       have :j=i:=(RX h1 g.nodup).mp (h2.trans ha.symm);exact this▸hj
     . refine AC (g'.objs j o hl) ?_;intro a ha r;refine⟨a,?_,r.Fw hc⟩;have :=GI (J:=J) g.len AG.lt j;rw[ha]at this;have h3:DJ H.n Dx j=i:=by unfold DJ;rw[hj]
       rw[h3]at this;have hi:i<C.length:=by rw[g.len];exact AG.lt i (Ew hj)
       rw[Y4 hi]at this;exact FY this.symm
theorem dj(g:Gd B F K A H C s)(g':Gd B F K' A' AB AT s')(KN:∀i∈B7,i<AB.n)(hi:B7[0]?=G i)(r:VR h AT (.ref i) u):VR h (C++C' AT B7) (.ref H.n) u:=by
 refine AC r ?_;(try clear r);intro a ha Bq;subst Bq;refine⟨a,?_,rfl⟩;have UJ:=GI (J:=[]) g'.len KN 0;simp only[HN]at UJ;rw[VF (by rw[g.len];exact DF _),g.len,Nat.sub_self,UJ];unfold DJ;rw[hi];exact ha
theorem qI(hl:AL AB.h j=G ob)(c:∀a,Ca B.prog B.w s'.heap AT a ob->Ca B.prog B.w s'.heap AT a (DV BA o)):∀q UK,AL [(0,o)] q=G UK->∃i o',[j][q]?=G i/\AL AB.h i=G o'/\∀a,Ca B.prog B.w s'.heap AT a o'->Ca B.prog B.w s'.heap AT a (DV BA UK):=λq UK e=>aD (P:=λq UK=>∃i o',[j][q]?=G i/\AL AB.h i=G o'/\∀a,Ca B.prog B.w s'.heap AT a o'->Ca B.prog B.w s'.heap AT a (DV BA UK)) e ⟨j,ob,rfl,hl,c⟩ λ_ e=>(AF e).elim
theorem La{w:Tx->V}(hw:∀p,Cl (w p)):DV BA (.dict (BM w A1))=.dict (BM w A1)/\DV BA (.B3 (BM w A1))=.B3 (BM w A1):=by
 constructor;. show Ob.dict ((BM w A1).map _)=_;rw[KR (Ms hw)]
 . show Ob.B3 ((BM w A1).map _)=_;rw[KR (Ms hw)]
theorem qJ(g:Gd B F K A H C s)(hi:AL H.h i=G o)(hc:∀BA,DV BA o=o):Sub H ⟨[],[(0,o)],1⟩ [i]:=⟨rfl,EU.mpr ⟨(by simp),HM⟩,λj m=>by rw[CI.mp m];exact Ir g hi,λj p e=>by match j,e with
 |0,e=>injection e with e;subst e;exact⟨i,rfl,by rw[hi,hc]⟩|j+1,e=>exact(BE e).elim⟩
theorem qK(AV:(Bb P).In B.base)(AM:Dg B){A9:I Tx}{w:Tx->V}(hw:∀p,Cl (w p))(hS:Fc A1)(hp:A1.Perm A9)(hd:8<=K.d)(hi:AL H.h i=G (.dict (BM w A1)))(g:Gd B F K A H C s)(rs:Aa s.heap C [.ref i] us):Ae B F K A ⟨H.env,(H.n,.B3 (BM w A9))::H.h,H.n+1⟩ C s (CE (.ref 392) us) (RV (.ref H.n)):=by
 refine W3 (hS K.sc w) AF λv AB LZ hs=>?_;revert LZ;apply EI hs AF;intro j hs LZ;refine Ce hs AF λhj hs=>BI hs λob hl hs=>?_;revert hl;apply JD hs AF;intro N hs hl;refine BI hs λob0 h0 hs=>?_;revert h0;apply JD hs AF;intro cq hs h0;have hs:=Bm hs;have hl:AL AB.h j=G (.dict (BM w A1)):=(congrArg (·.1) hs:N=BM w A1)▸hl;have h0:AL AB.h 0=G (.dict (BM w A1)):=(congrArg (·.2) hs:cq=BM w A1)▸h0;have AG:=qJ g hi λBA=>(La hw).1;intro A2 E k;refine(all1 AV AM 100).s.call LZ (g.sub AG hd (Cf.nil g)) Qx ((Aa.DW λj=>?_).mpr (show Aa s.heap C (Cr (DJ H.n [i]) [.ref 0]) us from rs)) A2 E λu AT s' g' x' r'=>?_
 . have :=GI (J:=[]) g.len AG.lt j;rwa[HN,HN]at this
 . have UL:=Ir g' hl;refine xA (di (B7:=[j]) (BF:=[(0,.B3 (BM w A9))]) (Q:=H.h) g AG g' x' ((gn _ _)) (λk m=>by rw[CI.mp m];exact⟨Dk hj,UL⟩) (qI hl λa r=>by
     rw[(La hw).2];exact⟨_,⟨hp.map _,trivial⟩,r⟩) (λk o e=>?_)) ?_
   . by_cases hk:k=i
     . rw[hk,hi]at e;exact .inr ⟨0,congrArg G hk.symm,Bm e▸h0,λBA=>Bm e▸(La hw).1⟩
     . exact .inl ⟨e,λm=>hk (CI.mp m)⟩
   intro gg xx;rw[qG λBA=>(La hw).2]at gg;exact k u _ s' gg xx (dj g g' (λi m=>by rw[CI.mp m];exact UL) rfl r')
theorem aV9{l:I O}:dG l=M->l.Nodup:=by induction l with
 |nil=>exactλ_=>HM|cons x l ih=>exactλh=>EU.mpr ⟨λm=>Ul ((nb (B1 h)).symm.trans (II.mpr ⟨x,m,J1 x⟩)),ih (Ak h)⟩
theorem UM{k:AK}{AO:CB k}:∀p,Cl (Ay AO p):=λ_ _=>rfl
theorem aW0(AV:(Bb P).In B.base)(AM:Dg B){k:AK}{AO:CB k}{Q:I (O×Ob)}(hS:Et K.sc k AO A1=G BF)(hd:8<=K.d)(hi:AL H.h i=G (.dict (BM (Ay AO) A1)))(hh:∀j o,AL Q j=G o->AL H.h j=G o/\j≠i)(g:Gd B F K A H C s)(rs:Aa s.heap C [.ref i] us):Ae B F K A ⟨H.env,Ge H.n BF++Q,H.n+BF.length⟩ C s (CE (.ref 411) us) (RV (.ref H.n)):=by
 refine BI hS λp hp hS=>Ce hS AF λhc hS=>pF hp λj AB LZ dk aW1=>?_;rw[<-Bm hS];have z:=pG aW1;have AG:=qJ g hi λBA=>(La UM).1;intro A2 E kk;refine(all1 AV AM 100).s.call (show ev CQ 100 ⟨K.sc,8⟩ _ _=_ from LZ) (g.sub AG hd (Cf.nil g)) Qx ((Aa.DW λj=>?_).mpr (show Aa s.heap C (Cr (DJ H.n [i]) [.ref 0]) us from rs)) A2 E λu AT s' g' x' r'=>?_
 . have :=GI (J:=[]) g.len AG.lt j;rwa[HN,HN]at this
 . have CF:∀i∈p.1,i<AB.n:=λi m=>xE (z.2.1 i m) λN he=>Ir g' he;refine xA (di (B7:=p.1) (BF:=p.2) (Q:=Q) g AG g' x' (aV9 (B1 hc)) (λi m=>⟨Dk (Bn.mp (Ak hc) i m),CF i m⟩) (λq o e=>by
   refine VS (z.2.2 q o e) ?_;intro q' i' N BN e1 e2 e3 e4 e5;rw[e4];exact⟨i',_,e1▸(Un q').symm▸e2,e3,λa r=>⟨_,⟨e5 _,trivial⟩,r⟩⟩) (λq o e=>.inl ⟨(hh q o e).1,λm=>(hh q o e).2 (CI.mp m)⟩)) ?_;intro gg xx;rw[<-z.1]at gg;exact kk u _ s' gg xx (dj g g' CF (aK0 dk) r')
theorem aW2{k:O}{o:A0}{l:I Sg}(h:XW k o=G l):∃i H ob r,o=.ok (.v (.ref i)) H/\k<=i/\AL H.h i=G ob/\FW ob=G (r,l):=by
 apply W2 h AF;intro v H h;apply EI h AF;intro i h;refine Ce h AF λhk h=>BI h λob hb h=>BI h λr hr h=>?_;exact⟨i,H,ob,r.1,rfl,Dk hk,hb,Bm h▸hr⟩
theorem aW3{Y:I Sg}(hr:FW ob=G (r,Y))(q:Ca prog w h C a ob):Ca prog w h C a (.rows 0 Y):=by
 revert q;apply bL hr;. exactλhf _ q=>AC q λus p v=>⟨us,p,v,B4 (Ef hf) (show 100000<=Dm by decide)⟩
 . exactλq=>CZ q λus p v l=>⟨us,p,v,B4 (HK (Nh r) _) l⟩
theorem qL(AV:(Bb P).In B.base)(AM:Dg B){f:O}{l:I Sg}{Q:I (O×Ob)}(hR:XW DI.n (ev UH 200 ⟨K.sc,40⟩ (.call (.top (.ref f)) MT) DI)=G l)(he:DI.env=[])(AG:Sub H DI Dx)(hd:40<=K.d)(ha:args=Cr (DJ H.n Dx) MT)(hh:∀j o,AL Q j=G o->AL H.h j=G o/\j∉Dx)(g:Gd B F K A H C s)(rs:Aa s.heap C args us):Ae B F K A ⟨H.env,(H.n,.rows 0 l)::Q,H.n+1⟩ C s (CE (.ref f) us) (RV (.ref H.n)):=by
 refine VQ (aW2 hR) ?_;intro i AB ob r LZ hi hl hr;subst ha;intro A2 E kk;refine(aU6 AV AM 200).s.call LZ (g.sub AG hd (by rw[he];exact Cf.nil g)) Qx ((Aa.DW λj=>?_).mpr rs) A2 E λu AT s' g' x' r'=>?_
 . have :=GI (J:=[]) g.len AG.lt j;simpa using this
 . have UL:=Ir g' hl;refine xA (di (B7:=[i]) (BF:=[(0,.rows 0 l)]) (Q:=Q) g AG g' x' ((gn _ _)) (λk m=>by rw[CI.mp m,AG.len];exact⟨hi,UL⟩) (qI hl λa r=>aW3 hr r) (λk o e=>.inl (hh k o e))) ?_;intro gg xx;rw[qG λBA=>rfl]at gg;exact kk u _ s' gg xx (dj g g' (λi m=>by rw[CI.mp m];exact UL) rfl r')
end
section
theorem aW4{fn:Fn}{o:Bi}(ok:FnAt B a fn o fd){b:I (U×V)}(hb:JH fn args=G b)(hd:K.d=d+1)(g:Ga B F K A ⟨[],[],0⟩ [] s)(rs:Aa s.heap [] args us)(D:∀{F:Fm}{A:CK}{AJ:AR},Gd B F ⟨fn.sc,d⟩ A ⟨b,[],0⟩ [] AJ->(∀b o,s.heap.get? b=G o->AJ.heap.get? b=G o)->AH (AQ B.prog B.w) A (J2 fn.body F.env) (λf s'=>∃v,f=.ret v/\A2 v s') (λ_ _=>Bj) AJ):AH (AQ B.prog B.w) A (CE (.ref a) us) A2 E s:=by
 refine HP (g.into hd ok hb rs λAN keep _ _=>codeAny_func (Fg (D AN keep) (λf s' q=>?_) λ_ _ q=>q.elim));refine AC q ?_;(try clear q);intro v BP q;subst BP;exact q
end
noncomputable def N4(nm:U)(x:AA):AK:=ED x A6 λf _ k _=>DO f A6 λid _=>l0 k A6 (Cw id nm)
noncomputable def I7(x:AA):I AA:=ED x [] λ_ a _ _=>a
theorem Oy{nm:U}{x:AA}(h:N4 nm x=M):∃p p',x=.Call (.Name nm p) (I7 x) [] p':=by
 apply M5 h B0;intro f a k p h;apply EV h B0;intro id p' h;apply EW h B0;intro h;rw[E2.mp h];exact⟨_,_,rfl⟩
noncomputable def dm(x:AA)(i:O):AA:=(I7 x).getD i (.Constant .none 0 ⟨0,0,0,0⟩)
noncomputable def dn(nm:U)(x:As):AK:=Pn x A6 λl _ _=>l1 l A6 λy=>DO y A6 λid _=>Cw id nm
noncomputable def Jd(x:As):AA:=Pn x (S3 x (.Constant .none 0 ⟨0,0,0,0⟩) λe _=>oS e (.Constant .none 0 ⟨0,0,0,0⟩) λe=>e) λ_ e _=>e
theorem qM{nm:U}{x:As}(h:dn nm x=M):∃p p',x=.Assign [.Name nm p] (Jd x) p':=by
 apply iB h B0;intro l e p h;apply Cs h B0;intro y h;apply EV h B0;intro id p' h;rw[E2.mp h];exact⟨_,_,rfl⟩
noncomputable def qN(x:As):AK:=S3 x A6 λe _=>oS e A6 λ_=>M
theorem aW5{x:As}(h:qN x=M):∃p,x=.Return (G (Jd x)) p:=by
 apply vJ h B0;intro e p h;apply No h B0;intro e _;exact⟨_,rfl⟩
noncomputable def qO(x:AA):AK:=Ks x A6 λ_ o r _=>l1 o A6 λo=>l1 r A6 λ_=>decide (o=.Eq)
noncomputable def UN(x:AA):AA:=Ks x (J9 x x λv _ _=>v) λl _ _ _=>l
noncomputable def dq(x:AA):AA:=Ks x x λ_ _ r _=>l1 r x λr=>r
theorem aW6{x:AA}(h:qO x=M):∃p,x=.Compare (UN x) [.Eq] [dq x] p:=by
 apply S1 h B0;intro l o r p h;apply Cs h B0;intro o h;apply Cs h B0;intro r h;rw[of_decide_eq_true h];exact⟨_,rfl⟩
noncomputable def qP(x:AA):AK:=J9 x A6 λ_ s _=>Nl s A6 λa b c _=>oN a A6 (oN c A6 (oS b A6 λb=>HR b A6 λk _ _=>decide (k=.int 3)))
theorem aW7{x:AA}(h:qP x=M):∃k p p' XZ,x=.Subscript (UN x) (.Slice L (G (.Constant (.int 3) k p)) L p') XZ:=by
 apply Nj h B0;intro v s XZ h;apply i8 h B0;intro a b c p' h;apply GP h B0;intro h;apply GP h B0;intro h;apply No h B0;intro b h;apply J8 h B0;intro k n p h;rw[of_decide_eq_true h];exact⟨n,p,p',XZ,rfl⟩
noncomputable def D_:As:=Ba 37
@[irreducible]noncomputable def FM(k:O):As:=(Fj D_)[k]?.getD (.Pass ⟨0,0,0,0⟩)
@[irreducible]noncomputable def Oz:AA:=Jd (FM 0)
@[irreducible]noncomputable def R3:AA:=Jd (FM 1)
@[irreducible]noncomputable def UO:AA:=dq (Jd (FM 2))
@[irreducible]noncomputable def UP:AA:=dm Oz 0
@[irreducible]noncomputable def I8(k:O):AA:=dm R3 k
@[irreducible]noncomputable def I9(k:O):AA:=dm UO k
@[irreducible]noncomputable def qQ:AA:=UN (Jd (FM 2))
noncomputable def Lb:U:=⟨⟨[115,99,114,105,112,116]⟩⟩
noncomputable def Ej:U:=⟨⟨[100,114,97,119,110]⟩⟩
noncomputable def HH:U:=⟨⟨[116,111,108,100,95,115,111]⟩⟩
noncomputable def X_:U:=⟨⟨[95,108,97,119,95,116,114,101,101,115]⟩⟩
noncomputable def UQ:U:=⟨⟨[95,108,97,119,95,115,116,114,97,105,103,104,116]⟩⟩
noncomputable def Xa:U:=⟨⟨[95,108,97,119,95,116,111,108,100]⟩⟩
noncomputable def UR:U:=⟨⟨[95,108,97,119,95,103,114,111,119,110]⟩⟩
noncomputable def Xb:U:=⟨⟨[95,108,97,119,95,119,97,108,107,101,100]⟩⟩
theorem aW8:Fj D_=[FM 0,FM 1,FM 2]:=by kernel_rfl
theorem dt:dn Ej (FM 0)=M/\Jd (FM 0)=Oz/\N4 X_ Oz=M/\I7 Oz=[UP]/\qP UP=M/\JK Oz=A6/\MM [] Oz=A6/\CP UP=M:=⟨by kernel_rfl,by kernel_rfl,by kernel_rfl,by kernel_rfl,by kernel_rfl,by kernel_rfl,by kernel_rfl,by kernel_rfl⟩
theorem qR:dn HH (FM 1)=M/\Jd (FM 1)=R3/\N4 Xa R3=M/\I7 R3=[I8 0,I8 1,I8 2]/\N4 UQ (I8 0)=M/\N4 UQ (I8 1)=M/\JK R3=A6:=⟨by kernel_rfl,by kernel_rfl,by kernel_rfl,by kernel_rfl,by kernel_rfl,by kernel_rfl,by kernel_rfl⟩
theorem qS:qN (FM 2)=M/\qO (Jd (FM 2))=M/\UN (Jd (FM 2))=qQ/\dq (Jd (FM 2))=UO/\N4 Xb UO=M/\I7 UO=[I9 0,I9 1,I9 2]/\N4 UR (I9 0)=M/\N4 UR (I9 1)=M:=⟨by kernel_rfl,by kernel_rfl,by kernel_rfl,by kernel_rfl,by kernel_rfl,by kernel_rfl,by kernel_rfl,by kernel_rfl⟩
theorem aW9:([X_,UQ,Xa,UR,Xb].all (Di (BV D_)))=M:=by kernel_rfl
theorem P':Ah CQ.glob X_=G (.top (.ref 387))/\Ah CQ.glob UQ=G (.top (.ref 392))/\Ah CQ.glob Xa=G (.top (.ref 404))/\Ah CQ.glob UR=G (.top (.ref 411))/\Ah CQ.glob Xb=G (.top (.ref 435)):=⟨by kernel_rfl,by kernel_rfl,by kernel_rfl,by kernel_rfl,by kernel_rfl⟩
noncomputable def Xc(CG:CB A6)(C7:CB M)(L0 L1:I Tx):Mine.St:=⟨[(Ej,.ref 0)],[(0,.list [.ref 1,.ref 2]),(1,.dict (BM (Ay CG) L0)),(2,.dict (BM (Ay C7) L1))],3⟩
theorem aX0(d:O)(l:A8):ev CQ 60 ⟨BV D_,d⟩ (.e (UN UP)) ⟨[(Lb,.top (.ref l))],[],0⟩=.ok (.v (.top (.ref l))) ⟨[(Lb,.top (.ref l))],[],0⟩:=by kernel_rfl
theorem aX1(d:O)(p:B9)(l:A8)(BF:I (O×Ob)):ev CQ 60 ⟨BV D_,d⟩ (.GR [.Name Ej p] (.ref 3)) ⟨[(Lb,.top (.ref l))],BF,6⟩=.ok (.f .next) ⟨[(Lb,.top (.ref l)),(Ej,.ref 3)],BF,6⟩:=by kernel_rfl
theorem PA{nm:U}(h:nm∈[X_,UQ,Xa,UR,Xb]):Di (BV D_) nm=M:=Bn.mp aW9 nm h
section
variable{J:I A8}
theorem PB(AV:(Bb P).In B.base)(g:Gd B F K A H C s){k:O}(hf:AL Im a=G (DE (Ba k))):CW (AQ B.prog B.w) s.heap (.ref a):=by
 refine DB (Ml AV (Mn AV) (Oe P hf)) ?_;intro o fd ok;exact CW.func (g.base _ _ ok.get) ok.data
theorem aX2:Hu (E8 rs) L (G 3)=E8 (rs.take 3):=by
 rw[WX];show((E8 rs).take (Hi (E8 rs).length 3)).drop 0=_;rw[YN];unfold E8;rw[List.map_take];have :Hi (rs.map (V.IP 12)).length 3=min 3 rs.length:=by rw[Jn];exact clipAt_nat rs.length 3
 rw[this];by_cases h:rs.length<=3;. rw[bG5 h,gM (by simp),gM (by simpa using h)]
 . rw[bG6 (by(with_reducible exact ud (by assumption)))]
theorem aX3(AV:(Bb P).In B.base)(AM:Dg B){l:A8}{us:BW A4}(hl:B.base.IsList l us)(hv:Aa B.base [] (E8 rs) us.toList)(US:us.size<=100)(g:Gd B F ⟨BV D_,d⟩ A ⟨[(Lb,.top (.ref l))],[],0⟩ [] s):Ae B F ⟨BV D_,d⟩ A ⟨[(Lb,.top (.ref l))],[(0,.list (E8 (rs.take 3)))],1⟩ [] s (eval UP F.env) (RV (.ref 0)):=by
 intro A2 E kk;refine vR (aW7 dt.2.2.2.2.1) ?_;intro k p p' XZ e;rw[e];have A9:=(all1 AV AM 60).s;refine YO (A9.e (aX0 d l) g _ _ λu A_ AJ AN Ab Aq=>tp (CJ.pure (AZ:=[]) (Ia:=RV .none) AN rfl _ _ λa Au Ai AU Al BB=>W9 (L6:=k) (pos:=p) (v:=.int 3) AU rfl _ _ λb BS Ax Ap B8 BQ=>?_));rw[evalPart_none];refine AW ?_;cases Aq;cases BB;refine xE BQ ?_;(try clear BQ);intro t Aw;subst Aw;have h0:BS=[]:=gv Ap.len;subst h0;refine Pq hl ?_;(try clear hl);intro o ho hc n hd;have kp:∀b o,Ax.heap.get? b=G o->(Ax.heap.push {cls:=.type "slice",data:=.fields #[.none,.int 3 t,.none]}).get? b=G o:=λb o e=>C1 _ e;have CA:=Ap.ext (tk:=Ax.toks) kp;have qT:(Ax.heap.push {cls:=.type "slice",data:=.fields #[.none,.int 3 t,.none]}).IsList l us:=⟨o,CA.base _ _ ho,hc,n,hd⟩;have hs:(Ax.heap.push {cls:=.type "slice",data:=.fields #[.none,.int 3 t,.none]}).IsSlice Ax.heap.objs.size L (G (3,t)) L:=⟨_,CY _ rfl,rfl,rfl⟩;refine Ko qT.typeIs Pd.lookup (to qT hs (WY L) (WY (G (3,t))) gT (by simp) ?_ (B4 US (by decide))) rfl;have dv:∀b o,(Ax.heap.push {cls:=.type "slice",data:=.fields #[.none,.int 3 t,.none]}).get? b=G o->((Ax.heap.push {cls:=.type "slice",data:=.fields #[.none,.int 3 t,.none]}).push {cls:=.type "list",data:=.seq (Hj us L (G 3) L)}).get? b=G o:=λb o e=>C1 _ e;have hg:=CY (Ax.heap.push {cls:=.type "slice",data:=.fields #[.none,.int 3 t,.none]}) (o:={cls:=.type "list",data:=.seq (Hj us L (G 3) L)}) rfl;have EL:Nx F.D ([]:I A8) Ax.heap (Ax.heap.push {cls:=.type "slice",data:=.fields #[.none,.int 3 t,.none]}) [] []:=Nx.ext kp;have hn:=GD (Ax.heap.push {cls:=.type "slice",data:=.fields #[.none,.int 3 t,.none]});refine kk _ [_] _ (CA.new (tk:=Ax.toks) dv hn ⟨_,hg⟩ (o:=.list (E8 (rs.take 3))) ⟨_,⟨_,hg⟩,?_⟩) ((Ab.trans (Al.trans (B8.trans EL))).trans (Nx.add [_] dv λb hb=>by rw[CI.mp hb];exact hn)) ⟨_,rfl,rfl⟩;have :=bG (Aa.mono (Q:=(Ax.heap.push {cls:=.type "slice",data:=.fields #[.none,.int 3 t,.none]}).push {cls:=.type "list",data:=.seq (Hj us L (G 3) L)}) (J:=[(Ax.heap.push {cls:=.type "slice",data:=.fields #[.none,.int 3 t,.none]}).objs.size]) (λb o e _=>dv _ _ (CA.base b o e)) hv) L (G 3);rw[aX2]at this;exact this
theorem aX4(h:∀r∈rs,r<12):∀r∈rs.take 3,r<12:=λr m=>h r (List.mem_of_mem_take m)
theorem qU{t:AA}{l:O}(h:JK e=A6):bA7 [t] e l env=pure A6:=TB h
theorem aX5(AV:(Bb P).In B.base)(AM:Dg B)(hd:40<=d){l:A8}{us:BW A4}(hl:B.base.IsList l us)(hv:Aa B.base [] (E8 rs) us.toList)(US:us.size<=100)(hr:∀r∈rs,r<12)(g:Gd B F ⟨BV D_,d⟩ A ⟨[(Lb,.top (.ref l))],[],0⟩ [] s){A2:HO->AR->Prop}(k:∀(a b:O)(L0 L1:I Tx)(CG:CB A6)(C7:CB M)(AT:I A8)(s':AR),a+b<=3->L0∈lv A6 a->L1∈lv M b->Gd B F ⟨BV D_,d⟩ A (Xc CG C7 L0 L1) AT s'->A2 .next s'):AH (AQ B.prog B.w) A (exec (FM 0) F.env) A2 E s:=by
 refine iK dt ?_;(try clear dt);intro h1 h2 h3 h4 h5 h6 h7 h8;refine DB (qM h1) ?_;intro p p' e;rw[e,h2];have A9:=(all1 AV AM 60).s;refine DB (Oy h3) ?_;intro q q' e2;refine fw ?_ (qU h6) (aV (by show MM [.Name Ej p] Oz=A6;rw[e2];rfl));rw[e2,h4];refine LW (Bl:=GH AV) (A3:=CQ) (PA (by simp)) P'.1 (by simp[h8]) g (λBG EN p Fa Cq=>Wh h8 (by
  have h0:BG=[]:=gv Fa.len;clear Cq;subst h0;exact aX3 AV AM hl hv US Fa) p) λDy A_ AJ AN Ab Aq=>⟨PB AV (k:=28) AN (by kernel_rfl),?_⟩;refine Bv Aq ?_;(try clear Aq);intro u Dy B6 ru e3;subst B6;cases e3;have qV:=aX4 hr;obtain⟨d',rfl⟩:∃d',d=d'+1:=⟨d-1,by(with_reducible exact Mine.yH (by assumption))⟩;refine aH3 AV AM (K:=⟨BV D_,d'+1⟩) (rs:=rs.take 3) rfl (by omega) (by simp;(with_reducible exact Y' _ _)) qV AN ru _ _ λu Au Ai AU Al BB=>?_;refine A9.GR (aX1 _ p l _) AU BB _ _ λ_ BS Ax Ap B8 _=>?_;refine EX (XB (rs.take 3) ox qV) ?_;intro a b Gb Es;have LA:=pB (rs.take 3) aJ5;have EK:((rs.take 3).foldl Tr.turn T0).Cl:=by
  have :∀(l:I O){T:Tr},T.Cl->(l.foldl Tr.turn T).Cl:=λl=>by induction l with
 |nil=>exactλh=>h|cons r l ih=>exactλh=>ih (h.turn r)
  exact this _ oq
 generalize(rs.take 3).foldl Tr.turn T0=T at Ap Es LA EK;have CA:Gd B F ⟨BV D_,d'+1⟩ A ⟨[(Ej,.ref 0)],[(0,.list [.ref 1,.ref 2]),(1,.dict (BM T.w0 T.L0)),(2,.dict (BM T.w1 T.L1))],3⟩ (C' BS [3,4,5]) Ax:=by
  refine Ap.pick (B7:=[3,4,5]) ⟨rfl,by decide,by show∀i∈_,i<6;decide,λk o e=>?_⟩ λx v e=>?_;. match k,e with
 |0,e=>injection e with e;subst e;exact⟨3,rfl,rfl⟩|1,e=>injection e with e;subst e;exact⟨4,rfl,by show G (Ob.dict (BM T.w0 T.L0))=G (DV _ (Ob.dict (BM T.w0 T.L0)));rw[(La EK.c0).1]⟩|2,e=>injection e with e;subst e;exact⟨5,rfl,by show G (Ob.dict (BM T.w1 T.L1))=G (DV _ (Ob.dict (BM T.w1 T.L1)));rw[(La EK.c1).1]⟩|k+3,e=>exact(BE e).elim
  . exact T9 (f:=E7 _) (by rfl) e
 have nd0:T.L0.Nodup:=Mu (Bn.mp (pC A6) _ (XC (by have :=Pe (i:=3) (l:=rs);omega) Es.l0));have nd1:T.L1.Nodup:=Mu (Bn.mp (pC M) _ (XC (by have :=Pe (i:=3) (l:=rs);omega) Es.l1));refine xE (CA.syms (k:=A6) (i:=1) (w:=T.w0) (A1:=T.L0) rfl nd0 LA.w0) ?_;intro CG Cn;refine xE (Cn.syms (k:=M) (i:=2) (w:=T.w1) (A1:=T.L1) rfl nd1 LA.w1) ?_;intro C7 G_;refine k a b T.L0 T.L1 CG C7 _ Ax ?_ Es.l0 Es.l1 G_;have :=Pe (i:=3) (l:=rs);(with_reducible exact Mine.vh (by assumption) (by assumption))
end
theorem qW{A9:I Tx}(h:U7 A1 A9=M)(nd:A1.Nodup)(nd':A9.Nodup):A1.Perm A9:=by
 simp only[U7,D6]at h;exact(bG7 nd nd').mpr λp=>⟨λm=>XD (Bn.mp h.1 p m),λm=>XD (Bn.mp h.2 p m)⟩
noncomputable def KZ(A1:I Tx):I Tx:=DY.getD (CC A1 DY) []
noncomputable def Lc(A1:I Tx):I Tx:=DZ.getD (CC A1 DZ) []
theorem pm0:(Oj.all λA1=>U7 A1 (KZ A1)&&LU A1&&LU (KZ A1))=M:=by kernel_rfl
theorem pm1:(Ol.all λA1=>U7 A1 (Lc A1)&&LU A1&&LU (Lc A1))=M:=by kernel_rfl
theorem aX6(h:A1∈Oj):A1.Perm (KZ A1):=by
 have :=Bn.mp pm0 A1 h;simp only[D6]at this;exact qW this.1.1 (Mu this.1.2) (Mu this.2)
theorem aX7(h:A1∈Ol):A1.Perm (Lc A1):=by
 have :=Bn.mp pm1 A1 h;simp only[D6]at this;exact qW this.1.1 (Mu this.1.2) (Mu this.2)
noncomputable def N5(CG:CB A6)(C7:CB M)(L0 L1:I Tx):I (O×Ob):=[(0,.list [.ref 1,.ref 2]),(1,.dict (BM (Ay CG) L0)),(2,.dict (BM (Ay C7) L1))]
theorem aX8(d:O)(CG:CB A6)(C7:CB M)(L0 L1:I Tx):ev CQ 60 ⟨BV D_,d⟩ (.N (I7 (I8 0))) (Xc CG C7 L0 L1)=.ok (.vs [.ref 1]) (Xc CG C7 L0 L1):=by kernel_rfl
theorem aX9(d:O)(CG:CB A6)(C7:CB M)(L0 L1:I Tx)(o:Ob):ev CQ 60 ⟨BV D_,d⟩ (.N (I7 (I8 1))) ⟨[(Ej,.ref 0)],(3,o)::N5 CG C7 L0 L1,4⟩=.ok (.vs [.ref 2]) ⟨[(Ej,.ref 0)],(3,o)::N5 CG C7 L0 L1,4⟩:=by kernel_rfl
theorem aY0(d:O)(H:Mine.St):ev CQ 60 ⟨BV D_,d⟩ (.e (I8 2)) H=.ok (.v (.str [47])) H:=by kernel_rfl
theorem qX:(I7 (I8 0)).all CP=M/\(I7 (I8 1)).all CP=M/\CP (I8 0)=M/\CP (I8 1)=M/\CP (I8 2)=M:=⟨by kernel_rfl,by kernel_rfl,by kernel_rfl,by kernel_rfl,by kernel_rfl⟩
theorem aY1(d:O)(p:B9)(BF:I (O×Ob)):ev CQ 60 ⟨BV D_,d⟩ (.GR [.Name HH p] (.ref 5)) ⟨[(Ej,.ref 0)],BF,6⟩=.ok (.f .next) ⟨[(Ej,.ref 0),(HH,.ref 5)],BF,6⟩:=by kernel_rfl
section
variable{GX:Mine.St}{J:I A8}
theorem qY{x y z:AA}{a b c:V}(hx:CP x=M)(hy:CP y=M)(hz:CP z=M)(bZ2:Ae B F K A AB C s (eval x F.env) (RV a))(bZ3:∀{A_:I A8}{AJ:AR},Gd B F K A AB A_ AJ->Ae B F K A Bc A_ AJ (eval y F.env) (RV b))(bZ4:∀{Au:I A8}{Ai:AR},Gd B F K A Bc Au Ai->Ae B F K A GX Au Ai (eval z F.env) (RV c))(pos:B9):Ae B F K A GX C s (Lp (F9 pos (E' [x,y,z] F.env))) (OA [a,b,c]):=by
 intro A2 E k;have cn:∀{x:AA}{l:I AA},CP x=M->E' (x::l) F.env=(A6,eval x F.env)::E' l F.env:=λh=>K7 h;refine Lq (bZ2 _ _ λu A_ AJ AN Ab Aq=>Lq (bZ3 AN _ _ λv Au Ai AU Al BB=>Lq (bZ4 AU _ _ λw BS Ax Ap B8 BQ=>Up (k _ BS Ax Ap (Ab.trans (Al.trans B8)) ⟨u,_,rfl,(Aq.nx Al).nx B8,v,_,rfl,BB.nx B8,w,_,rfl,BQ,rfl⟩)) (cn hz)) (cn hy)) (cn hx)
theorem aY2(AV:(Bb P).In B.base)(AM:Dg B)(hd:42<=d){CG:CB A6}{C7:CB M}(h0:L0∈Oj)(h1:L1∈Ol){l:I Sg}(hR:UI (BV D_) CG C7 (KZ L0) (Lc L1)=G l)(g:Gd B F ⟨BV D_,d⟩ A (Xc CG C7 L0 L1) C s){A2:HO->AR->Prop}(k:∀(AT:I A8)(s':AR),Gd B F ⟨BV D_,d⟩ A ⟨[(Ej,.ref 0),(HH,.ref 5)],(5,.rows 0 l)::N5 CG C7 L0 L1,6⟩ AT s'->A2 .next s'):AH (AQ B.prog B.w) A (exec (FM 1) F.env) A2 E s:=by
 refine iI qR ?_;(try clear qR);intro h2 h3 h4 h5 h6 h7 h8;refine VO qX ?_;(try clear qX);intro dw R4 UT UU UV;refine DB (qM h2) ?_;intro p p' e;rw[e,h3];have A9:=(all1 AV AM 60).s;refine DB (Oy h4) ?_;intro q q' e2;refine DB (Oy h6) ?_;intro p0 p0' e0;refine DB (Oy h7) ?_;intro p1 p1' e1;refine fw ?_ (qU h8) (aV (by show MM [.Name HH p] R3=A6;rw[e2];rfl));rw[e2,h5];refine LW (Bl:=GH AV) (A3:=CQ) (PA (by simp)) P'.2.2.1 (by simp[UT,UU,UV]) g (AB:=⟨[(Ej,.ref 0)],(4,.B3 (BM (Ay C7) (Lc L1)))::(3,.B3 (BM (Ay CG) (KZ L0)))::N5 CG C7 L0 L1,5⟩) (vs:=[.ref 3,.ref 4,.str [47]]) (λBG EN pos Fa Cq=>qY UT UU UV (AB:=⟨[(Ej,.ref 0)],(3,.B3 (BM (Ay CG) (KZ L0)))::N5 CG C7 L0 L1,4⟩) (Bc:=⟨[(Ej,.ref 0)],(4,.B3 (BM (Ay C7) (Lc L1)))::(3,.B3 (BM (Ay CG) (KZ L0)))::N5 CG C7 L0 L1,5⟩) ?_ ?_ ?_ pos) λus A_ AJ AN Ab Aq=>⟨PB AV (k:=31) AN (by kernel_rfl),?_⟩
 . intro A2 E kk;rw[e0];refine LW (Bl:=GH AV) (A3:=CQ) (PA (by simp)) P'.2.1 dw Fa (λA_ AJ pos AN Ab=>A9.N (aX8 d CG C7 L0 L1) pos AN) λus Au Ai AU Al BB=>⟨PB AV (k:=29) AU (by kernel_rfl),?_⟩;exact qK AV AM UM (aI2 h0) (aX6 h0) (by show 8<=d;omega) (i:=1) rfl AU BB _ _ λu BS Ax Ap B8 BQ=>kk u BS Ax Ap (Al.trans B8) BQ
 . intro A_ AJ AN A2 E kk;rw[e1];refine LW (Bl:=GH AV) (A3:=CQ) (PA (by simp)) P'.2.1 R4 AN (λA_ AJ pos AN Ab=>A9.N (aX9 d CG C7 L0 L1 _) pos AN) λus Au Ai AU Al BB=>⟨PB AV (k:=29) AU (by kernel_rfl),?_⟩;exact qK AV AM UM (aJ2 h1) (aX7 h1) (by show 8<=d;omega) (i:=2) rfl AU BB _ _ λu BS Ax Ap B8 BQ=>kk u BS Ax Ap (Al.trans B8) BQ
 . intro Au Ai AU;exact A9.e (aY0 d _) AU
 . have cl0:∀BA,DV BA (.B3 (BM (Ay CG) (KZ L0)))=.B3 (BM (Ay CG) (KZ L0)):=λBA=>(La UM).2;have cl1:∀BA,DV BA (.B3 (BM (Ay C7) (Lc L1)))=.B3 (BM (Ay C7) (Lc L1)):=λBA=>(La UM).2;refine qL AV AM (K:=⟨BV D_,d⟩) (f:=404) (l:=l) (DI:=qC CG C7 (KZ L0) (Lc L1)) (Dx:=[3,4]) (MT:=[.ref 0,.ref 1,.str [47]]) (Q:=N5 CG C7 L0 L1) hR rfl ⟨rfl,by decide,by show∀i∈_,i<5;decide,λj o e=>?_⟩ (by show 40<=d;omega) rfl (λj o e=>?_) AN Aq _ _ λu Au Ai AU Al BB=>?_;. match j,e with
 |0,e=>injection e with e;subst e;exact⟨3,rfl,by rw[cl0];rfl⟩|1,e=>injection e with e;subst e;exact⟨4,rfl,by rw[cl1];rfl⟩|j+2,e=>exact(BE e).elim
   . match j,e with
 |0,e=>exact⟨e,by decide⟩|1,e=>exact⟨e,by decide⟩|2,e=>exact⟨e,by decide⟩|j+3,e=>exact(BE e).elim
   . exact A9.GR (aY1 d p _) AU BB _ _ λ_ BS Ax Ap B8 _=>k BS Ax Ap
end
mutual
theorem Xd{AO:O->O}:∀v:V,E7 BA (E7 AO v)=E7 (λj=>BA (AO j)) v
 |.none=>rfl|.bool _=>rfl|.int _=>rfl|.str _=>rfl|.sym _ _ _=>rfl|.IP _ _=>rfl|.Nz _=>rfl|.any=>rfl|.top _=>rfl|.ref _=>rfl|.H9 _ _=>rfl|.B' _ _=>rfl|.tup c Y=>by
  show V.tup c (Cr BA (Cr AO Y))=V.tup c (Cr _ Y);rw[dx Y]
theorem dx{AO:O->O}:∀l:I V,Cr BA (Cr AO l)=Cr (λj=>BA (AO j)) l
 |[]=>rfl|v::l=>by
  show E7 BA (E7 AO v)::Cr BA (Cr AO l)=E7 _ v::Cr _ l;rw[Xd v,dx l]
end
theorem aY3{AO:O->O}(o:Ob):DV BA (DV AO o)=DV (λj=>BA (AO j)) o:=by cases o with
 |list Y=>show Ob.list _=Ob.list _;rw[dx]|dict N=>show Ob.dict _=Ob.dict _;rw[Hl];congr 2;funext e;simp[JU,Xd]|B3 N=>show Ob.B3 _=Ob.B3 _;rw[Hl];congr 2;funext e;simp[JU,Xd]|EY N=>show Ob.EY _=Ob.EY _;rw[Hl];congr 2;funext e;simp[Qn,Xd]|rows r Y=>rfl|HT=>rfl|inst c d=>rfl
theorem qZ{J:Type}{o:J}{x y:I (O×J)}:AL x i=G o->AL (x++y) i=G o:=by induction x with
 |nil=>exactλh=>(AF h).elim|cons p x ih=>exactλh=>(IX (l:=x++y)).trans (Eb (IX.symm.trans h) (λq h=>by rw[q];exact h) λq h=>by rw[q];exact ih h)
theorem dy{J:Type}{x y:I (O×J)}:AL x i=L->AL (x++y) i=AL y i:=by induction x with
 |nil=>exactλ_=>rfl|cons p x ih=>exactλh=>(IX (l:=x++y)).trans (Eb (IX.symm.trans h) (λ_ h=>nomatch h) λq h=>by rw[q];exact ih h)
theorem q_:AL BF j=G o->AL (Ge n BF) (n+j)=G (DV (n+·) o):=by induction BF with
 |nil=>exactλh=>(AF h).elim|cons p BF ih=>
 intro h;refine Eb (IX.symm.trans h) (λq h=>?_) λq h=>?_;. rw[<-CD q,<-Bm h];exact JL
 . exact(IY λz=>by rw[Nat.add_left_cancel z,J1]at q;(exfalso;cases q)).trans (ih h)
theorem qa(h:∀j o,AL BF j=G o->i≠n+j):AL (Ge n BF) i=L:=by cases e:AL (Ge n BF) i with
 |none=>rfl|some o=>
 refine Bv (XY e) ?_;intro j o' q l _;exact absurd q (h j o' l)
theorem qb{k:AK}{AO:CB k}(hS:Et sc k AO A1=G BF):∀j o,AL BF j=G o->j<BF.length:=by
 refine BI hS λp hp hS=>Ce hS AF λ_ hS=>pF hp λi H _ _ hc=>?_;rw[<-Bm hS];intro j o e;have z:=pG hc;refine vT (z.2.2 j o e) ?_;intro q' i' N BN e1 e2 _;rw[z.1,e1,Un];exact(HL.mp e2).1
theorem qc{f:V->V->AD AK}(h:∀v∈Y,f v v=G M):K0 f Y Y=G M:=by induction Y with
 |nil=>rfl|cons v Y ih=>
 show B' (f v v) (λp=>B' (K0 f Y Y) λq=>G (p&&q))=_;rw[h v Co,ih λw m=>h w (Cp _ m)];rfl
theorem aY4{x:Sg}:∀v∈IZ x,G7 v v=G M:=by
 have t0:∀t:Tx,CU t t=M:=λt=>Ec.mpr rfl;have HE:∀l:I Tx,K0 Q5 (l.map .str) (l.map .str)=G M:=λl=>qc λv m=>AC (E0.mp m) λt _ e=>e▸congrArg G (t0 t);intro v m;cases x with
 |it l=>rw[CI.mp m];exact HE l|tx t=>rw[CI.mp m];show G (CU t t)=_;rw[t0]|run p a b=>
 refine AC (E0.mp m) ?_;intro r _ Aw;subst Aw;cases r with
 |nil=>exact HE [p]|cons t r=>exact HE (t::p::r)
theorem aY5{l:I Sg}:Zl (DS l) (DS l)=G M:=qc λv m=>AC (ub.mp m) λ_ _ m=>aY4 v m
theorem aY6(j:O):DJ (6+m) (gw 6 m) j=6+j:=by
 unfold DJ;by_cases h:j<m;. rw[ue h];simp
 . rw[VE (by rw[uf];(with_reducible exact fM (by assumption)))];rw[uf];show 6+m+(j-m)=6+j;(with_reducible exact Mine.vn (by assumption))
theorem aY7(d:O)(BF:I (O×Ob))(m:O):ev CQ 60 ⟨BV D_,d⟩ (.e qQ) ⟨[(Ej,.ref 0),(HH,.ref 5)],BF,m⟩=.ok (.v (.ref 5)) ⟨[(Ej,.ref 0),(HH,.ref 5)],BF,m⟩:=by kernel_rfl
theorem aY8(d m:O)(o o1 o2:Ob):ev CQ 60 ⟨BV D_,d⟩ (.N (I7 (I9 0))) ⟨[(Ej,.ref 0),(HH,.ref 5)],[(5,o),(0,.list [.ref 1,.ref 2]),(1,o1),(2,o2)],m⟩=.ok (.vs [.ref 1]) ⟨[(Ej,.ref 0),(HH,.ref 5)],[(5,o),(0,.list [.ref 1,.ref 2]),(1,o1),(2,o2)],m⟩:=by kernel_rfl
theorem aY9(d m:O)(o o2:Ob)(AG:I (O×Ob)):ev CQ 60 ⟨BV D_,d⟩ (.N (I7 (I9 1))) ⟨[(Ej,.ref 0),(HH,.ref 5)],(5,o)::(0,.list [.ref 1,.ref 2])::(2,o2)::AG,m⟩=.ok (.vs [.ref 2]) ⟨[(Ej,.ref 0),(HH,.ref 5)],(5,o)::(0,.list [.ref 1,.ref 2])::(2,o2)::AG,m⟩:=by kernel_rfl
theorem aZ0(d:O)(H:Mine.St):ev CQ 60 ⟨BV D_,d⟩ (.e (I9 2)) H=.ok (.v (.str [47])) H:=by kernel_rfl
theorem qd:(I7 (I9 0)).all CP=M/\(I7 (I9 1)).all CP=M/\CP (I9 0)=M/\CP (I9 1)=M/\CP (I9 2)=M:=⟨by kernel_rfl,by kernel_rfl,by kernel_rfl,by kernel_rfl,by kernel_rfl⟩
theorem aZ1:t5 .Eq UO=A6:=by kernel_rfl
section
variable{GX:Mine.St}{J:I A8}
theorem qe(AV:(Bb P).In B.base)(AM:Dg B){k:AK}{AO:CB k}{Q:I (O×Ob)}(hS:Et K.sc k AO A1=G BF)(hd:8<=K.d)(hi:AL H.h i=G (.dict (BM (Ay AO) A1)))(hh:∀j o,AL Q j=G o->AL H.h j=G o/\j≠i)(g:Gd B F K A H C s)(rs:Aa s.heap C [.ref i] us):Ae B F K A ⟨H.env,Q++Ge H.n BF,H.n+BF.length⟩ C s (CE (.ref 411) us) (RV (.ref H.n)):=by
 intro A2 E kk;refine aW0 AV AM hS hd hi hh g rs _ _ λu A_ AJ AN Ab Aq=>kk u A_ AJ (AN.forget λj o e=>?_) Ab Aq;rcases dh e with e|Bg;rotate_left;refine xA Bg ?_;(try clear Bg);intro _ e;rotate_left
 . have CF:=Ir g (hh j o e).1;rw[dy (qa λq _ _=>by omega)];exact e
 . exact qZ e
theorem aZ2(AV:(Bb P).In B.base)(AM:Dg B)(hd:42<=d){CG:CB A6}{C7:CB M}(h0:L0∈Oj)(h1:L1∈Ol){l:I Sg}(hR:dg (BV D_) (F5 (CC L0 DY) CG) (F6 (CC L1 DZ) C7)=G l)(g:Gd B F ⟨BV D_,d⟩ A ⟨[(Ej,.ref 0),(HH,.ref 5)],(5,.rows 0 l)::N5 CG C7 L0 L1,6⟩ C s){A2:HO->AR->Prop}(k:∀(A7:Mine.St)(AT:I A8)(s':AR),Gd B F ⟨BV D_,d⟩ A A7 AT s'->A2 (.ret (.bool M)) s'):AH (AQ B.prog B.w) A (exec (FM 2) F.env) A2 E s:=by
 refine iK qS ?_;(try clear qS);intro h2 h3 h4 h5 h6 h7 h8 h9;refine VO qd ?_;(try clear qd);intro dw R4 UT UU UV;refine xE (aW5 h2) ?_;intro p e;refine xE (aW6 h3) ?_;intro p' e';rw[e,e',h4,h5];have A9:=(all1 AV AM 60).s;refine DB (Oy h6) ?_;intro q q' e2;refine DB (Oy h8) ?_;intro p0 p0' e0;refine DB (Oy h9) ?_;intro p1 p1' e1;have dz:=aL3 h0 (BV D_) CG;have e7:=aM2 h1 (BV D_) C7;have eA:=qb dz;have qf:=qb e7;generalize F5 (CC L0 DY) CG=H0 at hR dz eA;generalize F6 (CC L1 DZ) C7=H1 at hR e7 qf;refine tE (br3 (A9.e (aY7 d _ _) g _ _ λu A_ AJ AN Ab Aq=>?_) aZ1);rw[e2,h7];refine LW (Bl:=GH AV) (A3:=CQ) (PA (by simp)) P'.2.2.2.2 (by simp[UT,UU,UV]) AN (AB:=⟨[(Ej,.ref 0),(HH,.ref 5)],((5,.rows 0 l)::Ge 6 H0)++Ge (6+H0.length) H1,6+H0.length+H1.length⟩) (vs:=[.ref 6,.ref (6+H0.length),.str [47]]) (λBG EN pos Fa Cq=>qY UT UU UV (AB:=⟨[(Ej,.ref 0),(HH,.ref 5)],[(5,.rows 0 l),(0,.list [.ref 1,.ref 2]),(2,.dict (BM (Ay C7) L1))]++Ge 6 H0,6+H0.length⟩) (Bc:=⟨[(Ej,.ref 0),(HH,.ref 5)],((5,.rows 0 l)::Ge 6 H0)++Ge (6+H0.length) H1,6+H0.length+H1.length⟩) ?_ ?_ ?_ pos) λus Au Ai AU Al BB=>⟨PB AV (k:=36) AU (by kernel_rfl),?_⟩
 . intro A2 E kk;rw[e0];refine LW (Bl:=GH AV) (A3:=CQ) (PA (by simp)) P'.2.2.2.1 dw Fa (λA_ AJ pos AN Ab=>A9.N (aY8 d _ _ _ _) pos AN) λus Au Ai AU Al BB=>⟨PB AV (k:=32) AU (by kernel_rfl),?_⟩;refine qe AV AM (i:=1) (Q:=[(5,.rows 0 l),(0,.list [.ref 1,.ref 2]),(2,.dict (BM (Ay C7) L1))]) dz (by show 8<=d;omega) rfl (λj o e=>?_) AU BB _ _ λu BS Ax Ap B8 BQ=>kk u BS Ax Ap (Al.trans B8) BQ;match j,e with
 |0,e=>exact⟨e,by decide⟩|2,e=>exact⟨e,by decide⟩|5,e=>exact⟨e,by decide⟩|1,e=>exact(BE e).elim|3,e=>exact(BE e).elim|4,e=>exact(BE e).elim|j+6,e=>exact(BE e).elim
 . intro A_ AJ AN A2 E kk;rw[e1];refine LW (Bl:=GH AV) (A3:=CQ) (PA (by simp)) P'.2.2.2.1 R4 AN (λA_ AJ pos AN Ab=>A9.N (aY9 d _ _ _ _) pos AN) λus Au Ai AU Al BB=>⟨PB AV (k:=32) AU (by kernel_rfl),?_⟩;refine qe AV AM (i:=2) (Q:=(5,.rows 0 l)::Ge 6 H0) e7 (by show 8<=d;omega) rfl (λj o e=>?_) AU BB _ _ λu BS Ax Ap B8 BQ=>kk u BS Ax Ap (Al.trans B8) BQ;by_cases h:j=5;. subst h;exact⟨e,by decide⟩
   . rw[IY (CX h)]at e;refine Bv (XY e) ?_;intro q o' e3 _ _;refine⟨?_,by omega⟩;change AL ([(5,Ob.rows 0 l),(0,Ob.list [.ref 1,.ref 2]),(2,Ob.dict (BM (Ay C7) L1))]++Ge 6 H0) j=G o;rw[dy (by simp only[AL,S4,XR (show 5≠j by omega),XR (show 0≠j by omega),XR (show 2≠j by omega)])];exact e
 . intro Au Ai AU;exact A9.e (aZ0 d _) AU
 . have qg:DJ (6+H0.length+H1.length) (gw 6 (H0.length+H1.length))=λj=>6+j:=by
     funext j;rw[NO];exact aY6 j
   refine qL AV AM (K:=⟨BV D_,d⟩) (f:=435) (l:=l) (DI:=qD H0 H1) (Dx:=gw 6 (H0.length+H1.length)) (MT:=[.ref 0,.ref H0.length,.str [47]]) (Q:=[(5,.rows 0 l)]) hR rfl ⟨by rw[uf];rfl,List.nodup_range',λi m=>by
     have :=bG8.mp m;show i<6+H0.length+H1.length;(with_reducible exact Mine.wD (by assumption)),λj o e=>?_⟩ (by show 40<=d;omega) ?_ (λj o e=>?_) AU BB _ _ λw BS Ax Ap B8 BQ=>?_
   . rw[qg];rcases dh e with e|Bu;rotate_left;refine xA Bu ?_;(try clear Bu);intro hn e;rotate_left
     . have hj:=eA j o e;refine⟨6+j,by rw[ue (by(with_reducible exact Nat.lt_add_right _ (by assumption)))];simp,?_⟩;refine qZ ?_;rw[IY (show 5≠6+j by omega)];exact q_ e
     . refine Bv (XY e) ?_;intro j1 o1 B6 e3 BJ;subst B6;subst BJ;have hj:=qf j1 o1 e3;refine⟨6+(H0.length+j1),by rw[ue (by(with_reducible exact Nat.add_lt_add_left (by assumption) _))];simp,?_⟩;rw[dy (by
       rw[IY (show 5≠6+(H0.length+j1)by omega)];exact qa λq o' e4 z=>by have :=eA q o' e4;omega)];rw[aY3,show 6+(H0.length+j1)=6+H0.length+j1 by(with_reducible exact Eq.symm (NO _ _ _)),q_ e3];congr 2;funext q;(with_reducible exact NO _ _ _)
   . show _=Cr (DJ (6+H0.length+H1.length) (gw 6 (H0.length+H1.length))) _;rw[qg];rfl
   . by_cases h:j=5
     . subst h;exact⟨e,λm=>by have :=bG8.mp m;omega⟩
     . rw[IY (CX h)]at e;exact(BE e).elim
   . refine AC (Ap.objs 5 (.rows 0 l) (by simp only[AL,S4,iG,XR (show 6+H0.length+H1.length≠5 by omega),J1])) ?_;intro a1 ha1 o1;refine AC (Ap.objs (6+H0.length+H1.length) (.rows 0 l) JL) ?_;intro a2 ha2 o2;refine CZ o1 ?_;(try clear o1);intro us1 pl1 v1 _;refine CZ o2 ?_;(try clear o2);intro IA pl2 v2 _;refine AC ((Aq.nx Al).nx B8) ?_;intro b1 R5 BP;subst BP;refine AC BQ ?_;(try clear BQ);intro b2 I1 Bq;subst Bq;rw[ha1]at R5;injection R5 with R5;subst R5;have I1:BS[6+H0.length+H1.length]?=G b2:=I1;rw[ha2]at I1;injection I1 with I1;subst I1;have hu:A.units+4<IJ:=by have :A.units+10*d<9000:=g.units;exact J' (show _<9000 by(with_reducible exact Mine.w3 (by assumption) (by assumption))) (by decide)
     exact lq hu pl1.isList pl2.isList v1 v2 aY5 (k _ BS Ax Ap)
end
section
open PyProof.Rows
noncomputable def Je:Gh:={scope:=Dp.main.scope,locals:=3,globals:=3,cells:=[],code:=.ref 13,frame:=G 14}
noncomputable def K_:B9:=⟨0,0,0,0⟩
noncomputable def qh:B9:=⟨23,0,65,54⟩
noncomputable def qi:B9:=⟨483,0,497,16⟩
noncomputable def qj:B9:=⟨725,0,728,82⟩
noncomputable def Gf:Code:=.body Dp.main.body Je
noncomputable def Xe(w:EC)(os:H4):Ye:=⟨wb w.params,15,{},#[],Rx,187,os⟩
noncomputable def Ka(w:EC)(os:H4):Ye:=⟨SV w.params,443,{},#[],Rx,876,os⟩
noncomputable def qk(n m j t:O)(nm:A4)(w:EC)(os:H4):Ye:=⟨jT 12 (we n m j nm w.params),n,{},#[],Rx,t,os⟩
noncomputable def ql:EC->H4->Ye:=qk 139 12 9 381 (Aj DP 194)
noncomputable def qm:EC->H4->Ye:=qk 313 18 27 674 (Aj MF 631)
theorem aZ3(w:EC)(os:H4):ug Pk Dp w 11 (G (.ref 6)) 1 1450 (Xe w os) (VI (Dp.main.body.take 4) Je Gf K_ [VJ K_])=G (.next,ql w os,Gf,qh):=by
 unfold Gf Je VI;rw[Yx,uh,ui,Hq];delta fU;rewrite[Yw];kernel_rfl
theorem aZ4(w:EC)(os:H4):ug Pk Dp w 11 (G (.ref 6)) 1 1350 (ql w os) (VI ((Dp.main.body.drop 4).take 9) Je Gf qh [VJ K_])=G (.next,qm w os,Gf,qi):=by
 unfold Gf Je VI;rw[Yx,uh,ui,Hq];delta fU;rewrite[Yw];kernel_rfl
theorem aZ5(w:EC)(os:H4):ug Pk Dp w 11 (G (.ref 6)) 1 700 (qm w os) (VI ((Dp.main.body.drop 4).drop 9) Je Gf qi [VJ K_])=G (.next,Ka w os,Gf,qj):=by
 unfold Gf Je VI;rw[Yx,uh,ui,Hq];delta fU;rewrite[Yw];kernel_rfl
end
section
open PyProof.Rows
theorem aZ6(w:EC)(os:H4):topGo Pk Dp w 11 (G (.ref 6)) 12 ⟨boot_heap w.params,#[],Rx,uj,os⟩ (topStub Dp)=G ((Xe w os).abs,⟨denote Pk Gf,Gf,K_,[VJ K_]⟩):=by
 unfold Gf Je;rw[fV,bT9,bU0,Hq];kernel_rfl
theorem aZ7(w:EC)(os:H4):segRun Pk Dp w 11 (G (.ref 6)) 1 1 (Xe w os).abs (blockOf Dp.main.body Je Gf K_ [VJ K_])=G (.next,(Xe w os).abs,Gf,K_):=by
 unfold Gf Je;rw[fV,bU1,Hq];kernel_rfl
theorem aZ8(w:EC)(os:H4):topRun Pk Dp w 11 (G (.ref 6)) 3 (Ka w os).abs ⟨doneF .next,Gf,qj,[VJ K_]⟩=G (Ka w os).abs:=by
 unfold Gf Je;rw[fV,bU2,Hq];kernel_rfl
theorem aZ9(w:EC)(os:H4):topRun Pk Dp w 11 (G (.ref 6)) (12+(1+(1450+(1350+(700+3))))) ⟨boot_heap w.params,#[],Rx,uj,os⟩ (topStub Dp)=G (Ka w os).abs:=by
 refine go_top (aZ6 w os) ?_;refine piece_block (aZ7 w os) ?_;have h:=uk (ul (aZ3 w os)) (uk (ul (aZ4 w os)) (uk (rest:=[]) (ul (aZ5 w os)) (piece_nil (aZ8 w os))));rw[HN,bG9,bG9]at h;exact h
end
section
open PyProof.Rows
noncomputable def PC:He:={SA with main:={SA.main with body:=[Ba 37]}}
noncomputable def R6:I U:=["_wall","_tuplegetter","Match","_calculate_ratio","SequenceMatcher","_format_range_unified","_plain_name","ABCMeta","_ABCLike","_abc_plain_meta","fspath","_check_arg_types","_get_sep","join","splitroot","basename","dirname","normpath","sorted_list_difference","_law_trees","_law_straight","_law_inner","_law_told","_law_grown","_law_pairs","_law_range","_law_changes","_law_walked"]
noncomputable def eB:I A8:=DN 443
theorem qn(P:Dq):eB=(Bb P).map (·.1):=by kernel_rfl
noncomputable def Ld:Hook:=kHook Bb eB qn
theorem ba0(w:EC)(os:H4):(staticsOk (bH0 Dp.main.body) (boot_heap w.params) (Ka w os).abs.heap&&namesBound Dp (Ka w os).abs.heap&&gensDone (Ka w os).abs&&laidKept (boot_heap w.params) (Ka w os).abs.heap)=M:=by
 rw[Hq];kernel_rfl
theorem ba1(w:EC)(os:H4):Ld.obs (Ka w os).abs=Ld.val w:=by
 show(DN 443).map (absHeap (SV w.params) 443 {}).get?=((Ny w.params).zipIdx.map λp=>(p.2,p.1)).map λp=>G p.2;have e:(SV w.params).list 443=Ny w.params:=by kernel_rfl
 have f:((SV w.params).list 443).all (λo=>!o.isFreed)=M:=by rw[e];kernel_rfl
 rw[Hl,show((λp:A8×Bi=>G p.2)∘λp:Bi×O=>(p.2,p.1))=G ∘ tm from rfl,<-Hl,List.zipIdx_map_fst,<-e];unfold BT.list at f ⊢;rw[Hl];refine Yc λa m=>Heap.get?_some_iff.mpr ⟨(absHeap_at _ _ _ a).trans (DA (Ni.mp m)),?_⟩;exact Eq.mp (PT _) (Bn.mp f _ (gt m))
theorem ba2(w:EC)(os:H4):openSeen PC R6 (bH0 Dp.main.body) (λ_=>M) M (Ka w os).abs=openGood PC R6:=by
 rw[Hq,bU3];kernel_rfl
end
section
open PyProof.Rows
theorem ba3:LeftO Dp PC R6 (λ_=>M) Ld.obs Ld.val 3516:=by
 refine LeftO.of_pieces (H₀:=boot_heap) (H₁:=λP=>absHeap (SV P) 443 {}) (gs₀:=#[]) (gs₁:=#[]) (d₀:=Rx) (d₁:=Rx) (k₀:=uj) (k₁:=876) (m₀:=11) (ann:=G (.ref 6)) (M:=12+(1+(1450+(1350+(700+3))))) (boot_open ?e ?n ?f) ?size (λw os=>aZ9 w os) ?le (λw=>?looks);case e=>rw[Hq];kernel_rfl
 case n=>kernel_rfl
 case f=>intro s;kernel_rfl
 case size=>intro w;kernel_rfl
 case le=>kernel_rfl
 case looks=>
  funext os;exact NQ (ba0 w os) (NQ (ba2 w os) (ba1 w os))
noncomputable def Xf:DefRec:={name:=i_ (Ba 37),params:=SE (Ba 37),body:=Fj (Ba 37),scope:=BV (Ba 37),pos:=(Ba 37).pos}
theorem ba4(call:WalkO PC R6 (λ_ _=>PS) Ld.says M4.row.toRowW Xf [] λf vs=>CE f vs)(k1:M4.row.wellSaid=M):M4.row.Holds:=by
 refine holds_open (q:=PC) (loose:=R6) (Xt:=λ_=>M) (XP:=λ_ _=>PS) (YP:=Ld.says) (d:=Xf) (kwd:=[]) ba3 Ld.of Ld.keeps (λ_ _=>trivial) (λ_ _ _ _ _=>trivial) ?ba5 ?hp ?hk (λ_ _=>?rec) ?hwr k1 ?ok ?hb ?hw call;case ba5=>kernel_rfl
 case hp=>show Dp.theDef _=_;rw[Hq];kernel_rfl
 case hk=>kernel_rfl
 case rec=>exact recFacts_nil rfl
 case hwr=>rfl
 case ok=>show(chainsOk PC&&opensWell Dp&&_)=M;rw[Hq];kernel_rfl
 case hb=>show Dp.bare;rw[Hq];exact⟨by kernel_rfl,by kernel_rfl,by kernel_rfl,by kernel_rfl,by kernel_rfl,by kernel_rfl⟩
 case hw=>w_witness2
end
theorem ba6{m m':U->AD A4}(x:h.Ns a m)(y:h.Ns a m'):m=m':=by
 refine JA x ?_;(try clear x);intro o N ep e d _ f;refine JA y ?_;(try clear y);intro o' BN zh e' d' _ f';rw[e]at e';injection e' with e';subst e';rw[d]at d';injection d' with d1 d2;subst d1;funext n;rw[<-f n,<-f' n]
theorem ba7{args:I WData}(h:M4.row.toRowW.claim.pre args=M):∃ns:I AX,args=[.list (ns.map .int)]/\ns.length<=63:=by
 have h:(bH1 [] args [.list .int]&&M4.pre.holds [] {args:=args})=M:=h;cases args with
 |nil=>exact(NW (B1 h)).elim|cons x Y=>
 have h1:(WShape.has [] x (.list .int)&&bH1 [] Y [])=M:=B1 h;have h2:=Ak h;clear h;cases Y with
 |cons _ _=>exact(NW (Ak h1)).elim|nil=>
 refine AC (hasW_list (B1 h1)) ?_;intro ds Aw hi;subst Aw;refine xE (items_int hi) ?_;intro ns B6;subst B6;refine⟨ns,rfl,bA3 λhl=>?_⟩;have h2:(WTm.and (.not (.lit (.bool (decide ((63:AX)<(ns.map WData.int).length))))) (.lit (.bool M))).holds [] {args:=[.list (ns.map .int)]}=M:=h2;rw[Jn,Ri (show(63:AX)<ns.length from fR.mpr (bq1 hl))]at h2;exact NW h2
theorem qo(i:AX):((i%12).toNat:AX)=i%12:=tw (by6 i (by decide))
theorem ba8{cl:U->AD A8}{ns:I AX}:∀{vs:I A4}{as:I A8},ReadsAllW [] cl h vs (ns.map .int) as->∃rs:I O,rs.length=ns.length/\(∀r∈rs,r<12)/\Aa h [] (E8 rs) vs:=by induction ns with
 |nil=>intro vs as r;exact⟨[],rfl,λ_ m=>(by(exfalso;cases m)),(bH2 r).1⟩|cons i ns ih=>
 intro vs as r;refine VQ (bH3 r) ?_;intro v vs a1 a2 BJ _ r1 r2;subst BJ;refine CZ (ih r2) ?_;intro rs hl hr hv;refine AC (readsW_int_inv r1) ?_;intro t BP _;subst BP;refine⟨(i%12).toNat::rs,congrArg (·+1) hl,λr m=>?_,_,_,rfl,⟨i,t,rfl,(qo i).symm⟩,hv⟩;rcases Cj.mp m with rfl|m;. exact fR.mp (qo i▸by7 i (show(0:AX)<12 by decide))
 . exact hr r m
theorem ba9:([]:I (U×V))=[]/\Ah X' Xf.name=G (.top (.ref 442)):=⟨rfl,by kernel_rfl⟩
theorem bb0(l:A8):JH (DE (Ba 37)) [.top (.ref l)]=G [(Lb,.top (.ref l))]:=by kernel_rfl
theorem bb1(P:Dq):∃o,(Bb P).lookup NR=G o:=⟨_,show(Bb P).lookup NR=G ((Bb P).lookup NR).get! by kernel_rfl⟩
theorem bb2(AM:∀(B:Bs)(P:Dq),(Bb P).In B.base->Dg B):WalkO PC R6 (λ_ _=>PS) Ld.says M4.row.toRowW Xf [] λf vs=>CE f vs:=by
 intro w EN AJ mg mb Bl An a o pm cd doc bZ8 bZ9 ho hod hcr hdf hmg bb3 args bO6 as dk bO7 bb4 bO8 bO9;have AV:(Bb w.params).In AJ.heap:=kIn_of (K:=Bb) (as:=eB) (e:=qn) An;refine AC (ba7 dk) ?_;intro ds Bq US;subst Bq;have ha:a=442:=by
  refine Bv ((GH (B:=⟨Dp,w,AJ.heap,AJ.os,AJ.gens⟩) (P:=w.params) (on:=M) (CR:=Qo) AV).ns) ?_;intro mg' mb' n3 n0 hh;have e:=ba6 Bl.T.g n3;refine AC (hh _ _ ba9.2) ?_;intro v hv q;injection hv with hv;subst hv;rw[<-e,hmg]at q;rcases q with q|Ck;rotate_left;refine xA Ck ?_;(try clear Ck);intro q _;rotate_left;. cases q;rfl
  . (exfalso;cases q)
 subst ha;refine VQ (bH3 bb4) ?_;intro bP0 OV a1 a2 Bg _ r1 r2;subst Bg;refine xA (bH2 r2) ?_;intro Bu _;subst Bu;refine iN (readsW_list_open r1) ?_;intro l ol vs n ai C9 bp bb5 bb6 OI _;subst C9;refine CZ (ba8 OI) ?_;intro rs hrl hr hv;have Ee:vs.size<=100:=by
  have h1:=hv.length;rw[show(E8 rs).length=rs.length from Jn _,hrl]at h1;exact B4 (Ek h1.symm) (B4 US (by decide))
 let B:Bs:=⟨Dp,w,AJ.heap,AJ.os,AJ.gens⟩;have R7:(Bb w.params).In B.base:=AV;have hf:AL Im 442=G (DE (Ba 37)):=by kernel_rfl
 refine DB (Ml (B:=B) R7 (Mn R7) (Oe w.params hf)) ?_;intro of fd ok;refine xE (bb1 w.params) ?_;intro ca0 hom;have ga:Ga B ⟨default,[],[]⟩ ⟨BV D_,50⟩ callerA ⟨[],[],0⟩ [] AJ:={len:=rfl,nodup:=HM,fresh:=λ_ m=>(by(exfalso;cases m)),live:=λ_ m=>(by(exfalso;cases m)),objs:=λ_ _ e=>(by exact(BE e).elim),base:=λ_ _ e=>e,os:=rfl,gens:=rfl,frames:=rfl,DT:=trivial,Cy:=λ_ m=>(by(exfalso;cases m)),mods:=⟨ca0,AV _ _ hom⟩,handled:=rfl,depth:=by decide,units:=by decide};have Zb:=AM B w.params R7;show AH (AQ B.prog B.w) callerA (CE (.ref 442) [.ref l]) _ _ AJ;refine aW4 (d:=49) ok (bb0 l) rfl ga (args:=[.top (.ref l)]) ⟨_,_,rfl,rfl,rfl⟩ λ{F A Ai}g keep=>?_;have hb:(DE (Ba 37)).body=[FM 0,FM 1,FM 2]:=aW8;rw[hb];have g:Gd B F ⟨BV D_,49⟩ A ⟨[(Lb,.top (.ref l))],[],0⟩ [] Ai:=g;refine DH (aX5 R7 Zb (by decide) (us:=vs) (rs:=rs) ⟨ol,bp,bb5,n,bb6⟩ hv Ee hr g λa b L0 L1 CG C7 A_ Ax Gb h0 h1 AN=>?_);refine AC (aV8 Gb h0 h1 (BV D_) CG C7) ?_;intro l2 hR hW;have o0:=XA (Bn.mp aI3 _ (XC (by omega) h0));have o1:=XA (Bn.mp aJ3 _ (XC (by omega) h1));refine DH (aY2 R7 Zb (by decide) o0 o1 hR AN λAu EG AU=>?_);refine DH (aZ2 R7 Zb (by decide) o0 o1 hW AU λA7 BS Eg Ap=>?_);refine⟨_,rfl,.inl ⟨.bool M,.bool M,[],rfl,λ_=>rfl,.bool M,?_,λ_=>⟨HM,λ_ m=>(by(exfalso;cases m))⟩⟩,.of_keep λb o e=>Ap.base b o e,Ap.os,.of_eq (Ap.gens.trans bb3)⟩;kernel_rfl
section
theorem Jf(g:Gd B F K A H C s)(hl:D0 K.sc x=M)(hv:Ah H.env x=G v)(k:∀u,VR s.heap C v u->A2 u s):AH (AQ B.prog B.w) A' (eval (.Name x pos) F.env) A2 E s:=wpAny_Name (aQ g hl hv k) (aP g.kinds.sc hl).1
theorem eE{A2:DM->AR->Prop}(g:Gd B F K A H C s)(hl:G8 K.sc x=M)(r:VR s.heap C v u)(k:∀s',Gd B F K A ⟨E_ H.env x v,H.h,H.n⟩ C s'->Nx F.D F.AZ s.heap s'.heap C C->A2 () s'):AH (AQ B.prog B.w) A' (fa F.env x u) A2 E s:=by
 refine CZ g.env ?_;intro m ns ce er;rcases g.kinds.own x hl with q|B6;rotate_left;refine Ho B6 ?_;(try clear B6);intro q c hc hw;rotate_left
 . refine br4 q ns (λQ hn hs=>?_) (kX g);refine xA (g.kR (Q:=Q) (tk:=s.toks+1) q r er hn hs) ?_;intro g' x';exact k _ g' x'
 . refine xE (ce _ (mem_of_lookup hc)) ?_;intro T7 hv;refine br5 g.kinds.fn q hc hv (λQ hn hs=>?_);refine xA (g.kS (Q:=Q) (tk:=s.toks) q hc hw r hv hn hs) ?_;intro g' x';exact k _ g' x'
theorem qp{p':B9}{a:AX}{A2:HO->AR->Prop}(g:Gd B F K A H C s)(hl:D0 K.sc x=M)(ho:G8 K.sc x=M)(hv:Ah H.env x=G (.int a))(k:∀s',Gd B F K A ⟨E_ H.env x (.int (a+1)),H.h,H.n⟩ C s'->Nx F.D F.AZ s.heap s'.heap C C->A2 .next s'):AH (AQ B.prog B.w) A' (exec (.AugAssign (.Name x p) .Add (.Constant (.int 1) k0 p') pos) F.env) A2 E s:=by
 refine bs3 (aQ g hl hv λu⟨t,e⟩=>?_);subst e;refine br2 (bt9 ?_);exact eE ((g.tok (s.toks+1)).tok _) ho (v:=.int (a+1)) ⟨_,rfl⟩ λs' g' x'=>k s' g' x'
theorem Gd.free(g:Gd B F K A H C s){AG:I A8}(x:Nx F.D AG s.heap Q C C)(ha:∀a∈C,∀o,s.heap.get? a=G o->Q.get? a=G o)(fr:∀a∈AG,CM B F C s.heap a):Gd B F K A H C {s with heap:=Q,toks:=tk}:=by
 have vr:∀{v:V}{u:A4},VR s.heap C v u->VR Q C v u:=λr=>r.nx x;refine IM (g.D5 _ g.kinds.I_) ?_;intro qq hL2 oL hL3;have hLX:F.env.locals∉AG:=λm=>(fr _ m).w g.kinds.I_;have cell:∀{n:U}{c:A8}{u:AD A4},(n,c)∈F.env.cells->s.heap.IsCell c u->Q.IsCell c u:=λ{n c u}m⟨o,e,d⟩=>⟨o,x.keep c o e (g.D1 _ m).1 (λz=>(fr _ z).cells _ m rfl) (λ_=>by unfold HB;rw[d]),d⟩;refine⟨g.kinds,g.len,g.nodup,g.fresh,λa m=>?_,λa m=>?_,λc m=>?_,λi o e=>?_,?_,λb o e=>?_,g.os,g.gens,g.frames,?_,λA1 m=>?_,g.mods,g.handled,g.depth,g.units⟩;. refine xE (g.live a m) ?_;intro o e;exact⟨o,ha a m o e⟩
 . refine IM (g.D5 a m) ?_;intro p q o e;exact⟨p,q,x.live a o e⟩
 . refine H8 (g.D1 c m) ?_;intro q o e;exact⟨q,x.live _ o e⟩
 . refine AC (g.objs i o e) ?_;intro a p r;have :=r.mono (J:=[]) x.Bw λy ey=>ha a (Ew p) y ey;exact⟨a,p,by simpa using this⟩
 . exact g.env.imp (λ_ ns=>Ns.slots ns λo e=>x.data _ o e hL2 hLX) (λ_ _ _ m=>cell m) λ_ _=>vr
 . refine x.keep b o (g.base b o e) (λm=>?_) (λm=>?_) (λm=>?_);. rw[g.fresh b m]at e;exact(BE e).elim
   . rw[(fr b m).base]at e;exact(BE e).elim
   . rw[(g.DT.mem m).1]at e;exact(BE e).elim
 . have hf:∀A1∈F.outs.filterMap (·.frame),A1∉C/\A1∉AG:=λA1 m=>⟨(g.Cy A1 m).1,λz=>(fr A1 z).outs m⟩;have hL:=g.DT;revert hf hL;generalize F.outs=l;intro hf hL;show Q.FunFrames B.base l;induction l with
 |nil=>trivial|cons e r ih=>
   refine G5 hL ?_;(try clear hL);intro hk Aw hr;refine HS Aw ?_;(try clear Aw);intro A1 o D2 hb ho hd;refine xA (hf A1 (by simp[D2])) ?_;intro q1 q2;refine xE (x.data A1 o ho q1 q2) ?_;intro sl z;exact⟨hk,⟨A1,_,D2,hb,z,hd⟩,ih (λL' m'=>hf L' (by rw[RW,D2];exact Cp _ m')) hr⟩
 . refine Pp (g.Cy A1 m) ?_;intro p q o e d;refine xE (x.data A1 o e p (λz=>(fr A1 z).outs m)) ?_;(try clear z);intro sl z;exact⟨p,q,_,z,d⟩
structure XT(B:Bs)(F:Fm)(C:I A8)(Af h:BK)(e:A8)(c fl:A4):Prop where
 fe:CM B F C h e
 ne:Af.get? e=L
 obj:∃T oe vs oT ts,CM B F C h T/\Af.get? T=L/\T≠e/\h.get? e=G oe/\oe.cls=.type "IndexError"/\oe.data=.fields vs/\vs[1]?=G (.ref T)/\vs[2]?=G c/\h.get? T=G oT/\oT.data=.fields ts/\ts[3]?=G fl/\Vz oT.cls=A6
noncomputable def XN(h Q:BK)(e:A8)(c:A4):Prop:=(∀b o,h.get? b=G o->Q.get? b=G o)/\h.get? e=L/\∃oe vs,Q.get? e=G oe/\oe.cls=.type "IndexError"/\oe.data=.fields vs/\vs[1]?=G .none/\vs[2]?=G c
theorem XT.nx{e:A8}(t:XT B F C Af h e c fl)(x:Nx AM AZ h Q C AT)(hw:∀b∈AZ,b∈F.AZ):XT B F AT Af Q e c fl:=by
 obtain⟨fe,ne,T,oe,vs,oT,ts,fT,nT,Jg,he,hc,hd,h1,h2,hT,PD,h3,hi⟩:=t;refine⟨fe.nx x,ne,T,oe,vs,oT,ts,fT.nx x,nT,Jg,?_,hc,hd,h1,h2,?_,PD,h3,hi⟩;. exact x.keep _ _ he fe.C (λm=>fe.w (hw _ m)) (λ_=>by unfold HB;rw[hd])
 . exact x.keep _ _ hT fT.C (λm=>fT.w (hw _ m)) (λ_=>by unfold HB;rw[PD])
end
section
variable{e:A8}
structure XF(B:Bs)(F:Fm)(C:I A8)(Af h:BK)(e:A8)(c:A4):Prop where
 fe:CM B F C h e
 ne:Af.get? e=L
 obj:∃oe vs,h.get? e=G oe/\oe.cls=.type "IndexError"/\oe.data=.fields vs/\vs[1]?=G .none/\vs[2]?=G c
theorem qr{f:Bi->Bi}:Ds a h (h.update a f):=(Fh h a f).extBut
theorem bb7{o:Bi}(h:o.cls=.type "IndexError"):C2 o=A6:=by unfold C2;rw[h];rfl
theorem bb8{o:Bi}(h:Vz o.cls=A6):C2 o=A6:=by unfold C2;rw[h];rfl
theorem Gd.slots(g:Gd B F K A H C s)(x:Heap.SlotsOnly (F.outs.filterMap (·.frame)) s.heap Q):Gd B F K A H C {s with heap:=Q}/\Nx F.D AZ s.heap Q C C:=by
 have ex:∀b o,s.heap.get? b=G o->(b∈F.D->HB o=A6)->Q.get? b=G o:=λb o q z=>by
  rw[x.2.1 b λm=>?_];exact q;refine Pp (g.Cy b m) ?_;intro _ _ o' q' d;rw[q]at q';injection q' with q';subst q';rw[z m]at d;exact(E5 d).elim
 have nx:∀AZ,Nx F.D AZ s.heap Q C C:=λAZ=>⟨⟨[],by simp,λ_ m=>by(exfalso;cases m)⟩,λb o q=>let⟨sl,z⟩:=x.2.2 b o q;⟨_,z⟩,λb o q i=>ex b o q λ_=>by
  unfold C2 at i;unfold HB;cases hd:o.data<;>first|rfl|(rw[hd]at i;simp at i),λb o q _ _=>by
  refine xE (x.2.2 b o q) ?_;intro sl z;refine⟨sl,z,λw=>?_⟩;have :=ex b o q w;rw[z]at this;injection this with this;exact congrArg Obj.slots this⟩;exact⟨g.free (tk:=s.toks) (nx []) (λa m o q=>ex a o q λz=>absurd m (g.Cy a z).1) (λ_ m=>by(exfalso;cases m)),nx AZ⟩
theorem bb9{vs:BW A4}{oe:Bi}{qs:A4}{bc0:AK}{A2:DM->AR->Prop}(hF:F.outs=F.env::C4)(hf:F.env.frame=G F.env.locals)(hA:A'.frames=G F.outs)(g:Gd B F K A H C s)(Cv:Nx F.D F.AZ Af s.heap BG C)(fe:CM B F C s.heap e)(ne:Af.get? e=L)(he:s.heap.get? e=G oe)(hc:oe.cls=.type "IndexError")(hd:oe.data=.fields vs)(h1:1<vs.size)(h2:vs[2]?=G c)(k:∀s',Gd B F K A H C s'->Nx F.D F.AZ Af s'.heap BG C->XT B F C Af s'.heap e c (ET F.env.locals)->A2 () s'):AH (AQ B.prog B.w) A' (do let a<-frameOf F.env;let pl<-entryPlaceOf F.env.locals bc0;let b<-bU4 qs a .none (ET F.env.locals) .none pl;u6 (.ref e) 1 b) A2 E s:=by
 refine A5 (wpAny_frameOf_fun (base:=B.base) (hA.trans (congrArg G hF)) (hF▸g.DT) hf λAP H_=>?_);rw[<-hF]at H_;refine xA (g.slots H_ (AZ:=F.AZ)) ?_;intro AN Ab;have Qa:AP.get? e=G oe:=(H_.2.1 e fe.outs).trans he;have Jh:=Cv.trans Ab;have bc1:=fe.nx Ab;refine A5 (wpAny_entryPlaceOf λpl F_=>?_);skip;refine A5 (IF ?_ (F_.sizeOk5 _ _ _ _ _));obtain⟨BL,hO⟩:∃BL:Bi,BL={cls:=.type "traceback",dict:=L,data:=.fields ([qs,.ref F.env.locals,.none,ET F.env.locals,.none]++(if pl.isEmpty then Y2 6 Hh else pl)).toArray}:=⟨_,rfl⟩;rw[<-hO];have R8:(AP.push BL).get? AP.objs.size=G BL:=CY AP (by rw[hO];rfl);have kp:∀b o,AP.get? b=G o->(AP.push BL).get? b=G o:=λb o q=>C1 _ q;have hT:AP.get? AP.objs.size=L:=KC (DF _);have AU:=AN.ext (tk:=s.toks) kp;have Al:Nx F.D F.AZ AP (AP.push BL) C C:=Nx.ext kp;have FN:=Jh.trans Al;have fT:=AN.freeOf hT ⟨_,R8⟩;have nT:Af.get? AP.objs.size=L:=HC Jh.live hT;have Ij:=kp _ _ Qa;have qt:=bc1.nx Al;refine Lx Ij hd h1 ?_;have ek:=qr (h:=AP.push BL) (a:=e) (f:=Ry (·.setIfInBounds 1 (Jp AP.objs.size)));have Ap:=AU.move (tk:=s.toks) qt ek (λo q=>by rw[Ij]at q;injection q with q;subst q;exact bb7 hc);have IB:=FN.F2 ek ne;have UW:=gI hd (·.setIfInBounds 1 (Jp AP.objs.size));have JQ:=FS (Ry (·.setIfInBounds 1 (Jp AP.objs.size))) Ij (te UW);have Jg:AP.objs.size≠e:=PX (Dh Qa);refine k _ Ap IB ⟨qt.at ⟨_,JQ⟩,ne,AP.objs.size,_,_,_,_,fT.at ⟨_,ek _ _ Jg (R8)⟩,nT,Jg,JQ,(th _ _).trans hc,UW,by simp[h1],?_,ek _ _ Jg R8,by rw[hO],?_,by rw[hO];rfl⟩;. rw[Array.getElem?_setIfInBounds_ne (by decide)];exact h2
 . first|(simp;done)|((rcases F_ with rfl|Aw;rotate_left;obtain⟨_,_,_,_,_,_,_,rfl⟩:=Aw;rotate_left)<;>simp)
theorem qu{A2:DM->AR->Prop}(hF:F.outs=F.env::C4)(hf:F.env.frame=G F.env.locals)(hA:A'.frames=G F.outs)(g:Gd B F K A H C s)(Cv:Nx F.D F.AZ Af s.heap BG C)(t:XF B F C Af s.heap e c)(k:∀s',Gd B F K A H C s'->Nx F.D F.AZ Af s'.heap BG C->XT B F C Af s'.heap e c (ET F.env.locals)->A2 () s'):AH (AQ B.prog B.w) A' (IE (.ref e) F.env) A2 E s:=by
 obtain⟨fe,ne,oe,vs,he,hc,hd,h1,h2⟩:=t;unfold IE;simp only[hf];refine A5 (Go he hd h1 ?_);skip;exact bb9 hF hf hA g Cv fe ne he hc hd (gQ.mp h1).1 h2 k
theorem Xg{A2:DM->AR->Prop}(hf:F.env.frame=G F.env.locals)(t:XT B F C Af s.heap e c (ET F.env.locals))(k:A2 () s):AH (AQ B.prog B.w) A' (IE (.ref e) F.env) A2 E s:=by
 obtain⟨fe,ne,T,oe,vs,oT,ts,fT,nT,Jg,he,hc,hd,h1,h2,hT,PD,h3,hi⟩:=t;exact wpAny_noteFrame_inFlight hf he hd h1 hT PD h3 k
theorem UX{A2:DM->AR->Prop}{fr:AD A8}(g:Gd B F K A H C s)(Cv:Nx F.D F.AZ Af s.heap BG C)(t:XT B F C Af s.heap e c fl)(k:∀s',Gd B F K A H C s'->Nx F.D F.AZ Af s'.heap BG C->XT B F C Af s'.heap e c (fr.elim .none λf=>ET f)->A2 () s'):AH (AQ B.prog B.w) A' (gx (.ref e) fr) A2 E s:=by
 obtain⟨fe,ne,T,oe,vs,oT,ts,fT,nT,Jg,he,hc,hd,h1,h2,hT,PD,h3,hi⟩:=t;have Ee:3<ts.size:=(gQ.mp h3).1;unfold gx;refine A5 (Go he hd h1 ?_);skip;refine Lx hT PD Ee ?_;have ek:=qr (h:=s.heap) (a:=T) (f:=Ry (·.setIfInBounds 3 (fr.elim Hh λf=>ET f)));have UW:=gI PD (·.setIfInBounds 3 (fr.elim Hh λf=>ET f));have UY:=FS (Ry (·.setIfInBounds 3 (fr.elim Hh λf=>ET f))) hT (te UW);have JQ:=ek _ _ (CX Jg) he;refine k _ (g.move (tk:=s.toks) fT ek (λo q=>by rw[hT]at q;injection q with q;subst q;exact bb8 hi)) (Cv.F2 ek nT) ⟨fe.at ⟨_,JQ⟩,ne,T,oe,vs,_,_,fT.at ⟨_,UY⟩,nT,Jg,JQ,hc,hd,h1,h2,UY,UW,by simp[Ee],?_⟩;rw[th];exact hi
end
theorem bc2:Lu Lv "proto.unchain"=G EB.«proto.unchain»:=entryFor_of_fast (by kernel_rfl)
section
variable{C:Type}
theorem bc3{A2:C->AR->Prop}{e0 e:A8}{o0 oe:Bi}{Le vs:BW A4}(hh:A.handled=G (.ref e0))(he:s.heap.get? e0=G o0)(hd:o0.data=.fields Le)(h2:Le[2]?=G .none)(Cc:e0≠e)(UZ:s.heap.get? e=G oe)(hde:oe.data=.fields vs)(h2e:2<vs.size)(h:E (.ref e) {s with heap:=s.heap.update e (Ry (·.setIfInBounds 2 (.ref e0)))}):AH (AQ prog w) A (gy (.ref e):Dz C) A2 E s:=by
 unfold gy;refine A5 (ti ?_);rw[hh];dsimp only;rw[DA (show(Jp e0 !=Jp e)=M from by simpa using Cc)];refine A5 (C0 (uo (J4 bc2 ?_)));skip;skip;refine A5 (Go he hd h2 ?_);skip;refine AW ?_;show AH _ A (do updateField e 2 (Jp e0);throw (Jp e)) A2 E s;refine A5 ?_;simp only[updateField];refine A5 (NV UZ ?_);rw[hde];show AH _ A (if 2<vs.size then _ else _) _ _ _;rw[DA h2e];exact wpAny_update UZ (gK h)
theorem qv{Xh:D9}{A2:C->AR->Prop}{e0:A8}{o0:Bi}{Le:BW A4}(hh:A.handled=G (.ref e0))(he:s.heap.get? e0=G o0)(hd:o0.data=.fields Le)(h2:Le[2]?=G .none)(h:∀Q tk e,XN s.heap Q e (.ref e0)->E (.ref e) {s with heap:=Q,toks:=tk}):AH (AQ prog w) A (bH4 "IndexError" Xh:Dz C) A2 E s:=by
 unfold bH4;refine A5 (tz (A5 ?_));skip;refine A5 (IF ?_);refine A5 (m:=V4 _ _) (NX (a:=Hh) (by simp only[V4,plainExc_IndexError.first];rfl) ?_);skip;refine IF ?_;have Xi:=C1 (h:=s.heap) {cls:=Kq "tuple",data:=gu #[Lz (Ev Xh) s.toks]} he;have CF:=Dh Xi;have UZ:=CY (s.heap.push {cls:=Kq "tuple",data:=gu #[Lz (Ev Xh) s.toks]}) (o:={cls:=.type "IndexError",data:=.fields (#[.ref s.heap.objs.size,.none,.none,.none,.bool A6,.none]++#[])}) rfl;refine bc3 (oe:={cls:=.type "IndexError",data:=.fields (#[.ref s.heap.objs.size,.none,.none,.none,.bool A6,.none]++#[])}) hh (C1 _ Xi) hd h2 (ER CF) UZ rfl (show 2<6 by decide) ?_;refine h _ _ _ ⟨λb o q=>?_,KC (by show s.heap.objs.size<=(s.heap.push _).objs.size;rw[IG];(with_reducible exact H3 _ _)),_,_,FS _ UZ rfl,rfl,rfl,rfl,rfl⟩;have q1:=C1 (h:=s.heap) {cls:=Kq "tuple",data:=gu #[Lz (Ev Xh) s.toks]} q;show((_:BK).update _ _).get? b=_;rw[GN _ _ (CX (ER (Dh q1)))];exact C1 _ q1
noncomputable def qw(A:CK)(h:BK):Prop:=A.handled=L\/∃e0 o0 Le,A.handled=G (.ref e0)/\h.get? e0=G o0/\o0.data=.fields Le/\Le[2]?=G Hh
theorem bc4{l:A8}{k:AX}(hA:qw A s.heap)(hl:s.heap.IsList l Cb)(eF:(Cb.size:AX)<=k)(eG:k<2^63)(hE:∀Q tk e c,XN s.heap Q e c->(A.handled=L->c=.none)->E (.ref e) {s with heap:=Q,toks:=tk}):AH (AQ prog w) A (Pa (.ref l) (.int k t)) A2 E s:=by
 rcases hA with hA|Aw;rotate_left;refine JA Aw ?_;(try clear Aw);intro e0 o0 Le hh he qx h2;rotate_left;. exact wpAny_getItem_list_out hA hl (.inr eF) (by omega) eG λQ tk e x=>hE Q tk e .none ⟨x.keeps,x.new,let⟨ob,t,q,ca1,ca2⟩:=x.there;⟨ob,_,q,ca1,ca2,rfl,rfl⟩⟩ λ_=>rfl
 . refine Pq (id hl) ?_;intro o ho hc ne hd;unfold Pa;try with_reducible refine C0 ?_
   first|refine A5 (AW ?_)|skip
   refine A5 (tR hl.typeIs (by decide) ?_);refine A5 (Ls (name:=Ev "__getitem__") hl.typeIs Pd (Gm Pd hl.typeIs entry_list_getitem ?_ (args_list_getitem _ _)));show AH _ _ (bz8 (.int k t)>>=_) _ _ s;refine A5 (bz9 (fitsIndex_both (by omega) eG) ?_);clear eG;cases k with
 |ofNat j=>
    have hx:Cb[j]?=L:=Array.getElem?_eq_none (by have :(Cb.size:AX)<=(j:AX):=eF;omega);skip;refine A5 (A5 (bA0 ho hd (AW ?_)));rw[hx];first
    |exact A5 (Gk (by refine qv (by exact hh) he qx h2 λQ tk e x=>hE Q tk e _ x λz=>by rw[hh]at z;cases z))|exact A5 (Gk (A5 (by refine qv (by exact hh) he qx h2 λQ tk e x=>hE Q tk e _ x λz=>by rw[hh]at z;(exfalso;cases z))))
 |negSucc j=>exact absurd eF (by have :=Int.negSucc_lt_zero j;omega)
end
noncomputable def Lg(A9:As):AD (U×U×U):=S2 A9 L λt b e _=>Ks t L λc o r _=>J9 c L λl i _=>DO l L λl _=>DO i L λi _=>l1 r L λr=>DO r L λk _=>l1 b L λb=>VM b L λj o' z _=>DO j L λj _=>HR z L λz _ _=>l0 e L (bT (Cw i j&&(decide (o=[.Eq])&&(decide (o'=.Add)&&decide (z=.int 1)))) L (G (l,i,k)))
theorem bc5{l i k:U}(h:Lg A9=G (l,i,k)){P:As->Prop}(c:∀p1 p2 p3 p4 p5 p6 k0 p7 p8 p9,P (.While (.Compare (.Subscript (.Name l p1) (.Name i p2) p3) [.Eq] [.Name k p4] p5) [.AugAssign (.Name i p6) .Add (.Constant (.int 1) k0 p7) p8] [] p9)):P A9:=by
 apply iA h AF;intro t b e p9 h;apply S1 h AF;intro t o r p5 h;apply Nj h AF;intro l' i' p3 h;apply EV h AF;intro l' p1 h;apply EV h AF;intro i' p2 h;apply Cs h AF;intro r h;apply EV h AF;intro k' p4 h;apply Cs h AF;intro b h;apply iC h AF;intro j o' z p8 h;apply EV h AF;intro j p6 h;apply J8 h AF;intro z k0 p7 h;apply EW h AF;intro h;refine Ce h AF λq h=>?_;apply xl (B1 q);apply IL (B1 (Ak q));apply IL (B1 (Ak (Ak q)));apply IL (Ak (Ak (Ak q)));apply M7 h.symm;exact c ..
noncomputable def Lh(env CV:I (U×V))(i:U)(q:O):Prop:=∀y,Ah CV y=if i=y then G (.int (q:AX))else Ah env y
section
variable{e:A8}
noncomputable def Cm(B:Bs)(F:Fm)(C:I A8)(Af:BK)(A:CK)(h:BK):Prop:=A.handled=L\/∃e0 fl,A.handled=G (.ref e0)/\XT B F C Af h e0 .none fl
theorem Cm.calm(x:Cm B F C Af A h):qw A h:=by
 rcases x with x|Bq;rotate_left;refine EX Bq ?_;(try clear Bq);intro e0 fl x t;rotate_left;. exact .inl x
 . obtain⟨_,_,T,oe,vs,oT,ts,_,_,_,he,_,hd,_,h2,_⟩:=t;exact .inr ⟨e0,oe,vs,x,he,hd,h2⟩
theorem Cm.nx(x:Cm B F C Af A h)(y:Nx AM AZ h Q C C)(hw:∀b∈AZ,b∈F.AZ):Cm B F C Af A Q:=by
 rcases x with x|Bg;rotate_left;refine EX Bg ?_;(try clear Bg);intro e0 fl x t;rotate_left;. exact .inl x
 . exact .inr ⟨e0,fl,x,t.nx y hw⟩
theorem qy{t x:Tx}{Y:I Tx}(h:CU x t=M):DG t (x::Y)=DG t Y:=by rw[DG,h]
theorem bc6{t x:Tx}{Y:I Tx}(h:CU x t=A6):DG t (x::Y)=x::Y:=by rw[DG,h]
theorem item_at{l i:U}{p:O}{Y:I Tx}(hf:Y.length<=100000)(hl:D0 K.sc l=M)(hi:D0 K.sc i=M)(g:Gd B F K A H C s)(el:Ah H.env l=G (.ref r))(hr:AL H.h r=G (.list (Y.map .str)))(ei:Ah H.env i=G (.int (p:AX)))(hp:p<=Y.length)(Cv:Nx F.D F.AZ Af s.heap BG C)(hC:Cm B F C Af A' s.heap)(ca3:∀u x,Y[p]?=G x->VR s.heap C (.str x) u->A2 u s)(ke:∀s' e c,p=Y.length->Gd B F K A H C s'->Nx F.D F.AZ Af s'.heap BG C->XF B F C Af s'.heap e c->(A'.handled=L->c=.none)->E (.ref e) s'):AH (AQ B.prog B.w) A' (eval (.Subscript (.Name l p1) (.Name i p2) p3) F.env) A2 E s:=by
 refine YO (Jf g hl el λu ru=>Jf g hi ei λw Fd=>?_);refine Bv (g.listAt ru hr) ?_;intro a us Aw F_ vr;clear ru;subst Aw;refine xE Fd ?_;(try clear Fd);intro tk B6;subst B6;have Ch:us.size=Y.length:=by have :=vr.length;simpa using this.symm
 refine Ko F_.isList.typeIs Pd.lookup ?_ (OQ (by intro a b p z;(exfalso;cases z)));by_cases CF:p<Y.length
 . have e2:(Y.map V.str)[p]?=G (.str Y[p]):=by simp[CF]
   refine AC (vr.get e2) ?_;intro y ey ry;exact tl F_.isList (by(with_reducible exact fP _)) (by omega) (by simpa using ey) (ca3 y _ (Hk CF) ry)
 . refine bc4 hC.calm F_.isList (by omega) (by omega) λQ tk' e c x hc=>?_;refine EX x.2.2 ?_;intro oe vs he r;exact ke _ e c (by(with_reducible exact Mine.yF (by assumption) (by assumption))) (g.ext (tk:=tk') x.1) (Cv.trans (Nx.ext x.1)) ⟨g.freeOf x.2.1 ⟨oe,he⟩,HC Cv.live x.2.1,oe,vs,he,r⟩ hc
noncomputable def eH(B:Bs)(F:Fm)(K:Kx)(A A':CK)(H:Mine.St)(C BG:I A8)(Af:BK)(l i k:U)(p1 p2 p3 p4 p5 p6 p7 p8:B9)(k0 r:O)(Y:I Tx)(t:Tx)(m:O):Prop:=∀(p:O){env:I (U×V)}{s:AR},m+p=Y.length->Gd B F K A ⟨env,H.h,H.n⟩ C s->Ah env l=G (.ref r)->Ah env i=G (.int (p:AX))->Ah env k=G (.str t)->Nx F.D F.AZ Af s.heap BG C->Cm B F C Af A' s.heap->∀{AS:Dt->AR->Prop},(∀q CV s',q<Y.length->Y.drop q=DG t (Y.drop p)->Lh env CV i q->Gd B F K A ⟨CV,H.h,H.n⟩ C s'->Nx F.D F.AZ Af s'.heap BG C->Cm B F C Af A' s'.heap->AS (.ok .next) s')->(∀CV s' e c,DG t (Y.drop p)=[]->Lh env CV i Y.length->Gd B F K A ⟨CV,H.h,H.n⟩ C s'->Nx F.D F.AZ Af s'.heap BG C->XT B F C Af s'.heap e c (ET F.env.locals)->(A'.handled=L->c=.none)->AS (.error (.ref e)) s')->D7 (AQ B.prog B.w) A' (.whileLoop (.Compare (.Subscript (.Name l p1) (.Name i p2) p3) [.Eq] [.Name k p4] p5) [.AugAssign (.Name i p6) .Add (.Constant (.int 1) k0 p7) p8] [] F.env) AS s
theorem qz{l i k:U}{p5 p6 p7 p8:B9}{Y:I Tx}{t:Tx}(hf:Y.length<=100000)(hl:D0 K.sc l=M)(hi:D0 K.sc i=M)(ho:G8 K.sc i=M)(hk:D0 K.sc k=M)(n1:i≠l)(n2:i≠k)(hF:F.outs=F.env::C4)(D2:F.env.frame=G F.env.locals)(hA:A'.frames=G F.outs)(hr:AL H.h r=G (.list (Y.map .str)))(ih:∀m',m=m'+1->eH B F K A A' H C BG Af l i k p1 p2 p3 p4 p5 p6 p7 p8 k0 r Y t m'):eH B F K A A' H C BG Af l i k p1 p2 p3 p4 p5 p6 p7 p8 k0 r Y t m:=by
 intro p env s hm g el ei ek Cv hC AS kn ke;have same:Lh env env i p:=λy=>by
   by_cases z:i=y;. rw[DA z,<-z,ei]
   . rw[CS z]
 refine WC (fb (item_at hf hl hi g el hr ei (by omega) Cv hC (λu x hx ru=>?_) λs' e c hp g' N' tf hc=>?_) rfl)
 . have CF:p<Y.length:=(HL.mp hx).1;have eI:Y.drop p=x::Y.drop (p+1):=by rw[YK CF,(HL.mp hx).2]
   refine Jf g hk ek λw Fd=>?_;refine xE ru ?_;(try clear ru);intro t1 BJ;subst BJ;refine xE Fd ?_;(try clear Fd);intro t2 BP;subst BP;refine bv0 (NU ?_);rw[show((⟨⟨x⟩⟩:U).cps.toList==(⟨⟨t⟩⟩:U).cps.toList)=CU x t from TO];cases q:CU x t with
 |false=>
    rw[CS (by simp)];exact kn p env s CF (by rw[eI,bc6 q]) same g Cv hC|true=>
    rw[DA rfl];refine DH (qp g hi ho ei λs' g' x'=>G1 ?_);obtain⟨m',rfl⟩:∃m',m=m'+1:=⟨m-1,by(with_reducible exact Mine.vf (by assumption) (by assumption))⟩;have J_:∀y,Ah (E_ env i (.int ((p:AX)+1))) y=if i=y then G (.int ((p+1:O):AX))else Ah env y:=λy=>by rw[QI];simp
    have tr:∀{q:O}{CV:I (U×V)},Lh (E_ env i (.int ((p:AX)+1))) CV i q->Lh env CV i q:=λhe y=>by
     rw[he y];by_cases z:i=y;. rw[DA z,DA z]
     . rw[CS z,CS z,J_ y,CS z]
    refine ih m' rfl (p+1) (by(with_reducible exact Mine.wB (by assumption))) g' ?_ ?_ ?_ (Cv.trans x') (hC.nx x' λ_ m=>m) (λq CV s' h1 h2 h3=>kn q CV s' h1 (by rw[h2,eI,qy (by assumption)]) (tr h3)) (λCV s' e c h2 h3=>ke CV s' e c (by rw[eI,qy (by assumption)];exact h2) (tr h3));. rw[J_,CS n1];exact el
    . rw[J_,DA rfl]
    . rw[J_,CS n2];exact ek
 . show AH _ A' (IE (.ref e) F.env) _ _ _;refine qu hF D2 hA g' N' tf λKb PE U_ t'=>ke env Kb e c ?_ (hp▸same) PE U_ t' hc;rw[hp,Js];rfl
theorem bc7{l i k:U}{p5 p6 p7 p8:B9}{Y:I Tx}{t:Tx}(hf:Y.length<=100000)(hl:D0 K.sc l=M)(hi:D0 K.sc i=M)(ho:G8 K.sc i=M)(hk:D0 K.sc k=M)(n1:i≠l)(n2:i≠k)(hF:F.outs=F.env::C4)(D2:F.env.frame=G F.env.locals)(hA:A'.frames=G F.outs)(hr:AL H.h r=G (.list (Y.map .str)))(m:O):eH B F K A A' H C BG Af l i k p1 p2 p3 p4 p5 p6 p7 p8 k0 r Y t m:=by induction m with
 |zero=>exact qz hf hl hi ho hk n1 n2 hF D2 hA hr λm' e=>by(exfalso;cases e)|succ m ih=>exact qz hf hl hi ho hk n1 n2 hF D2 hA hr λm' e=>YR e▸ih
end
noncomputable def eJ(A9:As)(m:U)(k:U->AA->AD J):AD J:=Pm A9 L λe _=>ED e L λf a w p=>H7 f L λo m' ap=>DO o L λo _=>l1 a L λa=>l0 w L (bT (Cw m' m&&BC ap.endLine p.line) L (k o a))
theorem r0{m:U}{k:U->AA->AD J}{r:J}(h:eJ A9 m k=G r){P:As->Prop}(c:∀o a p0 ap p p2,k o a=G r->(ap:B9).endLine=(p:B9).line->P (.Expr (.Call (.Attribute (.Name o p0) m ap) [a] [] p) p2)):P A9:=by
 apply Ym h AF;intro e p2 h;apply M5 h AF;intro f a w p h;apply S0 h AF;intro o m' ap h;apply EV h AF;intro o p0 h;apply Cs h AF;intro a h;apply EW h AF;intro h;refine Ce h AF λq h=>?_;rw[E2.mp (B1 q)];exact c _ _ _ _ _ _ h (CD (Ak q))
noncomputable def Xj(A9:As):AD (U×U):=eJ A9 (⟨⟨[97,112,112,101,110,100]⟩⟩:U) λo a=>DO a L λx _=>G (o,x)
theorem bc8{o:U}(h:Xj A9=G (o,x)){P:As->Prop}(c:∀p0 ap p1 pos p2,(ap:B9).endLine=(pos:B9).line->P (.Expr (.Call (.Attribute (.Name o p0) (⟨⟨[97,112,112,101,110,100]⟩⟩:U) ap) [.Name x p1] [] pos) p2)):P A9:=by
 apply r0 h;intro o' a p0 ap p p2 h q;apply EV h AF;intro x' p1 h;apply vM h.symm;exact c _ _ _ _ _ q
noncomputable def R9(A9:As):AD (U×U×U):=eJ A9 (⟨⟨[101,120,116,101,110,100]⟩⟩:U) λo a=>J9 a L λl s _=>DO l L λl _=>Nl s L λa b c _=>oN b L (oN c L (oS a L λi=>DO i L λi _=>G (o,l,i)))
theorem bc9{o l i:U}(h:R9 A9=G (o,l,i)){P:As->Prop}(c:∀p0 ap p1 p2 sp p3 pos p4,(ap:B9).endLine=(pos:B9).line->P (.Expr (.Call (.Attribute (.Name o p0) (⟨⟨[101,120,116,101,110,100]⟩⟩:U) ap) [.Subscript (.Name l p1) (.Slice (G (.Name i p2)) L L sp) p3] [] pos) p4)):P A9:=by
 apply r0 h;intro o' a p0 ap p p2 h q;apply Nj h AF;intro l' s p3 h;apply EV h AF;intro l' p1 h;apply i8 h AF;intro a b c' sp h;apply GP h AF;intro h;apply GP h AF;intro h;apply No h AF;intro i' h;apply EV h AF;intro i' p2 h;apply M7 h.symm;exact c _ _ _ _ _ _ _ _ q
section
variable{e:A8}
theorem bd0{l:I J}{p:O}:Hu l (G (p:AX)) L=l.drop p:=by
 show(l.take l.length).drop (Hi l.length p)=_;rw[bH5,clipAt_nat];by_cases h:p<=l.length;. rw[bG6 h]
 . rw[bG5 (ud h),Js,List.drop_of_length_le (ud h)]
theorem r4{o m:U}{id:D9}{p0 ap:B9}{arg:AA}{A2:HO->AR->Prop}(F_:CP arg=M)(Ua:ap.endLine=pos.line)(hl:D0 K.sc o=M)(g:Gd B F K A H C s)(ho:Ah H.env o=G (.ref r))(hr:AL H.h r=G (.list Y))(slot:M0 "list" m id)(Tn:Hg (.builtin id)=pure (.type "method_descriptor"))(k:∀a us n,C[r]?=G a->s.heap.get? a=G {cls:=.type "list",data:=.seq us n}->Aa s.heap C Y us.toList->AH (AQ B.prog B.w) A' (PY pos (.builtin id) [.ref a] [(A6,eval arg F.env)] []) (λ_=>A2 .next) E s):AH (AQ B.prog B.w) A' (exec (.Expr (.Call (.Attribute (.Name o p0) m ap) [arg] [] pos) p2) F.env) A2 E s:=by
 refine bs1 ?_ (by have :=g.kinds.fn;unfold interactive;simp[this]) (TB rfl);skip;refine A5 (Jf g hl ho λu ru=>A5 (El ?_));have HE:E' [arg] F.env=[(A6,eval arg F.env)]:=K7 F_;show AH _ A' (PZ (.Name o p0) m ap pos F.env u 1 (F9 pos (E' [arg] F.env)) (Ur pos (Us [] F.env))) _ E s;rw[HE];unfold PZ;skip;refine A5 (C0 ?_);show AH _ A' (Jl u m _) _ E s;refine AC ru ?_;(try clear ru);intro a ha Aw;subst Aw;refine AC (g.obj hr ha) ?_;intro us B6 vr;refine xE B6 ?_;(try clear B6);intro n hg;refine gq ⟨_,hg,rfl⟩ bE1 slot Tn (λb e=>by injection e with e;subst e;exact⟨_,hg,rfl⟩) ?_;show AH _ A' (Jm M (.Name o p0) F.env ap pos>>=λp=>PY p (.builtin id) [.ref a] [(A6,eval arg F.env)] []) _ E s;have OF:Jm M (.Name o p0) F.env ap pos=pure pos:=by
  unfold Jm;have :(ap.endLine==pos.line)=M:=by simpa using Ua
  rw[this];rfl
 rw[OF];exact A5 (AW (k a us n ha hg vr))
theorem r5{o:U}{A2:HO->AR->Prop}(hS:Xj A9=G (o,x))(hl:D0 K.sc o=M)(hx:D0 K.sc x=M)(g:Gd B F K A H C s)(ho:Ah H.env o=G (.ref r))(hr:AL H.h r=G (.list Y))(hf:Y.length<=100000)(hv:Ah H.env x=G v)(k:∀s',Gd B F K A (H.set r (.list (Y++[v]))) C s'->Nx F.D [] s.heap s'.heap C C->A2 .next s'):AH (AQ B.prog B.w) A' (exec A9 F.env) A2 E s:=by
 apply bc8 hS;intro p0 ap p1 pos p2 Ua;refine r4 rfl Ua hl g ho hr (id:="list.append") bD9 bE0 λa us n ha hg vr=>PySem.P.append_list (Jf g hx hv λw Fd=>?_);have Ch:Y.length=us.size:=by rw[vr.length];simp
 refine⟨us,n,B4 (show us.size<=100000 by(with_reducible exact Mine.yS (by assumption) (by assumption))) (by decide),hg,?_⟩;have Ub:=FS (GL λY=>Y.push w) hg rfl;refine xA (g.set (Q:=s.heap.update a (GL λY=>Y.push w)) (tk:=s.toks) (o':=.list (Y++[v])) ha hr (λ_ _ e=>by(exfalso;cases e)) (Fh ..).extBut ⟨_,Ub⟩ λim=>⟨us.push w,⟨_,Ub⟩,by rw[VC];exact(vr.Bw im).app ⟨_,_,rfl,Fd.Bw im,rfl⟩⟩) ?_;intro g' x';exact k _ g' x'
theorem r6{o l i:U}{b p:O}{Av:I V}{A2:HO->AR->Prop}(hS:R9 A9=G (o,l,i))(hl:D0 K.sc o=M)(I6:D0 K.sc l=M)(hi:D0 K.sc i=M)(g:Gd B F K A H C s)(ho:Ah H.env o=G (.ref r))(hr:AL H.h r=G (.list Av))(hM:Av.length<=1000000)(hb:Ah H.env l=G (.ref b))(cC:AL H.h b=G (.list Y))(hf:Y.length<=100000)(hv:Ah H.env i=G (.int (p:AX)))(k:∀s',Gd B F K A (H.set r (.list (Av++Y.drop p))) C s'->Nx F.D [] s.heap s'.heap C C->A2 .next s'):AH (AQ B.prog B.w) A' (exec A9 F.env) A2 E s:=by
 apply bc9 hS;intro p0 ap p1 p2 sp p3 pos p4 Ua;refine r4 rfl Ua hl g ho hr (id:="list.extend") PySem.F.slot_list_extend PySem.F.type_list_extend λa us n ha hg vr=>PySem.P.extend_list (YO (Jf g I6 hb λu ru=>tp (Jf g hi hv λw Fd=>?_)));skip;refine AW (AW ?_);refine xE Fd ?_;(try clear Fd);intro t BJ;subst BJ;refine Bv (g.listAt ru cC) ?_;intro y IA BP hp r7;clear ru;subst BP;have I6:IA.size<=100000:=by have :=r7.length;simp at this;(with_reducible exact Mine.yS (by assumption) (by assumption))
 have Eh:us.size<=1000000:=by have :=vr.length;simp at this;(with_reducible exact Mine.yS (by assumption) (by assumption))
 have kp:∀b o,s.heap.get? b=G o->(s.heap.push {cls:=.type "slice",data:=.fields #[.int (p:AX) t,.none,.none]}).get? b=G o:=λb o e=>C1 _ e;have g1:=g.ext (tk:=s.toks) kp;have R4:(s.heap.push {cls:=.type "slice",data:=.fields #[.int (p:AX) t,.none,.none]}).PlainList y IA:=hp.at (λo e=>kp _ _ e);refine Ko (s:={s with heap:=s.heap.push {cls:=.type "slice",data:=.fields #[.int (p:AX) t,.none,.none]}}) R4.isList.typeIs Pd.lookup (to R4.isList ⟨_,CY _ rfl,rfl,rfl⟩ (IsPart.int (p:AX) t) gT gT (by simp) ?_ (B4 I6 (by decide))) rfl;have hz:(Hj IA (G (p:AX)) L L).size<=IA.size:=by rw[bx1];simp
 have LC:∀b o,s.heap.get? b=G o->((s.heap.push {cls:=.type "slice",data:=.fields #[.int (p:AX) t,.none,.none]}).push {cls:=.type "list",data:=.seq (Hj IA (G (p:AX)) L L)}).get? b=G o:=λb o e=>C1 _ (kp b o e);have g2:=g.ext (tk:=s.toks) LC;have r8:=LC _ _ hg;refine⟨_,us,Hj IA (G (p:AX)) L L,n,0,B4 Eh (by decide),B4 (show us.size+(Hj IA (G (p:AX)) L L).size<=1100000 by(with_reducible exact Mine.iV (by assumption) (by assumption) (by assumption))) (by decide),?_,rfl,r8,CY _ rfl,?_⟩
 . unfold bU5;have h3:us.size+(Hj IA (G (p:AX)) L L).size<=1100000:=by(with_reducible exact Mine.iV (by assumption) (by assumption) (by assumption))
   have h4:¬(us.size+(Hj IA (G (p:AX)) L L).size>FA):=by
    have :1100000<=FA:=by decide
    omega
   simp[h4]
 . have Ub:=FS (GL λY=>Y++Hj IA (G (p:AX)) L L) r8 rfl;refine xA (g2.set (tk:=s.toks) (o':=.list (Av++Y.drop p)) ha hr (λ_ _ e=>by(exfalso;cases e)) (Fh _ a (GL λY=>Y++Hj IA (G (p:AX)) L L)).extBut ⟨_,Ub⟩ λim=>by
    refine⟨us++Hj IA (G (p:AX)) L L,⟨_,Ub⟩,?_⟩;rw[Array.toList_append];refine Aa.app ?_ ?_;. exact(vr.Bw (λb o e _=>LC b o e)).Bw im
    . have :=bG (r7.Bw (λb o e _=>LC b o e)) (G (p:AX)) L;rw[bd0]at this;exact this.Bw im) ?_;intro g' x';exact k _ g' ((Nx.ext LC).trans x')
end
section
variable{e:A8}{Av:I Tx}
theorem Gd.view{env:I (U×V)}{h Q:I (O×Ob)}(g:Gd B F K A ⟨env,h,m⟩ C s)(he:∀p∈CV,Ah env p.1=G p.2)(hh:∀p∈Q,AL h p.1=G p.2):Gd B F K A ⟨CV,Q,m⟩ C s:=⟨g.kinds,g.len,g.nodup,g.fresh,g.live,g.D5,g.D1,λi o e=>g.objs i o (hh _ (Sz e)),let⟨q,ns,ce,r⟩:=g.env;⟨q,ns,ce,λx v e=>r x v (he _ (FF e))⟩,g.base,g.os,g.gens,g.frames,g.DT,g.Cy,g.mods,g.handled,g.depth,g.units⟩
theorem Nx.w0(x:Nx AM [] h Q C AT):Nx AM AZ h Q C AT:=x.FZ
noncomputable def XU(B:Bs)(F:Fm)(C:I A8)(Af h:BK)(e:A8)(c:A4):Prop:=XF B F C Af h e c\/XT B F C Af h e c (ET F.env.locals)
theorem bd1{A2:DM->AR->Prop}(hF:F.outs=F.env::C4)(hf:F.env.frame=G F.env.locals)(hA:A'.frames=G F.outs)(g:Gd B F K A H C s)(Cv:Nx F.D F.AZ Af s.heap BG C)(t:XU B F C Af s.heap e c)(k:∀s',Gd B F K A H C s'->Nx F.D F.AZ Af s'.heap BG C->XT B F C Af s'.heap e c (ET F.env.locals)->A2 () s'):AH (AQ B.prog B.w) A' (IE (.ref e) F.env) A2 E s:=by
 rcases t with t|t;. exact qu hF hf hA g Cv t k
 . exact Xg hf t (k s g Cv t)
theorem r9(hf:F.env.frame=G F.env.locals)(g:Gd B F K A H C s)(Cv:Nx F.D F.AZ Af s.heap BG C)(t:XT B F C Af s.heap e c fl)(k:∀s',Gd B F K A H C s'->Nx F.D F.AZ Af s'.heap BG C->XT B F C Af s'.heap e c (ET F.env.locals)->E (.ref e) s'):uq (AQ B.prog B.w) A' F.env E (.ref e) s:=by
 unfold uq;obtain⟨fe,ne,T,oe,vs,oT,ts,fT,nT,Jg,he,hc,hd,h1,r⟩:=id t;refine A5 (Go he hd h1 ?_);skip;rw[hf];exact UX g Cv t k
theorem bd2{tag:D9}{A2:J->AR->Prop}(hf:F.env.frame=G F.env.locals)(g:Gd B F K A H C s)(Cv:Nx F.D F.AZ Af s.heap BG C)(t:XT B F C Af s.heap e c fl)(k:∀s',Gd B F K A H C s'->Nx F.D F.AZ Af s'.heap BG C->XT B F C Af s'.heap e c (ET F.env.locals)->E (.ref e) s'):AH (AQ B.prog B.w) A' (passOn tag (.ref e) F.env:Dz J) A2 E s:=by
 unfold passOn;obtain⟨fe,ne,T,oe,vs,oT,ts,fT,nT,Jg,he,hc,hd,h1,r⟩:=id t;refine A5 (Go he hd h1 ?_);skip;rw[hf];exact A5 (UX g Cv t λs' g' N' t'=>gK (k s' g' N' t'))
theorem Xk{l i k:U}{p:O}{Y:I Tx}{t:Tx}{A2:HO->AR->Prop}(hS:Lg A9=G (l,i,k))(hf:Y.length<=100000)(hl:D0 K.sc l=M)(hi:D0 K.sc i=M)(ho:G8 K.sc i=M)(hk:D0 K.sc k=M)(n1:i≠l)(n2:i≠k)(hF:F.outs=F.env::C4)(D2:F.env.frame=G F.env.locals)(hA:A'.frames=G F.outs)(hr:AL H.h r=G (.list (Y.map .str)))(hp:p<=Y.length)(g:Gd B F K A H C s)(el:Ah H.env l=G (.ref r))(ei:Ah H.env i=G (.int (p:AX)))(ek:Ah H.env k=G (.str t))(Cv:Nx F.D F.AZ Af s.heap BG C)(hC:Cm B F C Af A' s.heap)(kn:∀q CV s',q<Y.length->Y.drop q=DG t (Y.drop p)->Lh H.env CV i q->Gd B F K A ⟨CV,H.h,H.n⟩ C s'->Nx F.D F.AZ Af s'.heap BG C->Cm B F C Af A' s'.heap->A2 .next s')(ke:∀CV s' e c,DG t (Y.drop p)=[]->Lh H.env CV i Y.length->Gd B F K A ⟨CV,H.h,H.n⟩ C s'->Nx F.D F.AZ Af s'.heap BG C->XT B F C Af s'.heap e c (ET F.env.locals)->(A'.handled=L->c=.none)->E (.ref e) s'):AH (AQ B.prog B.w) A' (exec A9 F.env) A2 E s:=by
 apply bc5 hS;intro p1 p2 p3 p4 p5 p6 k0 p7 p8 p9;refine tG (bc7 hf hl hi ho hk n1 n2 hF D2 hA hr (Y.length-p) p (by(with_reducible exact Xz (by assumption))) g el ei ek Cv hC kn λCV s' e c h1 h2 g' N' t' hc=>?_);exact r9 D2 g' N' t' λKb PE U_ HA=>ke CV Kb e c h1 h2 PE U_ HA hc
noncomputable def rA(A9:As):AD (I As×As×I As):=Nm A9 L λb h o f _=>l1 h L λh=>l0 o L (l0 f L (Yp h λt n hb _=>oS t L λt=>DO t L λx _=>oN n L (lC hb L λh0 hb=>bT (Cw x (⟨⟨[73,110,100,101,120,69,114,114,111,114]⟩⟩:U)) L (G (b,h0,hb)))))
theorem bd3{b hb:I As}{h0:As}(h:rA A9=G (b,h0,hb)){P:As->Prop}(c:∀p1 p2 p3,P (.Try b [.ExceptHandler (G (.Name (⟨⟨[73,110,100,101,120,69,114,114,111,114]⟩⟩:U) p1)) L (h0::hb) p2] [] [] p3)):P A9:=by
 apply iD h AF;intro b Q o f p3 h;apply Cs h AF;intro Q h;apply EW h AF;intro h;apply EW h AF;intro h;apply vL h;intro t n hb p2 h;apply No h AF;intro t h;apply EV h AF;intro x p1 h;apply GP h AF;intro h;apply FT h AF;intro h0 hb h;refine Ce h AF λq h=>?_;rw[E2.mp q];apply M7 h.symm;exact c ..
noncomputable def eK(A9:As):AD (I As×As×I As):=Nm A9 L λb h o f _=>l0 h L (l0 o L (lC f L λca4 fs=>G (b,ca4,fs)))
theorem bd4{b hb:I As}{h0:As}(h:eK A9=G (b,h0,hb)){P:As->Prop}(c:∀p3,P (.Try b [] [] (h0::hb) p3)):P A9:=by
 apply iD h AF;intro b Q o f p3 h;apply EW h AF;intro h;apply EW h AF;intro h;apply FT h AF;intro h0 hb h;apply M7 h.symm;exact c _
noncomputable def eM(A9:As):AD (AA×I As×I As):=Ju A9 L λt a b _=>G (t,a,b)
theorem rB{a b:I As}{t:AA}(h:eM A9=G (t,a,b)){P:As->Prop}(c:∀p3,P (.If t a b p3)):P A9:=by
 apply Yl h AF;intro t a b p h;apply M7 h.symm;exact c _
noncomputable def eN(A9:As):AD (U×U×U):=Pn A9 L λx v _=>l1 x L λx=>DO x L λx _=>J9 v L λl i _=>DO l L λl _=>DO i L λi _=>G (x,l,i)
theorem rC{l i:U}(h:eN A9=G (x,l,i)){P:As->Prop}(c:∀p1 p2 p3 p4 p5,P (.Assign [.Name x p1] (.Subscript (.Name l p2) (.Name i p3) p4) p5)):P A9:=by
 apply iB h AF;intro x v p5 h;apply Cs h AF;intro x h;apply EV h AF;intro x p1 h;apply Nj h AF;intro l i p4 h;apply EV h AF;intro l p2 h;apply EV h AF;intro i p3 h;apply M7 h.symm;exact c ..
noncomputable def Uc(o:PO)(x y:U)(e:AA):AK:=Ks e A6 λa o' b _=>DO a A6 λa _=>l1 b A6 λb=>DO b A6 λb _=>Cw a x&&(Cw b y&&decide (o'=[o]))
theorem rE{o:PO}{y:U}{e:AA}(h:Uc o x y e=M){P:AA->Prop}(c:∀p1 p2 p3,P (.Compare (.Name x p1) [o] [.Name y p2] p3)):P e:=by
 apply S1 h B0;intro a o' b p3 h;apply EV h B0;intro a p1 h;apply Cs h B0;intro b h;apply EV h B0;intro b p2 h;rw[E2.mp (B1 h),E2.mp (B1 (Ak h)),of_decide_eq_true (Ak (Ak h))];exact c ..
noncomputable def N6(A9:As):AD U:=VM A9 L λi o z _=>DO i L λi _=>HR z L λz _ _=>bT (decide (o=.Add)&&decide (z=.int 1)) L (G i)
theorem bd5{i:U}(h:N6 A9=G i){P:As->Prop}(c:∀p1 k0 p2 p3,P (.AugAssign (.Name i p1) .Add (.Constant (.int 1) k0 p2) p3)):P A9:=by
 apply iC h AF;intro i o z p3 h;apply EV h AF;intro i p1 h;apply J8 h AF;intro z k0 p2 h;refine Ce h AF λq h=>?_;apply IL (B1 q);apply IL (Ak q);apply Br h.symm;exact c ..
noncomputable def eO(A9:As):AK:=Yn A9 A6 λ_=>M
theorem bd6(h:eO A9=M){P:As->Prop}(c:∀p,P (.Break p)):P A9:=by
 apply vI h B0;intro p _;exact c p
theorem bd7{t:AA}{y:U}{a b:Tx}{A2:AK->AR->Prop}(ht:Uc .Lt x y t=M)(hx:D0 K.sc x=M)(hy:D0 K.sc y=M)(g:Gd B F K A H C s)(ex:Ah H.env x=G (.str a))(ey:Ah H.env y=G (.str b))(k:A2 (EZ a b) s):AH (AQ B.prog B.w) A' (NS t F.env (eval t F.env)) A2 E s:=by
 apply rE ht;intro p1 p2 p3;refine fb (Jf g hx ex λu ru=>Jf g hy ey λw Fd=>?_) rfl;refine xE ru ?_;(try clear ru);intro t1 Aw;subst Aw;refine xE Fd ?_;(try clear Fd);intro t2 B6;subst B6;refine bv1 (NU ?_);rw[show decide ((⟨⟨a⟩⟩:U).cps.toList<(⟨⟨b⟩⟩:U).cps.toList)=EZ a b from aw];exact k
theorem bd8{t:AA}{y:U}{a b:Tx}{A2:AK->AR->Prop}(ht:Uc .Gt x y t=M)(hx:D0 K.sc x=M)(hy:D0 K.sc y=M)(g:Gd B F K A H C s)(ex:Ah H.env x=G (.str a))(ey:Ah H.env y=G (.str b))(k:A2 (EZ b a) s):AH (AQ B.prog B.w) A' (NS t F.env (eval t F.env)) A2 E s:=by
 apply rE ht;intro p1 p2 p3;refine fb (Jf g hx ex λu ru=>Jf g hy ey λw Fd=>?_) rfl;refine xE ru ?_;(try clear ru);intro t1 BJ;subst BJ;refine xE Fd ?_;(try clear Fd);intro t2 BP;subst BP;refine PySem.P.gt_str (NU ?_);rw[show decide ((⟨⟨b⟩⟩:U).cps.toList<(⟨⟨a⟩⟩:U).cps.toList)=EZ b a from aw];exact k
end
noncomputable def Fe:U:=⟨⟨[101,120,112,101,99,116,101,100]⟩⟩
noncomputable def FO:U:=⟨⟨[97,99,116,117,97,108]⟩⟩
noncomputable def Fy:U:=⟨⟨[105]⟩⟩
noncomputable def F8:U:=⟨⟨[106]⟩⟩
noncomputable def Kc:U:=⟨⟨[109,105,115,115,105,110,103]⟩⟩
noncomputable def N7:U:=⟨⟨[117,110,101,120,112,101,99,116,101,100]⟩⟩
noncomputable def Ji:U:=⟨⟨[101]⟩⟩
noncomputable def Iz:U:=⟨⟨[97]⟩⟩
noncomputable def Ud:U:=⟨⟨[73,110,100,101,120,69,114,114,111,114]⟩⟩
noncomputable def Ff(i j:O):I (U×V):=[(Fy,.int (i:AX)),(F8,.int (j:AX)),(Kc,.ref 2),(N7,.ref 3),(Fe,.ref 0),(FO,.ref 1)]
noncomputable def Fz(i j:O)(x y:Tx):I (U×V):=(Ji,.str x)::(Iz,.str y)::Ff i j
noncomputable def DL(AG An Av CL:I Tx):I (O×Ob):=[(0,.list (AG.map .str)),(1,.list (An.map .str)),(2,.list (Av.map .str)),(3,.list (CL.map .str))]
structure RA(sc:BU):Prop where
 ex:D0 sc Fe=M
 ac:D0 sc FO=M
 i:D0 sc Fy=M
 j:D0 sc F8=M
 mi:D0 sc Kc=M
 un:D0 sc N7=M
 e:D0 sc Ji=M
 a:D0 sc Iz=M
 io:G8 sc Fy=M
 jo:G8 sc F8=M
 eo:G8 sc Ji=M
 ca5:G8 sc Iz=M
 ie:Di sc Ud=M
noncomputable def Xl(B:Bs):Prop:=∃mg mb,B.base.Ns 3 mg/\B.base.Ns 0 mb/\mg Ud=L/\mb Ud=G (.type "IndexError")
section
variable{e:A8}{Av:I Tx}
theorem RC{env:I (U×V)}{h:I (O×Ob)}(g:Gd B F K A ⟨env,h,m⟩ C s)(h1:Ah env Fy=G (.int (i:AX)))(h2:Ah env F8=G (.int (j:AX)))(h3:Ah env Kc=G (.ref 2))(h4:Ah env N7=G (.ref 3))(h5:Ah env Fe=G (.ref 0))(h6:Ah env FO=G (.ref 1)):Gd B F K A ⟨Ff i j,h,m⟩ C s:=⟨g.kinds,g.len,g.nodup,g.fresh,g.live,g.D5,g.D1,g.objs,let⟨q,ns,ce,r⟩:=g.env;⟨q,ns,ce,λx v e=>r x v ((show∀p∈Ff i j,Ah env p.1=G p.2 from all_cons h1<|all_cons h2<|all_cons h3<|all_cons h4<|all_cons h5<|all_cons h6 EE) _ (FF e))⟩,g.base,g.os,g.gens,g.frames,g.DT,g.Cy,g.mods,g.handled,g.depth,g.units⟩
theorem PF{env:I (U×V)}{h:I (O×Ob)}{x:Tx}(g:Gd B F K A ⟨env,h,m⟩ C s)(h1:Ah env Fy=G (.int (i:AX)))(h2:Ah env F8=G (.int (j:AX)))(h3:Ah env Kc=G (.ref 2))(h4:Ah env N7=G (.ref 3))(h5:Ah env Fe=G (.ref 0))(h6:Ah env FO=G (.ref 1))(h7:Ah env Ji=G (.str x))(h8:Ah env Iz=G (.str y)):Gd B F K A ⟨Fz i j x y,h,m⟩ C s:=⟨g.kinds,g.len,g.nodup,g.fresh,g.live,g.D5,g.D1,g.objs,let⟨q,ns,ce,r⟩:=g.env;⟨q,ns,ce,λz v e=>r z v ((show∀p∈Fz i j x y,Ah env p.1=G p.2 from all_cons h7<|all_cons h8<|all_cons h1<|all_cons h2<|all_cons h3<|all_cons h4<|all_cons h5<|all_cons h6 EE) _ (FF e))⟩,g.base,g.os,g.gens,g.frames,g.DT,g.Cy,g.mods,g.handled,g.depth,g.units⟩
theorem QQ(SB:Xl B)(SK:RA K.sc){A2:HO->AR->Prop}(hX:AG.length<=100000)(hY:An.length<=100000)(hM:Av.length<=1000000)(hU:CL.length<=1000000)(h1:R9 K5=G (Kc,Fe,Fy))(h2:R9 ext2=G (N7,FO,F8))(h3:eO brk=M)(hF:F.outs=F.env::C4)(hf:F.env.frame=G F.env.locals)(g:Gd B F K A ⟨Ff i j,DL AG An Av CL,4⟩ C s)(Cv:Nx F.D F.AZ Af s.heap BG C)(t:XU B F C Af s.heap e c)(kB:∀s',Gd B F K A ⟨Ff i j,DL AG An (Av++AG.drop i) (CL++An.drop j),4⟩ C s'->Nx F.D F.AZ Af s'.heap BG C->A2 .brk s'):AH (AQ B.prog B.w) A (IE (.ref e) F.env) (λ_ Ai=>AH (AQ B.prog B.w) A (gx (.ref e) L) (λ_ Ax=>AH (AQ B.prog B.w) A (handleBy (.ref e) F.env [.ExceptHandler (G (.Name Ud p1)) L (K5::[ext2,brk]) p2]) A2 E Ax) E Ai) E s:=by
 refine HS SB ?_;(try clear SB);intro mg mb n3 n0 hm hw;apply bd6 h3;intro p;refine bd1 hF hf g.frames g Cv t λAJ AN Jh Mi=>UX (fr:=L) AN Jh Mi λAi AU FN Ei=>?_;have st:∀b o,B.base.get? b=G o->Ai.heap.get? b=G o:=AU.base;have m3:Ai.heap.Ns F.env.globals mg:=by rw[g.kinds.g3];refine Hp n3 ?_;(try clear n3);intro o N ep e r;exact⟨o,N,ep,st _ _ e,r⟩
 have m0:Ai.heap.Ns F.env.builtins mb:=by rw[g.kinds.b0];refine Hp n0 ?_;(try clear n0);intro o N ep e r;exact⟨o,N,ep,st _ _ e,r⟩
 refine iN Ei.obj ?_;intro T oe vs oT ts _ _ _ he hc _;refine wpAny_handleBy_builtin (X:="IndexError") (T:="IndexError") (b:=M) PySem.F.isExc_IndexError PySem.F.notTuple_IndexError PySem.F.self_IndexError ?_;refine bz3 AU.kinds.fn (AU.kinds.glob _ SK.ie) (bz4 m3 hm m0 hw ⟨rfl,⟨oe,he,hc⟩,?_⟩) (mB g.kinds.sc SK.ie);rw[DA rfl];refine UX (fr:=L) AU FN Ei λAx Ap IB RD=>?_;refine DH (r6 h1 SK.mi SK.ex SK.i Ap rfl rfl (by simpa using hM) rfl rfl (by simpa using hX) rfl λEG CA Cz=>?_);have e4:Av.map V.str++(AG.map V.str).drop i=(Av++AG.drop i).map V.str:=by simp
 rw[e4]at CA;have CA:Gd B F K A ⟨Ff i j,DL AG An (Av++AG.drop i) CL,4⟩ C EG:=CA;refine DH (r6 h2 SK.un SK.ac SK.j CA rfl rfl (by simpa using hU) rfl rfl (by simpa using hY) rfl λEg Cn EL=>?_);have e5:CL.map V.str++(An.map V.str).drop j=(CL++An.drop j).map V.str:=by simp
 rw[e5]at Cn;have Cn:Gd B F K A ⟨Ff i j,DL AG An (Av++AG.drop i) (CL++An.drop j),4⟩ C Eg:=Cn;exact DH (wpAny_Break (kB Eg Cn (IB.trans (Cz.w0.trans EL.w0))))
theorem Xm{a:AX}{A2:HO->AR->Prop}(hS:N6 A9=G x)(g:Gd B F K A H C s)(hl:D0 K.sc x=M)(ho:G8 K.sc x=M)(hv:Ah H.env x=G (.int a))(k:∀s',Gd B F K A ⟨E_ H.env x (.int (a+1)),H.h,H.n⟩ C s'->Nx F.D F.AZ s.heap s'.heap C C->A2 .next s'):AH (AQ B.prog B.w) A' (exec A9 F.env) A2 E s:=by
 apply bd5 hS;intro p1 k0 p2 p3;exact qp g hl ho hv k
theorem rG(SK:RA K.sc){x:Tx}{A2:HO->AR->Prop}(hY:An.length<=100000)(h1:N6 JM=G F8)(h2:Lg JN=G (FO,F8,Iz))(hj:j<An.length)(hF:F.outs=F.env::C4)(hf:F.env.frame=G F.env.locals)(hA:A'.frames=G F.outs)(g:Gd B F K A ⟨Fz i j x y,DL AG An Av CL,4⟩ C s)(Cv:Nx F.D F.AZ Af s.heap BG C)(hC:Cm B F C Af A' s.heap)(kn:∀q s',q<An.length->An.drop q=DG y (An.drop (j+1))->Gd B F K A ⟨Fz i q x y,DL AG An Av CL,4⟩ C s'->Nx F.D F.AZ Af s'.heap BG C->Cm B F C Af A' s'.heap->A2 .next s')(ke:∀s' e c,DG y (An.drop (j+1))=[]->Gd B F K A ⟨Fz i An.length x y,DL AG An Av CL,4⟩ C s'->Nx F.D F.AZ Af s'.heap BG C->XT B F C Af s'.heap e c (ET F.env.locals)->E (.ref e) s'):AH (AQ B.prog B.w) A' (J2 [JM,JN] F.env) A2 E s:=by
 refine DH (Xm h1 g SK.j SK.jo rfl λAJ AN Ab=>?_);have AN:Gd B F K A ⟨Fz i (j+1) x y,DL AG An Av CL,4⟩ C AJ:=PF AN rfl (by show G (V.int ((j:AX)+1))=_;simp) rfl rfl rfl rfl rfl rfl;have vw:∀{CV:I (U×V)}{q:O}{Ai:AR},Lh (Fz i (j+1) x y) CV F8 q->Gd B F K A ⟨CV,DL AG An Av CL,4⟩ C Ai->Gd B F K A ⟨Fz i q x y,DL AG An Av CL,4⟩ C Ai:=λhe AU=>PF AU (he _) (he _) (he _) (he _) (he _) (he _) (he _) (he _);refine DH (Xk (p:=j+1) h2 hY SK.ac SK.j SK.jo SK.a (by decide) (by decide) hF hf hA rfl hj AN rfl rfl rfl (Cv.trans Ab) (hC.nx Ab λ_ m=>m) (λq CV Ai h3 h4 h5 AU FN bd9=>G1 (kn q Ai h3 h4 (vw h5 AU) FN bd9)) λCV Ai e c h3 h4 AU FN Ei _=>ke Ai e c h3 (vw h4 AU) FN Ei)
theorem eP{x:Tx}(g:Gd B F K A ⟨Fz i j x y,DL AG An Av CL,4⟩ C s):Gd B F K A ⟨Ff i j,DL AG An Av CL,4⟩ C s:=RC g rfl rfl rfl rfl rfl rfl
theorem be0(SK:RA K.sc){x:Tx}{A2:HO->AR->Prop}(hX:AG.length<=100000)(hY:An.length<=100000)(h0:eK tf=G ([L2],JM,[JN]))(h3:Lg L2=G (Fe,Fy,Ji))(h1:N6 JM=G F8)(h2:Lg JN=G (FO,F8,Iz))(hi:i<=AG.length)(hj:j<An.length)(hF:F.outs=F.env::C4)(hf:F.env.frame=G F.env.locals)(g:Gd B F K A ⟨Fz i j x y,DL AG An Av CL,4⟩ C s)(Cv:Nx F.D F.AZ Af s.heap BG C)(kn:∀i' j' s',i'<=AG.length->j'<=An.length->AG.drop i'=DG x (AG.drop i)->An.drop j'=DG y (An.drop (j+1))->Gd B F K A ⟨Ff i' j',DL AG An Av CL,4⟩ C s'->Nx F.D F.AZ Af s'.heap BG C->A2 .next s')(ke:∀i' j' s' e c,i'<=AG.length->j'<=An.length->AG.drop i'=DG x (AG.drop i)->An.drop j'=DG y (An.drop (j+1))->(i'=AG.length\/j'=An.length)->Gd B F K A ⟨Ff i' j',DL AG An Av CL,4⟩ C s'->Nx F.D F.AZ Af s'.heap BG C->XU B F C Af s'.heap e c->E (.ref e) s'):AH (AQ B.prog B.w) A (exec tf F.env) A2 E s:=by
 apply bd4 h0;intro p3;have vw:∀{CV:I (U×V)}{q:O}{Ai:AR},Lh (Fz i j x y) CV Fy q->Gd B F K A ⟨CV,DL AG An Av CL,4⟩ C Ai->Gd B F K A ⟨Fz q j x y,DL AG An Av CL,4⟩ C Ai:=λhe AU=>PF AU (he _) (he _) (he _) (he _) (he _) (he _) (he _) (he _);have back:∀{q Ai e c}{eQ:CK},q<=AG.length->AG.drop q=DG x (AG.drop i)->DG y (An.drop (j+1))=[]->Gd B F K A ⟨Fz q An.length x y,DL AG An Av CL,4⟩ C Ai->Nx F.D F.AZ Af Ai.heap BG C->XT B F C Af Ai.heap e c (ET F.env.locals)->RY (AQ B.prog B.w) eQ F.env (uq (AQ B.prog B.w) A F.env E) (.ref e) Ai:=λ{q Ai e c eQ}h4 h5 h6 AU FN Ei=>by
   show AH _ eQ (IE (.ref e) F.env) _ _ _;exact Xg hf Ei (r9 hf AU FN Ei λAx Ap IB RD=>ke q An.length Ax e c h4 (DF _) h5 (by rw[h6,Js]) (.inr rfl) (eP Ap) IB (.inr RD))
 refine wpAny_Try_finally (DH (Xk h3 hX SK.ex SK.i SK.io SK.e (by decide) (by decide) hF hf g.frames rfl hi g rfl rfl rfl Cv (.inl g.handled) (λq CV Ai h4 h5 h6 AU FN _=>G1 (G1 ?_)) λCV Ai e c h4 h5 AU FN Ei hc=>?_));. refine rG SK hY h1 h2 hj hF hf g.frames (vw h6 AU) FN (.inl g.handled) (λq' Ax h7 h8 Ap IB _=>kn q q' Ax (Gi h4) (Gi h7) h5 h8 (eP Ap) IB) λAx e c h7 Ap IB RD=>back (Gi h4) h5 h7 Ap IB RD
 . have hc:=hc g.handled;subst hc;refine Xg hf Ei ⟨(by intro z;(exfalso;cases z)),Xg hf Ei (UX (fr:=L) (vw h5 AU) FN Ei λAx Ap IB RD=>?_)⟩;have rH:AG.drop AG.length=DG x (AG.drop i):=by rw[h4,Js]
   refine rG SK hY h1 h2 hj hF hf (A':=A.mark (G (.ref e))) (by exact g.frames) Ap IB (.inr ⟨e,_,rfl,RD⟩) (λq' EG h7 h8 CA Li RE=>?_) λEG e' c h7 CA Li eR=>back (DF _) rH h7 CA Li eR;rcases RE with RE|HD;rotate_left;refine EX HD ?_;(try clear HD);intro e0 fl RE eR;rotate_left;. (exfalso;cases RE)
   . have :e=e0:=by
      have q:G (Jp e)=G (Jp e0):=RE;injection q with q;injection q
     clear RE;subst this;exact bd2 hf CA Li eR λEg Cn HI PG=>ke AG.length q' Eg e _ (DF _) (Gi h7) rH h8 (.inl rfl) (eP Cn) HI (.inr PG)
end
theorem RF{ys:I Tx}:D4 m [] ys=([],ys):=by cases m<;>rfl
theorem RG{Y:I Tx}:D4 m Y []=(Y,[]):=by cases m with
 |zero=>rfl|succ m=>cases Y<;>rfl
theorem be1{t:Tx}{Y:I Tx}:(DG t Y).length<=Y.length:=by induction Y with
 |nil=>exact DF _|cons x Y ih=>
 refine(?_:(match CU x t with|true=>DG t Y|false=>x::Y).length<=_);cases CU x t with
 |true=>exact gr ih|false=>exact DF _
theorem Xn{t:Tx}{p q:O}(hp:p<=AG.length)(hq:q<=AG.length)(h:AG.drop q=DG t (AG.drop p)):p<=q:=by
 have z:(AG.drop q).length<=(AG.drop p).length:=h▸be1;rw[V6,V6]at z;exact uX hp▸uX hq▸fH z AG.length
theorem eS{a q b k:O}(hm:a-i+b<=k+1)(hi:i<a)(hq:i+1<=q):a-q+b<=k:=sj (B4 (Nat.succ_add _ _▸Xy (Nat.sub_lt_sub_left hi hq) b) hm)
theorem be2{a q b k:O}(hm:b+(a-j)<=k+1)(hj:j<a)(hq:j+1<=q):b+(a-q)<=k:=by rw[Ll]at hm ⊢;exact eS hm hj hq
theorem rI{Av:I J}{x:J}{q:O}(hq:i+1<=q):(Av++[x]).length+i<=Av.length+q:=by rw[FD,uF,NO,Ll 1 i];exact HK hq _
theorem rJ{Av:I J}{x:J}(h:Av.length<=100000):(Av++[x]).length<=1000000:=by rw[FD];exact B4 (Xy h 1) (by decide)
theorem rK{l:I J}{p:O}{x:J}(h:l[p]?=G x):l.drop p=x::l.drop (p+1):=by
 refine xE (HL.mp h) ?_;intro CF e;rw[YK CF,e]
structure eU(tr N8 N9 if1 NA NB NC if2 ND NE NF NG tf L2 JM JN K5 ext2 brk:As)(t1 t2:AA):Prop where
 tr:rA tr=G ([N8,N9,if1],K5,[ext2,brk])N8:eN N8=G (Ji,Fe,Fy)N9:eN N9=G (Iz,FO,F8)if1:eM if1=G (t1,[NA,NB,NC],[if2])t1:Uc .Lt Ji Iz t1=M
 NA:Xj NA=G (Kc,Ji)NB:N6 NB=G Fy
 NC:Lg NC=G (Fe,Fy,Ji)if2:eM if2=G (t2,[ND,NE,NF],[NG,tf])t2:Uc .Gt Ji Iz t2=M
 ND:Xj ND=G (N7,Iz)NE:N6 NE=G F8
 NF:Lg NF=G (FO,F8,Iz)NG:N6 NG=G Fy
 tf:eK tf=G ([L2],JM,[JN])L2:Lg L2=G (Fe,Fy,Ji)JM:N6 JM=G F8
 JN:Lg JN=G (FO,F8,Iz)K5:R9 K5=G (Kc,Fe,Fy)ext2:R9 ext2=G (N7,FO,F8)brk:eO brk=M
section
variable{Av:I Tx}{tr N8 N9 if1 NA NB NC if2 ND NE NF NG:As}{t1 t2:AA}
theorem eV{e a:Tx}{Y ys:I Tx}:D4 (n+1) (e::Y) (a::ys)=match EZ e a with
 |true=>(e::(D4 n (DG e Y) (a::ys)).1,(D4 n (DG e Y) (a::ys)).2)|false=>match EZ a e with
 |true=>((D4 n (e::Y) (DG a ys)).1,a::(D4 n (e::Y) (DG a ys)).2)|false=>D4 n (DG e Y) (DG a ys):=rfl
theorem rL(SB:Xl B)(SK:RA K.sc)(D:eU tr N8 N9 if1 NA NB NC if2 ND NE NF NG tf L2 JM JN K5 ext2 brk t1 t2){A2:HO->AR->Prop}(hX:AG.length<=100000)(hY:An.length<=100000)(hM:Av.length+m<=90000+900000)(hU:CL.length+m<=90000+900000)(hi:i<=AG.length)(hj:j<=An.length)(hm:AG.length-i+(An.length-j)<=m)(RH:Av.length<=100000)(RI:CL.length<=100000)(hF:F.outs=F.env::C4)(hf:F.env.frame=G F.env.locals)(g:Gd B F K A ⟨Ff i j,DL AG An Av CL,4⟩ C s)(Cv:Nx F.D F.AZ Af s.heap BG C)(kn:∀k i' j' M' U' s',m=k+1->i'<=AG.length->j'<=An.length->AG.length-i'+(An.length-j')<=k->M'.length+i<=Av.length+i'->U'.length+j<=CL.length+j'->Av++(D4 m (AG.drop i) (An.drop j)).1=M'++(D4 k (AG.drop i') (An.drop j')).1->CL++(D4 m (AG.drop i) (An.drop j)).2=U'++(D4 k (AG.drop i') (An.drop j')).2->Gd B F K A ⟨Ff i' j',DL AG An M' U',4⟩ C s'->Nx F.D F.AZ Af s'.heap BG C->A2 .next s')(kB:∀i' j' s',Gd B F K A ⟨Ff i' j',DL AG An (Av++(D4 m (AG.drop i) (An.drop j)).1) (CL++(D4 m (AG.drop i) (An.drop j)).2),4⟩ C s'->Nx F.D F.AZ Af s'.heap BG C->A2 .brk s'):AH (AQ B.prog B.w) A (exec tr F.env) A2 E s:=by
 apply bd3 D.tr;intro p1 p2 p3;have BF:∀{i' j':O}{M' U':I Tx}{Ai:AR}{e:A8}{c:A4},M'.length<=1000000->U'.length<=1000000->M'++AG.drop i'=Av++(D4 m (AG.drop i) (An.drop j)).1->U'++An.drop j'=CL++(D4 m (AG.drop i) (An.drop j)).2->Gd B F K A ⟨Ff i' j',DL AG An M' U',4⟩ C Ai->Nx F.D F.AZ Af Ai.heap BG C->XU B F C Af Ai.heap e c->AH (AQ B.prog B.w) A (IE (.ref e) F.env) (λ_ Ai=>AH (AQ B.prog B.w) A (gx (.ref e) L) (λ_ Ax=>AH (AQ B.prog B.w) A (handleBy (.ref e) F.env [.ExceptHandler (G (.Name Ud p1)) L (K5::[ext2,brk]) p2]) A2 E Ax) E Ai) E Ai:=λ{i' j' M' U' Ai e c}h1 h2 h3 h4 AU FN Ei=>QQ SB SK hX hY h1 h2 D.K5 D.ext2 D.brk hF hf AU FN Ei λAx Ap IB=>kB i' j' Ax (by rw[<-h3,<-h4];exact Ap) IB;refine bB0 (DH ?_);apply rC D.N8;intro q1 q2 q3 q4 q5;refine bH6 (item_at hX SK.ex SK.i g rfl rfl rfl hi Cv (.inl g.handled) (λu x hx ru=>eE g SK.eo ru λAJ AN Ab=>?_) λAJ e c hp AN Jh Mi _=>?_)
 . have Jh:=Cv.trans Ab;have PH:i<AG.length:=(HL.mp hx).1;apply rC D.N9;intro r1 r2 r3 ca6 ca7;refine DH (bH6 (item_at hY SK.ac SK.j AN rfl rfl rfl hj Jh (.inl g.handled) (λw y hy Fd=>eE AN SK.ca5 Fd λAi AU Al=>?_) λAi e c hp AU FN Ei _=>?_))
   . have FN:=Jh.trans Al;have Ue:j<An.length:=(HL.mp hy).1;have AU:Gd B F K A ⟨Fz i j x y,DL AG An Av CL,4⟩ C Ai:=PF AU rfl rfl rfl rfl rfl rfl rfl rfl;have dX:=rK hx;have dY:=rK hy;refine xE (Nat.exists_eq_add_one.mpr (J' (Nat.sub_pos_of_lt PH) (B4 (H3 ..) hm))) ?_;intro k hk;have HF:AG.length-i+(An.length-j)<=k+1:=hk▸hm;apply rB D.if1;intro i1;refine DH (tD (bd7 D.t1 SK.e SK.a AU rfl rfl ?_));cases CF:EZ x y with
 |true=>
      rw[DA rfl];have hs:D4 m (AG.drop i) (An.drop j)=(x::(D4 k (DG x (AG.drop (i+1))) (An.drop j)).1,(D4 k (DG x (AG.drop (i+1))) (An.drop j)).2):=by rw[hk,dX,dY,eV,CF]
      refine DH (r5 D.NA SK.mi SK.e AU rfl rfl (by simpa using RH) rfl λAx Ap B8=>?_);have e3:Av.map V.str++[V.str x]=(Av++[x]).map V.str:=by simp
      rw[e3]at Ap;have Ap:Gd B F K A ⟨Fz i j x y,DL AG An (Av++[x]) CL,4⟩ C Ax:=Ap;refine DH (Xm D.NB Ap SK.i SK.io rfl λEG CA Cz=>?_);have CA:Gd B F K A ⟨Fz (i+1) j x y,DL AG An (Av++[x]) CL,4⟩ C EG:=PF CA (by show G (V.int ((i:AX)+1))=_;simp) rfl rfl rfl rfl rfl rfl rfl;have Li:=FN.trans (B8.w0.trans Cz);refine DH (Xk (p:=i+1) D.NC hX SK.ex SK.i SK.io SK.e (by decide) (by decide) hF hf g.frames rfl PH CA rfl rfl rfl Li (.inl g.handled) (λq CV Eg h3 h4 h5 Cn HI _=>G1 (G1 (G1 ?_))) λCV Eg e c h3 h4 Cn HI PG _=>?_)
      . have hq:=Xn PH (Gi h3) h4;refine kn k q j (Av++[x]) CL Eg hk (Gi h3) hj (eS HF PH hq) (rI hq) (DF _) ?_ ?_ (RC Cn (h5 _) (h5 _) (h5 _) (h5 _) (h5 _) (h5 _)) HI;. rw[hs,h4];simp
        . rw[hs,h4]
      . refine BF (i':=AG.length) (j':=j) (M':=Av++[x]) (U':=CL) (rJ RH) (B4 RI (by decide)) ?_ ?_ (RC Cn (h4 _) (h4 _) (h4 _) (h4 _) (h4 _) (h4 _)) HI (.inr PG);. rw[hs,h3,RF];simp
        . rw[hs,h3,RF]|false=>
      rw[CS (by simp)];apply rB D.if2;intro i2;refine DH (tD (bd8 D.t2 SK.e SK.a AU rfl rfl ?_));cases rM:EZ y x with
 |true=>rw[DA rfl];have hs:D4 m (AG.drop i) (An.drop j)=((D4 k (AG.drop i) (DG y (An.drop (j+1)))).1,y::(D4 k (AG.drop i) (DG y (An.drop (j+1)))).2):=by rw[hk,dX,dY,eV,CF,rM]
        refine DH (r5 D.ND SK.un SK.a AU rfl rfl (by simpa using RI) rfl λAx Ap B8=>?_);have e3:CL.map V.str++[V.str y]=(CL++[y]).map V.str:=by simp
        rw[e3]at Ap;have Ap:Gd B F K A ⟨Fz i j x y,DL AG An Av (CL++[y]),4⟩ C Ax:=Ap;refine DH (Xm D.NE Ap SK.j SK.jo rfl λEG CA Cz=>?_);have CA:Gd B F K A ⟨Fz i (j+1) x y,DL AG An Av (CL++[y]),4⟩ C EG:=PF CA rfl (by show G (V.int ((j:AX)+1))=_;simp) rfl rfl rfl rfl rfl rfl;have Li:=FN.trans (B8.w0.trans Cz);refine DH (Xk (p:=j+1) D.NF hY SK.ac SK.j SK.jo SK.a (by decide) (by decide) hF hf g.frames rfl Ue CA rfl rfl rfl Li (.inl g.handled) (λq CV Eg h3 h4 h5 Cn HI _=>G1 (G1 (G1 (G1 ?_)))) λCV Eg e c h3 h4 Cn HI PG _=>?_)
        . have hq:=Xn Ue (Gi h3) h4;refine kn k i q Av (CL++[y]) Eg hk hi (Gi h3) (be2 HF Ue hq) (DF _) (rI hq) ?_ ?_ (RC Cn (h5 _) (h5 _) (h5 _) (h5 _) (h5 _) (h5 _)) HI;. rw[hs,h4]
          . rw[hs,h4];simp
        . refine BF (i':=i) (j':=An.length) (M':=Av) (U':=CL++[y]) (B4 RH (by decide)) (rJ RI) ?_ ?_ (RC Cn (h4 _) (h4 _) (h4 _) (h4 _) (h4 _) (h4 _)) HI (.inr PG);. rw[hs,h3,RG]
          . rw[hs,h3,RG];simp|false=>
        rw[CS (by simp)];have hs:D4 m (AG.drop i) (An.drop j)=D4 k (DG x (AG.drop (i+1))) (DG y (An.drop (j+1))):=by rw[hk,dX,dY,eV,CF,rM]
        refine DH (Xm D.NG AU SK.i SK.io rfl λEG CA Cz=>?_);have CA:Gd B F K A ⟨Fz (i+1) j x y,DL AG An Av CL,4⟩ C EG:=PF CA (by show G (V.int ((i:AX)+1))=_;simp) rfl rfl rfl rfl rfl rfl rfl;have Li:=FN.trans Cz;refine DH (be0 SK hX hY D.tf D.L2 D.JM D.JN PH Ue hF hf CA Li (λi' j' Eg h3 h4 h5 h6 Cn HI=>G1 (G1 (G1 (G1 ?_)))) λi' j' Eg e c h3 h4 h5 h6 h7 Cn HI PG=>?_)
        . have z1:=Xn PH h3 h5;have z2:=ur (Xn Ue h4 h6);refine kn k i' j' Av CL Eg hk h3 h4 (B4 (HK (fH z2 _) _) (eS HF PH z1)) (HK (ur z1) _) (HK z2 _) ?_ ?_ Cn HI;. rw[hs,h5,h6]
          . rw[hs,h5,h6]
        . refine BF (i':=i') (j':=j') (M':=Av) (U':=CL) (B4 RH (by decide)) (B4 RI (by decide)) ?_ ?_ Cn HI PG
          . rw[hs,<-h5,<-h6];rcases h7 with rfl|rfl;. rw[Js,RF]
            . rw[Js,RG]
          . rw[hs,<-h5,<-h6];rcases h7 with rfl|rfl;. rw[Js,RF]
            . rw[Js,RG]
   . refine BF (i':=i) (j':=j) (M':=Av) (U':=CL) (B4 RH (by decide)) (B4 RI (by decide)) ?_ ?_ (RC AU rfl rfl rfl rfl rfl rfl) FN (.inl Ei);. rw[hp,Js,RG]
     . rw[hp,Js,RG]
 . refine BF (i':=i) (j':=j) (M':=Av) (U':=CL) (B4 RH (by decide)) (B4 RI (by decide)) ?_ ?_ AN Jh (.inl Mi);. rw[hp,Js,RF]
   . rw[hp,Js,RF]
end
section
open PyProof.Rows
noncomputable def strOf:A4->U|.str x _=>x|_=>⟨#[]⟩
noncomputable def Lj(N:BW (AX×A4)):I U:=N.toList.map λe=>strOf e.2
structure NH(prog:He)(w:EC)(led:AK)(N:BW (AX×A4))(t:G3)(P:I U):Prop where
 el:ElemsOf (Kr prog w) N.toList
 str:∀e∈N.toList,∃x u,e.2=.str x u
 nd:(Lj N).Nodup
 mem:∀x,x∈Lj N↔x∈P
 sz:N.size<Pl
 fits:t.fits N.size=M
 led:t.led=led
 plain:N.size=0\/t.plain=A6
 le:N.size<=P.length
noncomputable def HJ(prog:He)(w:EC)(led:AK)(h:BK)(a:A8)(P:I U):Prop:=∃N ep t,h.get? a=G {cls:=.type "set",dict:=L,data:=.set N ep t}/\NH prog w led N t P
section
variable{P:I U}
theorem be3{t:G3}:(t.orStandIn n).led=t.led:=by unfold ut;split<;>rfl
theorem be4(t:G3)(N:BW (AX×A4))(h:AX)(x:A4):(Yf t N h x).2.1.led=t.led:=by
 unfold Yf;split;. exact be3
 . rfl
theorem be5(t:G3)(N:BW (AX×A4))(h:AX)(x:A4)(hp:t.plain=A6):(Yf t N h x).2.1.plain=A6:=by
 unfold Yf;split
 . show(ut _ _).plain=A6;unfold ut;split;. exact hp
   . rfl
 . rfl
theorem be6{f mv:O}{l p:AK}{hs:BW AX}{r:G3×BW O}(h:bH7 m f mv l p hs=G r):r.1.led=l/\r.1.plain=p:=by
 unfold bH7 at h;simp only[Option.bind_eq_bind,bE3]at h;refine AC h ?_;(try clear h);intro _ _ h;first|(subst h;exact⟨rfl,rfl⟩)|(injection h with h;subst h;exact⟨rfl,rfl⟩)
set_option tactic.hygienic true in
theorem be7(t:G3)(N:BW (AX×A4))(n:O):(Rz t N n).2.1.led=t.led/\((Rz t N n).2.1.plain=t.plain\/(Rz t N n).2.1.plain=A6):=by
 unfold Rz;split
 . rename_i r t' o h;have :=be6 h;dsimp only;split;. exact⟨this.1,.inl this.2⟩
   . exact⟨rfl,.inr rfl⟩
 . exact⟨rfl,.inr rfl⟩
theorem rN{N BN:BW (AX×A4)}(p:BN.toList.Perm N.toList):(Lj BN).Perm (Lj N):=p.map _
theorem NH.perm{N BN:BW (AX×A4)}{t t':G3}(h:NH prog w led N t P)(p:BN.toList.Perm N.toList)(f:t'.fits BN.size=M)(hl:t'.led=t.led)(hp:t'.plain=t.plain\/t'.plain=A6):NH prog w led BN t' P:=by
 have hz:BN.size=N.size:=by rw[<-VD,p.length_eq,VD]
 refine⟨h.el.perm p,λe m=>h.str e (p.mem_iff.mp m),(rN p).nodup_iff.mpr h.nd,λx=>((rN p).mem_iff).trans (h.mem x),hz▸h.sz,f,hl.trans h.led,?_,hz▸h.le⟩;rcases h.plain with q|q;. exact .inl (hz.trans q)
 . rcases hp with z|z;. exact .inr (z.trans q)
   . exact .inr z
theorem rO{N BN:BW (AX×A4)}{t t':G3}(ho:h.get? a=G {cls:=.type "set",dict:=L,data:=.set N ep t})(T:NH prog w led BN t' P):(h.update a (Yg BN t')).get? a=G {cls:=.type "set",dict:=L,data:=.set BN (ep+1) t'}/\HJ prog w led (h.update a (Yg BN t')) a P:=by
 have hg:(h.update a (Yg BN t')).get? a=G {cls:=.type "set",dict:=L,data:=.set BN (ep+1) t'}:=by
  have :=FS (Yg BN t') ho (by rw[putSet_of BN t' rfl];rfl);rw[putSet_of BN t' rfl]at this;exact this
 exact⟨hg,BN,ep+1,t',hg,T⟩
theorem rP{g:AK->Dz DM}(hg:∀(b:AK)(AJ:AR)(Q':DM->AR->Prop),Q' () AJ->AH (AQ prog w) A (g b) Q' E AJ){N:BW (AX×A4)}{t:G3}(ho:s.heap.get? a=G {cls:=.type "set",dict:=L,data:=.set N ep t}){F4:BW (AX×A4)}{t2:G3}(T:NH prog w led F4 t2 P){rQ:AK}{AS:AD AK->AR->Prop}(h:∀Q,E4 a s.heap Q->HJ prog w led Q a P->AS (G M) {s with heap:=Q}):AH (AQ prog w) A (do
 storeSet a F4 t2 if(!rQ&&t2.tooFull)=M then do
   g (Rz t2 F4 (VK F4.size)).2.2storeSet a (Rz t2 F4 (VK F4.size)).1 (Rz t2 F4 (VK F4.size)).2.1pure (G M)else pure (G M)) AS E s:=by
 refine A5 (bH8 ho rfl ?_ (gz T.sz));refine xA (rO ho T) ?_;intro Ts ca8;have rR:=Fh s.heap a (Yg F4 t2);split
 . have hp:=relayAll_perm t2 F4 (VK F4.size);have D2:=relayAll_fits t2 F4 (VK F4.size);have hl:=be7 t2 F4 (VK F4.size);have T2:=T.perm hp D2 hl.1 hl.2;refine A5 (hg _ _ _ ?_);refine A5 (bH8 Ts rfl ?_ (gz T2.sz));exact AW (h _ (rR.trans (Fh _ a _)) (rO Ts T2).2)
 . exact AW (h _ rR ca8)
set_option tactic.hygienic true in
theorem be8{u:EP}{A2:AK->AR->Prop}(hS:HJ prog w led s.heap a P)(be9:P.length+1<Pl)(h:∀b Q,E4 a s.heap Q->HJ prog w led Q a (P++[x])->A2 b {s with heap:=Q,toks:=s.toks+1}):AH (AQ prog w) A (uv a (.str x u)) A2 E s:=by
 have EM:(Kr prog w).is x (.str x u)=M:=by simp[Kr,YP]
 unfold uv;refine C0 (A5 ((Kr prog w).pyHash EM ?_));refine Hp hS ?_;(try clear hS);intro N ep t ho T;have R5:N.size+1<Pl:=H2 (Lm T.le) be9;skip;refine C0 (A5 (Yh (s:={s with toks:=s.toks+1}) ho rfl T.fits ?_));dsimp only;rw[byScan_of rfl T.sz T.el];skip;unfold setAddByScan;refine A5 ?_;refine A5 (Gk ?_);refine A5 (wpAny_setScan_of EM ho rfl T.fits T.el ?_);cases hr:List.findIdx? (λe=>(Kr prog w).is x e.2) N.toList with
 |some j=>
  skip;refine AC (List.findIdx?_eq_some_iff_getElem.mp hr) ?_;intro hj hpj _;have hx:x∈Lj N:=by
    refine xE (bk hpj) ?_;intro tk e;refine E0.mpr ⟨N.toList[j],gR hj,?_⟩;rw[e];rfl
  refine AW (AW ?_);refine h _ s.heap (g9 a s.heap) ⟨N,ep,t,ho,T.el,T.str,T.nd,λy=>?_,T.sz,T.fits,T.led,T.plain,B4 T.le (by simp)⟩;rw[T.mem,Dr,CI];exact⟨.inl,λz=>z.elim id λz=>z▸(T.mem x).mp hx⟩|none=>
  skip;have hx:x∉Lj N:=λm=>by
    refine AC (E0.mp m) ?_;intro e he hp;have :=bB6.mp hr e he;refine DB (T.str e he) ?_;intro y v q;rw[q]at this hp;have hp:y=x:=hp;clear h EM hr m;subst hp;simp[Kr,YP]at this
  have hgw:∀(b:AK){AJ:AR}{Q':DM->AR->Prop},Q' () AJ->AH (AQ prog w) A (match b with|true=>YM "set.scan.the-table-gave-way"|false=>pure ()) Q' E AJ:=λb AJ Q' hq=>by cases b<;>first|exact AW hq|exact Gk hq
  have Ja:=layNew_perm t N ((Kr prog w).hash x) (.str x u);have Xo:=layNew_fits t N ((Kr prog w).hash x) (.str x u);have Uf:=be4 t N ((Kr prog w).hash x) (.str x u);have F_:=be5 t N ((Kr prog w).hash x) (.str x u);generalize hL:Yf t N ((Kr prog w).hash x) (.str x u)=A1 at Ja Xo Uf F_ ⊢;obtain⟨F4,t1,rQ,gave⟩:=A1;dsimp only at Ja Xo Uf F_ ⊢;rw[VC]at Ja;have hz:F4.size=N.size+1:=by rw[<-VD,Ja.length_eq,FD,VD];rfl
  have Qk:(Lj F4).Perm (Lj N++[x]):=by
    have :=Ja.map (λe:AX×A4=>strOf e.2);rw[NZ]at this;exact this
  have fin:∀t2:G3,t2.fits F4.size=M->t2.led=t.led->t2.plain=A6->NH prog w led F4 t2 (P++[x]):=λt2 f l p=>by
    refine⟨(T.el.push EM rfl).perm Ja,λe m=>?_,?_,λy=>?_,hz▸R5,f,l.trans T.led,.inr p,?_⟩
    . rcases Dr.mp (Ja.mem_iff.mp m)with m|m;. exact T.str e m
      . rw[CI.mp m];exact⟨x,u,rfl⟩
    . refine Qk.nodup_iff.mpr (ID.mpr ⟨T.nd,by simp,λy hy z hz e=>?_⟩);rw[CI.mp hz]at e;exact hx (e▸hy)
    . rw[Qk.mem_iff,Dr,Dr,T.mem]
    . rw[hz,FD];exact Lm T.le
  refine A5 (hgw _ ?_);split
  . refine A5 ?_;skip;refine AW ?_;refine rP (s:={s with toks:=s.toks+1}) ?_ ho (fin {t1 with plain:=A6} (SetTable.fits_plain_off Xo) Uf rfl) ?_;. intro b AJ Q' hq;cases b<;>first|exact AW hq|exact Gk hq
    . intro Q RJ Fb;dsimp only;exact AW (h _ Q RJ Fb)
  . rename_i hpp;refine A5 (AW ?_);skip;have :t1.plain=A6:=by cases q:t1.plain with|false=>rfl|true=>exact absurd q hpp
    refine rP (s:={s with toks:=s.toks+1}) ?_ ho (fin _ Xo Uf this) ?_;. intro b AJ Q' hq;cases b<;>first|exact AW hq|exact Gk hq
    . intro Q RJ Fb;dsimp only;exact AW (h _ Q RJ Fb)
end
end
section
open PyProof.Rows
section
theorem HJ.same{A9:A8}{P:I U}(hS:HJ prog w led h A9 P)(hk:∀o,h.get? A9=G o->Q.get? A9=G o):HJ prog w led Q A9 P:=by refine Hp hS ?_;(try clear hS);intro N ep t ho T;exact⟨N,ep,t,hk _ ho,T⟩
theorem bf0{AS:Dt->AR->Prop}{fp wr:I A8}{Bl:BW fX->BW fX->Prop}{Pv:O->A4->Prop}{St:O->AR->Prop}(ss:I U)(hn:ss.length=n)(AZ:WalksS prog w A.in1 AE fp wr Bl n Pv St)(hv:∀i v,Pv i v->∃x t,ss[i]?=G x/\v=.str x t)(A9:A8)(NI:A9∉fp)(hb:n+1<Pl):∀(k i:O)(s:AR),n-i=k->i<=n->St i s->HJ prog w led s.heap A9 (ss.take i)->(∀s',Moved (A9::wr) Bl s s'->HJ prog w led s'.heap A9 ss->AS (.ok (.ret .none)) s')->D7 (AQ prog w) A (.builtin "set.update.loop" ⟨[.ref A9,.ref AE],[]⟩) AS s:=by
 have rT:A9∉wr:=λh=>NI (AZ.sub _ h);have LJ:∀b∈wr,b∈A9::wr:=λb hb=>Cp _ hb;intro k;induction k with
 |zero=>
  intro i s hk hi HE hS hR;have J_:i=n:=by(with_reducible exact Y0 (by assumption) (bC0 (by assumption)))
  clear hb hi hk;subst J_;refine J4 bH9 ?_;skip;show AH _ A.in1 (ES (.ref AE)>>=_) _ _ s;refine A5 (AZ.done s _ _ HE λs' hm=>?_);show AH _ A.in1 (ret Hh) _ _ s';rw[<-hn,bH5]at hS;exact AW (hR s' (hm.mono LJ) (hS.same λo e=>hm.heap A9 o rT e))|succ k ih=>
  intro i s hk hi HE hS hR;have CF:i<n:=by(with_reducible exact Nat.lt_of_sub_eq_succ (by assumption))
  refine J4 bH9 ?_;skip;show AH _ A.in1 (ES (.ref AE)>>=_) _ _ s;refine A5 (AZ.item i s _ _ CF HE λv s' hP bf1 hm=>?_);refine EX (hv _ _ hP) ?_;intro x t hx Aw;clear hP;subst Aw;have Fb:=hS.same (Q:=s'.heap) λo e=>hm.heap A9 o rT e;show AH _ A.in1 (Hf [Lz x t] (uv A9 (.str x t))>>=_) _ _ s';refine A5 (C0 ?_);have hr:(ss.take i).length+1<Pl:=by rw[Pe];exact H2 (Lm (B4 (Y' _ _) (Gi CF))) hb
  refine be8 Fb hr λb Q RJ rU=>?_;have e:ss.take i++[x]=ss.take (i+1):=by rw[List.take_add_one,hx];rfl
  rw[e]at rU;refine AW ⟨plainId_quiet F.plain_set_update_loop _,ih (i+1) _ (by(with_reducible exact Mine.yX (by assumption))) CF (AZ.frame _ s' _ _ bf1 (PQ _) λb hb o e=>?_) rU λKb bf2 bf3=>?_⟩;. rw[RJ.2 b (λh:b=A9=>NI (by rw[<-h];exact hb))];exact e
  . refine hR Kb (Moved.trans AZ.gtrans ((hm.mono LJ).then_heap (PQ _) λb o hb e=>?_) bf2) bf3;rw[RJ.2 b (λh:b=A9=>hb (by rw[h];exact Co))];exact e
theorem HJ.empty(ho:h.get? a=G {cls:=.type "set",dict:=L,data:=.set #[] 0 (.fresh 0 0 led)}):HJ prog w led h a []:=⟨#[],0,.fresh 0 0 led,ho,⟨λe m=>(by(exfalso;cases m)),λe m=>(by(exfalso;cases m)),HM,λx=>VG,(by unfold Pl;decide),rfl,rfl,.inl rfl,DF _⟩⟩
theorem code_set_new(a:A4){PJ:A4->AR->Prop}(h:PJ (.ref s.heap.objs.size) {s with heap:=s.heap.push {cls:=.type "set",dict:=L,data:=.set #[] 0 (.fresh 0 0 (!w.params.followText "set-order"))}}):D7 (AQ prog w) A (.call (.builtin "set.__new__") ⟨[.type "set",a],[]⟩) (YZ PJ E) s:=by
 refine Rb ?_;show AH _ A.in1 (do gF "set.__new__" ⟨[.type "set",a],[]⟩;Kj (.builtin "set.__new__" ⟨[.type "set",a],[]⟩)) _ _ s;refine A5 (NX (F.newCall_set_1 a) (AW ⟨plainId_quiet F.plain_set_new _,J4 F.entry_set_new ?_⟩));skip;skip;have LJ:=sub_set_self;obtain⟨hp,g,d,tk,os⟩:=s;skip;wp_walk;refine Rc (AW ?_);skip;skip;refine A5 (YF (AW ?_));exact AW h
theorem rW:∀{us:I A4}{ss:I U},M3 us ss->∀{i:O}{v:A4},us[i]?=G v->∃x t,ss[i]?=G x/\v=.str x t
 |_,_,.nil,i,_,h=>by simp at h|_,_,.cons x t _,0,_,h=>by simp at h;exact⟨x,t,rfl,h.symm⟩|_,_,.cons x t r,i+1,_,h=>by simpa using rW r (i:=i) (by simpa using h)
theorem bf4{T rX rY:D9}{args:I A4}{PJ:A4->AR->Prop}(ft:TypeCalled T rX rY)(hct:bI0 T ⟨args,[]⟩=pure ())(bf5:D7 (AQ prog w) A.in1 (.call (.builtin rX) ⟨.type T::args,[]⟩) (YZ PJ E) s)(bf6:∀obj AJ,PJ obj AJ->AJ.TypeIs obj T/\D7 (AQ prog w) A.in1 (.call (.builtin rY) ⟨obj::args,[]⟩) (YZ (λr Ai=>r=.none/\A2 obj Ai) E) AJ):AH (AQ prog w) A (call (.type T) args) A2 E s:=by
 refine DB ft.mro ?_;intro c ca9 bP1;have bP2:=ft.made;have LJ:=ft.sub;refine HP (Rb ?_);show AH _ _ (V2 (.type T) _) _ _ _;refine AW ⟨tb _ (by decide+kernel),J4 F.entry_type_call ?_⟩;rw[Around.under_plain (weight_type_call_type T args []) rfl];have h1:=ft.notType;have h2:=ft.canCreate;repeat(any_goals(first|assumption|wp_step))
 refine uw bf5 λr AJ hr=>?_;cases r with
 |error e=>exact hr|ok fl=>cases fl with
 |ret obj=>
  refine xA (bf6 _ _ hr) ?_;intro hT LA;have NJ:=ft.init.lookup;have hbi:=ft.init.bind obj;repeat(any_goals(first|assumption|wp_step))
  refine uw LA λBB Ai Xp=>?_;cases BB with
  |error e=>exact Xp|ok bf7=>cases bf7 with
  |ret r=>
   refine xA Xp ?_;(try clear Xp);intro B6 hq;subst B6;repeat(any_goals(first|assumption|wp_step))|_=>exact Xp.elim
 |_=>exact hr.elim
theorem bf8{l:A8}{ss:I U}(hh:A.handled=L)(hl:s.heap.IsList l us.toArray)(hi:M3 us ss)(hb:ss.length+1<Pl)(h:∀(Q:BK)(tk:O),HJ prog w (!w.params.followText "set-order") Q s.heap.objs.size ss->(∀b o,s.heap.get? b=G o->Q.get? b=G o)->A2 (.ref s.heap.objs.size) {s with heap:=Q,toks:=tk}):AH (AQ prog w) A (call (.type "set") [.ref l]) A2 E s:=by
 refine bf4 (PJ:=λobj AJ=>obj=.ref s.heap.objs.size/\AJ={s with heap:=s.heap.push {cls:=.type "set",dict:=L,data:=.set #[] 0 (.fresh 0 0 (!w.params.followText "set-order"))}}) bI1 (F.typeCall_set_1 _) (code_set_new _ ⟨rfl,rfl⟩) λobj AJ AP=>?_;refine xA AP ?_;(try clear AP);intro BJ BP;subst BJ;subst BP;generalize Uf:(!w.params.followText "set-order")=led at h ⊢;have hS:(s.heap.push {cls:=.type "set",dict:=L,data:=.set #[] 0 (.fresh 0 0 led)}).get? s.heap.objs.size=G {cls:=.type "set",dict:=L,data:=.set #[] 0 (.fresh 0 0 led)}:=CY _ rfl;have hT:bI2 {s with heap:=s.heap.push {cls:=.type "set",dict:=L,data:=.set #[] 0 (.fresh 0 0 led)}} (.ref s.heap.objs.size) "set":=⟨_,hS,rfl⟩;refine⟨hT,Lw bI1.init.plain F.entry_set_init (check_set_init_1 hT ?_)⟩;have rZ:l<s.heap.objs.size:=by refine AC hl ?_;(try clear hl);intro ol OP _;exact Dh OP
 have Eh:=bI3 hl {cls:=.type "set",dict:=L,data:=.set #[] 0 (.fresh 0 0 led)};have Xq:bI2 {s with heap:=s.heap.push {cls:=.type "set",dict:=L,data:=.set #[] 0 (.fresh 0 0 led)}} (.ref l) "list":=by refine CZ Eh ?_;(try clear Eh);intro ol OP EK _;exact⟨ol,OP,EK⟩
 have r_:l≠(s.heap.push {cls:=.type "set",dict:=L,data:=.set #[] 0 (.fresh 0 0 led)}).objs.size:=by rw[IG];exact ER (fO rZ)
 have NI:s.heap.objs.size∉[(s.heap.push {cls:=.type "set",dict:=L,data:=.set #[] 0 (.fresh 0 0 led)}).objs.size,l]:=by
  rw[IG];simp only[Cj,Jq,Jr,gd];exact⟨ER (PR _),PX rZ⟩
 have hz:us.toArray.size=ss.length:=by
  rw[List.size_toArray];clear h hb Eh r_ NI hS hT Xq hl;induction hi with|nil=>rfl|cons _ _ _ ih=>simp[ih]
 have rc:∀(A:CK)(E:A4->AR->Prop)(Q':DM->AR->Prop),A.handled=L->(∀Q tk,HJ prog w led Q s.heap.objs.size ss->(∀b o,s.heap.get? b=G o->Q.get? b=G o)->Q' () {s with heap:=Q,toks:=tk})->AH (AQ prog w) A (bI4 "set.__init__" s.heap.objs.size (.ref l)) Q' E {s with heap:=s.heap.push {cls:=.type "set",dict:=L,data:=.set #[] 0 (.fresh 0 0 led)}}:=by
  intro A E Q' hh h;skip;refine A5 (A5 (Ly Xq F.sub_list_set (Ly Xq F.sub_list_frozenset ?_)));show AH _ _ (Hg (.ref l)>>=_) _ _ _;refine A5 (Rt Xq ?_);skip;refine A5 (fk Eh (A5 (uo ?_)));have hh3:A.in1.handled=L:=by simp[hh]
  have AZ:=(Walks.list (prog:=prog) (w:=w) hh3 _ l r_ us.toArray).toS;refine bf0 (A:=A) (n:=us.toArray.size) ss hz.symm AZ (λi v hv=>rW hi (by rw[<-List.getElem?_toArray];exact hv)) s.heap.objs.size NI (by rw[hz];exact hb) (us.toArray.size-0) 0 _ (by omega) (Nh _) ⟨⟨_,CY _ rfl,rfl,rfl⟩,bI3 Eh _⟩ (HJ.empty (C1 _ hS)) λs' hm Fb=>?_;rw[Moved.eq_with hm];refine AW (h s'.heap s'.toks Fb λb o e=>?_);have CF:=Dh e;refine hm.heap b o (λz=>?_) (C1 _ (C1 _ e));simp only[Cj,Jq,Jr,IG]at z;rcases z with z|z<;>rw[z]at CF;. exact J0 _ CF
  . exact absurd (PR _) (Nat.lt_asymm CF)
 unfold EB.«set.__init__»;generalize bI4=cb0 at rc ⊢;wp_walk;refine rc _ _ _ (by simp[hh]) λQ tk Fb k'=>?_;exact AW ⟨rfl,h _ _ Fb k'⟩
end
end
section
open PyProof.Rows
section
theorem bf9{re:Source}{A2:O->AR->Prop}(hn:n≠0)(h:∀i,i<n->A2 i {s with drawn:=s.drawn.bump re}):AH Av A (choose re n) A2 E s:=λ_ _ _=>⟨hn,h _ (bI5 _ (fK hn))⟩
theorem eY:∀{l:I J}{i:O}(h:i<l.length),(l[i]::l.eraseIdx i).Perm l
 |x::l,0,_=>.refl _|x::l,i+1,h=>by
  simp only[List.getElem_cons_succ,List.eraseIdx_cons_succ];exact(bU6 ..).trans ((eY (l:=l) (by simpa using h)).cons x)
theorem rf:∀(n:O)(Y:I J)(s:AR){A2:I J->AR->Prop},Y.length=n->(∀ys dr,ys.Perm Y->A2 ys {s with drawn:=dr})->AH Av A (drawOrder n Y) A2 E s
 |0,Y,s,A2,hl,h=>by
  have :Y=[]:=gv hl;subst this;exact AW (h [] s.drawn (.refl _))|n+1,[],s,A2,hl,h=>by simp at hl|n+1,x::l,s,A2,hl,h=>by
  unfold drawOrder;refine A5 (bf9 (by simp) λi hi=>?_);rw[Hk hi];skip;refine A5 (rf n ((x::l).eraseIdx i) _ (by rw[bI6 hi];simp at hl ⊢;exact hl) λys dr p=>?_);exact AW (h _ dr ((p.cons _).trans (eY hi)))
theorem rg{next:O->O}:∀(n k:O)(left:I J)(out:BW J),left.length=n->(ux next n k left out).toList.Perm (out.toList++left)
 |0,_,left,out,h=>by
  have :left=[]:=gv h;subst this;unfold ux;simp|n+1,k,left,out,h=>by
  have hi:next k%left.length<left.length:=bI5 _ (by omega);unfold ux;rw[Hk hi];refine(rg n (k+1) _ _ (by rw[bI6 hi];(with_reducible exact Mine.vp (by assumption)))).trans ?_;rw[VC,Uo];exact(eY hi).append_left _
theorem bg0{next:O->O}{Y:BW J}:(Yi next Y).toList.Perm Y.toList:=by
 have :=rg (next:=next) Y.size 0 Y.toList #[] (by simp);simpa[Yi]using this
theorem Xr:M0 "set_iterator" "__next__" "set_iterator.__next__":=.of (owner:="set_iterator") (n:="__next__") (by rw[J5,J6];kernel_rfl) (by decide+kernel) (by decide+kernel) (by decide+kernel) (by first|exact .inl (by decide+kernel)|exact .inr (by decide+kernel)) (by rw[J7];kernel_rfl)
theorem bg1:Lu Lv "set_iterator.__next__"=G EB.«set_iterator.__next__»:=YD (by kernel_rfl)
theorem rh:bI7.lookup (sv ['r','o','t','a','r','e','t','i','_','t','e','s'].reverse)=G Manifest.sig_set_iterator:=by kernel_rfl
theorem bg2(a:A4):Jo "set_iterator.__next__" ⟨[a],[]⟩:=by unfold Jo;rw[h' (id:="set_iterator.__next__") (n:=['_','_','t','x','e','n','_','_']) (o:=['r','o','t','a','r','e','t','i','_','t','e','s']) (by kernel_rfl) rh];kernel_rfl
theorem bg3:Lu Lv "set.__iter__"=G EB.«frozenset.__iter__»:=uy (id':="frozenset.__iter__") ((VL _).trans (by kernel_rfl)) (by kernel_rfl) (by decide+kernel) ((VL _).trans (by kernel_rfl))
noncomputable def RK(w:EC)(T:A8)(N:BW (AX×A4))(ep:O)(t:G3)(a AE:A8)(h:BK)(ord:I (AX×A4))(i:O)(first:A4):Prop:=(w.params.followText "set-order"=M/\ord=(Yi (w.params.setOrder a ep) N).toList/\∃k:O,first=.int k 0)\/(w.params.followText "set-order"=A6/\N.size<=1/\t.led=M/\ord=N.toList/\∃k:O,first=.int k 0/\hV t.place k=i)\/(∃o us n ps,first=.ref T/\T≠AE/\h.get? T=G o/\o.data=.seq us n/\us.toList=(ps:I O).map (λ(p:O)=>V7 p 0)/\ord.length=ps.length/\∀(j p:O),ps[j]?=G p->∃e,N[p]?=G e/\ord[j]?=G e)
structure SW(w:EC)(T a AE:A8)(N:BW (AX×A4))(ep:O)(t:G3)(ord:I (AX×A4))(i:O)(h:BK):Prop where
 set:h.get? a=G {cls:=.type "set",dict:=L,data:=.set N ep t}it:∃first,h.get? AE=G {cls:=.type "set_iterator",dict:=L,data:=.fields #[first,.int i 0,.ref a,.int N.size 0,.int ep 0]}/\RK w T N ep t a AE h ord i first
theorem ri:hV #[j] 0=0/\hV #[j] (j+1)=1:=by constructor<;>simp[hV,bU7]
theorem rj{t:G3}(this:t.place.size=1):∃j,t.place=#[j]:=by
 refine⟨t.place[0],Array.ext this λn h1 h2=>?_⟩;have :n=0:=by simp at h2;exact h2
 subst this;rfl
theorem e_{A2:AK->AR->Prop}(h:A2 (w.params.followText "set-order") s):AH (AQ prog w) A setsByText A2 E s:=A5 (Rc (AW h))
theorem bg4{T:A8}{N:BW (AX×A4)}{k:O}{t:G3}(ho:s.heap.get? a=G {cls:=.type "set",dict:=L,data:=.set N ep t})(hf:t.fits N.size=M)(hF:RK w T N ep t a AE Af ord i (.int k 0)){A2:AD (A4×O)->AR->Prop}(hs:∀e(k':O),ord[i]?=G e->(∀h,RK w T N ep t a AE h ord (i+1) (.int k' 0))->A2 (G (e.2,k')) s)(hn:ord[i]?=L->A2 L s):AH (AQ prog w) A (uz a k i ep) A2 E s:=by
 unfold uz;refine A5 (Yh ho rfl hf ?_);skip;refine A5 (e_ ?_);rcases hF with Aw|B6|BJ;refine IM Aw ?_;(try clear Aw);intro hb Ck k' _;subst Ck;rotate_left;refine iJ B6 ?_;(try clear B6);intro hb h1 hl D8 k' hk bg5;subst D8;rotate_left;refine Jw BJ ?_;(try clear BJ);intro o us n ps hT _;rotate_left
 . rw[hb];simp only[↓v7];rw[CS (by simp)];refine A5 ?_;unfold setWalk;refine A5 (Yh ho rfl hf ?_);skip;refine A5 (e_ ?_);rw[hb];skip;refine A5 (Rc (AW ?_));refine AW ?_;show A2 (gU _ (Yi (w.params.setOrder a ep) N)[i]?) s;cases hx:(Yi (w.params.setOrder a ep) N)[i]? with
 |none=>exact hn (by rw[Rv];exact hx)|some e=>exact hs e k (by rw[Rv];exact hx) λh=>.inl ⟨hb,rfl,k,rfl⟩
 . rw[hb];simp only[Kk,↓v7];injection hk with hk;have hk:=bU8 hk;subst hk;refine P_ (λGb=>?_) (λ_=>?_)
   . have :(!t.plain&&decide (N.size>1))=M:=Gb;simp at this;omega
   show AH _ _ ((if(!t.led&&!N.isEmpty)=M then RZ "set:maker-not-led"else pure ())>>=_) _ _ s;rw[hl];refine A5 (AW ?_);have hp:t.place.size=N.size:=by have :=hf;simp only[bI8,D6,Rg]at this;exact this.1
   refine AW ?_;rw[bg5];cases hx:N[i]? with
 |none=>exact hn (by rw[Rv];exact hx)|some e=>
     have hi:i<N.size:=(gQ.mp hx).1;have h0:i=0:=by(with_reducible exact Mine.w5 (by assumption) (by assumption))
     subst h0;refine xE (rj (t:=t) (by(with_reducible exact Mine.w6 (by assumption) (by assumption) (by assumption)))) ?_;intro j hj;obtain⟨h,x⟩:=e;rw[hj];exact hs (h,x) (j+1) (by rw[Rv];exact hx) λh=>.inr (.inl ⟨hb,h1,hl,rfl,j+1,rfl,by rw[hj];exact ri.2⟩)
 . (exfalso;cases hT)
theorem RK.el{T:A8}{N:BW (AX×A4)}{t:G3}{first:A4}(F:RK w T N ep t a AE h ord i first){P:Prop}(c1:∀k:O,first=.int k 0->P)(c2:∀o us n ps,first=.ref T->T≠AE->h.get? T=G o->o.data=.seq us n->us.toList=(ps:I O).map (λ(p:O)=>V7 p 0)->ord.length=ps.length->(∀(j p:O),ps[j]?=G p->∃e,N[p]?=G e/\ord[j]?=G e)->P):P:=F.elim (λF=>IM F λ_ _ k e=>c1 k e) λF=>F.elim (λF=>iJ F λ_ _ _ _ k e _=>c1 k e) λF=>Jw F λo us n ps e r=>S5 r λa b d f g l=>c2 o us n ps e a b d f g l
theorem Ug{j:A8}{v:A4}{vs:BW A4}(g:h.get? AE=G {cls:=.type "set_iterator",dict:=L,data:=.fields vs}):(h.update AE (Ry (·.setIfInBounds j v))).get? AE=G {cls:=.type "set_iterator",dict:=L,data:=.fields (vs.setIfInBounds j v)}:=FS (Ry (·.setIfInBounds j v)) g rfl
theorem rl{T:A8}{N:BW (AX×A4)}{t:G3}(hh:A.handled=L)(hf:t.fits N.size=M)(hI:a≠AE)(AZ:SW w T a AE N ep t ord i s.heap){A2:AD A4->AR->Prop}(h1:∀e,ord[i]?=G e->∀Q,SW w T a AE N ep t ord (i+1) Q->E4 AE s.heap Q->A2 (G e.2) {s with heap:=Q})(h2:ord[i]?=L->∀Q,Ds AE s.heap Q->A2 L {s with heap:=Q}):AH (AQ prog w) A (ES (.ref AE)) A2 E s:=by
 obtain⟨ho,first,Bz,hF⟩:=AZ;have hT:s.TypeIs (.ref AE) "set_iterator":=⟨_,Bz,rfl⟩;unfold ES;refine A5 (Rn (Ls (name:=Ev "__next__") hT Xr (Gm Xr hT bg1 ?_ (bg2 _))));refine A5 (AW ?_);refine A5 (wpAny_fieldsOf Bz rfl ?_);show AH _ _ (setEntries a>>=_) _ _ s;refine A5 (bI9 ho rfl hf ?_);rw[CS (by simp)];have rm:ord[i]?=L->∀(s':AR)(hb:Ds AE s.heap s'.heap)(he:s'={s with heap:=s'.heap}),AH (AQ prog w) A.in1 (gJ (.type "StopIteration") []>>=λe=>gy e) (λfin s'=>∃v,fin=Fin.done (Flow.ret v)/\AH (AQ prog w) A (match Except.ok (G v)with|.ok (G v)=>pure (G v)|.ok L=>RZ "iter:the-iterator's-class-has-lost-its-__next__-amid-the-walk"|.error e=>do if<-V3 e (.type "StopIteration")then pure L else throw e) A2 E s') (λe s'=>AH (AQ prog w) A (match(Except.error e:Except A4 (AD A4))with|.ok (G v)=>pure (G v)|.ok L=>RZ "iter:the-iterator's-class-has-lost-its-__next__-amid-the-walk"|.error e=>do if<-V3 e (.type "StopIteration")then pure L else throw e) A2 E s') s':=by
   intro hx s' hb he;refine A5 ?_;simp only[gJ,YJ];refine A5 (IF ?_ (by size_fits));refine A5 (m:=V4 _ _) (NX (a:=Hh) (by first|rfl|(simp only[V4];rfl)) ?_);refine IF ?_ (by size_fits);simp only[gy];refine A5 (ti ?_);rw[show A.in1.handled=L from hh];refine A5 (AW (gK ?_));refine A5 (Ly (T:="StopIteration") (b:=M) ⟨_,CY _ rfl,rfl⟩ gL ?_);rw[he];exact AW (h2 hx _ ((hb.push _).push _))
 refine hF.el (λk e=>?_) λo us n ps e RL rn hd rp hl hp=>?_
 . subst e;show AH _ _ (uz a k i ep>>=_) _ _ s;refine A5 (bg4 ho hf hF (λe k' he hF'=>?_) λhx=>?_)
   . refine A5 (Lx Bz rfl (by simp) ?_);refine A5 (Lx (s:={s with heap:=_}) (Ug Bz) rfl (by simp) ?_);refine AW ⟨_,rfl,AW (h1 e he _ ⟨?_,.int k' 0,Ug (Ug Bz),hF' _⟩ ((Fh ..).trans (Fh ..)))⟩;rw[GN _ _ (CX hI),GN _ _ (CX hI)];exact ho
   . refine A5 (Lx Bz rfl (by simp) ?_);exact rm hx _ (Fh ..).extBut rfl
 . subst e;show AH _ _ (Nd (.ref T)>>=_) _ _ s;refine A5 (Nf rn hd ?_);have hui:us[i]?=(ps[i]?).map λ(p:O)=>V7 p 0:=by rw[<-Rv,rp,VH]
   dsimp only;rw[gH,hui];cases rq:ps[i]? with
 |some p=>
     refine AC (hp i p rq) ?_;intro e Xi he2;refine A5 (A5 (Yh ho rfl hf ?_));dsimp only;rw[CS (by simp)];rw[gH,Xi];refine AW ?_;refine A5 (Lx Bz rfl (by simp) ?_);refine AW ⟨_,rfl,AW (h1 e he2 _ ⟨?_,.ref T,Ug Bz,.inr (.inr ⟨o,us,n,ps,rfl,RL,?_,hd,rp,hl,hp⟩)⟩ (Fh ..))⟩;. rw[GN _ _ (CX hI)];exact ho
     . rw[GN _ _ (CX RL)];exact rn|none=>
     refine A5 (Lx Bz rfl (by simp) ?_);refine A5 (Lx (s:={s with heap:=_}) (Ug Bz) rfl (by simp) ?_);exact rm (VE (hl▸fj.mp rq)) _ ((Fh ..).trans (Fh ..)).extBut rfl
end
end
section
open PyProof.Rows
section
theorem ec{N:BW J}:∀{ys:I O},(∀p∈ys,p<N.size)->(ys.filterMap λp=>N[p]?).map G=ys.map λp=>N[p]?
 |[],_=>rfl|p::ys,h=>by
  have hp:=h p (Co ..);rw[bA2 (Rr hp),J3,J3,ec λq m=>h q (Cp _ m),Rr hp]
theorem bg6{N:BW J}{ys:I O}(h:∀p∈ys,p<N.size):(ys.filterMap λp=>N[p]?).length=ys.length:=by have :=congrArg Rp (ec h);simpa using this
theorem bg7{N:BW J}{ys:I O}(h:∀p∈ys,p<N.size):(ys.filterMap λp=>N[p]?)[j]?=(ys[j]?).bind λp=>N[p]?:=by
 have :=congrArg (λl=>l[j]?) (ec h);simp only[VH]at this;cases h1:ys[j]? with
 |none=>rw[h1]at this;simpa using this|some p=>rw[h1]at this;cases h2:(ys.filterMap λp=>N[p]?)[j]? with
 |none=>rw[h2]at this;simp at this|some e=>rw[h2]at this;simpa using this
theorem bg8{N:BW (AX×A4)}{t:G3}{P:I U}(ho:s.heap.get? a=G {cls:=.type "set",dict:=L,data:=.set N ep t})(T:NH prog w (!w.params.followText "set-order") N t P)(hQ:∀(AE T:A8)(ord:I (AX×A4))(Q:BK)(dr:_),s.heap.get? AE=L->(T=a\/s.heap.get? T=L)->T≠AE->ord.Perm N.toList->SW w T a AE N ep t ord 0 Q->(∀b o,s.heap.get? b=G o->Q.get? b=G o)->A2 (.ref AE) {s with heap:=Q,drawn:=dr}):AH (AQ prog w) A (PU (.ref a)) A2 E s:=by
 have hT:s.TypeIs (.ref a) "set":=⟨_,ho,rfl⟩;have hz:N.size<=FA:=gz T.sz;refine v8 hT bJ0 (Gm bJ0 hT bg3 ?_ (F.args_set_iter_1 _));skip;refine A5 (show AH _ _ (pure a) _ _ s from AW ?_);refine A5 (show AH _ _ (setEntries a>>=_) _ _ s from A5 (bI9 ho rfl T.fits (AW ?_)));refine A5 ?_;skip;refine A5 (Yh ho rfl T.fits ?_);dsimp only;refine A5 (e_ (AW ?_));have fin:∀(Tp:A8)(first:A4)(AJ:AR)(ord:I (AX×A4)),ord.Perm N.toList->(∀b o,s.heap.get? b=G o->AJ.heap.get? b=G o)->AJ={s with heap:=AJ.heap,drawn:=AJ.drawn}->(∀h,(∀b o,AJ.heap.get? b=G o->h.get? b=G o)->RK w Tp N ep t a AJ.heap.objs.size h ord 0 first)->(Tp=a\/s.heap.get? Tp=L)->Tp≠AJ.heap.objs.size->AH (AQ prog w) A.in1 (setEpoch a>>=λe=>newFields "set_iterator" [first,ET 0,.ref a,ET N.size,ET e]>>=λv=>ret v) (λfin s'=>∃v,fin=.done (.ret v)/\∃T' r,s'.TypeIs v T'/\Pf (.type T') "__next__"=pure (G r)/\A2 v s') E AJ:=by
  intro Tp first AJ ord hp kp he hF W_ RL;refine A5 (wpAny_setEpoch_of (kp _ _ ho) rfl T.fits ?_);refine A5 (IF ?_);refine AW ⟨_,rfl,"set_iterator",_,⟨_,CY _ rfl,rfl⟩,Xr.lookup,?_⟩;have hn:s.heap.get? AJ.heap.objs.size=L:=by cases e:s.heap.get? AJ.heap.objs.size with
 |none=>rfl|some o=>exact absurd (Dh (kp _ _ e)) (J0 _)
  have :=hQ AJ.heap.objs.size Tp ord (AJ.heap.push {cls:=.type "set_iterator",dict:=L,data:=.fields #[first,.int 0 0,.ref a,.int N.size 0,.int ep 0]}) AJ.drawn hn W_ RL hp ⟨C1 _ (kp _ _ ho),first,CY _ rfl,hF _ λb o e=>C1 _ e⟩ λb o e=>C1 _ (kp _ _ e);rw[he];exact this
 cases hb:w.params.followText "set-order"with
 |true=>
  simp only[bE7,Bool.false_and,Kk,↓v7];refine A5 (AW (fin a _ s _ bg0 (λ_ _ e=>e) rfl (λh _=>.inl ⟨hb,rfl,0,rfl⟩) (.inl rfl) (ER (Dh ho))))|false=>
  simp only[Bool.not_false,Bool.true_and];refine P_ (λGb=>?_) (λGb=>?_)
  . refine A5 (rf N.size (DN N.size) s (by simp) λys dr hp=>?_);have hl:ys.length=N.size:=by rw[hp.length_eq,bx8]
    refine A5 (gi ?_ (by rw[Jn,hl];exact hz));have CF:∀p∈ys,p<N.size:=λp m=>Ni.mp (hp.mem_iff.mp m);refine fin s.heap.objs.size _ _ (ys.filterMap λp=>N[p]?) ?_ (λb o e=>C1 _ e) rfl (λh k=>.inr (.inr ⟨_,_,_,ys,rfl,?_,k _ _ (CY _ rfl),rfl,?_,?_,?_⟩)) (.inr (GD s.heap)) ?_
    . have :=hp.filterMap λp=>N[p]?;rw[filterMap_getElem?_range]at this;exact this
    rotate_left 4
    . show s.heap.objs.size≠(bJ1 _ _).objs.size;rw[IG];exact ER (PR _)
    . show s.heap.objs.size≠(bJ1 _ _).objs.size;rw[IG];exact ER (PR _)
    . simp[ET]
    . exact bg6 CF
    . intro j p rt;have R8:p<N.size:=CF p (Ew rt);exact⟨N[p],Rr R8,by rw[bg7 CF,rt];exact Rr R8⟩
  . have :(!t.plain&&decide (N.size>1))=A6:=by cases q:(!t.plain&&decide (N.size>1))with
 |false=>rfl|true=>exact absurd q Gb
    have h1:N.size<=1:=by
      rcases T.plain with z|z;. omega
      . rw[z]at this;simp at this;exact this
    refine A5 (AW (fin a _ s _ (.refl _) (λ_ _ e=>e) rfl (λh _=>.inr (.inl ⟨hb,h1,?_,rfl,0,rfl,?_⟩)) (.inl rfl) (ER (Dh ho))));. rw[T.led,hb];rfl
    . have hp:t.place.size=N.size:=by have :=T.fits;simp only[bI8,D6,Rg]at this;exact this.1
      by_cases h0:N.size=0
      . have :t.place=#[]:=bw0 (by(with_reducible exact uM (by assumption) (by assumption)));rw[this];rfl
      . refine xE (rj (t:=t) (by(with_reducible exact Mine.vo (by assumption) (by assumption) (by assumption)))) ?_;intro j hj;rw[hj];exact ri.1
theorem SW.frame{T:A8}{N:BW (AX×A4)}{t:G3}(AZ:SW w T a AE N ep t ord i h)(k:∀b∈[AE,a,T],∀o,h.get? b=G o->Q.get? b=G o):SW w T a AE N ep t ord i Q:=by
 obtain⟨ho,first,Bz,hF⟩:=AZ;refine⟨k a (by simp) _ ho,first,k AE (by simp) _ Bz,?_⟩;rcases hF with x|x|B6;rotate_left;rotate_left;refine VQ B6 ?_;(try clear B6);intro o us n ps e ne g r;rotate_left;. exact .inl x
 . exact .inr (.inl x)
 . exact .inr (.inr ⟨o,us,n,ps,e,ne,k T (by simp) _ g,r⟩)
theorem rz:M0 "set_iterator" "__iter__" "set_iterator.__iter__":=.of (owner:="set_iterator") (n:="__iter__") (by rw[J5,J6];kernel_rfl) (by decide+kernel) (by decide+kernel) (by decide+kernel) (by first|exact .inl (by decide+kernel)|exact .inr (by decide+kernel)) (by rw[J7];kernel_rfl)
theorem bg9:Lu Lv "set_iterator.__iter__"=G EB.«dict_keyiterator.__iter__»:=uy (id':="dict_keyiterator.__iter__") ((VL _).trans (by kernel_rfl)) (by kernel_rfl) (by decide+kernel) ((VL _).trans (by kernel_rfl))
theorem bh0(a:A4):Jo "set_iterator.__iter__" ⟨[a],[]⟩:=by unfold Jo;rw[h' (id:="set_iterator.__iter__") (n:=['_','_','r','e','t','i','_','_']) (o:=['r','o','t','a','r','e','t','i','_','t','e','s']) (by kernel_rfl) rh];kernel_rfl
theorem bh1{T:A8}{N:BW (AX×A4)}{t:G3}(hh:A.handled=L)(hf:t.fits N.size=M)(hI:a≠AE)(hl:ord.length=N.size):WalksS prog w A AE [AE,a,T] [AE] (λa b=>b=a) N.size (λi v=>∃e,ord[i]?=G e/\v=e.2) (λi s=>T≠AE/\SW w T a AE N ep t ord i s.heap)where
 sub:=λb hb=>by simp at hb;simp[hb]
 grefl:=λ_=>rfl;gtrans:=λ_ _ _ h1 h2=>h2.trans h1;frame:=λi s Q tk st _ k=>⟨st.1,st.2.frame k⟩;item:=λi s A2 E hi st hQ=>rl hh hf hI st.2 (λe he Q W' sb=>hQ _ _ ⟨e,he,rfl⟩ ⟨st.1,W'⟩ ⟨λb o hb e=>(sb.2 b (λz=>hb (by simp[z]))).trans e,rfl,rfl,rfl,DF _⟩) λhx=>absurd (fj.mp hx) (Nat.not_le.mpr (hl▸hi));done:=λs A2 E st hQ=>rl hh hf hI st.2 (λe he=>absurd (HL.mp he).1 (hl▸J0 _)) λ_ Q eb=>hQ _ ⟨λb o hb e=>eb b o (λz=>hb (by simp[z])) e,rfl,rfl,rfl,DF _⟩;self:=λi s A2 E st hQ=>by
  obtain⟨_,ho,first,Bz,_⟩:=st;have hT:s.TypeIs (.ref AE) "set_iterator":=⟨_,Bz,rfl⟩;refine v8 hT rz (Gm rz hT bg9 ?_ (bh0 _));show AH _ _ (ret (.ref AE)) _ _ s;exact AW ⟨_,rfl,"set_iterator",_,hT,Xr.lookup,hQ⟩
theorem bh2{r:A8}{A2:AK->AR->Prop}(hT:s.TypeIs (.ref r) "set")(h:A2 A6 s):AH (AQ prog w) A (hZ (.ref r)) A2 E s:=by
 unfold hZ;refine A5 (YL hT F.slot_set_len.lookup ?_);generalize s6:("set.__len__":D9)=id0;wp_delta;rw[show gG id0=G ("set","__len__")from by subst s6;decide+kernel];subst s6;refine A5 (Ly (T:="set") (b:=M) hT sub_set_self ?_);refine P_ (λGb=>absurd Gb (by decide)) (λ_=>?_);refine P_ (λ_=>?_) (λGb=>absurd (by decide+kernel) Gb);refine A5 (Rt hT ?_);exact AW h
theorem bh3{N:I (AX×A4)}(h:∀e∈N,∃x u,e.2=.str x u):M3 (N.map (·.2)) (N.map λe=>strOf e.2):=by induction N with
 |nil=>exact .nil|cons e N ih=>
 refine DB (h e (Co ..)) ?_;intro x u q;simp only[J3,q];exact .cons x u (ih λe m=>h e (Cp _ m))
theorem bh4{P:I U}(hh:A.handled=L)(hS:HJ prog w (!w.params.followText "set-order") s.heap a P){AS:I A4->AR->Prop}(hR:∀(vs:I A4)(ss:I U)(s':AR),M3 vs ss->ss.Nodup->(∀x,x∈ss↔x∈P)->(∀b o,s.heap.get? b=G o->s'.heap.get? b=G o)->s'.gens=s.gens->s'.os=s.os->AS vs s'):AH (AQ prog w) A (YE (.ref a)) AS E s:=by
 refine Hp hS ?_;(try clear hS);intro N ep t ho T;have hz:N.size<=FA:=gz T.sz;have ed:a≠s.heap.objs.size:=ER (Dh ho);unfold YE;refine A5 (uo (J4 entry_proto_collect' ?_));skip;show AH _ A.in1 (tL []>>=λl=>Kj (.builtin "list.__iadd__" ⟨[l,.ref a],[]⟩)) _ _ s;refine A5 (IF ?_);refine AW ⟨plainId_quiet F.plain_list_iadd _,J4 entry_list_iadd' ?_⟩;skip;have Uh:(s.heap.push {cls:=.type "list",data:=.seq ([]:I A4).toArray}).get? s.heap.objs.size=G {cls:=.type "list",data:=.seq #[]}:=CY _ rfl;have O_:(s.heap.push {cls:=.type "list",data:=.seq ([]:I A4).toArray}).get? a=G {cls:=.type "set",dict:=L,data:=.set N ep t}:=C1 _ ho;show AH _ A.in1 (Yj (.ref s.heap.objs.size) (.ref a) (.ref s.heap.objs.size)) _ _ _;unfold Yj;refine A5 (Rt (T:="set") ⟨_,O_,rfl⟩ ?_);have h1:h_ (.ref s.heap.objs.size) (.ref a)=A6:=by simp[h_,CX ed]
 have h2:(Kq "set"==Kq "list")=A6:=by decide
 have h3:(Kq "set"==Kq "tuple")=A6:=by decide
 simp only[h1,h2,h3,bJ2,Kk,Kl];refine A5 (bg8 (s:={s with heap:=s.heap.push {cls:=.type "list",data:=.seq ([]:I A4).toArray}}) O_ T λAE Tp ord Q dr PK ee RL hp AZ kp=>?_);have PK:(s.heap.push {cls:=.type "list",data:=.seq ([]:I A4).toArray}).get? AE=L:=PK;have ee:Tp=a\/(s.heap.push {cls:=.type "list",data:=.seq ([]:I A4).toArray}).get? Tp=L:=ee;have kp:∀b o,(s.heap.push {cls:=.type "list",data:=.seq ([]:I A4).toArray}).get? b=G o->Q.get? b=G o:=kp;have hl:ord.length=N.size:=by rw[hp.length_eq,VD]
 have hIa:a≠AE:=λz=>by rw[<-z,O_]at PK;(exfalso;cases PK)
 have LN:s.heap.objs.size≠AE:=λz=>by rw[<-z,Uh]at PK;(exfalso;cases PK)
 have hTS:s.heap.objs.size≠Tp:=by
   rcases ee with z|z;. rw[z];exact CX ed
   . intro q;rw[<-q,Uh]at z;(exfalso;cases z)
 have NI:s.heap.objs.size∉[AE,a,Tp]:=by simp only[Cj,Jq,Jr,gd];exact⟨LN,CX ed,hTS⟩
 have hW:=bh1 (prog:=prog) (w:=w) (A:=A.in1) (ep:=ep) (T:=Tp) (by simp[hh]) T.fits hIa hl;have key:∀(h:BK)(ef:O),SW w Tp a AE N ep t ord 0 h->(∀b o,b≠s.heap.objs.size->Q.get? b=G o->h.get? b=G o)->h.get? s.heap.objs.size=G {cls:=.type "list",data:=.seq #[] ef}->D7 (AQ prog w) A (.builtin "list.extend.loop" ⟨[.ref s.heap.objs.size,.ref AE,.ref s.heap.objs.size],[]⟩) (λq s'=>match q with
 |.ok (.ret v)=>AH (AQ prog w) A (match v with
 |.ref a=>load a>>=λo=>match o.data with
      |.seq Y _=>pure Y.toList|_=>RZ "internal:collect"
 |_=>RZ "internal:collect") AS E s'|.ok _=>Bj|.error e=>E e s') {s with heap:=h,drawn:=dr}:=by
   intro h ef HE hk Uh;refine codeAny_extend_loopS hW hz _ NI _ N.size 0 _ #[] ef rfl (Nh _) ⟨RL,HE⟩ Uh (ItemsOf.nil _) λs' Ie c' hm Fb Oa=>?_;show AH _ A (load s.heap.objs.size>>=_) _ _ _;refine A5 (NV Fb (AW ?_));have hv:Ie.toList=ord.map (·.2):=by
    refine List.ext_getElem? λj=>?_;rw[Rv,VH];cases q:Ie[j]? with
 |none=>
     have :N.size<=j:=by rw[<-Oa.1];simpa using q
     rw[VE (by rw[hl];exact this)];rfl|some v=>refine AC (Oa.2 j v q) ?_;intro e he Aw;clear q;subst Aw;rw[he];rfl
   rw[hv];have eg:∀e∈ord,∃x u,e.2=.str x u:=λe m=>T.str e (hp.mem_iff.mp m);have s7:(ord.map λe=>strOf e.2).Perm (Lj N):=hp.map _;refine hR _ _ s' (bh3 eg) (s7.nodup_iff.mpr T.nd) (λx=>(s7.mem_iff).trans (T.mem x)) (λb o e=>?_) hm.gens hm.os;have DU:(s.heap.push {cls:=.type "list",data:=.seq ([]:I A4).toArray}).get? b=G o:=C1 _ e;refine hm.heap b o (λz=>?_) (hk b o (ER (Dh e)) (kp b o DU));rcases Cj.mp z with z|z;. exact absurd (Dh e) (by rw[z];exact J0 _)
   . rw[CI.mp z,PK]at DU;exact(BE DU).elim
 have RM:=kp _ _ Uh;refine A5 (C0 (bh2 ⟨_,kp _ _ O_,rfl⟩ ?_));refine P_ (λ_=>?_) (λ_=>AW ⟨plainId_quiet v9 _,key _ 0 AZ (λb o _ e=>e) RM⟩);refine A5 (Gk ?_);refine A5 ?_;show AH _ _ (Ru s.heap.objs.size (·.push .none)>>=λ_=>Ru s.heap.objs.size (·.pop)) _ _ _;refine A5 (Ng RM rfl ?_);have Ui:=FS (GL (·.push Hh)) RM rfl;refine Ng (hz:=by seq_fits) Ui rfl ?_;have eh:=FS (GL (·.pop)) Ui rfl;refine AW ⟨plainId_quiet v9 _,key _ _ ?_ (λb o hb e=>?_) eh⟩
 . refine AZ.frame λb hb o e=>?_;have s8:b≠s.heap.objs.size:=λh=>NI (h▸hb);exact(GN _ _ (CX s8)).trans ((GN _ _ (CX s8)).trans e)
 . exact(GN _ _ (CX hb)).trans ((GN _ _ (CX hb)).trans e)
end
end
open PyProof.Rows(StrsAre sortedS risingS)
section
theorem bh5{x:A4}(hl:l.length<60)(hc:∀(AS:I A4->AR->Prop)(E:A4->AR->Prop),(∀vs ss s',M3 vs ss->(ss.map tx).Perm l->(∀b o,s.heap.get? b=G o->s'.heap.get? b=G o)->s'.gens=s.gens->s'.os=s.os->AS vs s')->AH (AQ prog w) A.in1 (YE x) AS E s)(hQ:∀(D:A8)(us:BW A4)(s':AR)(e:O),s.heap.get? D=L->s'.heap.get? D=G {cls:=.type "list",data:=.seq us e}->(∀b o,s.heap.get? b=G o->s'.heap.get? b=G o)->s'.gens=s.gens->s'.os=s.os->(∀h C,Aa h C ((Ea l).map .str) us.toList)->A2 (.ref D) s'):AH (AQ prog w) A (call (.builtin "sorted") [x]) A2 E s:=by
 refine bC8 bC9 bD0 bD1 (bD2 _) ?_;skip;refine A5 (m:=checkCount "sorted" 1 1 _) (AW ?_);refine A5 (hc _ _ λvs ss s' hS hp kp hg ho=>?_);have Ch:vs.length=l.length:=by
   have h1:=hp.length_eq;have h2:vs.length=ss.length:=by clear hp h1;induction hS with|nil=>rfl|cons _ _ _ ih=>simp[ih]
   simp at h1;(with_reducible exact uM (by assumption) (by assumption))
 have hn:s.heap.get? s'.heap.objs.size=L:=by cases e:s.heap.get? s'.heap.objs.size with
 |none=>rfl|some o=>exact absurd (Dh (kp _ _ e)) (J0 _)
 refine A5 (uN ?_ (by rw[Ch];exact B4 (show l.length<=60 by(with_reducible exact Gi (by assumption))) (by decide)));have KD:(s'.heap.push {cls:=.type "list",data:=.seq vs.toArray}).get? s'.heap.objs.size=G (uO "list" vs.toArray 0):=CY _ rfl;refine A5 (C0 (Gm uP ⟨_,KD,rfl⟩ uQ (bD3 bD4 KD hS.keysOf (λHx ap8 C4 e=>bD5 (by rw[<-e];exact hS)) (by omega) λbu a1 a2=>⟨_,rfl,?_⟩) (uR _)));refine CZ (bD6 hS a1 a2) ?_;intro Oc h1 h2 h3;have key:Oc.map tx=Ea l:=mq h3 ((h2.map tx).trans hp);refine xE (uS (vs:=vs) (out:=(bD7 bu).map (·.2)) KD) ?_;intro e he;refine AW ⟨_,rfl,hQ s'.heap.objs.size _ _ e hn he (λb o q=>?_) hg ho λh C=>?_⟩
 . have lt:=Dh (kp _ _ q);rw[uT (ER lt) (by rw[IG];exact fO lt)];exact C1 _ (kp _ _ q)
 . rw[<-key];exact bt h1
end
section
variable{CR:Kx->Cd->Mine.St->AD A0}
theorem Gd.bh6(g:Gd B F K A H C s)(hh:s'.heap=s.heap)(ho:s'.os=s.os)(hg:s'.gens=s.gens):Gd B F K A H C s':=⟨g.kinds,g.len,g.nodup,g.fresh,hh▸g.live,hh▸g.D5,hh▸g.D1,hh▸g.objs,hh▸g.env,hh▸g.base,ho.trans g.os,hg.trans g.gens,g.frames,hh▸g.DT,hh▸g.Cy,g.mods,g.handled,g.depth,g.units⟩
theorem s9{Bl:Gl B A3}{y:AA}{w:A4}(hg:Di K.sc id=M)(hw:Ah A3.glob id=G (.top w))(hc:∀h,CW (AQ B.prog B.w) h w)(hp:CP y=M)(g:Gd B F K A H C s)(h:∀BG EN,Gd B F K A H BG EN->Nx F.D [] s.heap EN.heap C BG->AH (AQ B.prog B.w) A (eval y F.env) (λu s'=>AH (AQ B.prog B.w) A (CE w [u]) A2 E s') E EN):AH (AQ B.prog B.w) A (eval (.Call (.Name id p) [y] [] pos) F.env) A2 E s:=by exact Wi (Bl:=Bl) hg hw (show(CP y&&M)=M by rw[hp];rfl) g λA_ AJ AN Ab=>Lq (Fg (h A_ AJ AN Ab) (λu s' q=>Up ⟨hc _,q⟩) λ_ _ e=>e) (K7 hp)
set_option tactic.hygienic true in
theorem Xt:∀{l:I Tx}{x:Tx},x∈Ht l↔x∈l
 |[],x=>VG|y::l,x=>by
  unfold Ht;split
  . rename_i h;refine AC (II.mp h) ?_;intro z hz e;rw[Xt,Cj];refine⟨.inr,λq=>q.elim (λq=>?_) id⟩;rw[q,Ec.mp e];exact Xt.mp hz
  . rw[Cj,Xt,Cj]
set_option tactic.hygienic true in
theorem eq:∀{l:I Tx},(Ht l).Nodup
 |[]=>HM|y::l=>by
  unfold Ht;split;. exact eq
  . rename_i h;refine EU.mpr ⟨λm=>?_,eq⟩;have :=Y9.mp h y m;exact this (Ec.mpr rfl)
theorem es:∀{l:I Tx},(Ht l).length<=l.length
 |[]=>DF _|y::l=>by
  unfold Ht;split;. exact gr es
  . exact Lm es
theorem bh7:Function.Injective tx:=λa b h=>by
 obtain⟨⟨a⟩⟩:=a;obtain⟨⟨b⟩⟩:=b;have :a=b:=h;rw[this]
theorem bh8{ss:I U}(nd:ss.Nodup)(hm:∀x,x∈ss↔x∈l.map λx=>(⟨⟨x⟩⟩:U)):(ss.map tx).Perm (Ht l):=by
 refine(bG7 ?_ eq).mpr λx=>?_
 . rw[u_,g7];exact nd.imp λh e=>h (bh7 e)
 . rw[Xt,E0];constructor
   . rintro⟨y,hy,rfl⟩;refine AC (E0.mp ((hm y).mp hy)) ?_;intro z hz Aw;subst Aw;exact hz
   . intro hx;exact⟨⟨⟨x⟩⟩,(hm _).mpr (E0.mpr ⟨x,hx,rfl⟩),rfl⟩
theorem bh9{f x:AA}{args:I AA}(h:Zw f args=G x):∃p p2 Uj,f=.Name QB p/\args=[.Call (.Name Zt p2) [x] [] Uj]:=by
 apply Cs h AF;intro c h;apply M5 h AF;intro g a k pos h;apply Cs h AF;intro y h;apply EW h AF;intro h;refine Ce h AF λq h=>?_;apply Qd (B1 q);intro p;apply Qd (Ak q);intro p2;apply Br h.symm;exact⟨p,p2,pos,rfl,rfl⟩
theorem sA(AV:(Bb P).In B.base):c8 B (Fv on CR):=by
 intro n A9 K f x args pos v F A H A7 C s hp hf hs h g A2 E k;refine Hp (bh9 hs) ?_;intro p p2 Uj B6 BJ;subst B6;subst BJ;refine A0.Be h ?_;clear h;intro hc h;simp only[D6]at hc;refine xA hc ?_;(try clear hc);intro BP h3;refine xA BP ?_;(try clear BP);intro h1 h2;refine A0.Cg h ?_;clear h;intro w AB hx h;revert hx;apply A0.MU h;clear h;intro i Y hi h hx;refine A0.Bx h ?_;clear h;intro l hl h;refine A0.Be h ?_;clear h;intro eu h;(first|(revert k;(first|apply BX h|apply B5 h|apply BY h|apply BZ h|apply B_ h);intro k)|apply BX h|apply B5 h|apply BY h|apply BZ h|apply B_ h);have eu:l.length<60:=Dk eu;refine s9 (A3:=Fv on CR) (Bl:=GH AV) h1 (w:=.builtin "sorted") (by kernel_rfl) (λ_=>CW.builtin) rfl g λBG EN Fa Cq=>?_;refine bf (A3:=Fv on CR) (Bl:=GH AV) (vs:=[.ref i]) (w:=.type "set") h2 (by kernel_rfl) (λ_=>CW.type) (by simp[h3]) Fa (λA_ AJ p AN Ab=>Wh h3 (A9.e hx AN) p) λus Au Ai AU Al BB=>?_;refine Bv BB ?_;(try clear BB);intro u us Bg ru e;subst Bg;cases e;refine Bv (AU.listAt ru hi) ?_;intro a us Bu pl vr;subst Bu;rw[OR hl]at vr;have eg:=mr vr;refine bf8 AU.handled (by simpa using pl.isList) eg (by rw[Jn];unfold Pl;(with_reducible exact J' (Nat.succ_lt_succ (by assumption)) (by decide))) λQ tk hS kp=>?_;refine bh5 (l:=Ht l) (H2 es eu) (λAS E k=>?_) λD Dy s' e hn hd Ti hg ho hv=>?_;. refine bh4 (by simp[AU.handled]) hS λvs ss s' hs nd hm kp hg ho=>k vs ss s' hs (bh8 nd hm) kp hg ho
 . have kk:∀b o,Ai.heap.get? b=G o->s'.heap.get? b=G o:=λb o e=>Ti b o (kp b o e);have O9:Ai.heap.get? D=L:=by cases q:Ai.heap.get? D with
 |none=>rfl|some o=>have :=kp _ _ q;rw[hn]at this;exact(BE this).elim
   refine xA (AU.newList (tk:=Ai.toks) O9 hd kk hv) ?_;intro g' x';exact k _ _ _ (g'.bh6 rfl ho hg) (Cq.trans (Al.trans x')) ⟨_,AU.LI,rfl⟩
end
noncomputable def sB(A9:As):AD As:=S2 A9 L λt b e _=>HR t L λc _ _=>l1 b L λb=>l0 e L (bT (decide (c=.bool M)) L (G b))
theorem bi0{b:As}(h:sB A9=G b):∃k p1 p2,A9=.While (.Constant (.bool M) k p1) [b] [] p2:=by
 apply iA h AF;intro t b e p h;apply J8 h AF;intro c k p1 h;apply Cs h AF;intro b h;apply EW h AF;intro h;refine Ce h AF λq h=>?_;apply IL q;apply Br h.symm;exact⟨_,_,_,rfl⟩
section
variable{Av:I Tx}{tr N8 N9 if1 NA NB NC if2 ND NE NF NG:As}{t1 t2:AA}
theorem bi1(SB:Xl B)(SK:RA K.sc)(D:eU tr N8 N9 if1 NA NB NC if2 ND NE NF NG tf L2 JM JN K5 ext2 brk t1 t2)(hX:AG.length<=100000)(hY:An.length<=100000)(hF:F.outs=F.env::C4)(hf:F.env.frame=G F.env.locals):∀(m:O){i j:O}{Av CL:I Tx}{s:AR},AG.length-i+(An.length-j)<=m->m<=200000->i<=AG.length->j<=An.length->Av.length<=i->CL.length<=j->Gd B F K A ⟨Ff i j,DL AG An Av CL,4⟩ C s->Nx F.D F.AZ Af s.heap BG C->∀{AS:Dt->AR->Prop},(∀i' j' s',Gd B F K A ⟨Ff i' j',DL AG An (Av++(D4 m (AG.drop i) (An.drop j)).1) (CL++(D4 m (AG.drop i) (An.drop j)).2),4⟩ C s'->Nx F.D F.AZ Af s'.heap BG C->AS (.ok .next) s')->D7 (AQ B.prog B.w) A (.whileLoop (.Constant (.bool M) k0 p) [tr] [] F.env) AS s:=by
 intro m;induction m with
 |zero=>
  intro i j Av CL s hm hm2 hi hj hM hU g Cv AS kk;refine WC (tC (t8 (NU ?_)));skip;exact DH (rL SB SK D hX hY (by(with_reducible exact Mine.wQ (by assumption) (by assumption) (by assumption))) (by(with_reducible exact Mine.vm (by assumption) (by assumption) (by assumption))) hi hj hm (by(with_reducible exact B4 (by assumption) (B4 (by assumption) (by assumption)))) (by(with_reducible exact B4 (by assumption) (B4 (by assumption) (by assumption)))) hF hf g Cv (λk i' j' M' U' s' hk=>by(exfalso;cases hk)) (λi' j' s' g' N'=>kk i' j' s' g' N'))|succ m ih=>
  intro i j Av CL s hm hm2 hi hj hM hU g Cv AS kk;refine WC (tC (t8 (NU ?_)));skip;refine DH (rL SB SK D hX hY (by omega) (by(with_reducible exact Mine.vl (by assumption) (by assumption) (by assumption) (by assumption))) hi hj hm (by(with_reducible exact B4 (by assumption) (B4 (by assumption) (by assumption)))) (by(with_reducible exact B4 (by assumption) (B4 (by assumption) (by assumption)))) hF hf g Cv (λk i' j' M' U' s' hk h1 h2 h3 h4 h5 h6 h7 g' N'=>G1 ?_) (λi' j' s' g' N'=>kk i' j' s' g' N'));injection hk with hk;subst hk;exact ih h3 (by(with_reducible exact ur (by assumption))) h1 h2 (by(with_reducible exact Mine.iW (by assumption) (by assumption))) (by(with_reducible exact Mine.iW (by assumption) (by assumption))) g' N' λi'' j'' Kb PE U_=>kk i'' j'' Kb (by rw[h6,h7];exact PE) U_
end
noncomputable def IC(k:O):As:=(Fj (Ba 26))[k]?.getD (.Pass ⟨0,0,0,0⟩)
noncomputable def G'(l:I As)(k:O):As:=l[k]?.getD (.Pass ⟨0,0,0,0⟩)
noncomputable def whB(A9:As):I As:=S2 A9 [] λ_ b _ _=>b
noncomputable def Xu(A9:As):I As:=Nm A9 [] λb _ _ _ _=>b
noncomputable def sE(A9:As):I As:=Nm A9 [] λ_ _ _ f _=>f
noncomputable def f0(A9:As):I As:=Nm A9 [] λ_ h _ _ _=>l1 h [] λh=>Yp h λ_ _ b _=>b
noncomputable def RN(A9:As):I As:=Ju A9 [] λ_ a _ _=>a
noncomputable def f1(A9:As):I As:=Ju A9 [] λ_ _ b _=>b
noncomputable def sF(A9:As):AA:=Ju A9 (.Constant .none 0 ⟨0,0,0,0⟩) λt _ _ _=>t
noncomputable def NK:As:=G' (whB (IC 4)) 0
noncomputable def RO:As:=G' (Xu NK) 2
noncomputable def PL:As:=G' (f1 RO) 0
noncomputable def Xv:As:=G' (f1 PL) 1
theorem bi2:Fj (Ba 26)=[IC 0,IC 1,IC 2,IC 3,IC 4,IC 5]:=by kernel_rfl
theorem bi3:eU NK (G' (Xu NK) 0) (G' (Xu NK) 1) RO (G' (RN RO) 0) (G' (RN RO) 1) (G' (RN RO) 2) PL (G' (RN PL) 0) (G' (RN PL) 1) (G' (RN PL) 2) (G' (f1 PL) 0) Xv (G' (Xu Xv) 0) (G' (sE Xv) 0) (G' (sE Xv) 1) (G' (f0 NK) 0) (G' (f0 NK) 1) (G' (f0 NK) 2) (sF RO) (sF PL):=⟨by kernel_rfl,by kernel_rfl,by kernel_rfl,by kernel_rfl,by kernel_rfl,by kernel_rfl,by kernel_rfl,by kernel_rfl,by kernel_rfl,by kernel_rfl,by kernel_rfl,by kernel_rfl,by kernel_rfl,by kernel_rfl,by kernel_rfl,by kernel_rfl,by kernel_rfl,by kernel_rfl,by kernel_rfl,by kernel_rfl,by kernel_rfl⟩
theorem bi4:sB (IC 4)=G NK:=by kernel_rfl
noncomputable def Lk:BU:=BV (Ba 26)
theorem bi5:RA Lk:=⟨by kernel_rfl,by kernel_rfl,by kernel_rfl,by kernel_rfl,by kernel_rfl,by kernel_rfl,by kernel_rfl,by kernel_rfl,by kernel_rfl,by kernel_rfl,by kernel_rfl,by kernel_rfl,by kernel_rfl⟩
noncomputable abbrev NL:Mine.Ctx:=Fv A6 λ_ _ _=>L
theorem bi6{h:I (O×Ob)}:ev NL 30 ⟨Lk,d⟩ (.s (IC 0)) ⟨[(Fe,.ref 0),(FO,.ref 1)],h,2⟩=.ok (.f .next) ⟨[(Fe,.ref 0),(FO,.ref 1)],h,2⟩:=by kernel_rfl
theorem bi7{h:I (O×Ob)}:ev NL 30 ⟨Lk,d⟩ (.s (IC 1)) ⟨[(Fe,.ref 0),(FO,.ref 1)],h,2⟩=.ok (.f .next) ⟨[(Fe,.ref 0),(FO,.ref 1),(Fy,.int 0),(F8,.int 0)],h,2⟩:=by kernel_rfl
theorem bi8{h:I (O×Ob)}:ev NL 30 ⟨Lk,d⟩ (.s (IC 2)) ⟨[(Fe,.ref 0),(FO,.ref 1),(Fy,.int 0),(F8,.int 0)],h,2⟩=.ok (.f .next) ⟨[(Fe,.ref 0),(FO,.ref 1),(Fy,.int 0),(F8,.int 0),(Kc,.ref 2)],(2,.list [])::h,3⟩:=by kernel_rfl
theorem bi9{h:I (O×Ob)}:ev NL 30 ⟨Lk,d⟩ (.s (IC 3)) ⟨[(Fe,.ref 0),(FO,.ref 1),(Fy,.int 0),(F8,.int 0),(Kc,.ref 2)],h,3⟩=.ok (.f .next) ⟨[(Fe,.ref 0),(FO,.ref 1),(Fy,.int 0),(F8,.int 0),(Kc,.ref 2),(N7,.ref 3)],(3,.list [])::h,4⟩:=by kernel_rfl
theorem bj0{h:I (O×Ob)}:ev NL 30 ⟨Lk,d⟩ (.s (IC 5)) ⟨Ff i j,h,4⟩=.ok (.f (.ret (.tup L [.ref 2,.ref 3]))) ⟨Ff i j,h,4⟩:=by kernel_rfl
theorem bj1:M0 "map" "__init__" "object.__init__":=.of (owner:="object") (n:="__init__") (by rw[J5,J6];kernel_rfl) (by decide+kernel) (by decide+kernel) (by decide+kernel) (by first|exact .inl (by decide+kernel)|exact .inr (by decide+kernel)) (by rw[J7];kernel_rfl)
theorem Uk:M0 "map" "__next__" "map.__next__":=.of (owner:="map") (n:="__next__") (by rw[J5,J6];kernel_rfl) (by decide+kernel) (by decide+kernel) (by decide+kernel) (by first|exact .inl (by decide+kernel)|exact .inr (by decide+kernel)) (by rw[J7];kernel_rfl)
theorem sG:M0 "map" "__iter__" "map.__iter__":=.of (owner:="map") (n:="__iter__") (by rw[J5,J6];kernel_rfl) (by decide+kernel) (by decide+kernel) (by decide+kernel) (by first|exact .inl (by decide+kernel)|exact .inr (by decide+kernel)) (by rw[J7];kernel_rfl)
theorem sH:Lu Lv "map.__next__"=G EB.«map.__next__»:=YD (by kernel_rfl)
theorem bj2:Lu Lv "map.__new__"=G EB.«map.__new__»:=YD (by kernel_rfl)
theorem bj3:Lu Lv "map.__iter__"=G EB.«dict_keyiterator.__iter__»:=uy (id':="dict_keyiterator.__iter__") ((VL _).trans (by kernel_rfl)) (by kernel_rfl) (by decide+kernel) ((VL _).trans (by kernel_rfl))
theorem sI:bI7.lookup (sv ['p','a','m'].reverse)=G Manifest.sig_map:=by kernel_rfl
theorem sJ(a:A4):Jo "map.__next__" ⟨[a],[]⟩:=by unfold Jo;rw[h' (id:="map.__next__") (n:=['_','_','t','x','e','n','_','_']) (o:=['p','a','m']) (by kernel_rfl) sI];kernel_rfl
theorem bj4(a:A4):Jo "map.__iter__" ⟨[a],[]⟩:=by unfold Jo;rw[h' (id:="map.__iter__") (n:=['_','_','r','e','t','i','_','_']) (o:=['p','a','m']) (by kernel_rfl) sI];kernel_rfl
theorem sK:mroOf (.type "map")=pure [.type "map",.type "object"]:=by rw[mroOf_type];kernel_rfl
theorem bj5:Pf (.type "map") "__new__"=pure (G (.builtin "map.__new__")):=by rw[J5,J6];kernel_rfl
theorem bj6:TypeCalled "map" "map.__new__" "object.__init__":=⟨by decide+kernel,by decide+kernel,⟨_,_,sK⟩,madeBy_type sK bj5 (by decide+kernel),by decide+kernel,by rw[J7];kernel_rfl,bj1⟩
theorem bj7(a b:A4):bI0 "map" ⟨[a,b],[]⟩=pure ():=by kernel_rfl
theorem bj8(a b:A4):gF "map.__new__" ⟨[.type "map",a,b],[]⟩=pure ():=by kernel_rfl
theorem bj9:Rs (.type "map") (.type "map")=pure M:=by rw[J7];kernel_rfl
theorem bk0:Pf (.type "map") "__len__"=pure L:=by rw[J5,J6];kernel_rfl
theorem bk1:Pf (.type "map") "__length_hint__"=pure L:=by rw[J5,J6];kernel_rfl
noncomputable abbrev NM(h:BK)(z TI it:A8)(f:A4):Prop:=h.get? z=G {cls:=.type "map",dict:=L,data:=.fields #[.ref TI,f],slots:=#[]}/\h.get? TI=G {cls:=.type "tuple",data:=.seq #[.ref it]}
noncomputable abbrev NN(h:BK)(l:A8):BK:=h.push {cls:=.type "list_iterator",data:=.fields #[.ref l,.int 0 0]}
noncomputable abbrev PM(h:BK)(l:A8):BK:=(NN h l).push {cls:=.type "tuple",data:=.seq #[.ref h.objs.size]}
noncomputable abbrev Xw(h:BK)(l:A8)(f:A4):BK:=(PM h l).push {cls:=.type "map",data:=.fields #[.ref (NN h l).objs.size,f]}
theorem bk2(f:A4)(l:A8)(Y:BW A4):VA (EB.«map.__new__» ⟨[.type "map",f,.ref l],[]⟩) (λ_ AS s=>s.heap.IsList l Y/\AS (.ok (.ret (.ref (PM s.heap l).objs.size))) {s with heap:=Xw s.heap l f}):=.of_wp λprog w A AS s h=>by
 obtain⟨hp,g,d,tk,os⟩:=s;refine xA h ?_;(try clear h);intro Eh h;have LJ:=bj9;have qq:Heap.IsList (Shared.heap ⟨hp,g,d,tk,os⟩) l Y:=Eh;wp_walk using fk qq;exact⟨_,rfl,h⟩
section
theorem bk3{f:A4}{l:A8}{Y:BW A4}(hl:s.heap.IsList l Y)(h:∀Q z TI it,s.heap.get? z=L->s.heap.get? TI=L->s.heap.get? it=L->z≠TI->z≠it->TI≠it->NM Q z TI it f->Q.IsListIter it l 0->(∀c o,s.heap.get? c=G o->Q.get? c=G o)->A2 (.ref z) {s with heap:=Q}):AH (AQ prog w) A (call (.type "map") [f,.ref l]) A2 E s:=by
 refine callType_new bj6 (by decide) (bj7 _ _) (bj8 _ _) (λobj=>F.args_object_init_3 obj _ _) bj2 (bk2 f l Y) ⟨hl,?_⟩;have z1:(NN s.heap l).objs.size=s.heap.objs.size+1:=IG ..;have z2:(PM s.heap l).objs.size=s.heap.objs.size+2:=by rw[IG,z1]
 have g3:(Xw s.heap l f).get? (PM s.heap l).objs.size=G _:=CY _ rfl;have g2:(Xw s.heap l f).get? (NN s.heap l).objs.size=G _:=C1 _ (CY _ rfl);have g1:(Xw s.heap l f).get? s.heap.objs.size=G _:=C1 _ (C1 _ (CY _ rfl));show _/\_;have l1:s.heap.objs.size<=(NN s.heap l).objs.size:=by rw[z1];exact H3 ..
 have l2:s.heap.objs.size<=(PM s.heap l).objs.size:=by rw[z2];exact H3 ..
 have n1:(PM s.heap l).objs.size≠(NN s.heap l).objs.size:=by rw[z2,z1];exact u7 _
 have n2:(PM s.heap l).objs.size≠s.heap.objs.size:=by rw[z2];exact PX (Nat.lt_add_of_pos_right (by decide))
 have n3:(NN s.heap l).objs.size≠s.heap.objs.size:=by rw[z1];exact u7 _
 exact⟨⟨_,g3,rfl⟩,h _ _ (NN s.heap l).objs.size s.heap.objs.size (i3 l2) (i3 l1) (i3 (DF _)) n1 n2 n3 ⟨g3,g2⟩ ⟨_,g1,rfl,rfl⟩ λc o x=>C1 _ (C1 _ (C1 _ x))⟩
theorem bk4{it l:A8}{f x:A4}{k:O}{Y:BW A4}{A2:AD A4->AR->Prop}(hm:NM s.heap z TI it f)(Cc:z≠it)(bP3:TI≠it)(hi:s.heap.IsListIter it l k)(hl:s.heap.IsList l Y)(hx:Y[k]?=G x)(h:∀Q,E4 it s.heap Q->Q.IsListIter it l (k+1)->AH (AQ prog w) A.in1 (call f [x]) (λv s'=>A2 (G v) s') (λ_ _=>Bj) {s with heap:=Q}):AH (AQ prog w) A (ES (.ref z)) A2 E s:=by
 have hT:s.TypeIs (.ref z) "map":=⟨_,hm.1,rfl⟩;unfold ES;refine A5 (Rn (Ls (name:=Ev "__next__") hT Uk (Gm Uk hT sH ?_ (sJ _))));show AH _ _ (Kn (.ref z) 0>>=_) _ _ _;refine A5 (Go hm.1 rfl (x:=.ref TI) rfl ?_);refine A5 (Nf hm.2 rfl ?_);simp only[<-uK,Rf,gm];refine A5 (A5 (A5 (C0 (wpAny_nextOf_list_item hi hl hx λQ QJ hs=>AW (AW ?_)))));show AH _ _ (Kn (.ref z) 1>>=_) _ _ _;refine A5 (Go ((hs.2 z Cc).trans hm.1) rfl (x:=f) rfl ?_);exact A5 (C0 (Fg (h Q hs QJ) (λv s' hq=>A5 (Pg (AW ⟨v,rfl,AW hq⟩))) λ_ _ q=>q.elim))
theorem bk5{it l:A8}{f:A4}{k:O}{Y:BW A4}{A2:AD A4->AR->Prop}(hh:A.handled=L)(hm:NM s.heap z TI it f)(hi:s.heap.IsListIter it l k)(hl:s.heap.IsList l Y)(hx:Y[k]?=L)(h:∀Q,Ds it s.heap Q->A2 L {s with heap:=Q}):AH (AQ prog w) A (ES (.ref z)) A2 E s:=by
 have hT:s.TypeIs (.ref z) "map":=⟨_,hm.1,rfl⟩;unfold ES;refine A5 (Rn (Ls (name:=Ev "__next__") hT Uk (Gm Uk hT sH ?_ (sJ _))));show AH _ _ (Kn (.ref z) 0>>=_) _ _ _;refine A5 (Go hm.1 rfl (x:=.ref TI) rfl ?_);refine A5 (Nf hm.2 rfl ?_);simp only[<-uK,Rf,gm];refine A5 (A5 (A5 (C0 (wpAny_nextOf_list_end (by simp[hh]) hi hl hx λQ e hs he=>?_))));refine AC he ?_;(try clear he);intro o ho hc;refine A5 (Ly (T:="StopIteration") (b:=M) ⟨o,ho,hc⟩ gL ?_);exact AW (h _ hs)
theorem bk6{it:A8}{f:A4}(hm:NM s.heap z TI it f)(h:A2 (.ref z) s):AH (AQ prog w) A (PU (.ref z)) A2 E s:=by
 have hT:s.TypeIs (.ref z) "map":=⟨_,hm.1,rfl⟩;refine v8 hT sG (Gm sG hT bj3 ?_ (bj4 _));show AH _ _ (ret (.ref z)) _ _ s;exact AW ⟨_,rfl,"map",_,hT,Uk.lookup,h⟩
theorem bk7{it:A8}{f:A4}{A2:AK->AR->Prop}(hm:NM s.heap z TI it f)(h:A2 M s):AH (AQ prog w) A (hZ (.ref z)) A2 E s:=by
 have hT:s.TypeIs (.ref z) "map":=⟨_,hm.1,rfl⟩;unfold hZ;refine A5 (YL hT bk0 ?_);show AH _ _ (Nc (Jp z) (Ev "__length_hint__")>>=_) _ _ _;exact A5 (YL hT bk1 (AW h))
theorem bk8{it:A8}{f:A4}(hm:NM s.heap z TI it f)(h:∀Q D c,s.heap.get? D=L->Q.get? D=G {cls:=.type "list",data:=.seq #[] c}->(∀b o,s.heap.get? b=G o->Q.get? b=G o)->D7 (AQ prog w) A.in1 (.builtin "list.extend.loop" ⟨[.ref D,.ref z,.none],[]⟩) (λr s'=>match r with|.ok (.ret v)=>v=.none/\A2 (.ref D) s'|.ok _=>Bj|.error e=>E e s') {s with heap:=Q}):AH (AQ prog w) A (call (.type "list") [.ref z]) A2 E s:=by
 refine callType_codes (Q₁:=λobj AJ=>obj=.ref s.heap.objs.size/\AJ={s with heap:=s.heap.push {cls:=.type "list",data:=.seq #[]}}) F.called_list (F.typeCall_list_1 _) F.entry_list_init (code_list_new _ ⟨rfl,rfl⟩) λobj AJ AP=>?_;refine xA AP ?_;(try clear AP);intro Aw B6;subst Aw;subst B6;have hS:(s.heap.push {cls:=.type "list",data:=.seq #[]}).get? s.heap.objs.size=G {cls:=.type "list",data:=.seq #[]}:=CY _ rfl;have hn:s.heap.get? s.heap.objs.size=L:=i3 (DF _);refine⟨⟨_,hS,rfl⟩,F.args_list_init_2 _ _,?_⟩;show AH _ A.in1.in1 (do let GG<-bJ3 (.ref s.heap.objs.size);bU9 (.ref s.heap.objs.size) (λ_=>#[]);letGo GG.toList.reverse;Yj (.ref s.heap.objs.size) (.ref z) .none) _ _ _;refine A5 ?_;unfold bJ3;refine A5 (Nf hS rfl (AW ?_));show AH _ A.in1.in1 (Ru s.heap.objs.size (λ_=>#[])>>=λ_=>letGo (#[]:BW A4).toList.reverse>>=λ_=>Yj (.ref s.heap.objs.size) (.ref z) .none) _ _ _;refine A5 (Ng hS rfl ?_);have RM:=FS (GL (λ_=>(#[]:BW A4))) hS rfl;have f3:∀b o,s.heap.get? b=G o->((s.heap.push {cls:=.type "list",data:=.seq #[]}).update s.heap.objs.size (GL (λ_=>(#[]:BW A4)))).get? b=G o:=λb o e=>(GN _ _ (CX (ER (Dh e)))).trans (C1 _ e);refine A5 (Pg ?_);have f4:NM ((s.heap.push {cls:=.type "list",data:=.seq #[]}).update s.heap.objs.size (GL (λ_=>(#[]:BW A4)))) z TI it f:=⟨f3 _ _ hm.1,f3 _ _ hm.2⟩;unfold Yj;refine A5 (Rt (T:="map") ⟨_,f4.1,rfl⟩ ?_);have bk9:s.heap.objs.size≠z:=CX (ER (Dh hm.1));have h1:h_ (.ref s.heap.objs.size) (.ref z)=A6:=by simp[h_,bk9]
 have h2:(Kq "map"==Kq "list")=A6:=by decide
 have h3:(Kq "map"==Kq "tuple")=A6:=by decide
 simp only[h1,h2,h3,bJ2,Kk,Kl];refine A5 (bk6 f4 ?_);refine A5 (C0 (bk7 f4 ?_));show AH _ _ (YM "list.extend.makes-room">>=λ_=>bV0 (.ref s.heap.objs.size)>>=λ_=>Kj (.builtin "list.extend.loop" ⟨[.ref s.heap.objs.size,.ref z,.none],[]⟩)) _ _ _;refine A5 (Gk ?_);refine A5 ?_;show AH _ _ (Ru s.heap.objs.size (·.push .none)>>=λ_=>Ru s.heap.objs.size (·.pop)) _ _ _;refine A5 (Ng RM rfl ?_);have Ui:=FS (GL (·.push Hh)) RM rfl;refine Ng (hz:=by seq_fits) Ui rfl ?_;have eh:=FS (GL (·.pop)) Ui rfl;refine AW ⟨plainId_quiet v9 _,uw (h _ s.heap.objs.size _ hn eh λb o e=>?_) λr s' hr=>?_⟩
 . have hb:s.heap.objs.size≠b:=CX (ER (Dh e));rw[GN _ _ hb,GN _ _ hb];exact f3 b o e
 . cases r with
 |error e=>exact hr|ok fl=>cases fl<;>exact hr
end
noncomputable def f5:U:=⟨⟨[95,109,97,107,101]⟩⟩
theorem bl0:readsIn (Bb P) 135 (.type "type")=M:=by kernel_rfl
theorem bl1:ta (Bb P) (.ref 135) (.type "type") f5=G (.get (.builtin "classmethod.__get__") (.ref 91) .none (.ref 135)):=by kernel_rfl
theorem bl2:recIn (Bb P) 91 "classmethod"=G [.ref 89,.bool A6]:=by kernel_rfl
theorem bl3{f x:AA}{args:I AA}(h:Zx f args=G x):∃p p2 p3 p4 Uj,f=.Name Zu p/\args=[.Call (.Name Zv p2) [.Attribute (.Name Sl p3) f5 p4,x] [] Uj]:=by
 apply Cs h AF;intro c h;apply M5 h AF;intro g a k pos h;apply FT h AF;intro m a h;apply Cs h AF;intro y h;apply S0 h AF;intro o a p4 h;apply EW h AF;intro h;refine Ce h AF λq h=>?_;apply Qd (B1 q);intro p;apply Qd (B1 (Ak q));intro p2;apply Qd (B1 (Ak (Ak q)));intro p3;rw[E2.mp (Ak (Ak (Ak q)))];apply Br h.symm;exact⟨p,p2,p3,p4,pos,rfl,rfl⟩
section
variable{CR:Kx->Cd->Mine.St->AD A0}
theorem bl4{Bl:Gl B A3}{y z:AA}{w:A4}(hg:Di K.sc id=M)(hw:Ah A3.glob id=G (.top w))(hc:∀h,CW (AQ B.prog B.w) h w)(hp:CP y=M)(sM:CP z=M)(g:Gd B F K A H C s)(h:∀BG EN,Gd B F K A H BG EN->Nx F.D [] s.heap EN.heap C BG->AH (AQ B.prog B.w) A (eval y F.env) (λu s'=>AH (AQ B.prog B.w) A (eval z F.env) (λu' Kb=>AH (AQ B.prog B.w) A (CE w [u,u']) A2 E Kb) E s') E EN):AH (AQ B.prog B.w) A (eval (.Call (.Name id p) [y,z] [] pos) F.env) A2 E s:=by exact Wi (Bl:=Bl) hg hw (show(CP y&&(CP z&&M))=M by rw[hp,sM];rfl) g λA_ AJ AN Ab=>Lq (Fg (h A_ AJ AN Ab) (λu s' q=>Lq (Fg q (λu' Kb q'=>Up ⟨hc _,q'⟩) λ_ _ e=>e) (K7 sM)) λ_ _ e=>e) (K7 hp)
theorem bl5(on:AK)(CR:Kx->Cd->Mine.St->AD A0)(AV:(Bb P).In B.base)(hM:Di K.sc Sl=M)(g:Gd B F K A H C s)(k:∀A_ AJ m,Gd B F K A H A_ AJ->Nx F.D [] s.heap AJ.heap C A_->s.heap.get? m=L->CM B F A_ AJ.heap m->AJ.heap.get? m=G (i4 (.ref 89) (.ref 135))->A2 (.ref m) AJ):AH (AQ B.prog B.w) A (eval (.Attribute (.Name Sl p3) f5 p4) F.env) A2 E s:=by
 have hn:=mL (A3:=Fv on CR) (H:=H) (p:=p3) (w:=.ref 135) hM (by kernel_rfl);skip;refine A5 (bP (GH (on:=on) (CR:=CR) AV) hn g _ _ λu A_ AJ AN Ab Aq=>A5 (El (A5 (C0 ?_))));cases Aq;have sN:(Bb P).In AJ.heap:=λb o e=>AN.base b o (AV b o e);have kp:∀b o,AJ.heap.get? b=G o->(AJ.heap.push (i4 (.ref 89) (.ref 135))).get? b=G o:=λb o e=>C1 _ e;have hg:=CY AJ.heap (o:=i4 (.ref 89) (.ref 135)) rfl;refine cls_bind sN bl0 bl1 (HP (cm_get (s:={AJ with toks:=AJ.toks+1}) sN bl2 (handed_on rfl ?_)));exact A5 (bz6 (AW (k A_ _ _ (AN.ext (tk:=AJ.toks+1) kp) (Ab.trans (Nx.ext kp)) (HC Ab.live (GD _)) (AN.freeOf (GD _) ⟨_,hg⟩) hg)))
theorem Gw.push{w:A4}(a:Gw B F C h D Am)(r:VR h C v w):∃us m,h.get? D=G {cls:=.type "list",data:=.seq us m}/\us.size=Am.length/\(∀Q,E4 D h Q->Q.get? D=G (GL (λx=>x.push w) {cls:=.type "list",data:=.seq us m})->Gw B F C Q D (Am++[v])):=by
 refine Ho a ?_;(try clear a);intro fr us Aw vr;refine xE Aw ?_;(try clear Aw);intro m e;refine⟨us,m,e,by rw[vr.length];simp,λQ hs hd=>⟨fr.at ⟨_,hd⟩,us.push w,⟨_,hd⟩,?_⟩⟩;have im:Dw h Q:=Gs hs.extBut (λo q=>by rw[e]at q;injection q with q;subst q;rfl);rw[VC];exact(vr.Bw im).app ⟨_,_,rfl,r.Bw im,rfl⟩
theorem bl6(AV:(Bb P).In B.base)(A9:C5 B (Fv on CR) n)(hd:K.d=d+1){it mo:A8}(nz:Af.get? z=L)(nT:Af.get? TI=L)(ni:Af.get? it=L)(nD:Af.get? D=L)(nm:Af.get? mo=L)(z1:z≠it)(z2:TI≠it)(z3:D≠it)(z4:mo≠it)(z5:D≠z)(z6:D≠TI)(z7:D≠mo):∀(m k:O){Am l:I V}{H A7:Mine.St}{C:I A8}{s:AR},Vw (Fv on CR) ⟨K.sc,d⟩ (ev (Fv on CR) n) i m k Am H=.ok (.vs l) A7->Am.length<=k->k+m<=1000->Gd B F K A H C s->Nx F.D [] Af s.heap BG C->NM s.heap z TI it (.ref mo)->s.heap.get? mo=G (i4 (.ref 89) (.ref 135))->E6 s.heap C (.lst i) k it->CM B F C s.heap z->CM B F C s.heap TI->CM B F C s.heap it->CM B F C s.heap mo->Gw B F C s.heap D Am->∀{AS:Dt->AR->Prop},(∀AT s',Gd B F K A A7 AT s'->Nx F.D [] Af s'.heap BG AT->Gw B F AT s'.heap D l->AS (.ok (.ret .none)) s')->D7 (AQ B.prog B.w) A.in1 (.builtin "list.extend.loop" ⟨[.ref D,.ref z,.none],[]⟩) AS s:=by
 intro m;induction m with
 |zero=>intro k Am l H A7 C s h;exact(Ac h).elim|succ m ih=>
 intro k Am l H A7 C s h hk hkm g Cv hm f6 Bz fz fT fi fm ac AS kk;refine A0.Bx h ?_;clear h;intro r hr h;refine BI hr λob hl hr=>?_;revert hl;apply IT hr AF;intro Y hr hl
 . injection hr with hr;refine AC Bz ?_;(try clear Bz);intro a ha NJ;refine AC (g.obj hl ha) ?_;intro us hp vr;have hc:∀o,s.heap.get? it=G o->C2 o=A6:=λo e=>by
    refine CZ NJ ?_;(try clear NJ);intro o' e' c _;rw[e']at e;injection e with e;subst e;unfold C2;rw[c];rfl
   refine J4 PySem.F.entry_extend_loop ?_;rw[bz0 bJ4 _];show AH _ _ (ES (.ref z)>>=_) _ _ _;rw[HX]at hr;cases r with
 |none=>
    refine xA (FG h) ?_;intro q B6;subst B6;injection q with q;subst q;refine A5 (bk5 (by simp[g.handled]) hm NJ hp.isList ?_ λQ hs=>?_);. have e:=vr.none hr;simpa using e
    . refine AW (kk C _ (g.move (tk:=s.toks) fi hs hc) (Cv.F2 hs ni) ?_);exact ac.but hs (Gs hs hc) z3|some x=>
    refine A0.Cg h ?_;clear h;intro v AB hv h;refine A0.Bx hv ?_;clear hv;intro fn hf hv;refine AC (vr.get hr) ?_;intro y ey ry;refine A5 (bk4 hm z1 z2 NJ hp.isList (x:=y) (by simpa using ey) λQ hs sO=>?_);have kb:Ds it s.heap Q:=hs.extBut;have im:=Gs kb hc;have AN:=g.move (tk:=s.toks) fi kb hc;have Jh:=Cv.F2 kb ni;have bl7:=ac.but kb im z3;have f7:=kb _ _ z4 f6;have bl8:=ry.Bw im;have dp:=g.depth;have un:=g.units;have AU:Gd B F ⟨K.sc,d⟩ A.in1.in1.in1 H C {s with heap:=Q}:=AN.swap (g.kinds.deep d) g.frames (by simp[g.handled]) (by show A.depth+3*d<900;(with_reducible exact Mine.yJ (by assumption) (by assumption))) (by show A.units+1+1+1+10*d<9000;(with_reducible exact Mine.wL (by assumption) (by assumption)));refine DB ((X0 (on:=on) (CR:=CR) AV).fn 89 fn hf) ?_;intro o fd ok;refine HP (Rb ?_);show AH _ _ (V2 (.ref mo) ⟨[y],[]⟩) _ _ _;unfold V2;refine A5 (NV f7 ?_);show AH _ _ (Kj (.call (.ref 89) ⟨[.ref 135,y],[]⟩)) _ _ _;refine AW ⟨rfl,ae A9 ok hv AU ⟨_,_,rfl,rfl,_,_,rfl,bl8,rfl⟩ λu BS Ax Ap B8 BQ=>?_⟩;have Ap:Gd B F K A AB BS Ax:=Ap.swap (K':=K) (A':=A) g.kinds g.frames g.handled dp un;have sP:=bl7.nx B8 (by simp);refine Bv (sP.push BQ) ?_;intro Dy m' hD Ee up;show AH _ _ (Ru D (λx=>x.push u)>>=λ_=>Kj (.builtin "list.extend.loop" ⟨[.ref D,.ref z,.none],[]⟩)) _ _ _;refine A5 (Ng (hz:=B4 (show Dy.size<=1000 by(with_reducible exact Mine.wO (by assumption) (by assumption) (by assumption))) (by decide)) (_hz':=by rw[Array.size_push];exact B4 (show Dy.size+1<=2000 by omega) (by decide)) hD rfl ?_);have sQ:E4 D Ax.heap (Ax.heap.update D (GL λx=>x.push u)):=Fh ..;have hD4:=FS (GL λx=>x.push u) hD rfl;have k4:Ds D Ax.heap (Ax.heap.update D (GL λx=>x.push u)):=sQ.extBut;have bl9:=(fz.at (Q:=Q) ⟨_,kb _ _ z1 hm.1⟩).nx B8;have bm0:=(fT.at (Q:=Q) ⟨_,kb _ _ z2 hm.2⟩).nx B8;have f9:=(fm.at (Q:=Q) ⟨_,f7⟩).nx B8;have bm1:=(fi.at (Q:=Q) (let⟨o,e,_⟩:=sO;⟨o,e⟩)).nx B8;have sR:=B8.keep z _ (kb _ _ z1 hm.1) fz.C (by simp) (λ_=>rfl);have UY:=B8.keep TI _ (kb _ _ z2 hm.2) fT.C (by simp) (λ_=>rfl);have sS:=B8.keep mo _ f7 fm.C (by simp) (λ_=>rfl);have sU:E6 Ax.heap BS (.lst i) (k+1) it:=E6.nx (it:=.lst i) ⟨a,ha,sO⟩ B8 fi.C (by simp);refine AC sU ?_;(try clear sU);intro a3 ha3 sV;have TF:∀o,Ax.heap.get? D=G o->C2 o=A6:=λo e=>by rw[hD]at e;injection e with e;subst e;rfl
    refine AW ⟨plainId_quiet bJ4 _,ih (k+1) h (by simp;(with_reducible assumption)) (by(with_reducible exact Mine.Yv (by assumption))) (Ap.move (tk:=Ax.toks) sP.1 k4 TF) ((Jh.trans B8).F2 k4 nD) ⟨k4 _ _ (CX z5) sR,k4 _ _ (CX z6) UY⟩ (k4 _ _ (CX z7) sS) ⟨a3,ha3,sV.extBut k4 (CX z3)⟩ (bl9.at ⟨_,k4 _ _ (CX z5) sR⟩) (bm0.at ⟨_,k4 _ _ (CX z6) UY⟩) (bm1.at (let⟨o,e,_⟩:=sV;⟨o,k4 _ _ (CX z3) e⟩)) (f9.at ⟨_,k4 _ _ (CX z7) sS⟩) (up _ sQ hD4) kk⟩
theorem Gd.adopt(g:Gd B F K A H C s)(fD:CM B F C s.heap D)(ho:Ca B.prog B.w s.heap (C++[D]) D o):Gd B F K A (H.new o).2 (C++[D]) s:=by
 refine⟨g.kinds,by simp[Mine.St.new,g.len],?_,λa m=>?_,λa m=>?_,λa m=>?_,λc m=>?_,λi p e=>?_,g.env.ext (J:=[D]) λb o e=>e,g.base,g.os,g.gens,g.frames,g.DT,λA1 m=>?_,g.mods,g.handled,g.depth,g.units⟩
 . refine ID.mpr ⟨g.nodup,by simp,λa ha b hb e=>?_⟩;rw[CI.mp hb]at e;exact fD.C (e▸ha)
 . rcases Dr.mp m with m|m;. exact g.fresh a m
   . rw[CI.mp m];exact fD.base
 . rcases Dr.mp m with m|m;. exact g.live a m
   . rw[CI.mp m];exact fD.live
 . refine G5 (g.D5 a m) ?_;intro h1 h2 h3;refine⟨h1,λz=>?_,h3⟩;rcases Dr.mp z with z|z;. exact h2 z
   . exact fD.w (CI.mp z▸m)
 . refine xA (g.D1 c m) ?_;intro h1 h2;refine⟨λz=>?_,h2⟩;rcases Dr.mp z with z|z;. exact h1 z
   . exact fD.cells c m (CI.mp z)
 . simp only[Mine.St.new,AL]at e;cases q:BC H.n i with
 |true=>
    rw[q]at e;injection e with e;subst e;have :=CD q;exact⟨D,by rw[<-this,<-g.len];simp,ho⟩|false=>
    rw[q]at e;refine AC (g.objs i p e) ?_;intro b p' r;exact⟨b,FY p',r.mono (Dw.refl _) λ_ e=>e⟩
 . refine xA (g.Cy A1 m) ?_;intro h1 h2;refine⟨λz=>?_,h2⟩;rcases Dr.mp z with z|z;. exact h1 z
   . exact fD.outs (CI.mp z▸m)
theorem Nx.adopt(x:Nx AM AZ Af h BG C)(nD:Af.get? D=L):Nx AM AZ Af h BG (C++[D]):=by
 refine AC x.pre ?_;intro J e hb;refine⟨⟨J++[D],by rw[e,Uo],λb m=>?_⟩,x.live,x.Bw,x.same⟩;rcases Dr.mp m with m|m;. exact hb b m
 . rw[CI.mp m];exact nD
theorem sW(AV:(Bb P).In B.base):c9 B (Fv on CR):=by
 intro n A9 Sc K f x args pos v F A H A7 C s hp hf hs h g A2 E k;refine vU (bl3 hs) ?_;intro p p2 p3 p4 Uj BJ BP;subst BJ;subst BP;refine A0.Be h ?_;clear h;intro hc h;simp only[D6]at hc;refine xA hc ?_;(try clear hc);intro Bq h4;refine xA Bq ?_;(try clear Bq);intro Ck h3;obtain⟨h1,h2⟩:=Ck;refine A0.Cg h ?_;clear h;intro w AB hx h;revert hx;apply A0.MU h;clear h;intro i Y hi h hx;refine A0.Be h ?_;clear h;intro pn h;have key:∃d,K.d=d+1:=by cases hd:K.d with
 |zero=>rw[hd]at h;exact(Ac h).elim|succ d=>exact⟨d,rfl⟩
 refine xE key ?_;(try clear key);intro d hd;rw[hd]at h;refine A0.L7 h ?_;clear h;intro l Bc hm h;refine xA (FG h) ?_;intro q Bg;subst Bg;injection q with q;subst q;refine s9 (A3:=Fv on CR) (Bl:=GH AV) h1 (w:=.type "list") (by kernel_rfl) (λ_=>CW.type) rfl g λBG EN Fa Cq=>?_;refine bl4 (A3:=Fv on CR) (Bl:=GH AV) h2 (w:=.type "map") (by kernel_rfl) (λ_=>CW.type) rfl h4 Fa λA_ AJ AN Ab=>?_;refine bl5 on CR AV h3 AN λAu Ai mo AU Al nm fm f6=>?_;refine A9.e hx AU _ _ λu BS Ax Ap B8 BQ=>?_;refine Bv (Ap.listAt BQ hi) ?_;intro a us Bu hp vr;subst Bu;have fA:=B8.keep mo _ f6 fm.C (by simp) (λ_=>rfl);have f9:=fm.nx B8;refine bk3 hp.isList λQ z TI it nz nT ni n1 n2 n3 PN NJ kp=>?_;have CA:=Ap.ext (tk:=Ax.toks) kp;have Cz:Nx F.D [] Ax.heap Q BS BS:=Nx.ext kp;refine bk8 (s:={Ax with heap:=Q}) PN λh5 D c nD hD Kd=>?_;have Cn:=Ap.ext (tk:=Ax.toks) λb o e=>Kd b o (kp b o e);have EL:Nx F.D [] Ax.heap h5 BS BS:=Nx.ext λb o e=>Kd b o (kp b o e);refine AC (id BQ) ?_;intro cb1 haL fB;injection fB with fB;subst fB;have fC:Ax.heap.get? D=L:=by cases e:Ax.heap.get? D with
 |none=>rfl|some o=>rw[kp D o e]at nD;(exfalso;cases nD)
 have Ma:∀{b o},Q.get? b=G o->D≠b:=λe z=>by rw[<-z]at e;exact absurd (e.symm.trans nD) (by simp)
 refine AC (id NJ) ?_;intro oi ei _;have Gv:=(Cq.trans (Ab.trans (Al.trans B8)));have fE:=kp _ _ fA;have nmo:s.heap.get? mo=L:=HC Cq.live (HC Ab.live nm);refine bl6 AV A9 hd (Af:=s.heap) (BG:=C) (mo:=mo) (HC Gv.live nz) (HC Gv.live nT) (HC Gv.live ni) (HC Gv.live fC) nmo n2 n3 (Ma ei) (λz=>by rw[z]at fA;exact absurd (fA.symm.trans ni) (by simp)) (Ma PN.1) (Ma PN.2) (Ma fE) 60 0 (Am:=[]) hm (DF _) (by decide) Cn (Gv.trans EL) ⟨Kd _ _ PN.1,Kd _ _ PN.2⟩ (Kd _ _ fE) ⟨_,haL,(let⟨o,e,r⟩:=NJ;⟨o,Kd _ _ e,r⟩)⟩ (Ap.freeOf nz ⟨_,Kd _ _ PN.1⟩) (Ap.freeOf nT ⟨_,Kd _ _ PN.2⟩) (Ap.freeOf ni ⟨_,Kd _ _ ei⟩) (f9.at ⟨_,Kd _ _ fE⟩) ⟨Ap.freeOf fC ⟨_,hD⟩,#[],⟨_,hD⟩,rfl⟩ λWK TH G_ bm2 sX=>⟨rfl,?_⟩;refine Ho sX ?_;(try clear sX);intro fD us6 C9 v6;refine xE C9 ?_;(try clear C9);intro cb2 e6;exact k _ _ TH (G_.adopt fD (o:=.list l) ⟨us6,⟨cb2,e6⟩,v6.mono (J:=[D]) (Dw.refl _)⟩) (bm2.adopt (HC Gv.live fC)) ⟨D,by rw[<-G_.len];simp,rfl⟩
end
theorem bm3(P:Dq):cM (Bb P) 382 (DE (Ba 26)):=⟨by kernel_rfl,by kernel_rfl,by kernel_rfl,by kernel_rfl,by kernel_rfl,by kernel_rfl⟩
theorem bm4:JH (DE (Ba 26)) [.ref 0,.ref 1]=G [(Fe,.ref 0),(FO,.ref 1)]:=by kernel_rfl
section
variable{CR:Kx->Cd->Mine.St->AD A0}
theorem bm5(AV:(Bb P).In B.base):Xl B:=⟨_,_,Tv AV (by kernel_rfl),Tv AV (by kernel_rfl),by kernel_rfl,by kernel_rfl⟩
theorem bm6:Mk B NL:=⟨λh=>(by exact(BE h).elim),λh=>(by exact(BE h).elim),λh=>(by exact(BE h).elim),λh=>(by exact(BE h).elim),λh=>(by exact(BE h).elim)⟩
theorem bm7:To B NL:=λh=>absurd h (by intro z;exact(E5 z).elim)
theorem bm8(AV:(Bb P).In B.base):Ok B NL (Bb P):=⟨cO AV,nR,cP,X0 AV,GH AV,nV,nU,bm7,sA AV,sW AV,bm6⟩
theorem bm9(AV:(Bb P).In B.base)(hX:AG.length<=100000)(hY:An.length<=100000)(hF:F.outs=F.env::C4)(hf:F.env.frame=G F.env.locals)(g:Gd B F ⟨Lk,d⟩ A ⟨[(Fe,.ref 0),(FO,.ref 1)],[(0,.list (AG.map .str)),(1,.list (An.map .str))],2⟩ C s):CJ B F ⟨Lk,d⟩ A ⟨[],DL AG An (D4 (AG.length+An.length) AG An).1 (D4 (AG.length+An.length) AG An).2,4⟩ C s (J2 (Fj (Ba 26)) F.env) (FR (.ret (.tup L [.ref 2,.ref 3]))):=by
 intro A2 E k;rw[bi2];have AE:=Ww (bm8 AV) 30;refine DH (AE.s.s bi6 g _ _ λu A_ AJ AN Ab Aq=>?_);cases Aq;refine DH (AE.s.s bi7 AN _ _ λu Au Ai AU Al BB=>?_);cases BB;refine DH (AE.s.s bi8 AU _ _ λu BS Ax Ap B8 BQ=>?_);cases BQ;refine DH (AE.s.s bi9 Ap _ _ λu Ic EG CA Cz JP=>?_);cases JP;have CA:Gd B F ⟨Lk,d⟩ A ⟨Ff 0 0,DL AG An [] [],4⟩ Ic EG:=CA.view (λp hp=>by
 simp only[Ff,Cj,Jq,Jr]at hp;rcases hp with rfl|rfl|rfl|rfl|rfl|rfl<;>rfl) (λp hp=>by
 simp only[DL,Cj,Jq,Jr]at hp;rcases hp with rfl|rfl|rfl|rfl<;>rfl);refine vP (bi0 bi4) ?_;intro k0 p1 p2 e;rw[e];refine DH (tG (bi1 (Af:=EG.heap) (BG:=Ic) (bm5 AV) bi5 bi3 hX hY hF hf (AG.length+An.length) (by(with_reducible exact Mine.vd _ _)) (by omega) (Nh _) (Nh _) (DF _) (DF _) CA (Nx.refl ..) λi' j' Eg Cn HI=>?_));refine DH (AE.s.s bj0 Cn _ _ λu WK TH G_ GF sY=>?_);refine AC sY ?_;(try clear sY);intro w Aw Fd;subst Aw;rw[YN,YN]at G_;refine k _ WK TH (G_.view (λp hp=>by(exfalso;cases hp)) (λp hp=>?_)) (Ab.trans (Al.trans (B8.trans (Cz.trans (HI.trans GF))))) ⟨w,rfl,Fd⟩;simp only[DL,Cj,Jq,Jr]at hp;rcases hp with rfl|rfl|rfl|rfl<;>rfl
theorem RP:DV BA (.list (l.map .str))=.list (l.map .str):=by
 show Ob.list (Cr BA _)=_;rw[LP]
theorem bn0(AV:(Bb P).In B.base):To B (Fv on CR):=by
 intro _ F K A H C s i j AG An u u' g Cc hX hY hd hi hj r r';obtain⟨d,hd⟩:∃d,K.d=d+1:=⟨K.d-1,by(with_reducible exact Mine.yI (by assumption))⟩;have hX:=Ef hX;have hY:=Ef hY;refine DB (Ml AV (Mn AV) (bm3 P)) ?_;intro o fd ok;have lt:∀{i o},AL H.h i=G o->i<H.n:=λh=>by
  refine AC (g.objs _ _ h) ?_;intro a ha _;rw[<-g.len];exact(HL.mp ha).1
 have Xs:Sub H ⟨[],[(0,.list (AG.map .str)),(1,.list (An.map .str))],2⟩ [i,j]:=by
  refine⟨rfl,by simp[Cc],λk m=>?_,λk o e=>?_⟩
  . simp only[Cj,Jq,Jr]at m;rcases m with rfl|rfl;. exact lt hi
    . exact lt hj
  . have m:=Sz e;simp only[Cj,Jq,Jr,bG4]at m;rcases m with B6|BJ;refine xA B6 ?_;(try clear B6);intro BP Bq;subst BP;subst Bq;rotate_left;refine xA BJ ?_;(try clear BJ);intro Bg Bu;subst Bg;subst Bu;rotate_left;. exact⟨i,rfl,by rw[RP];exact hi⟩
    . exact⟨j,rfl,by rw[RP];exact hj⟩
 refine n_ (d:=K.d) (MT:=[.ref 0,.ref 1]) (X1:=.tup L [.ref 2,.ref 3]) (AB:=⟨[],DL AG An (D4 (AG.length+An.length) AG An).1 (D4 (AG.length+An.length) AG An).2,4⟩) (B7:=[i,j]) (λ{F A C s us}g' Ft=>aE7 (H:=⟨[],[(0,.list (AG.map .str)),(1,.list (An.map .str))],2⟩) (AB:=⟨[],DL AG An (D4 (AG.length+An.length) AG An).1 (D4 (AG.length+An.length) AG An).2,4⟩) ok bm4 hd (.inr rfl) (λhF hf PE=>bm9 AV hX hY hF hf PE) g' Ft) rfl (DF _) g Xs ?_ (args:=[.ref i,.ref j]) rfl rfl ⟨_,_,rfl,r,_,_,rfl,r',rfl⟩;refine⟨rfl,(show 2<=4 by decide),rfl,λk o e=>?_⟩;simp only[Mine.St.new,AL]at e;cases q:BC (H.n+1) k with
 |true=>
  rw[q]at e;injection e with e;subst e;exact .inl ⟨3,_,rfl,(CD q).symm,RP.symm⟩|false=>
  rw[q]at e;cases q2:BC H.n k with
 |true=>
    rw[q2]at e;injection e with e;subst e;exact .inl ⟨2,_,rfl,(CD q2).symm,RP.symm⟩|false=>
    rw[q2]at e;have e:AL H.h k=G o:=e;by_cases h1:k=i
    . clear Xs Cc r;subst h1;rw[hi]at e;injection e with e;subst e;exact .inl ⟨0,_,rfl,rfl,RP.symm⟩
    . by_cases h2:k=j
      . clear Xs Cc r';subst h2;rw[hj]at e;injection e with e;subst e;exact .inl ⟨1,_,rfl,rfl,RP.symm⟩
      . exact .inr ⟨e,by simp[h1,h2]⟩
end
theorem bn1(B:Bs)(P:Dq)(AV:(Bb P).In B.base):Dg B:=⟨λ_=>bn0 AV,λ_=>sA AV,λ_=>sW AV⟩
theorem bn2:M4={M4 with prog:=SA}:=congrArg (λp=>({M4 with prog:=p}:OpenLaw)) Hq
theorem row_said:OpenLaw.wellSaid M4=M:=by
 rw[bn2];kernel_rfl
end
end Mine
theorem PySem.Challenge.cw_rt0116_01_holds : PySem.Challenge.rw_rt0116_01.Holds := by
 refine holds_law Mine.row_said λsaid=>?_;exact Mine.ba4 (Mine.bb2 Mine.bn1) (by assumption)
