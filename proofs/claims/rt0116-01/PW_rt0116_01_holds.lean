import PyProof.Rows.All
import Wide.All
import OpenK.AllK
import Wide.FinOn
import PyProof.SeqRoads2
import KE.KSortTup
import PyProof.StrBlockL
import PyProof.StrCalls6
import PyProof.StrCalls2
import PyProof.Rows.RuleIs2
import PyProof.StrBlock2
import PyProof.IsiH_set
import PyProof.IsiH_dict
import PyProof.SetNew
import PyProof.SetRoads
import PyProof.DictCalls
import PyProof.Rows.SetObj
import PyProof.LetGo
import PyProof.Rules2
import PyProof.Rows.Nodes
import PyProof.ListIndex
import PyProof.TupleIter
import PyProof.Draws
import PyProof.EnumFor
import PyProof.EnumMake
import PyProof.RulesTry
import PyProof.Rows.TupDisplay
import KE.KxFormat
import PyProof.CallStr
import PyProof.TypeOfCall
import PyProof.RangeFor
import PyProof.IsiPairs
import PyProof.IsiHeapPairs
import PyProof.Methods
import PyProof.StrOps
import PyProof.WalkInts
import PyProof.Rows.RaiseClass
import ObjForm.ListNI
import PyProof.Rows.ListAppend
import PyProof.EqAt
import PyProof.MinMaxWalk
import KE.KDictSum
import PyProof.Rows.SortStr
import PyProof.Rows.SortWalk
import PyProof.ListIndexOut
import PyProof.RulesFinally
import PyProof.ListOps
import PyProof.FString5
import PyProof.Rows.SetFrom
import PyProof.ZipIter
import PyProof.ListNew
import PyProof.EnumIter
import Lean
import PySem.Challenge.RW_rt0116_01
set_option Elab.async false
set_option maxRecDepth 100000
set_option maxHeartbeats 0
set_option linter.all false
set_option tactic.hygienic false
set_option genSizeOf false
set_option genInjectivity false
open PySem PySem.W PySem.Calls
namespace Mine
noncomputable section
open _root_.And renaming intro->Rf
open _root_ renaming Array->BW,Bool->AK,Decidable->si,False->Bj,ForInStep->tN,Int->AX,List->I,Nat->O,Option->AD,String->D9,True->PT,Unit->DM,and_congr->Hn,and_congr_right->ue,beq_eq_false_iff_ne->Lp,beq_iff_eq->Rh,beq_self_eq_true->g9,bne_self_eq_false->YC,decide_eq_false->Rk,decide_eq_false_iff_not->gU,decide_eq_true->Rj,decide_eq_true_eq->PW,dif_neg->D3,exists_congr->HR,if_false->Km,if_neg->CS,if_pos->DA,if_true->Kn,not_or->gi,or_false->Js,reduceIte->vC
open _root_.Array renaming any->sy,any_toList->br4,eq_empty_of_size_eq_zero->bx2,forIn_toList->uO,getElem?_eq_getElem->Rs,getElem?_eq_some_iff->gV,getElem?_toList->Rw,length_toList->VF,mem_toList_iff->gG,mk->YW,toList_inj->tB,toList_push->VE
open _root_.Bool renaming and_eq_true->D6,and_eq_true_iff->bq3,eq_false_iff->tA,false->A6,false_eq_true->Kl,false_ne_true->NX,false_or->bw9,noConfusion->Un,not_eq_true->bs2,not_eq_true'->PU,not_true->bF9,or_eq_false_iff->by7,or_eq_true->u0,or_false->bK2,rec->PQ,true->M
open _root_.Classical renaming byContradiction->bB5
open _root_.Decidable renaming em->bV0
open _root_.Eq renaming trans->uQ
open _root_.ForInStep renaming yield->G3
open _root_.Iff renaming rfl->VI
open _root_.Int renaming add_comm->bz6,add_mul_emod_self_left->bz7,emod_lt_of_pos->bz9,emod_nonneg->bz8,fdiv->t7,fmod->t8,le_of_lt->fX,lt_of_le_of_lt->bC7,lt_of_lt_of_le->bq8,max_le->br0,natAbs_of_nonneg->br1,natCast_nonneg->fU,ne_of_gt->bv2,not_lt->sq,ofNat->f_,ofNat_le->sv,ofNat_lt->fW,toNat_le->br2,toNat_lt->so,toNat_natCast->gL,toNat_of_nonneg->u5
open _root_.Int.ofNat renaming inj->bW0
open _root_.List.Pairwise renaming imp_of_mem->bR5
open _root_.List.Perm renaming cons_inv->bU8,eq_of_pairwise->bD8,swap->bV8
open _root_.List renaming all_cons->tJ,all_eq_true->Bn,any_cons->sx,any_eq_false->YB,any_eq_true->IJ,append_assoc->Uq,append_nil->HO,cons->bq4,cons_prefix_cons->bC3,drop->bu4,drop_drop->bu5,drop_eq_getElem_cons->YM,drop_eq_nil_of_le->bD5,drop_length->Jt,drop_zero->YP,eq_nil_of_length_eq_zero->gz,filterMap_cons->RX,filterMap_cons_some->bB4,filter_cons->Ye,find?_cons->bw8,findIdx?_eq_none_iff->bC8,flatMap_append->bz2,flatMap_cons->Yg,foldl_cons->u4,forIn_cons->Rg,forIn_nil->gt,getD->Kq,getElem?_append_left->Y6,getElem?_append_right->VH,getElem?_cons_zero->bx3,getElem?_drop->uM,getElem?_eq_getElem->Hl,getElem?_eq_none->VG,getElem?_eq_none_iff->fx,getElem?_eq_some_iff->HM,getElem?_inj->RY,getElem?_map->VJ,getElem?_nil->uZ,getElem?_range'->ui,getElem?_take_of_lt->bG4,getElem_mem->gW,isEmpty_iff->Yd,isEmpty_nil->bA3,le_antisymm->bD9,le_trans->bD7,length->Rq,length_append->FD,length_cons->V1,length_drop->V8,length_eraseIdx_of_lt->bJ6,length_filterMap_le->bB3,length_map->Jo,length_range->bz0,length_range'->uj,length_singleton->uJ,length_take->Pf,lookup->gA,lookup_append->bG1,lookup_cons->PX,lookup_cons_self->bG0,map->bH3,map_append->N_,map_congr_left->Yf,map_cons->J4,map_fst_zip->bG3,map_id->bF0,map_inj_left->H6,map_map->Hm,map_nil->tX,mem_append->Dr,mem_append_left->bH4,mem_append_right->Pk,mem_cons->Cj,mem_cons_of_mem->Cp,mem_cons_self->Co,mem_flatMap->uf,mem_iff_getElem->bB7,mem_map->E0,mem_map_of_mem->gx,mem_of_getElem?->Ew,mem_range->Nj,mem_range'_1->bH9,mem_singleton->CI,nil_append->uP,nodup_append->IE,nodup_cons->EU,nodup_iff_pairwise_ne->ud,nodup_nil->HN,not_lt->bD6,not_mem_nil->Jr,pairwise_cons->V0,pairwise_map->gB,pairwise_singleton->gu,perm_ext_iff_of_nodup->bH8,perm_middle->bH1,range->DN,range'->h',rec->Kg,replicate->Y4,replicate_succ->bz4,reverse_cons->YU,take_append_drop->bI0,take_length->bI5,take_of_length_le->gQ,toArray->br6,zip_cons_cons->bB6,zip_nil_right->u_
open _root_.Nat renaming add_assoc->NP,add_comm->Lm,add_le_add->Uo,add_le_add_left->HL,add_le_add_right->Y',add_right_comm->Y3,add_sub_assoc->sn,add_sub_cancel->bq5,add_sub_cancel_left->bH2,add_sub_of_le->bz3,beq->BC,beq_refl->J2,ble->EQ,ble_eq_true_of_le->ug,blt->G1,blt_eq->Rx,div_lt_of_lt_mul->g_,dvd_of_mod_eq_zero->bz5,eq_of_beq_eq_true->CD,eq_sub_of_add_eq'->bq6,le_add_left->fR,le_add_right->H4,le_antisymm->Y2,le_of_ble_eq_true->Dk,le_of_eq->Ek,le_of_lt->Gj,le_of_not_le->uh,le_of_not_lt->fQ,le_of_sub_eq_zero->bD2,le_of_succ_le->uy,le_of_succ_le_succ->sr,le_refl->DF,le_succ->PR,le_succ_of_le->gw,le_trans->B4,log2_lt->bv4,lt_irrefl->J1,lt_min->bq9,lt_of_le_of_lt->H3,lt_of_lt_of_le->J0,lt_of_not_le->br3,lt_of_succ_le->gb,lt_or_ge->bD4,lt_succ_of_le->fV,lt_succ_of_lt->fS,lt_succ_self->PS,min_eq_left->bH7,min_eq_right->bH6,min_le_left->Y1,min_le_right->su,mod_lt->bJ5,mul_le_mul_left->sj,ne_of_gt->PY,ne_of_lt->ER,noConfusion->bB8,not_lt->Us,pos_of_ne_zero->fP,rec->RT,sub_add_cancel->Y0,sub_le->gZ,sub_le_of_le_add->bq7,sub_le_sub_left->fO,sub_sub_right->bG2,sub_sub_self->ua,succ_le_succ->Ln,succ_ne_self->uB,zero_add->Up,zero_le->Ni
open _root_.Nat.succ renaming inj->YT
open _root_.Ne renaming symm->CX
open _root_.Option renaming bind_eq_some_iff->bF5,bind_some->tc,elim->bu3,isSome_iff_exists->ub,map->gY,map_eq_some_iff->uc,none->L,rec->fM,some->G
open _root_.Option.some renaming inj->Bm,injEq->bU4
open _root_.Prod renaming ext->NR,ext_iff->by9,fst->tu
open _root_.Prod.mk renaming injEq->bH5
open PyProof.Rows.Copied renaming pop_at->bU1
open PyProof.Rows.F renaming entry_set_update_loop->bI9
open PyProof.Rows renaming IntsAre->Pj,SortSt->Yb,SortSt->bU5,StrsAre->M4,Subscript_->YQ,add_bool->bS2,append_at->bC9,args_list_sort->uV,args_sorted1->bE4,arrOf->bE9,collect_list->bU3,entry_list_sort->uU,entry_sorted->bE3,is_none_ne->bS8,is_none_none->bS7,isnot_none_ne->bT0,isnot_none_none->bS9,issubclass_outer->bT7,keyKind_strs->bE7,kind_sorted->bE1,listUpdate_at->bF7,list_addW->bv9,list_sort_treeK->bE5,ltCps_eq->bU2,mul_bool->bS4,not_of->bT4,plain_sorted->bE2,seqObj->Yc,seqObj->uS,slot_list_sort->uT,sortRuns'->uY,sortRuns'->bU6,sortedHeap->bU7,sortedHeap_at->uW,sortedHeap_old->uX,sorted_out_str->bE8,strKind_oneLt->bE6,subscriptTail->tp,tail_any->Kp,truthy_none->bR6
open PyProof.Rows.SortSt renaming mk'->bF6
open PySem renaming Addr->A8,Around->CK,Builtin->EB,CmpOp->PP,Comprehension->FP,Const->fN,Const->sh,Data->NQ,DictEntry->FQ,Env->Gi,ExceptHandler->RS,Expr->AA,Flow->HP,FuncData->Kh,GenState->fa,Heap->BK,IsEnum->M2,IsEnumOut->gk,Keyword->Xz,Meets->VC,Model->fb,NameKind->E3,Obj->Bi,Operator->Jk,OsState->H5,Params->Dq,Pos->B9,Program->Hf,Result->Dt,Scope->BU,Sem->Dz,SetTable->G4,Shared->AR,Slot->M1,Stmt->As,Stmt->EA,Str->U,StrKeys->t_,Tok->EP,UniqKeys->ta,Value->A4,World->EC,again->Kk,any_of_findIdx_some->bw4,argsOk->Jp,arm_eval_Call->bt8,assign->Ex,assignAll->fg,assignEach->GK,assignInOrder->NU,backTo->F9,backToKw->Ut,behindInMarks->t9,binaryOp->Ey,bindArgs->g5,bindC->Rb,bindL->Ra,bindName->gj,bindSpecialIfBound?->by0,builtinKind->Rn,builtinLookup_eq_fast->J7,cLine->IK,call->CE,callAny->V4,callGetattribute->bA0,callSpecial?->tj,callSpecialIfBoundUnlessNone?->bx9,callWith->PZ,call_function_tree->bC6,call_meets->uE,cameBackBy->ux,cellOf->Uw,cellsFrom->Jl,checkBoundCall->bA1,checkBuiltinCall->gJ,checkTypeCall->bJ0,clipAt->Hj,clipAt->bs0,code->t3,codeAny->D7,codeAny_builtin->J5,codeAny_call_builtin->Lx,codeAny_loop'->fk,codeAny_mono->v8,codeAny_of_tree->Rc,collect->YG,compPost->tQ,compStart->g7,compTurn->Uv,compareOp->Db,comprehension->bu9,constantsAlone->YS,dictDisplay->YY,dictPut->uD,dictSet->Ri,dictSetDefault->uI,entriesT->br5,entryFor->Lv,entryFor_alias->vA,entryFor_of_tree->YF,evalPairs->uC,eval_ListComp->bu8,execs->J3,fastTable_eq_tree->VN,field->Ko,firstArgMember->V6,firstAsync->Ux,firstIter->Uy,fits_of_scanBound->h_,foldedSetIterable->tD,forTurn->bt0,getAttr->V2,getAttrBy->gd,getAttrByItsOwn->ge,getItem->Pb,getMethod->Jm,getMethod_builtin->gv,holding->Hg,importedModules->uv,isInstance->V5,isSubtype->Rt,isSubtype_stop->gP,isSubtype_type->J8,isTrue->NT,isTrue->bu0,keys_map_store->bw6,keywordEach->Uu,layNew->Yi,letOwnedTupleGo->Y7,methodCall->P_,methodCallForm->bt9,methodCallPos->Jn,model->AQ,newExc->gN,newList->tP,newObj->ti,newTuple->YL,noFill_list_add->bv5,not_mem_of_findIdx_none->bw7,noteFrame->IF,notedBy->RZ,nsFind->Na,partValue->V7,pickOrder->Yl,pick_run->by5,plainId->YJ,pyIter->PV,pyNext->ES,raiseErrorWords->bI4,raiseNew->hZ,rawInt->ET,relabel->tO,relayAll->S',richCompare->uK,rule->YO,scanBound->Pm,seqIndex?->gR,seqItems?->Nf,setAdd->v7,setField->uA,setFlight->hV,setItem->Rl,setNext->vB,signature?_of->i3,sizeLine->FA,slicePick->Hk,slicePick_plain->by3,slicePicked->gT,sliceRange_one->by4,slot_dict_setitem->bx0,slot_list_getitem->Pe,slot_list_setitem->bA9,specialOf->Nd,spliced->Lq,splitId->gK,standAt->Ki,starEach->E',storeAll->YX,storeName->fh,stored->FC,strKind->Ks,strValues->VD,swappedStores->g0,swapsWith->YA,swapsWithSole->bB9,sysModules->NS,table->Lw,theTreesLotGoes->fq,theWindowsPlace->bu1,treeTable->Pl,truthOfDropped->bF8,truthy->tE,typeIs_str->Pd,typeLookup->Pg,typeLookup_type->J6,typeOf->Hh,unsupported->R_,updateSeq->Rv,valueAt->Ls,wants->Ya,whileTurn->bs9,wpAny->AH,wpAny_Assign_Name->bI6,wpAny_Assign_stores->g4,wpAny_AugAssign_Name->bt5,wpAny_BinOp->tF,wpAny_Compare1->bs5,wpAny_Constant_bool->tC,wpAny_Constant_int->bs4,wpAny_Constant_str->ff,wpAny_Expr_any->bt3,wpAny_For->Y9,wpAny_If->tH,wpAny_Return_some->tI,wpAny_Slice->tw,wpAny_Try_except->bC2,wpAny_UnaryOp->bA7,wpAny_While->tK,wpAny_alloc->YH,wpAny_askSetting->Rd,wpAny_assign_Name->bt4,wpAny_assign_Tuple->bs8,wpAny_attempt->Ro,wpAny_bind->A5,wpAny_call->HQ,wpAny_callSpecial?_slot->Lu,wpAny_call_entry->Gn,wpAny_comprehension_free->gC,wpAny_dictEntries->Y_,wpAny_dictEpoch->uN,wpAny_dictFind_of->tS,wpAny_execs_cons->DH,wpAny_execs_nil->G2,wpAny_field->Gp,wpAny_forIn_list->gq,wpAny_getItem_list->tq,wpAny_getItem_list_slice->tv,wpAny_handled->to,wpAny_holding->C0,wpAny_isInstance->Lz,wpAny_isTrue_Compare1->fj,wpAny_isTrue_value->tG,wpAny_ite->g8,wpAny_ite_split->Pa,wpAny_items_cons->Lr,wpAny_items_nil->Ur,wpAny_letGo->Ph,wpAny_letTemporaryGo->bA8,wpAny_listSubscript_int->bB1,wpAny_load->NW,wpAny_loadPart->bx4,wpAny_loadPart'->YZ,wpAny_mkText->u6,wpAny_mono->Fg,wpAny_newFunctionEnv->bu7,wpAny_newList->uR,wpAny_newObj_type->IG,wpAny_newTuple->gm,wpAny_notOrdered_dict->bx1,wpAny_noted->fw,wpAny_notedAt->bu2,wpAny_of_eq->NY,wpAny_onRaise->Y8,wpAny_pure->AW,wpAny_pyIter_dict->bt2,wpAny_pyIter_list->fy,wpAny_pyIter_slot->vD,wpAny_pyNext_list_end->bt1,wpAny_pyNext_list_item->tL,wpAny_release->by2,wpAny_rule->Gm,wpAny_runValue->uw,wpAny_seqItemAt->bB2,wpAny_seqItems->Ng,wpAny_sequenceKey->tY,wpAny_setEntries_of->bJ9,wpAny_setField->Ly,wpAny_setField_rec->YV,wpAny_setState_of->Yk,wpAny_specialOf->YN,wpAny_standAt->El,wpAny_storeName_cell->bs7,wpAny_storeName_local->bs6,wpAny_storeSet_of->bI8,wpAny_throw->gO,wpAny_truthy_bool->NV,wpAny_tryCatch->Pc,wpAny_typeOf->Ru,wpAny_updateDict->bw5,wpAny_updateDictKeys->tU,wpAny_updateSeq->Nh
open PySem.Around renaming under_plainId->bA2
open PySem.AutoIntOps renaming add_0->bR9,floordiv_1->bS1,iadd_0->bv1,isub_0->bR7,mod_1->bR8,sub_0->bS0
open PySem.Bind renaming checkArgs->u8,lastOf->VB
open PySem.Builtin.Builtins renaming bindParams->bD3
open PySem.Builtin.Dict renaming missed->bT3,notOrdered->bS5
open PySem.Builtin.Frozenset renaming oneOther->bT2,updateFrom->bJ4
open PySem.Builtin.List renaming listExtendWith->Ym,listItems->bK3,listLengthHint->i5,listSameRef->i6,listSubscript?->bB0,listTooLong->bV7,listTouch->bW2,listUpdate->bW1
open PySem.Builtin.SmallTypes renaming ownedTupleHandOut->bT6,ownedTupleIsFree->bT5
open PySem.Builtin.Str renaming strSliceIndices->Rp,tooLong->bT1
open PySem.Builtin.Tuple renaming tupleCompareSizes->bD1
open PySem.Builtin renaming divisionGoesByPylong->bv3
open PySem.Calls renaming Name_function_global->bA5,call_function_entry->bE0,evalArgs_plain->tM,loadGlobal_builtin->bA6
open PySem.Challenge renaming pw_rt0116_01->Dp,rw_rt0116_01->M5
open PySem.Code renaming builtin->td,quiet_builtin->th
open PySem.Comprehension renaming mk->bU9
open PySem.Const.str renaming elim->bq2
open PySem.Data.dict renaming elim->t5
open PySem.Data.fields renaming elim->t6
open PySem.Data.func renaming elim->bG8
open PySem.Data renaming seq->gy
open PySem.Data.seq renaming elim->bG9
open PySem.DictEntry renaming refKey->bS6
open PySem.EntryCells renaming newEntry->bV6
open PySem.Expr.Attribute renaming elim->se
open PySem.Expr.BinOp renaming elim->bp1
open PySem.Expr.Call renaming elim->bo8
open PySem.Expr.Compare renaming elim->bp0
open PySem.Expr.Constant renaming elim->bo6
open PySem.Expr.ListComp renaming elim->bp2
open PySem.Expr.Name renaming elim->bo5
open PySem.Expr.Slice renaming elim->sg
open PySem.Expr.Subscript renaming elim->bo9
open PySem.Expr.Tuple renaming elim->bo7
open PySem.Expr renaming casesOn->bR3
open PySem.F renaming args_enumerate_next_1->bC1,args_list_add_2->bv8,args_str_split_2->uG,args_tuple_iterator_next_1->bx8,called_set->bJ1,entry_dict_get->bA4,entry_enumerate_next->bC0,entry_list_add->bv7,entry_max_loop->uL,entry_str_split->uF,entry_tuple_iterator_next->bx7,plainAttrs_list->bF3,plain_extend_loop->vE,plain_extend_loop->bK4,plain_max_loop->gr,slot_dict_get->u9,slot_dict_getattribute->gf,slot_dict_getitem->by8,slot_dict_setdefault->bD0,slot_enumerate_next->gl,slot_list_add->bv6,slot_list_append->bF1,slot_set_getattribute->gc,slot_set_iter->bK0,slot_str_getitem->by6,slot_str_split->gn,slot_tuple_iterator_next->YK,type_list_append->bF2
open PySem.Heap.DictAt renaming nodup->V'
open PySem.Heap renaming ExtBut->Ds,SameBut->E4,get?_none_of_le->i7,get?_push_of_some->C1,get?_push_size->CY,get?_update_other->GO,get?_update_self->FS,lt_size->Dh,push->bK1,size_push->II
open PySem.Heap.FunFrames renaming cons->bR4,of_keeps->bt6
open PySem.Heap.IsList renaming push->bJ3
open PySem.Heap.SameBut renaming refl->gD,update->Fh
open PySem.IntBool renaming add_bool_int->bS3
open PySem.IsPart renaming none->gX
open PySem.IsiPair renaming dict_str->bT8,str_bytes->bU0,str_str->bT9
open PySem.Made renaming str->tR
open PySem.Manifest renaming owners->bJ7,signature?->gh,varargsMethods->u7
open PySem.MeetsSeq.EqGives renaming int->tz
open PySem.NameKind renaming cell->bu6,free->GL
open PySem.Obj renaming cls_mapFields->tm,data_mapDict->gE,data_mapDictKeys->Uz,data_mapFields->gM,isFreed_of_dict->YD,isFreed_of_fields->tl,mapFields->Rz,mapSeq->GN,putSet->Yj
open PySem.P renaming eq_str->bw2,gt_int->bw1,lt_int->bw0,lt_str->bw3
open PySem.SeqAt renaming EqAt->Rr
open PySem.SeqRoads2.EqGives renaming str->bz1
open PySem.SetTable renaming below->i4,fits->bJ8,grown->VM,laid->bI7,orStandIn->uz
open PySem.SetTable.below renaming go->bV9
open PySem.Shared renaming TypeIs->bJ2
open PySem.Stmt.Assign renaming elim->bp7
open PySem.Stmt.AugAssign renaming elim->bp8
open PySem.Stmt.Break renaming elim->bq0
open PySem.Stmt.ClassDef renaming elim->bR2
open PySem.Stmt.Expr renaming elim->bp6
open PySem.Stmt.For renaming elim->bp3
open PySem.Stmt.FunctionDef renaming elim->bQ9
open PySem.Stmt.If renaming elim->bp5
open PySem.Stmt.Return renaming elim->bq1
open PySem.Stmt.Try renaming elim->bp9
open PySem.Stmt.While renaming elim->bp4
open PySem.Str renaming append->bv0,empty->RW,mk->uH,ofString->Ev,ofString->M3
open PySem.Str.mk renaming injEq->bs3
open PySem.Txt renaming replace->bs1,split->Y5,startswith->bC4
open PySem.Value renaming bool->NZ,builtin->by1,int->V9,isStr->tb,isStrOf->YR,noConfusion->VA,none->Hi,ref->Jq,str->M0,type->Kr
open PySem.Value.bool renaming elim->bG6
open PySem.Value.builtin renaming elim->br9
open PySem.Value.int renaming elim->bH0
open PySem.Value.none renaming elim->bG5
open PySem.Value.ref renaming elim->br8,inj->bF4
open PySem.Value.str renaming elim->bG7
open PySem.Value.type renaming elim->br7
open PySem.W.Fast renaming te10110043849684766642->ul,te11892475500146522536->bV2,te12563942051412417395->uo,te14082659384304107361->bV4,te14364793385576792824->fZ,te14374325043358763698->bV3,te15667345088766844465->bV1,te17119622794617984870->Yn,te4187177175401517315->bV5,te4202317264376624991->bR1,te8326940854005059898->bK5,tw14364793385576792824->bR0,tw4202317264376624991->fY
open PySem.W renaming Frag->Gh,Looks->Gk,SharedT->Yh,boot_drawn->Ry,boot_toks->uq,callWith_of->g6,check_slot->YI,emptyDict->gH,findCls->te,findIn->Go,instObj->gI,lookIn->gF,look_both->S1,looks_findIn->Nb,looks_specialIn->bx6,looks_subIn->V3,methodObj->i8,peek->Rm,piece_app->ur,piecesOf->VK,readsAllW_cons_inv->bI3,readsAllW_nil_inv->bI2,readsOut->S0,segRunT->uk,segRun_of->ut,subIn->YE,topFrame->VL,typeIn->tZ
open PySem.W.KFm renaming call_k->bC5
open PySem.W.Looks renaming ld->Kj,of_peek->Nc,of_pure->bt7
open PySem.W.OpenLaw renaming wellSaid->bK6
open PySem.W.WShape renaming hasAll->bI1
open PySem.callAny renaming viaDunder->bx5
open PySem.pickOrder renaming go->v9
open _root_.String renaming ofList->t4
noncomputable def oS{C J:Type}(o:AD C)(d:J)(k:C->J):J:=fM (motive:=λ_=>J) d k o
noncomputable def H7{C EH J:Type}(k:C->EH->J)(p:C×EH):J:=Prod.rec (motive:=λ_=>J) k p
theorem oV{C J:Type}{o:AD C}{d:J}{k:C->J}{r:J}(e:o=L)(h:oS o d k=r):d=r:=by subst e;exact h
noncomputable def vG(e:AA):AD (U×B9):=if h:e.ctorIdx=23 then bo5 (motive_1:=λ_=>AD (U×B9)) e h (λa0 a1=>G (a0,a1))else L
noncomputable def DO{J:Type}(e:AA)(d:J)(k:U->B9->J):J:=oS (vG e) d (H7 k)
theorem i9{J:Type}{e:AA}{d:J}{k:U->B9->J}{r:J}(h:DO e d k=r){P:AA->Prop}(c:∀a0 a1,k a0 a1=r->P (.Name a0 a1))(n:d=r->P e):P e:=if q:e.ctorIdx=23 then bo5 (motive_1:=λe=>DO e d k=r->P e) e q (λa0 a1 h=>c a0 a1 h) h else n (oV (D3 q) h)
theorem EV{J:Type}{e:AA}{d:J}{k:U->B9->J}{r:J}(h:DO e d k=r)(hd:d=r->Bj){P:AA->Prop}(c:∀a0 a1,k a0 a1=r->P (.Name a0 a1)):P e:=i9 h c λe=>(hd e).elim
noncomputable def HS{J:Type}(e:AA)(d:J)(k:fN->O->B9->J):J:=if h:e.ctorIdx=19 then bo6 (motive_1:=λ_=>J) e h k else d
theorem J9{J:Type}{e:AA}{d:J}{k:fN->O->B9->J}{r:J}(h:HS e d k=r)(hd:d=r->Bj){P:AA->Prop}(c:∀a0 a1 a2,k a0 a1 a2=r->P (.Constant a0 a1 a2)):P e:=if q:e.ctorIdx=19 then bo6 (motive_1:=λe=>HS e d k=r->P e) e q (λa0 a1 a2 h=>c a0 a1 a2 h) h else(hd ((D3 q).symm.trans h)).elim
noncomputable def vH(e:AA):AD (I AA×O×B9):=if h:e.ctorIdx=25 then bo7 (motive_1:=λ_=>AD (I AA×O×B9)) e h (λa0 a1 a2=>G (a0,a1,a2))else L
noncomputable def Ju{J:Type}(e:AA)(d:J)(k:I AA->O->B9->J):J:=oS (vH e) d (H7 λa=>H7 (k a))
theorem iA{J:Type}{e:AA}{d:J}{k:I AA->O->B9->J}{r:J}(h:Ju e d k=r){P:AA->Prop}(c:∀a0 a1 a2,k a0 a1 a2=r->P (.Tuple a0 a1 a2))(n:d=r->P e):P e:=if q:e.ctorIdx=25 then bo7 (motive_1:=λe=>Ju e d k=r->P e) e q (λa0 a1 a2 h=>c a0 a1 a2 h) h else n (oV (D3 q) h)
theorem S2{J:Type}{e:AA}{d:J}{k:I AA->O->B9->J}{r:J}(h:Ju e d k=r)(hd:d=r->Bj){P:AA->Prop}(c:∀a0 a1 a2,k a0 a1 a2=r->P (.Tuple a0 a1 a2)):P e:=iA h c λe=>(hd e).elim
noncomputable def vI(e:AA):AD (AA×I AA×I Xz×B9):=if h:e.ctorIdx=16 then bo8 (motive_1:=λ_=>AD (AA×I AA×I Xz×B9)) e h (λa0 a1 a2 a3=>G (a0,a1,a2,a3))else L
noncomputable def ED{J:Type}(e:AA)(d:J)(k:AA->I AA->I Xz->B9->J):J:=oS (vI e) d (H7 λa=>H7 λb=>H7 (k a b))
theorem M6{J:Type}{e:AA}{d:J}{k:AA->I AA->I Xz->B9->J}{r:J}(h:ED e d k=r)(hd:d=r->Bj){P:AA->Prop}(c:∀a0 a1 a2 a3,k a0 a1 a2 a3=r->P (.Call a0 a1 a2 a3)):P e:=if q:e.ctorIdx=16 then bo8 (motive_1:=λe=>ED e d k=r->P e) e q (λa0 a1 a2 a3 h=>c a0 a1 a2 a3 h) h else(hd (oV (D3 q) h)).elim
noncomputable def vJ(e:AA):AD (AA×U×B9):=if h:e.ctorIdx=20 then se (motive_1:=λ_=>AD (AA×U×B9)) e h (λa0 a1 a2=>G (a0,a1,a2))else L
noncomputable def H8{J:Type}(e:AA)(d:J)(k:AA->U->B9->J):J:=oS (vJ e) d (H7 λa=>H7 (k a))
theorem S3{J:Type}{e:AA}{d:J}{k:AA->U->B9->J}{r:J}(h:H8 e d k=r)(hd:d=r->Bj){P:AA->Prop}(c:∀a0 a1 a2,k a0 a1 a2=r->P (.Attribute a0 a1 a2)):P e:=if q:e.ctorIdx=20 then se (motive_1:=λe=>H8 e d k=r->P e) e q (λa0 a1 a2 h=>c a0 a1 a2 h) h else(hd (oV (D3 q) h)).elim
noncomputable def vK(e:AA):AD (AA×AA×B9):=if h:e.ctorIdx=21 then bo9 (motive_1:=λ_=>AD (AA×AA×B9)) e h (λa0 a1 a2=>G (a0,a1,a2))else L
noncomputable def JA{J:Type}(e:AA)(d:J)(k:AA->AA->B9->J):J:=oS (vK e) d (H7 λa=>H7 (k a))
theorem vL{J:Type}{e:AA}{d:J}{k:AA->AA->B9->J}{r:J}(h:JA e d k=r){P:AA->Prop}(c:∀a0 a1 a2,k a0 a1 a2=r->P (.Subscript a0 a1 a2))(n:d=r->P e):P e:=if q:e.ctorIdx=21 then bo9 (motive_1:=λe=>JA e d k=r->P e) e q (λa0 a1 a2 h=>c a0 a1 a2 h) h else n (oV (D3 q) h)
theorem Nk{J:Type}{e:AA}{d:J}{k:AA->AA->B9->J}{r:J}(h:JA e d k=r)(hd:d=r->Bj){P:AA->Prop}(c:∀a0 a1 a2,k a0 a1 a2=r->P (.Subscript a0 a1 a2)):P e:=vL h c λe=>(hd e).elim
noncomputable def Kt{J:Type}(e:AA)(d:J)(k:AA->I PP->I AA->B9->J):J:=if h:e.ctorIdx=15 then bp0 (motive_1:=λ_=>J) e h k else d
theorem S4{J:Type}{e:AA}{d:J}{k:AA->I PP->I AA->B9->J}{r:J}(h:Kt e d k=r)(hd:d=r->Bj){P:AA->Prop}(c:∀a0 a1 a2 a3,k a0 a1 a2 a3=r->P (.Compare a0 a1 a2 a3)):P e:=if q:e.ctorIdx=15 then bp0 (motive_1:=λe=>Kt e d k=r->P e) e q (λa0 a1 a2 a3 h=>c a0 a1 a2 a3 h) h else(hd ((D3 q).symm.trans h)).elim
noncomputable def Nl{J:Type}(e:AA)(d:J)(k:AA->Jk->AA->B9->J):J:=if h:e.ctorIdx=2 then bp1 (motive_1:=λ_=>J) e h k else d
theorem iB{J:Type}{e:AA}{d:J}{k:AA->Jk->AA->B9->J}{r:J}(h:Nl e d k=r)(hd:d=r->Bj){P:AA->Prop}(c:∀a0 a1 a2 a3,k a0 a1 a2 a3=r->P (.BinOp a0 a1 a2 a3)):P e:=if q:e.ctorIdx=2 then bp1 (motive_1:=λe=>Nl e d k=r->P e) e q (λa0 a1 a2 a3 h=>c a0 a1 a2 a3 h) h else(hd ((D3 q).symm.trans h)).elim
noncomputable def IL{J:Type}(e:AA)(d:J)(k:AA->I FP->BU->B9->J):J:=if h:e.ctorIdx=8 then bp2 (motive_1:=λ_=>J) e h k else d
theorem Yo{J:Type}{e:AA}{d:J}{k:AA->I FP->BU->B9->J}{r:J}(h:IL e d k=r)(hd:d=r->Bj){P:AA->Prop}(c:∀a0 a1 a2 a3,k a0 a1 a2 a3=r->P (.ListComp a0 a1 a2 a3)):P e:=if q:e.ctorIdx=8 then bp2 (motive_1:=λe=>IL e d k=r->P e) e q (λa0 a1 a2 a3 h=>c a0 a1 a2 a3 h) h else(hd ((D3 q).symm.trans h)).elim
noncomputable def vM(e:AA):AD (AD AA×AD AA×AD AA×B9):=if h:e.ctorIdx=26 then sg (motive_1:=λ_=>AD (AD AA×AD AA×AD AA×B9)) e h (λa0 a1 a2 a3=>G (a0,a1,a2,a3))else L
noncomputable def Nm{J:Type}(e:AA)(d:J)(k:AD AA->AD AA->AD AA->B9->J):J:=oS (vM e) d (H7 λa=>H7 λb=>H7 (k a b))
theorem iC{J:Type}{e:AA}{d:J}{k:AD AA->AD AA->AD AA->B9->J}{r:J}(h:Nm e d k=r)(hd:d=r->Bj){P:AA->Prop}(c:∀a0 a1 a2 a3,k a0 a1 a2 a3=r->P (.Slice a0 a1 a2 a3)):P e:=if q:e.ctorIdx=26 then sg (motive_1:=λe=>Nm e d k=r->P e) e q (λa0 a1 a2 a3 h=>c a0 a1 a2 a3 h) h else(hd (oV (D3 q) h)).elim
noncomputable def G5{J:Type}(e:EA)(d:J)(k:AA->AA->I As->I As->B9->J):J:=if h:e.ctorIdx=9 then bp3 (motive_2:=λ_=>J) e h k else d
theorem iD{J:Type}{e:EA}{d:J}{k:AA->AA->I As->I As->B9->J}{r:J}(h:G5 e d k=r)(hd:d=r->Bj){P:EA->Prop}(c:∀a0 a1 a2 a3 a4,k a0 a1 a2 a3 a4=r->P (.For a0 a1 a2 a3 a4)):P e:=if q:e.ctorIdx=9 then bp3 (motive_2:=λe=>G5 e d k=r->P e) e q (λa0 a1 a2 a3 a4 h=>c a0 a1 a2 a3 a4 h) h else(hd ((D3 q).symm.trans h)).elim
noncomputable def S5{J:Type}(e:EA)(d:J)(k:AA->I As->I As->B9->J):J:=if h:e.ctorIdx=11 then bp4 (motive_2:=λ_=>J) e h k else d
theorem iE{J:Type}{e:EA}{d:J}{k:AA->I As->I As->B9->J}{r:J}(h:S5 e d k=r)(hd:d=r->Bj){P:EA->Prop}(c:∀a0 a1 a2 a3,k a0 a1 a2 a3=r->P (.While a0 a1 a2 a3)):P e:=if q:e.ctorIdx=11 then bp4 (motive_2:=λe=>S5 e d k=r->P e) e q (λa0 a1 a2 a3 h=>c a0 a1 a2 a3 h) h else(hd ((D3 q).symm.trans h)).elim
noncomputable def Jv{J:Type}(e:EA)(d:J)(k:AA->I As->I As->B9->J):J:=if h:e.ctorIdx=12 then bp5 (motive_2:=λ_=>J) e h k else d
theorem Yp{J:Type}{e:EA}{d:J}{k:AA->I As->I As->B9->J}{r:J}(h:Jv e d k=r)(hd:d=r->Bj){P:EA->Prop}(c:∀a0 a1 a2 a3,k a0 a1 a2 a3=r->P (.If a0 a1 a2 a3)):P e:=if q:e.ctorIdx=12 then bp5 (motive_2:=λe=>Jv e d k=r->P e) e q (λa0 a1 a2 a3 h=>c a0 a1 a2 a3 h) h else(hd ((D3 q).symm.trans h)).elim
noncomputable def Pn{J:Type}(e:EA)(d:J)(k:AA->B9->J):J:=if h:e.ctorIdx=24 then bp6 (motive_2:=λ_=>J) e h k else d
theorem Yq{J:Type}{e:EA}{d:J}{k:AA->B9->J}{r:J}(h:Pn e d k=r)(hd:d=r->Bj){P:EA->Prop}(c:∀a0 a1,k a0 a1=r->P (.Expr a0 a1)):P e:=if q:e.ctorIdx=24 then bp6 (motive_2:=λe=>Pn e d k=r->P e) e q (λa0 a1 h=>c a0 a1 h) h else(hd ((D3 q).symm.trans h)).elim
noncomputable def Po{J:Type}(e:EA)(d:J)(k:I AA->AA->B9->J):J:=if h:e.ctorIdx=5 then bp7 (motive_2:=λ_=>J) e h k else d
theorem iF{J:Type}{e:EA}{d:J}{k:I AA->AA->B9->J}{r:J}(h:Po e d k=r)(hd:d=r->Bj){P:EA->Prop}(c:∀a0 a1 a2,k a0 a1 a2=r->P (.Assign a0 a1 a2)):P e:=if q:e.ctorIdx=5 then bp7 (motive_2:=λe=>Po e d k=r->P e) e q (λa0 a1 a2 h=>c a0 a1 a2 h) h else(hd ((D3 q).symm.trans h)).elim
noncomputable def VO{J:Type}(e:EA)(d:J)(k:AA->Jk->AA->B9->J):J:=if h:e.ctorIdx=7 then bp8 (motive_2:=λ_=>J) e h k else d
theorem iG{J:Type}{e:EA}{d:J}{k:AA->Jk->AA->B9->J}{r:J}(h:VO e d k=r)(hd:d=r->Bj){P:EA->Prop}(c:∀a0 a1 a2 a3,k a0 a1 a2 a3=r->P (.AugAssign a0 a1 a2 a3)):P e:=if q:e.ctorIdx=7 then bp8 (motive_2:=λe=>VO e d k=r->P e) e q (λa0 a1 a2 a3 h=>c a0 a1 a2 a3 h) h else(hd ((D3 q).symm.trans h)).elim
noncomputable def Nn{J:Type}(e:EA)(d:J)(k:I As->I RS->I As->I As->B9->J):J:=if h:e.ctorIdx=17 then bp9 (motive_2:=λ_=>J) e h k else d
theorem iH{J:Type}{e:EA}{d:J}{k:I As->I RS->I As->I As->B9->J}{r:J}(h:Nn e d k=r)(hd:d=r->Bj){P:EA->Prop}(c:∀a0 a1 a2 a3 a4,k a0 a1 a2 a3 a4=r->P (.Try a0 a1 a2 a3 a4)):P e:=if q:e.ctorIdx=17 then bp9 (motive_2:=λe=>Nn e d k=r->P e) e q (λa0 a1 a2 a3 a4 h=>c a0 a1 a2 a3 a4 h) h else(hd ((D3 q).symm.trans h)).elim
noncomputable def Yr{J:Type}(e:EA)(d:J)(k:B9->J):J:=if h:e.ctorIdx=26 then bq0 (motive_2:=λ_=>J) e h k else d
theorem vN{J:Type}{e:EA}{d:J}{k:B9->J}{r:J}(h:Yr e d k=r)(hd:d=r->Bj){P:EA->Prop}(c:∀a0,k a0=r->P (.Break a0)):P e:=if q:e.ctorIdx=26 then bq0 (motive_2:=λe=>Yr e d k=r->P e) e q (λa0 h=>c a0 h) h else(hd ((D3 q).symm.trans h)).elim
noncomputable def S6{J:Type}(e:EA)(d:J)(k:AD AA->B9->J):J:=if h:e.ctorIdx=3 then bq1 (motive_2:=λ_=>J) e h k else d
theorem vO{J:Type}{e:EA}{d:J}{k:AD AA->B9->J}{r:J}(h:S6 e d k=r)(hd:d=r->Bj){P:EA->Prop}(c:∀a0 a1,k a0 a1=r->P (.Return a0 a1)):P e:=if q:e.ctorIdx=3 then bq1 (motive_2:=λe=>S6 e d k=r->P e) e q (λa0 a1 h=>c a0 a1 h) h else(hd ((D3 q).symm.trans h)).elim
noncomputable def VP{J:Type}(e:EA)(d:J)(k:U->Arguments->I As->I AA->AD AA->I TypeParam->BU->AD BU->U->B9->J):J:=if h:e.ctorIdx=0 then bQ9 (motive_2:=λ_=>J) e h k else d
noncomputable def Pp{J:Type}(e:sh)(d:J)(k:U->J):J:=if h:e.ctorIdx=5 then bq2 (motive:=λ_=>J) e h k else d
theorem Ys{J:Type}{e:sh}{d:J}{k:U->J}{r:J}(h:Pp e d k=r)(hd:d=r->Bj){P:sh->Prop}(c:∀a0,k a0=r->P (.str a0)):P e:=if q:e.ctorIdx=5 then bq2 (motive:=λe=>Pp e d k=r->P e) e q (λa0 h=>c a0 h) h else(hd ((D3 q).symm.trans h)).elim
theorem iI{J:Type}{e:AA}{d:J}{k:AA->U->B9->J}{r:J}(h:H8 e d k=r){P:AA->Prop}(c:∀a0 a1 a2,k a0 a1 a2=r->P (.Attribute a0 a1 a2))(e0:e.ctorIdx≠20->d=r->P e):P e:=if q:e.ctorIdx=20 then se (motive_1:=λe=>H8 e d k=r->P e) e q (λa0 a1 a2 h=>c a0 a1 a2 h) h else e0 q (oV (D3 q) h)
theorem vP{J:Type}{e:AA}{d:J}{k:AD AA->AD AA->AD AA->B9->J}{r:J}(h:Nm e d k=r){P:AA->Prop}(c:∀a0 a1 a2 a3,k a0 a1 a2 a3=r->P (.Slice a0 a1 a2 a3))(e0:e.ctorIdx≠26->d=r->P e):P e:=if q:e.ctorIdx=26 then sg (motive_1:=λe=>Nm e d k=r->P e) e q (λa0 a1 a2 a3 h=>c a0 a1 a2 a3 h) h else e0 q (oV (D3 q) h)
theorem AF{J:Type}{x:J}(h:L=G x):Bj:=by contradiction
theorem B0(h:A6=M):Bj:=Un h
noncomputable def l0{C J:Type}(l:I C)(d k:J):J:=Kg (motive:=λ_=>J) k (λ_ _ _=>d) l
noncomputable def l1{C J:Type}(l:I C)(d:J)(k:C->J):J:=Kg (motive:=λ_=>J) d (λx t _=>l0 t d (k x)) l
theorem EW{C J:Type}{l:I C}{d k r:J}(h:l0 l d k=r)(hd:d=r->Bj){P:I C->Prop}(c:k=r->P []):P l:=by cases l with
 |nil=>exact c h|cons x t=>exact(hd h).elim
theorem Cs{C J:Type}{l:I C}{d:J}{k:C->J}{r:J}(h:l1 l d k=r)(hd:d=r->Bj){P:I C->Prop}(c:∀x,k x=r->P [x]):P l:=by cases l with
 |nil=>exact(hd h).elim|cons x t=>cases t with
 |nil=>exact c x h|cons y t=>exact(hd h).elim
noncomputable def Yt{J:Type}(e:RS)(k:AD AA->AD U->I As->B9->J):J:=match e with|.ExceptHandler t n b p=>k t n b p
theorem vQ{J:Type}{e:RS}{k:AD AA->AD U->I As->B9->J}{r:J}(h:Yt e k=r){P:RS->Prop}(c:∀t n b p,k t n b p=r->P (.ExceptHandler t n b p)):P e:=by cases e;exact c _ _ _ _ h
noncomputable def lC{C J:Type}(l:I C)(d:J)(k:C->I C->J):J:=Kg (motive:=λ_=>J) d (λx t _=>k x t) l
theorem FT{C J:Type}{l:I C}{d:J}{k:C->I C->J}{r:J}(h:lC l d k=r)(hd:d=r->Bj){P:I C->Prop}(c:∀x t,k x t=r->P (x::t)):P l:=by cases l with
 |nil=>exact(hd h).elim|cons x t=>exact c x t h
noncomputable def Yu{C J:Type}(l:I C)(d:J)(k:C->J)(k':C->C->J):J:=lC l d λx t=>match t with|[]=>k x|y::t=>l0 t d (k' x y)
theorem iJ{C J:Type}{l:I C}{d:J}{k:C->J}{k':C->C->J}{r:J}(h:Yu l d k k'=r)(hd:d=r->Bj){P:I C->Prop}(c:∀x,k x=r->P [x])(c':∀x y,k' x y=r->P [x,y]):P l:=by
 apply FT h hd;intro x t h;cases t with
 |nil=>exact c x h|cons y t=>apply EW h hd;intro h;exact c' x y h
theorem Jw{a b:AK}{P:Prop}(h:(a||b)=M)(l:a=M->P)(r:b=M->P):P:=by cases a with
 |true=>exact l rfl|false=>exact r h
theorem GP{C:Type}{a b:AD C}{v:C}{P:Prop}(h:a.or b=G v)(l:a=G v->P)(r:b=G v->P):P:=by cases a with
 |some x=>exact l h|none=>exact r h
noncomputable def l2{C J:Type}(l:I C)(d:J)(k:C->C->J):J:=lC l d λx t=>l1 t d λy=>k x y
theorem Ho{C J:Type}{l:I C}{d:J}{k:C->C->J}{r:J}(h:l2 l d k=r)(hd:d=r->Bj){P:I C->Prop}(c:∀x y,k x y=r->P [x,y]):P l:=by
 apply FT h hd;intro x t h;apply Cs h hd;intro y h;exact c x y h
noncomputable def nS{J:Type}(n:O)(d:J)(k:O->J):J:=RT (motive:=λ_=>J) d (λm _=>k m) n
theorem Yv{J:Type}{n:O}{d:J}{k:O->J}{r:J}(h:nS n d k=r)(hd:d=r->Bj){P:Prop}(c:∀m,n=m+1->k m=r->P):P:=by cases n with
 |zero=>exact(hd h).elim|succ m=>exact c m rfl h
noncomputable def bC{J:Type}(b:AK)(x y:J):J:=PQ (motive:=λ_=>J) y x b
theorem iK{J:Type}{x y:J}:bC M x y=x:=rfl
theorem S7{J:Type}{x y:J}:bC A6 x y=y:=rfl
theorem No{J:Type}{b:AK}{x y r:J}(h:bC b x y=r){P:Prop}(l:b=M->x=r->P)(m:y=r->P):P:=by cases b with
 |true=>exact l rfl h|false=>exact m h
noncomputable def B'{J EH:Type}(x:AD J)(k:J->AD EH):AD EH:=fM (motive:=λ_=>AD EH) L k x
theorem BI{J EH:Type}{x:AD J}{k:J->AD EH}{y:EH}(h:B' x k=G y){P:Prop}(c:∀a,x=G a->k a=G y->P):P:=by cases x with
 |none=>exact(AF h).elim|some a=>exact c a rfl h
theorem Fi{J:Type}{c:Prop}[d:si c]{a b r:J}(h:(if c then a else b)=r){P:Prop}(l:c->a=r->P)(m:b=r->P):P:=by cases d with
 |isTrue q=>exact l q h|isFalse q=>exact m h
theorem Np{C J:Type}{o:AD C}{d:J}{k:C->J}{r:J}(h:oS o d k=r)(hd:d=r->Bj){P:AD C->Prop}(c:∀x,k x=r->P (G x)):P o:=by cases o with
 |none=>exact(hd h).elim|some x=>exact c x h
theorem M7{C J:Type}{o:AD C}{d:J}{k:C->J}{r:J}(h:oS o d k=r){P:Prop}(c:∀x,o=G x->k x=r->P)(e:o=L->d=r->P):P:=by cases o with
 |none=>exact e rfl h|some x=>exact c x rfl h
noncomputable def oN{C J:Type}(o:AD C)(d k:J):J:=fM (motive:=λ_=>J) k (λ_=>d) o
theorem GQ{C J:Type}{o:AD C}{d k r:J}(h:oN o d k=r)(hd:d=r->Bj){P:AD C->Prop}(c:k=r->P L):P o:=by cases o with
 |none=>exact c h|some x=>exact(hd h).elim
noncomputable def bT{J:Type}(b:AK)(d k:J):J:=PQ (motive:=λ_=>J) d k b
theorem Ce{J:Type}{b:AK}{d k r:J}(h:bT b d k=r)(hd:d=r->Bj){P:Prop}(c:b=M->k=r->P):P:=by cases b with
 |true=>exact c rfl h|false=>exact(hd h).elim
theorem B1{a b:AK}(h:(a&&b)=M):a=M:=(bq3.mp h).1
theorem Ak{a b:AK}(h:(a&&b)=M):b=M:=(bq3.mp h).2
theorem Br{C:Type}{a x:C}(h:G a=G x){P:C->Prop}(k:P a):P x:=Bm h▸k
theorem vR{C J:Type}{a x:C}{b y:J}(h:G (a,b)=G (x,y)){P:C->J->Prop}(k:P a b):P x y:=Br h (P:=λz=>P z.1 z.2) k
theorem M8{C J EH:Type}{a x:C}{b y:J}{c z:EH}(h:G (a,b,c)=G (x,y,z)){P:C->J->EH->Prop}(k:P a b c):P x y z:=Br h (P:=λz=>P z.1 z.2.1 z.2.2) k
theorem vS{C J EH iL:Type}{a x:C}{b y:J}{c z:EH}{d w:iL}(h:G (a,b,c,d)=G (x,y,z,w)){P:C->J->EH->iL->Prop}(k:P a b c d):P x y z w:=Br h (P:=λz=>P z.1 z.2.1 z.2.2.1 z.2.2.2) k
theorem IM{C:Type}{a b:C}[si (a=b)](h:decide (a=b)=M){P:C->Prop}(k:P b):P a:=of_decide_eq_true h▸k
theorem xA{P0:Prop}{AM:Prop}(h:P0/\(AM)){P:Prop}(k:P0->AM->P):P:=by obtain⟨h0,z⟩:=h;exact k h0 z
theorem xE{Ar:Sort _}{AM:Ar->Prop}(h:∃x0,AM x0){P:Prop}(k:∀x0,AM x0->P):P:=by obtain⟨x0,z⟩:=h;exact k x0 z
theorem G6{P0:Prop}{P1:Prop}{AM:Prop}(h:P0/\(P1/\(AM))){P:Prop}(k:P0->P1->AM->P):P:=by obtain⟨h0,h1,z⟩:=h;exact k h0 h1 z
theorem H9{B2:Sort _}{P0:Prop}{AM:B2->Prop}(h:P0/\(∃x1,AM x1)){P:Prop}(k:P0->∀x1,AM x1->P):P:=by obtain⟨h0,x1,z⟩:=h;exact k h0 x1 z
theorem AC{Ar:Sort _}{P1:Ar->Prop}{AM:Ar->Prop}(h:∃x0,P1 x0/\(AM x0)){P:Prop}(k:∀x0,P1 x0->AM x0->P):P:=by obtain⟨x0,h1,z⟩:=h;exact k x0 h1 z
theorem DB{Ar:Sort _}{B2:Sort _}{AM:Ar->B2->Prop}(h:∃x0,∃x1,AM x0 x1){P:Prop}(k:∀x0,∀x1,AM x0 x1->P):P:=by obtain⟨x0,x1,z⟩:=h;exact k x0 x1 z
theorem M9{P0:Prop}{P1:Prop}{P2:Prop}{AM:Prop}(h:P0/\(P1/\(P2/\(AM)))){P:Prop}(k:P0->P1->P2->AM->P):P:=by obtain⟨h0,h1,h2,z⟩:=h;exact k h0 h1 h2 z
theorem IN{BH:Sort _}{P0:Prop}{P1:Prop}{AM:BH->Prop}(h:P0/\(P1/\(∃x2,AM x2))){P:Prop}(k:P0->P1->∀x2,AM x2->P):P:=by obtain⟨h0,h1,x2,z⟩:=h;exact k h0 h1 x2 z
theorem Hp{B2:Sort _}{P0:Prop}{P2:B2->Prop}{AM:B2->Prop}(h:P0/\(∃x1,P2 x1/\(AM x1))){P:Prop}(k:P0->∀x1,P2 x1->AM x1->P):P:=by obtain⟨h0,x1,h2,z⟩:=h;exact k h0 x1 h2 z
theorem CZ{Ar:Sort _}{P1:Ar->Prop}{P2:Ar->Prop}{AM:Ar->Prop}(h:∃x0,P1 x0/\(P2 x0/\(AM x0))){P:Prop}(k:∀x0,P1 x0->P2 x0->AM x0->P):P:=by obtain⟨x0,h1,h2,z⟩:=h;exact k x0 h1 h2 z
theorem vT{Ar:Sort _}{BH:Sort _}{P1:Ar->Prop}{AM:Ar->BH->Prop}(h:∃x0,P1 x0/\(∃x2,AM x0 x2)){P:Prop}(k:∀x0,P1 x0->∀x2,AM x0 x2->P):P:=by obtain⟨x0,h1,x2,z⟩:=h;exact k x0 h1 x2 z
theorem EX{Ar:Sort _}{B2:Sort _}{P2:Ar->B2->Prop}{AM:Ar->B2->Prop}(h:∃x0,∃x1,P2 x0 x1/\(AM x0 x1)){P:Prop}(k:∀x0,∀x1,P2 x0 x1->AM x0 x1->P):P:=by obtain⟨x0,x1,h2,z⟩:=h;exact k x0 x1 h2 z
theorem vU{Ar:Sort _}{B2:Sort _}{BH:Sort _}{AM:Ar->B2->BH->Prop}(h:∃x0,∃x1,∃x2,AM x0 x1 x2){P:Prop}(k:∀x0,∀x1,∀x2,AM x0 x1 x2->P):P:=by obtain⟨x0,x1,x2,z⟩:=h;exact k x0 x1 x2 z
theorem VQ{P0:Prop}{P1:Prop}{P2:Prop}{P3:Prop}{AM:Prop}(h:P0/\(P1/\(P2/\(P3/\(AM))))){P:Prop}(k:P0->P1->P2->P3->AM->P):P:=by obtain⟨h0,h1,h2,h3,z⟩:=h;exact k h0 h1 h2 h3 z
theorem Pq{BH:Sort _}{P0:Prop}{P1:Prop}{P3:BH->Prop}{AM:BH->Prop}(h:P0/\(P1/\(∃x2,P3 x2/\(AM x2)))){P:Prop}(k:P0->P1->∀x2,P3 x2->AM x2->P):P:=by obtain⟨h0,h1,x2,h3,z⟩:=h;exact k h0 h1 x2 h3 z
theorem Pr{Ar:Sort _}{Bk:Sort _}{P1:Ar->Prop}{P2:Ar->Prop}{AM:Ar->Bk->Prop}(h:∃x0,P1 x0/\(P2 x0/\(∃x3,AM x0 x3))){P:Prop}(k:∀x0,P1 x0->P2 x0->∀x3,AM x0 x3->P):P:=by obtain⟨x0,h1,h2,x3,z⟩:=h;exact k x0 h1 h2 x3 z
theorem vV{Ar:Sort _}{BH:Sort _}{P1:Ar->Prop}{P3:Ar->BH->Prop}{AM:Ar->BH->Prop}(h:∃x0,P1 x0/\(∃x2,P3 x0 x2/\(AM x0 x2))){P:Prop}(k:∀x0,P1 x0->∀x2,P3 x0 x2->AM x0 x2->P):P:=by obtain⟨x0,h1,x2,h3,z⟩:=h;exact k x0 h1 x2 h3 z
theorem Bv{Ar:Sort _}{B2:Sort _}{P2:Ar->B2->Prop}{P3:Ar->B2->Prop}{AM:Ar->B2->Prop}(h:∃x0,∃x1,P2 x0 x1/\(P3 x0 x1/\(AM x0 x1))){P:Prop}(k:∀x0,∀x1,P2 x0 x1->P3 x0 x1->AM x0 x1->P):P:=by obtain⟨x0,x1,h2,h3,z⟩:=h;exact k x0 x1 h2 h3 z
theorem Hq{Ar:Sort _}{B2:Sort _}{BH:Sort _}{P3:Ar->B2->BH->Prop}{AM:Ar->B2->BH->Prop}(h:∃x0,∃x1,∃x2,P3 x0 x1 x2/\(AM x0 x1 x2)){P:Prop}(k:∀x0,∀x1,∀x2,P3 x0 x1 x2->AM x0 x1 x2->P):P:=by obtain⟨x0,x1,x2,h3,z⟩:=h;exact k x0 x1 x2 h3 z
theorem vW{Ar:Sort _}{B2:Sort _}{BH:Sort _}{Bk:Sort _}{AM:Ar->B2->BH->Bk->Prop}(h:∃x0,∃x1,∃x2,∃x3,AM x0 x1 x2 x3){P:Prop}(k:∀x0,∀x1,∀x2,∀x3,AM x0 x1 x2 x3->P):P:=by obtain⟨x0,x1,x2,x3,z⟩:=h;exact k x0 x1 x2 x3 z
theorem S8{P0:Prop}{P1:Prop}{P2:Prop}{P3:Prop}{P4:Prop}{AM:Prop}(h:P0/\(P1/\(P2/\(P3/\(P4/\(AM)))))){P:Prop}(k:P0->P1->P2->P3->P4->AM->P):P:=by obtain⟨h0,h1,h2,h3,h4,z⟩:=h;exact k h0 h1 h2 h3 h4 z
theorem S9{Ar:Sort _}{P1:Ar->Prop}{P2:Ar->Prop}{P3:Ar->Prop}{P4:Ar->Prop}{AM:Ar->Prop}(h:∃x0,P1 x0/\(P2 x0/\(P3 x0/\(P4 x0/\(AM x0))))){P:Prop}(k:∀x0,P1 x0->P2 x0->P3 x0->P4 x0->AM x0->P):P:=by obtain⟨x0,h1,h2,h3,h4,z⟩:=h;exact k x0 h1 h2 h3 h4 z
theorem VS{Ar:Sort _}{BH:Sort _}{P1:Ar->Prop}{P3:Ar->BH->Prop}{P4:Ar->BH->Prop}{AM:Ar->BH->Prop}(h:∃x0,P1 x0/\(∃x2,P3 x0 x2/\(P4 x0 x2/\(AM x0 x2)))){P:Prop}(k:∀x0,P1 x0->∀x2,P3 x0 x2->P4 x0 x2->AM x0 x2->P):P:=by obtain⟨x0,h1,x2,h3,h4,z⟩:=h;exact k x0 h1 x2 h3 h4 z
theorem HT{Ar:Sort _}{B2:Sort _}{P2:Ar->B2->Prop}{P3:Ar->B2->Prop}{P4:Ar->B2->Prop}{AM:Ar->B2->Prop}(h:∃x0,∃x1,P2 x0 x1/\(P3 x0 x1/\(P4 x0 x1/\(AM x0 x1)))){P:Prop}(k:∀x0,∀x1,P2 x0 x1->P3 x0 x1->P4 x0 x1->AM x0 x1->P):P:=by obtain⟨x0,x1,h2,h3,h4,z⟩:=h;exact k x0 x1 h2 h3 h4 z
theorem Gq{Ar:Sort _}{B2:Sort _}{BH:Sort _}{P3:Ar->B2->BH->Prop}{P4:Ar->B2->BH->Prop}{AM:Ar->B2->BH->Prop}(h:∃x0,∃x1,∃x2,P3 x0 x1 x2/\(P4 x0 x1 x2/\(AM x0 x1 x2))){P:Prop}(k:∀x0,∀x1,∀x2,P3 x0 x1 x2->P4 x0 x1 x2->AM x0 x1 x2->P):P:=by obtain⟨x0,x1,x2,h3,h4,z⟩:=h;exact k x0 x1 x2 h3 h4 z
theorem Jx{Ar:Sort _}{B2:Sort _}{BH:Sort _}{Bk:Sort _}{P4:Ar->B2->BH->Bk->Prop}{AM:Ar->B2->BH->Bk->Prop}(h:∃x0,∃x1,∃x2,∃x3,P4 x0 x1 x2 x3/\(AM x0 x1 x2 x3)){P:Prop}(k:∀x0,∀x1,∀x2,∀x3,P4 x0 x1 x2 x3->AM x0 x1 x2 x3->P):P:=by obtain⟨x0,x1,x2,x3,h4,z⟩:=h;exact k x0 x1 x2 x3 h4 z
theorem iM{P0:Prop}{P1:Prop}{P2:Prop}{P3:Prop}{P4:Prop}{P5:Prop}{AM:Prop}(h:P0/\(P1/\(P2/\(P3/\(P4/\(P5/\(AM))))))){P:Prop}(k:P0->P1->P2->P3->P4->P5->AM->P):P:=by obtain⟨h0,h1,h2,h3,h4,h5,z⟩:=h;exact k h0 h1 h2 h3 h4 h5 z
theorem iN{CT:Sort _}{P0:Prop}{P1:Prop}{P2:Prop}{P3:Prop}{P5:CT->Prop}{AM:CT->Prop}(h:P0/\(P1/\(P2/\(P3/\(∃x4,P5 x4/\(AM x4)))))){P:Prop}(k:P0->P1->P2->P3->∀x4,P5 x4->AM x4->P):P:=by obtain⟨h0,h1,h2,h3,x4,h5,z⟩:=h;exact k h0 h1 h2 h3 x4 h5 z
theorem vX{BH:Sort _}{Bk:Sort _}{P0:Prop}{P1:Prop}{P4:BH->Bk->Prop}{P5:BH->Bk->Prop}{AM:BH->Bk->Prop}(h:P0/\(P1/\(∃x2,∃x3,P4 x2 x3/\(P5 x2 x3/\(AM x2 x3))))){P:Prop}(k:P0->P1->∀x2,∀x3,P4 x2 x3->P5 x2 x3->AM x2 x3->P):P:=by obtain⟨h0,h1,x2,x3,h4,h5,z⟩:=h;exact k h0 h1 x2 x3 h4 h5 z
theorem JB{Ar:Sort _}{B2:Sort _}{BH:Sort _}{P3:Ar->B2->BH->Prop}{P4:Ar->B2->BH->Prop}{P5:Ar->B2->BH->Prop}{AM:Ar->B2->BH->Prop}(h:∃x0,∃x1,∃x2,P3 x0 x1 x2/\(P4 x0 x1 x2/\(P5 x0 x1 x2/\(AM x0 x1 x2)))){P:Prop}(k:∀x0,∀x1,∀x2,P3 x0 x1 x2->P4 x0 x1 x2->P5 x0 x1 x2->AM x0 x1 x2->P):P:=by obtain⟨x0,x1,x2,h3,h4,h5,z⟩:=h;exact k x0 x1 x2 h3 h4 h5 z
theorem vY{Ar:Sort _}{B2:Sort _}{BH:Sort _}{Bk:Sort _}{P4:Ar->B2->BH->Bk->Prop}{P5:Ar->B2->BH->Bk->Prop}{AM:Ar->B2->BH->Bk->Prop}(h:∃x0,∃x1,∃x2,∃x3,P4 x0 x1 x2 x3/\(P5 x0 x1 x2 x3/\(AM x0 x1 x2 x3))){P:Prop}(k:∀x0,∀x1,∀x2,∀x3,P4 x0 x1 x2 x3->P5 x0 x1 x2 x3->AM x0 x1 x2 x3->P):P:=by obtain⟨x0,x1,x2,x3,h4,h5,z⟩:=h;exact k x0 x1 x2 x3 h4 h5 z
theorem vZ{Ar:Sort _}{B2:Sort _}{BH:Sort _}{Bk:Sort _}{CT:Sort _}{P5:Ar->B2->BH->Bk->CT->Prop}{AM:Ar->B2->BH->Bk->CT->Prop}(h:∃x0,∃x1,∃x2,∃x3,∃x4,P5 x0 x1 x2 x3 x4/\(AM x0 x1 x2 x3 x4)){P:Prop}(k:∀x0,∀x1,∀x2,∀x3,∀x4,P5 x0 x1 x2 x3 x4->AM x0 x1 x2 x3 x4->P):P:=by obtain⟨x0,x1,x2,x3,x4,h5,z⟩:=h;exact k x0 x1 x2 x3 x4 h5 z
theorem iO{P0:Prop}{P1:Prop}{P2:Prop}{P3:Prop}{P4:Prop}{P5:Prop}{P6:Prop}{AM:Prop}(h:P0/\(P1/\(P2/\(P3/\(P4/\(P5/\(P6/\(AM)))))))){P:Prop}(k:P0->P1->P2->P3->P4->P5->P6->AM->P):P:=by obtain⟨h0,h1,h2,h3,h4,h5,h6,z⟩:=h;exact k h0 h1 h2 h3 h4 h5 h6 z
theorem MA{Ar:Sort _}{B2:Sort _}{P2:Ar->B2->Prop}{P3:Ar->B2->Prop}{P4:Ar->B2->Prop}{P5:Ar->B2->Prop}{P6:Ar->B2->Prop}{AM:Ar->B2->Prop}(h:∃x0,∃x1,P2 x0 x1/\(P3 x0 x1/\(P4 x0 x1/\(P5 x0 x1/\(P6 x0 x1/\(AM x0 x1)))))){P:Prop}(k:∀x0,∀x1,P2 x0 x1->P3 x0 x1->P4 x0 x1->P5 x0 x1->P6 x0 x1->AM x0 x1->P):P:=by obtain⟨x0,x1,h2,h3,h4,h5,h6,z⟩:=h;exact k x0 x1 h2 h3 h4 h5 h6 z
theorem iP{Ar:Sort _}{B2:Sort _}{BH:Sort _}{P3:Ar->B2->BH->Prop}{P4:Ar->B2->BH->Prop}{P5:Ar->B2->BH->Prop}{P6:Ar->B2->BH->Prop}{AM:Ar->B2->BH->Prop}(h:∃x0,∃x1,∃x2,P3 x0 x1 x2/\(P4 x0 x1 x2/\(P5 x0 x1 x2/\(P6 x0 x1 x2/\(AM x0 x1 x2))))){P:Prop}(k:∀x0,∀x1,∀x2,P3 x0 x1 x2->P4 x0 x1 x2->P5 x0 x1 x2->P6 x0 x1 x2->AM x0 x1 x2->P):P:=by obtain⟨x0,x1,x2,h3,h4,h5,h6,z⟩:=h;exact k x0 x1 x2 h3 h4 h5 h6 z
theorem VT{Ar:Sort _}{B2:Sort _}{BH:Sort _}{Bk:Sort _}{P4:Ar->B2->BH->Bk->Prop}{P5:Ar->B2->BH->Bk->Prop}{P6:Ar->B2->BH->Bk->Prop}{AM:Ar->B2->BH->Bk->Prop}(h:∃x0,∃x1,∃x2,∃x3,P4 x0 x1 x2 x3/\(P5 x0 x1 x2 x3/\(P6 x0 x1 x2 x3/\(AM x0 x1 x2 x3)))){P:Prop}(k:∀x0,∀x1,∀x2,∀x3,P4 x0 x1 x2 x3->P5 x0 x1 x2 x3->P6 x0 x1 x2 x3->AM x0 x1 x2 x3->P):P:=by obtain⟨x0,x1,x2,x3,h4,h5,h6,z⟩:=h;exact k x0 x1 x2 x3 h4 h5 h6 z
theorem SA{Ar:Sort _}{B2:Sort _}{CT:Sort _}{Du:Sort _}{P2:Ar->B2->Prop}{P3:Ar->B2->Prop}{P6:Ar->B2->CT->Du->Prop}{P7:Ar->B2->CT->Du->Prop}{AM:Ar->B2->CT->Du->Prop}(h:∃x0,∃x1,P2 x0 x1/\(P3 x0 x1/\(∃x4,∃x5,P6 x0 x1 x4 x5/\(P7 x0 x1 x4 x5/\(AM x0 x1 x4 x5))))){P:Prop}(k:∀x0,∀x1,P2 x0 x1->P3 x0 x1->∀x4,∀x5,P6 x0 x1 x4 x5->P7 x0 x1 x4 x5->AM x0 x1 x4 x5->P):P:=by obtain⟨x0,x1,h2,h3,x4,x5,h6,h7,z⟩:=h;exact k x0 x1 h2 h3 x4 x5 h6 h7 z
theorem VU{Ar:Sort _}{B2:Sort _}{BH:Sort _}{Bk:Sort _}{P4:Ar->B2->BH->Bk->Prop}{P5:Ar->B2->BH->Bk->Prop}{P6:Ar->B2->BH->Bk->Prop}{P7:Ar->B2->BH->Bk->Prop}{AM:Ar->B2->BH->Bk->Prop}(h:∃x0,∃x1,∃x2,∃x3,P4 x0 x1 x2 x3/\(P5 x0 x1 x2 x3/\(P6 x0 x1 x2 x3/\(P7 x0 x1 x2 x3/\(AM x0 x1 x2 x3))))){P:Prop}(k:∀x0,∀x1,∀x2,∀x3,P4 x0 x1 x2 x3->P5 x0 x1 x2 x3->P6 x0 x1 x2 x3->P7 x0 x1 x2 x3->AM x0 x1 x2 x3->P):P:=by obtain⟨x0,x1,x2,x3,h4,h5,h6,h7,z⟩:=h;exact k x0 x1 x2 x3 h4 h5 h6 h7 z
theorem Ku{Ar:Sort _}{B2:Sort _}{BH:Sort _}{Bk:Sort _}{P4:Ar->B2->BH->Bk->Prop}{P5:Ar->B2->BH->Bk->Prop}{P6:Ar->B2->BH->Bk->Prop}{P7:Ar->B2->BH->Bk->Prop}{P8:Ar->B2->BH->Bk->Prop}{AM:Ar->B2->BH->Bk->Prop}(h:∃x0,∃x1,∃x2,∃x3,P4 x0 x1 x2 x3/\(P5 x0 x1 x2 x3/\(P6 x0 x1 x2 x3/\(P7 x0 x1 x2 x3/\(P8 x0 x1 x2 x3/\(AM x0 x1 x2 x3)))))){P:Prop}(k:∀x0,∀x1,∀x2,∀x3,P4 x0 x1 x2 x3->P5 x0 x1 x2 x3->P6 x0 x1 x2 x3->P7 x0 x1 x2 x3->P8 x0 x1 x2 x3->AM x0 x1 x2 x3->P):P:=by obtain⟨x0,x1,x2,x3,h4,h5,h6,h7,h8,z⟩:=h;exact k x0 x1 x2 x3 h4 h5 h6 h7 h8 z
theorem iQ{Ar:Sort _}{B2:Sort _}{BH:Sort _}{Bk:Sort _}{CT:Sort _}{Du:Sort _}{P6:Ar->B2->BH->Bk->CT->Du->Prop}{P7:Ar->B2->BH->Bk->CT->Du->Prop}{P8:Ar->B2->BH->Bk->CT->Du->Prop}{AM:Ar->B2->BH->Bk->CT->Du->Prop}(h:∃x0,∃x1,∃x2,∃x3,∃x4,∃x5,P6 x0 x1 x2 x3 x4 x5/\(P7 x0 x1 x2 x3 x4 x5/\(P8 x0 x1 x2 x3 x4 x5/\(AM x0 x1 x2 x3 x4 x5)))){P:Prop}(k:∀x0,∀x1,∀x2,∀x3,∀x4,∀x5,P6 x0 x1 x2 x3 x4 x5->P7 x0 x1 x2 x3 x4 x5->P8 x0 x1 x2 x3 x4 x5->AM x0 x1 x2 x3 x4 x5->P):P:=by obtain⟨x0,x1,x2,x3,x4,x5,h6,h7,h8,z⟩:=h;exact k x0 x1 x2 x3 x4 x5 h6 h7 h8 z
theorem iR{Ar:Sort _}{B2:Sort _}{BH:Sort _}{Bk:Sort _}{CT:Sort _}{P5:Ar->B2->BH->Bk->CT->Prop}{P6:Ar->B2->BH->Bk->CT->Prop}{P7:Ar->B2->BH->Bk->CT->Prop}{P8:Ar->B2->BH->Bk->CT->Prop}{P9:Ar->B2->BH->Bk->CT->Prop}{AM:Ar->B2->BH->Bk->CT->Prop}(h:∃x0,∃x1,∃x2,∃x3,∃x4,P5 x0 x1 x2 x3 x4/\(P6 x0 x1 x2 x3 x4/\(P7 x0 x1 x2 x3 x4/\(P8 x0 x1 x2 x3 x4/\(P9 x0 x1 x2 x3 x4/\(AM x0 x1 x2 x3 x4)))))){P:Prop}(k:∀x0,∀x1,∀x2,∀x3,∀x4,P5 x0 x1 x2 x3 x4->P6 x0 x1 x2 x3 x4->P7 x0 x1 x2 x3 x4->P8 x0 x1 x2 x3 x4->P9 x0 x1 x2 x3 x4->AM x0 x1 x2 x3 x4->P):P:=by obtain⟨x0,x1,x2,x3,x4,h5,h6,h7,h8,h9,z⟩:=h;exact k x0 x1 x2 x3 x4 h5 h6 h7 h8 h9 z
theorem iS{Ar:Sort _}{B2:Sort _}{BH:Sort _}{Bk:Sort _}{CT:Sort _}{Du:Sort _}{P6:Ar->B2->BH->Bk->CT->Du->Prop}{P7:Ar->B2->BH->Bk->CT->Du->Prop}{P8:Ar->B2->BH->Bk->CT->Du->Prop}{P9:Ar->B2->BH->Bk->CT->Du->Prop}{AM:Ar->B2->BH->Bk->CT->Du->Prop}(h:∃x0,∃x1,∃x2,∃x3,∃x4,∃x5,P6 x0 x1 x2 x3 x4 x5/\(P7 x0 x1 x2 x3 x4 x5/\(P8 x0 x1 x2 x3 x4 x5/\(P9 x0 x1 x2 x3 x4 x5/\(AM x0 x1 x2 x3 x4 x5))))){P:Prop}(k:∀x0,∀x1,∀x2,∀x3,∀x4,∀x5,P6 x0 x1 x2 x3 x4 x5->P7 x0 x1 x2 x3 x4 x5->P8 x0 x1 x2 x3 x4 x5->P9 x0 x1 x2 x3 x4 x5->AM x0 x1 x2 x3 x4 x5->P):P:=by obtain⟨x0,x1,x2,x3,x4,x5,h6,h7,h8,h9,z⟩:=h;exact k x0 x1 x2 x3 x4 x5 h6 h7 h8 h9 z
theorem Yw{Ar:Sort _}{B2:Sort _}{CT:Sort _}{Du:Sort _}{Yx:Sort _}{Yy:Sort _}{P2:Ar->B2->Prop}{P3:Ar->B2->Prop}{P6:Ar->B2->CT->Du->Prop}{P7:Ar->B2->CT->Du->Prop}{MB:Ar->B2->CT->Du->Yx->Yy->Prop}{MC:Ar->B2->CT->Du->Yx->Yy->Prop}{AM:Ar->B2->CT->Du->Yx->Yy->Prop}(h:∃x0,∃x1,P2 x0 x1/\(P3 x0 x1/\(∃x4,∃x5,P6 x0 x1 x4 x5/\(P7 x0 x1 x4 x5/\(∃x8,∃x9,MB x0 x1 x4 x5 x8 x9/\(MC x0 x1 x4 x5 x8 x9/\(AM x0 x1 x4 x5 x8 x9))))))){P:Prop}(k:∀x0,∀x1,P2 x0 x1->P3 x0 x1->∀x4,∀x5,P6 x0 x1 x4 x5->P7 x0 x1 x4 x5->∀x8,∀x9,MB x0 x1 x4 x5 x8 x9->MC x0 x1 x4 x5 x8 x9->AM x0 x1 x4 x5 x8 x9->P):P:=by obtain⟨x0,x1,h2,h3,x4,x5,h6,h7,x8,x9,SE,SF,z⟩:=h;exact k x0 x1 h2 h3 x4 x5 h6 h7 x8 x9 SE SF z
theorem iU{Ar:Sort _}{B2:Sort _}{BH:Sort _}{Bk:Sort _}{CT:Sort _}{P5:Ar->B2->BH->Bk->CT->Prop}{P6:Ar->B2->BH->Bk->CT->Prop}{P7:Ar->B2->BH->Bk->CT->Prop}{P8:Ar->B2->BH->Bk->CT->Prop}{P9:Ar->B2->BH->Bk->CT->Prop}{MB:Ar->B2->BH->Bk->CT->Prop}{MC:Ar->B2->BH->Bk->CT->Prop}{AM:Ar->B2->BH->Bk->CT->Prop}(h:∃x0,∃x1,∃x2,∃x3,∃x4,P5 x0 x1 x2 x3 x4/\(P6 x0 x1 x2 x3 x4/\(P7 x0 x1 x2 x3 x4/\(P8 x0 x1 x2 x3 x4/\(P9 x0 x1 x2 x3 x4/\(MB x0 x1 x2 x3 x4/\(MC x0 x1 x2 x3 x4/\(AM x0 x1 x2 x3 x4)))))))){P:Prop}(k:∀x0,∀x1,∀x2,∀x3,∀x4,P5 x0 x1 x2 x3 x4->P6 x0 x1 x2 x3 x4->P7 x0 x1 x2 x3 x4->P8 x0 x1 x2 x3 x4->P9 x0 x1 x2 x3 x4->MB x0 x1 x2 x3 x4->MC x0 x1 x2 x3 x4->AM x0 x1 x2 x3 x4->P):P:=by obtain⟨x0,x1,x2,x3,x4,h5,h6,h7,h8,h9,SE,SF,z⟩:=h;exact k x0 x1 x2 x3 x4 h5 h6 h7 h8 h9 SE SF z
theorem VV{Ar:Sort _}{B2:Sort _}{BH:Sort _}{Bk:Sort _}{CT:Sort _}{Du:Sort _}{MD:Sort _}{P7:Ar->B2->BH->Bk->CT->Du->MD->Prop}{P8:Ar->B2->BH->Bk->CT->Du->MD->Prop}{P9:Ar->B2->BH->Bk->CT->Du->MD->Prop}{MB:Ar->B2->BH->Bk->CT->Du->MD->Prop}{MC:Ar->B2->BH->Bk->CT->Du->MD->Prop}{iV:Ar->B2->BH->Bk->CT->Du->MD->Prop}{iW:Ar->B2->BH->Bk->CT->Du->MD->Prop}{AM:Ar->B2->BH->Bk->CT->Du->MD->Prop}(h:∃x0,∃x1,∃x2,∃x3,∃x4,∃x5,∃x6,P7 x0 x1 x2 x3 x4 x5 x6/\(P8 x0 x1 x2 x3 x4 x5 x6/\(P9 x0 x1 x2 x3 x4 x5 x6/\(MB x0 x1 x2 x3 x4 x5 x6/\(MC x0 x1 x2 x3 x4 x5 x6/\(iV x0 x1 x2 x3 x4 x5 x6/\(iW x0 x1 x2 x3 x4 x5 x6/\(AM x0 x1 x2 x3 x4 x5 x6)))))))){P:Prop}(k:∀x0,∀x1,∀x2,∀x3,∀x4,∀x5,∀x6,P7 x0 x1 x2 x3 x4 x5 x6->P8 x0 x1 x2 x3 x4 x5 x6->P9 x0 x1 x2 x3 x4 x5 x6->MB x0 x1 x2 x3 x4 x5 x6->MC x0 x1 x2 x3 x4 x5 x6->iV x0 x1 x2 x3 x4 x5 x6->iW x0 x1 x2 x3 x4 x5 x6->AM x0 x1 x2 x3 x4 x5 x6->P):P:=by obtain⟨x0,x1,x2,x3,x4,x5,x6,h7,h8,h9,SE,SF,v_,vc,z⟩:=h;exact k x0 x1 x2 x3 x4 x5 x6 h7 h8 h9 SE SF v_ vc z
noncomputable def all2{C J:Type}(f:C->J->AK):I C->I J->AK
 |[],l=>l.isEmpty|a::x,l=>match l with
 |[]=>A6|b::y=>f a b&&all2 f x y
theorem VW{C J:Type}{f:C->J->AK}{P:I C->I J->Prop}(n:P [] [])(c:∀a b x y,f a b=M->P x y->P (a::x) (b::y)){x:I C}:∀{y:I J},all2 f x y=M->P x y:=by induction x with
 |nil=>intro y h;cases y with
  |nil=>exact n|cons _ _=>exact(B0 h).elim
 |cons a x ih=>intro y h;cases y with
 |nil=>exact(B0 h).elim|cons b y=>exact c a b x y (B1 h) (ih (Ak h))
theorem Nq{C:Type}{f:C->C->AK}(hf:∀a b,f a b=M->a=b)(x y:I C)(h:all2 f x y=M):x=y:=VW (P:=λx y=>x=y) rfl (λa b _ _ q ih=>congr (congrArg bq4 (hf a b q)) ih) h
theorem vd{C J:Type}{f:C->J->AK}{g:J->C}(hf:∀a b,f a b=M->a=g b){x:I C}{y:I J}(h:all2 f x y=M):x=y.map g:=VW (P:=λx y=>x=y.map g) rfl (λa b _ _ q ih=>congr (congrArg bq4 (hf a b q)) ih) h
theorem all_cons{J:Type}{p:J->Prop}{x:J}{l:I J}(h:p x)(t:∀o∈l,p o):∀o∈x::l,p o:=λo m=>(Cj.mp m).elim (λe=>e▸h) (t o)
theorem EE{J:Type}{p:J->Prop}:∀o∈([]:I J),p o:=λ_ m=>nomatch m
theorem VX{C J:Type}{o:AD C}{d:J}{k:C->J}{r:J}(h:oS o d k=r)(hd:d=r->Bj){P:Prop}(c:∀x,o=G x->k x=r->P):P:=by cases o with
 |none=>exact(hd h).elim|some x=>exact c x rfl h
theorem yT{a b c:O}(h:a=b)(k:b<=c):a<=c:=h▸k
theorem yS{a b c:O}(h:b=a)(k:b<=c):a<=c:=h▸k
theorem yQ{a b c:O}(h:c=b)(k:a<b):a<c:=h▸k
theorem yU{u k c e:O}(h:u+10*k<9000)(q:9000+c<=e):u+c<e:=J0 (Nat.add_lt_add_right (H3 (H4 u _) h) c) q
theorem yW{a n d k m:O}(e:d<=k)(h:a+n*k<m):a+n*d<m:=H3 (HL (sj n e) a) h
theorem yV{x a c n d m:O}(e:x<=a+c)(h:a+n*(d+1)<m)(q:c<=n):x+n*d<m:=H3 (B4 (Y' e _) (B4 (Ek (NP a c _)) (HL (B4 (Y' q _) (Ek (Lm n _))) a))) h
theorem yK{a c n d k m:O}(e:k=d+1)(h:a+n*k<m)(q:c<=n):a+c+n*d<m:=yV (DF _) (e▸h) q
theorem yJ{a n d k m:O}(e:k=d+1)(h:a+n*k<m):a+n*d<m:=yW (e▸PR d) h
theorem yI{k:O}(h:0<k):k=k-1+1:=(Y0 h).symm
theorem yH{k m:O}(h:m+1<=k):k=k-1+1:=yI (J0 (Nat.succ_pos m) h)
theorem yX{n i k:O}(h:n-i=k+1):n-(i+1)=k:=congrArg Nat.pred h
theorem yC{r c l:O}(h:l<=c):r+(c-l)-c=r-l:=by rw[<-sn h,Nat.sub_right_comm,bq5]
theorem yD{r c l:O}(h:l<=c)(k:l<=r):c<=r+(c-l):=B4 (Ek (Y0 h).symm) (B4 (HL k _) (Ek (Lm _ _)))
theorem ve{r o AG c:O}(k:o<=15)(q:AG+(r-o)<=c):AG+(r-15)<=c:=B4 (HL (fO k r) AG) q
theorem vf{a b c s:O}(h:a+b=c):s+b=s+(c-a):=congrArg (s+·) (bq6 h)
theorem iX{a p b q Av:O}(h:a+p<=Av)(k:b+q<=Av)(j:Av<=p+q):a+b+(p+q-Av)<=Av:=B4 (Ek (sn j (a+b)).symm) (bq7 (B4 (Ek (Nat.add_add_add_comm a b p q)) (Uo h k)))
theorem vg{a b:O}(h:b=1):a+2=a+1+(b+1-1):=by subst h;rfl
theorem vh{x o A9:O}(h:x<=100000)(k:100002<=A9)(q:o<=x+1-0):o+1<=A9:=B4 (Ln (B4 q (Ln h))) k
theorem vk(AG An:O):AG-0+(An-0)<=AG+An:=DF _
theorem vl{l:O}{AS:Prop}(h:l<30)(k:l/30+1>300/\AS):Bj:=absurd (show 0+1>300 from Nat.div_eq_of_lt h▸k.1) (by decide)
theorem vm{m p A1:O}(h:m+p=A1)(k:p<A1):m=m-1+1:=(Y0 (fP λe=>J1 p (J0 k (Ek (h.symm.trans ((congrArg (·+p) e).trans (Up p))))))).symm
theorem vn{AG:AX}{m l:O}(h:0<=AG)(k:AG<(m:AX))(e:m=l):AG.toNat<l:=e▸(so h).mpr k
theorem vo{a b T AS:O}(h:a+b=0+0+T)(k:T=min 3 AS):a+b<=3:=B4 (Ek (h.trans (Up T))) (k▸Y1 3 AS)
theorem vp{l hi lo i:AX}(e:l=max (hi-lo) 0-i)(h:lo+i<hi):0<l:=e▸Int.sub_pos_of_lt (bq8 (Int.lt_sub_left_of_add_lt h) (Int.le_max_left _ _))
theorem vq{AG m i Av:O}(h:AG<=100000)(k:m+1<=200000)(j:i<=AG)(l:Av<=i):Av+(m+1)<=90000+900000:=B4 (Uo (B4 l (B4 j h)) k) (by decide)
theorem vt{AG i Av:O}(h:AG<=100000)(j:i<=AG)(l:Av<=i):Av+0<=90000+900000:=B4 l (B4 j (B4 h (by decide)))
theorem vx{j m:O}(h:¬j<m):6+m+(j-m)=6+j:=(NP 6 m _).trans (congrArg (6+·) (Nat.add_sub_cancel' (fQ h)))
theorem vy{e p:O}(h:e<=1)(k:p=e)(n:¬e=0):p=1:=k.trans (Y2 h (fP n))
theorem vz{l n:O}(h:l=n+1):l-1=n:=h▸rfl
theorem iY{k:AX}{l:O}(h:¬k<0)(j:k.toNat<l):0<=k/\k<(l:AX):=⟨sq.mp h,(so (sq.mp h)).mp j⟩
theorem w2{l m a b:O}(k:l+m<=3)(h:a+b=0+0+l)(q:1<=m):b<=2:=B4 (B4 (fR b a) (Ek (h.trans (Up l)))) (sr (B4 (HL q l) k))
theorem w3{i k a:O}(h:k<a)(q:i=k\/i=a):i<a+1:=q.elim (λe=>e▸fS h) (λe=>e▸PS i)
theorem w4{l Av:AX}{i:O}(e:l=Av-(i:AX)):l-1=Av-((i+1:O):AX):=(congrArg (·-1) e).trans (Int.sub_sub Av i 1)
theorem w5{l:AX}{i:O}:l+((i+1:O):AX)=l+(i:AX)+1:=(Int.add_assoc l i 1).symm
theorem w6{x z:O}(h:x<=100000)(k:(x+1)*z<=(x+1)*100):x+(x+1)*z<=16777216:=B4 (Uo h (B4 k (Nat.mul_le_mul_right 100 (Ln h)))) (by decide)
theorem w7{a b l:O}:a+1+b+l=a+b+(l+1):=(congrArg (·+l) (Y3 a 1 b)).trans (Y3 (a+b) 1 l)
theorem w8{d u:O}(h:42<=d)(k:u+10*d<9000):u+4<9000:=H3 (HL (B4 (by decide) (sj 10 h)) u) k
theorem w9{l A1:O}(h:l<=A1-1)(k:0<A1):l+1<=A1:=B4 (Ln h) (Ek (Y0 k))
theorem wA{e i:O}(h:e<=1)(k:i<e):i=0:=Nat.lt_one_iff.mp (J0 k h)
theorem wB{e p:O}(h:e<=1)(k:p=e)(n:0<e):p=1:=k.trans (Y2 h n)
theorem wC{p i b:O}{AS:Prop}(h:p<=i/\AS)(k:i<p+b):i-p<b:=Nat.sub_lt_left_of_lt_add h.1 k
theorem wD{x y u v c:O}(e:x=u)(f:y=v)(h:x+y<=c):u+v<=c:=e▸f▸h
theorem wE{a b i:O}(e:a=b)(h:i<a):i<min a b:=bq9.mpr ⟨h,e▸h⟩
theorem iZ{u v p:O}(h:v<=100000)(k:u<=1000000)(q:p<=v):u+p<=1100000:=B4 (Uo k (B4 q h)) (by decide)
theorem wF{l hi lo:AX}{i:O}(e:l=max (hi-lo) 0-(i:AX))(h:¬lo+(i:AX)<hi):l<=0:=e▸Int.sub_nonpos_of_le (br0.mpr ⟨Int.sub_left_le_of_le_add (sq.mp h),fU i⟩)
theorem wG{m p A1:O}(h:m+1+p=A1):m+(p+1)=A1:=(Y3 m p 1).trans h
theorem wH{u c:O}(h:u+4<c):u+1+2<c:=H3 (PR (u+3)) h
theorem wI{i a b:O}{AS:Prop}(h:AS/\i<6+(a+b)):i<6+a+b:=(NP 6 a b).symm▸h.2
theorem wJ{b y:AX}(k:y<b):y<(b.toNat:AX):=bq8 k (Int.self_le_toNat b)
theorem wK{a b:O}(h:a+b<=3):b<4-a:=Nat.lt_sub_of_add_lt (fV (B4 (Ek (Lm b a)) h))
theorem wL{i:AX}(h:0<=i)(k:i<100):i.toNat<100:=(so h).mpr k
theorem Yz{s r c:O}(h:s+(r+1)<=c):s+1+r<=c:=B4 (Ek (Y3 s 1 r)) h
theorem wM{s r c u:O}(h:s+(r+1)<=c)(e:s=u):u<=c:=e▸B4 (H4 _ _) h
theorem wN{A1 Av m:O}(h:A1<=20)(k:m<=Av)(e:Av=A1):m<60:=H3 (B4 k (B4 (Ek e) h)) (by decide)
theorem wO{p s:O}(h:p=min p s):p<=s:=B4 (Ek h) (su p s)
theorem wP{u c:O}(h:u+10<c):u+1<c:=H3 (HL (by decide) u) h
theorem wQ{u d:O}(e:u=d+1){a:O}(h:a+10*u<9000):a+1+1+1+10*d<9000:=H3 (show a+3+10*d<=a+10*u from e▸B4 (Ek (NP a 3 _)) (HL (B4 (Ek (Lm 3 _)) (HL (by decide) _)) a)) h
theorem wR{i:AX}(h:0<=i)(k:i<100):i.natAbs<100:=fW.mp ((br1 h).symm▸k)
theorem i_{a b c d:O}(k:c+b<=a+d)(h:a<=b):c<=d:=Nat.le_of_add_le_add_right (B4 k (B4 (Y' h d) (Ek (Lm b d))))
theorem wS{a p b q Av u v:O}(e:a=u)(f:b=v)(h:a+p<=Av)(k:b+q<=Av)(j:Av<=p+q):u+v<=Av:=e▸f▸B4 (H4 _ _) (iX h k j)
theorem wT{a k m u c:O}(e:u=a)(h:a<=k)(q:k+(m+1)<=c):u<=c:=B4 (Ek e) (B4 h (B4 (H4 k _) q))
theorem wU{p e z:O}(q:z<=p)(h:p<=e+1)(k:e<=100000):z<=16777216+1:=B4 q (B4 h (B4 (Ln k) (by decide)))
theorem wV{AG i Av:O}(l:Av<=i)(j:i<=AG)(h:AG<=100000):Av+0<=90000+900000:=B4 l (B4 j (B4 h (by decide)))
theorem wW{x y:O}(e:y=x)(h:x<60):y<64:=H3 (Ek e) (Nat.lt_trans h (by decide))
theorem wX{b:AX}(h:0<b/\b<=1000000000):b.natAbs<=1000000000:=sv.mp ((br1 (fX h.1)).symm▸h.2)
theorem wY{n:AX}(h:n<=1000):n.toNat<=1000:=br2.mpr h
theorem yG{m n:O}(h:m<=n+1)(k:¬m<=n):m=n+1:=Y2 h (br3 k)
theorem yF{m n:O}(h:m<=n)(k:¬m<n):m=n:=Y2 h (fQ k)
section
open PyProof.Rows
noncomputable def VY{C:Type u}(p:C->AK)(l:I C):AK:=Kg A6 (λa _ ih=>PQ ih M (p a)) l
theorem wZ{C:Type u}(p:C->AK)(l:I C):VY p l=l.any p:=by induction l with
 |nil=>rfl|cons a l ih=>
 rw[sx,<-ih];show(PQ (motive:=λ_=>AK) (VY p l) M (p a))=_;cases p a<;>rfl
noncomputable def ia{C:Type u}(as:BW C)(p:C->AK)(i j:O):AK:=PQ (sy as p i j) (PQ (sy as p i j) (VY p as.toList) (BC j as.size)) (BC i 0)
theorem Z':@sy.{u}=@ia.{u}:=by
 funext C as p i j;unfold ia;cases hi:BC i 0 with
 |false=>rfl|true=>cases hj:BC j as.size with
 |false=>rfl|true=>
 have e1:=CD hi;have e2:=CD hj;subst e1;subst e2;show _=VY p as.toList;rw[wZ,br4]
noncomputable def ib(tn:EB)(id:D9):AD EB:=PQ (motive:=λ_=>AD EB) (bR0 id) (G tn) (BC (t3 id) 29827186395103491166823348853)
theorem w_:br5.find 29827186395103491166823348853=G PySem.Builtin.«type.__new__»:=by kernel_rfl
theorem Z0:PySem.treeTable=ib fY:=by
 funext id;unfold ib;cases h:BC (t3 id) 29827186395103491166823348853 with
 |false=>exact congrFun fZ id|true=>
 have e:=CD h;show br5.find (t3 id)=G _;rw[e,w_,<-bR1]
noncomputable def Z1{J:Type}(e:As)(d:J)(k:U->I AA->I Xz->I As->I AA->I TypeParam->BU->AD BU->U->I U->B9->J):J:=if h:e.ctorIdx=2 then bR2 (motive_2:=λ_=>J) e h k else d
noncomputable def VZ{J:Type}(e:As)(d:J)(k:U->O->B9->B9->J):J:=Pn e d λc q=>HS c d λc n p=>Pp c d λs=>k s n p q
noncomputable def docOf(s:As):U:=Z1 s RW λ_ _ _ b _ _ _ _ _ _ _=>lC b RW λe _=>VZ e RW λs _ _ _=>s
noncomputable def wa(d:U)(s:As):As:=Z1 s s λa b c l e f g h i j z=>lC l s λx r=>VZ x s λ_ k p q=>.ClassDef a b c (.Expr (.Constant (.str d) k p) q::r) e f g h i j z
noncomputable def V_:As:=(Dp.main.body)[5]?.getD (.Pass ⟨0,0,0,0⟩)
noncomputable def ic:{d:U//docOf V_=d}:=⟨_,(Fast.ofString_ofList _:docOf V_=_)⟩
noncomputable def Z2(d:U):Hf:={Dp with main:={Dp.main with body:=Dp.main.body.set 5 (wa d V_)}}
theorem wb:Dp=Z2 (docOf V_):=by kernel_rfl
noncomputable def Fj:Hf:=Z2 ic.1
theorem Hr:Dp=Fj:=wb.trans (congrArg Z2 ic.2)
end
section
open PyProof.Rows
open PySem.Str(ofString)
open PySem.PyData(keyHash)
noncomputable abbrev bW3:Hf:=Dp
noncomputable def Ba(k:O):As:=(Fj.main.body)[k]?.getD (.Pass ⟨0,0,0,0⟩)
noncomputable def DC(k j:O):As:=Z1 (Ba k) (Ba k) λ_ _ _ b _ _ _ _ _ _ _=>b[j]?.getD (.Pass ⟨0,0,0,0⟩)
noncomputable def ig(s:As):U:=VP s RW λn _ _ _ _ _ _ _ _ _=>n
noncomputable def SG(s:As):Arguments:=VP s ⟨[],[],L,[],[],L,[]⟩ λ_ a _ _ _ _ _ _ _ _=>a
noncomputable def Fk(s:As):I As:=VP s [] λ_ _ b _ _ _ _ _ _ _=>b
noncomputable def BV(s:As):BU:=VP s default λ_ _ _ _ _ _ sc _ _ _=>sc
noncomputable def G7(st:As)(qual:U)(globals:A8)(closure:I (U×A8))(dflt kw doc pm:A4)(ii:AD A8)(code ct:A4)(bi:A8):Kh:={name:=ig st,qualname:=qual,params:=SG st,body:=.stmts (Fk st),scope:=BV st,globals,closure,defaults:=dflt,kwdefaults:=kw,doc,pyModule:=pm,annotations:=ii,code,closureTuple:=ct,builtins:=bi}
noncomputable def SH(name:U)(bases mro:I A4)(ns:A8)(qual:U)(hasDict:AK)(slotNames:I U)(sub:I A4)(abs:AK)(wc:AD AK)(wd:AK):ClassData:={name,bases,mro,ns,qualname:=qual,hasDict,slotNames,subclasses:=sub,abstract:=abs,collection:=wc,hasDel:=wd}
noncomputable def Z3(s:As):U:=lC (Fk s) RW λe _=>VZ e RW λs _ _ _=>s
noncomputable def ik(k:O):U:=VZ (DC k 0) RW λs _ _ _=>s
noncomputable def BL(c:A4)(d:NQ):Bi:=⟨c,L,d,#[]⟩
noncomputable def sL(f:O):O->I O->I O:=RT (λ_ l=>l) (λ_ ih n l=>bC (BC n 0) l (ih (n/256) (n%256::l))) f
noncomputable def sD(n:O):U:=⟨⟨sL 64 n []⟩⟩
noncomputable def s0:U:=sD 0x5f5f6e616d655f5f
noncomputable def s1:U:=sD 0x6275696c74696e73
noncomputable def s2:U:=sD 0x5f5f646f635f5f
noncomputable def s3:U:=sD 0x5f5f7061636b6167655f5f
noncomputable def s4:U:=sD 0x5f5f6c6f616465725f5f
noncomputable def s5:U:=sD 0x5f5f737065635f5f
noncomputable def il:U:=sD 0x456c6c6970736973
noncomputable def ip:U:=sD 0x4e6f74496d706c656d656e746564
noncomputable def SI:U:=sD 0x5f5f6d61696e5f5f
noncomputable def JC:U:=sD 0x6c61775f7274303131365f3031
noncomputable def Z4:U:=sD 0x5f5f616e6e6f746174696f6e735f5f
noncomputable def iq:U:=sD 0x5f5f6275696c74696e735f5f
noncomputable def ir:U:=sD 0x5f5f66696c655f5f
noncomputable def Ez:U:=sD 0x2f636c61696d2f6375742e7079
noncomputable def iu:U:=sD 0x5f5f6361636865645f5f
noncomputable def Z5:U:=sD 0x5f77616c6c
noncomputable def Nr:U:=sD 0x5f7475706c65676574746572
noncomputable def Nt:U:=sD 0x4d61746368
noncomputable def Z6:U:=sD 0x5f63616c63756c6174655f726174696f
noncomputable def Nu:U:=sD 0x53657175656e63654d617463686572
noncomputable def Z7:U:=sD 0x5f666f726d61745f72616e67655f756e6966696564
noncomputable def Z8:U:=sD 0x5f706c61696e5f6e616d65
noncomputable def Nv:U:=sD 0x4142434d657461
noncomputable def Nw:U:=sD 0x5f4142434c696b65
noncomputable def Z9:U:=sD 0x5f6162635f706c61696e5f6d657461
noncomputable def ZA:U:=sD 0x667370617468
noncomputable def SJ:U:=sD 0x5f636865636b5f6172675f7479706573
noncomputable def ZB:U:=sD 0x5f6765745f736570
noncomputable def SM:U:=sD 0x6a6f696e
noncomputable def ZC:U:=sD 0x73706c6974726f6f74
noncomputable def ZD:U:=sD 0x626173656e616d65
noncomputable def ZE:U:=sD 0x6469726e616d65
noncomputable def ZF:U:=sD 0x6e6f726d70617468
noncomputable def ZG:U:=sD 0x736f727465645f6c6973745f646966666572656e6365
noncomputable def SN:U:=sD 0x5f6c61775f7472656573
noncomputable def SO:U:=sD 0x5f6c61775f7374726169676874
noncomputable def ZH:U:=sD 0x5f6c61775f696e6e6572
noncomputable def SP:U:=sD 0x5f6c61775f746f6c64
noncomputable def ZI:U:=sD 0x5f6c61775f67726f776e
noncomputable def SQ:U:=sD 0x5f6c61775f7061697273
noncomputable def ZJ:U:=sD 0x5f6c61775f72616e6765
noncomputable def ZK:U:=sD 0x5f6c61775f6368616e676573
noncomputable def SR:U:=sD 0x5f6c61775f77616c6b6564
noncomputable def ZL:U:=sD 0x6c6177
noncomputable def iv:U:=sD 0x3c6d6f64756c653e
noncomputable def Va:U:=sD 0x6b
noncomputable def JD:U:=sD 0x5f5f6d6f64756c655f5f
noncomputable def DP:U:=sD 0x6370793331332e646966666c6962
noncomputable def Ps:U:=sD 0x5f5f7175616c6e616d655f5f
noncomputable def Jy:U:=sD 0x5f5f66697273746c696e656e6f5f5f
noncomputable def Pt:U:=sD 0x5f5f696e69745f5f
noncomputable def ZM:U:=sD 0x5f5f6765745f5f
noncomputable def ZN:U:=sD 0x5f5f7365745f5f
noncomputable def ZO:U:=sD 0x5f5f64656c6574655f5f
noncomputable def Jz:U:=sD 0x5f5f7374617469635f617474726962757465735f5f
noncomputable def Em:U:=sD 0x73656c66
noncomputable def ME:U:=sD 0x696e646578
noncomputable def Vb:U:=sD 0x646f63
noncomputable def ZP:U:=sD 0x6f626a
noncomputable def Vc:U:=sD 0x5f5f646963745f5f
noncomputable def Vd:U:=sD 0x5f5f7765616b7265665f5f
noncomputable def iw:U:=sD 0x4d6174636828612c20622c2073697a6529
noncomputable def ix:U:=sD 0x5f5f736c6f74735f5f
noncomputable def iy:U:=sD 0x5f6669656c6473
noncomputable def iz:U:=sD 0x5f6669656c645f64656661756c7473
noncomputable def ZQ:U:=sD 0x5f5f6e65775f5f
noncomputable def Ve:U:=sD 0x5f6d616b65
noncomputable def ZR:U:=sD 0x5f7265706c616365
noncomputable def j0:U:=sD 0x5f5f7265706c6163655f5f
noncomputable def ZS:U:=sD 0x5f5f726570725f5f
noncomputable def ZT:U:=sD 0x5f617364696374
noncomputable def ZU:U:=sD 0x5f5f6765746e6577617267735f5f
noncomputable def j2:U:=sD 0x5f5f6d617463685f617267735f5f
noncomputable def Hs:U:=sD 0x61
noncomputable def Ht:U:=sD 0x62
noncomputable def Pu:U:=sD 0x73697a65
noncomputable def SU:U:=sD 0x636c73
noncomputable def j3:U:=sD 0x726573756c74
noncomputable def j4:U:=sD 0x4d617463682e5f6d616b65
noncomputable def j5:U:=sD 0x5f5f636c6173735f5f
noncomputable def ZV:U:=sD 0x4d617463682e5f7265706c616365
noncomputable def j6:U:=sD 0x416c69617320666f72206669656c64206e756d6265722030
noncomputable def j7:U:=sD 0x416c69617320666f72206669656c64206e756d6265722031
noncomputable def j8:U:=sD 0x416c69617320666f72206669656c64206e756d6265722032
noncomputable def j9:U:=sD 0x6d617463686573
noncomputable def jA:U:=sD 0x6c656e677468
noncomputable def ZW:U:=sD 0x7365745f73657173
noncomputable def ZX:U:=sD 0x7365745f73657131
noncomputable def ZY:U:=sD 0x7365745f73657132
noncomputable def jB:U:=sD 0x5f53657175656e63654d6174636865725f5f636861696e5f62
noncomputable def ZZ:U:=sD 0x66696e645f6c6f6e676573745f6d61746368
noncomputable def Z_:U:=sD 0x6765745f6d61746368696e675f626c6f636b73
noncomputable def Za:U:=sD 0x6765745f6f70636f646573
noncomputable def Zc:U:=sD 0x6765745f67726f757065645f6f70636f646573
noncomputable def Zd:U:=sD 0x726174696f
noncomputable def Ze:U:=sD 0x717569636b5f726174696f
noncomputable def Zf:U:=sD 0x7265616c5f717569636b5f726174696f
noncomputable def jC:U:=sD 0x0
noncomputable def Zg:U:=sD 0x69736a756e6b
noncomputable def jD:U:=sD 0x6175746f6a756e6b
noncomputable def Zh:U:=sD 0x62326a
noncomputable def MF:U:=sD 0x69
noncomputable def jE:U:=sD 0x6e
noncomputable def jF:U:=sD 0x616c6f
noncomputable def jG:U:=sD 0x616869
noncomputable def jH:U:=sD 0x626c6f
noncomputable def jI:U:=sD 0x626869
noncomputable def SV:U:=sD 0x6a
noncomputable def jJ:U:=sD 0x6d61746368696e675f626c6f636b73
noncomputable def jK:U:=sD 0x78
noncomputable def jL:U:=sD 0x7374617274
noncomputable def jM:U:=sD 0x6b696e64
noncomputable def jN:U:=sD 0x6f73
noncomputable def Vf:U:=sD 0x616263
noncomputable def Pw:U:=sD 0x7265676973746572
noncomputable def jO:U:=sD 0x737562636c617373
noncomputable def MG:U:=sD 0x636f6c6c656374696f6e732e616263
noncomputable def Zi:U:=sD 0x5f5f696e7374616e6365636865636b5f5f
noncomputable def Zj:U:=sD 0x5f5f737562636c617373636865636b5f5f
noncomputable def Zk:U:=sD 0x43
noncomputable def Px:U:=sD 0x70617468
noncomputable def Py:U:=sD 0x6370793331332e706f73697870617468
noncomputable def Vg:U:=sD 0x70
noncomputable def SX:U:=sD 0x736570
noncomputable def jP:U:=sD 0x74726565
noncomputable def E(P:Dq)(s:U)(t:EP)(v:A4):FQ:=⟨keyHash P s,.str s t,v⟩
noncomputable def we(ns:I U):EP->I A4:=Kg (λ_=>[]) (λs _ ih t=>.str s t::ih (t+1)) ns
noncomputable def fo(k:O)(st:As)(n q:U)(ns:I U)(t ln ac:O)(df:A4)(doc:AK)(md:A4)(an:AD A8):I Bi:=[BL (.type "tuple") (.seq #[] 0),BL .none (.fields #[]),BL (.type "tuple") (.seq ⟨we ns (t+3)⟩ 0),BL (.type "tuple") (.seq #[] 0),BL .none (.func (G7 st q 0 [] .none .none .none .none L .none .none 0)),BL (.type "code") (.fields #[.str n t,.str q (t+1),.str Ez (t+2),.int (.ofNat ln) 0,.int (.ofNat ac) 0,.int 0 0,.int 0 0,.int 3 0,.ref k,.bool M,.int 181 0,.ref (k+1),.none,.ref (k+2),.ref (k+3),.ref (k+4),.int (.ofNat (t+3+ns.length)) 0,.int (.ofNat ln) 0,.str Ez (t+4+ns.length)]),BL (.type "function") (.func (G7 st q 3 [] df .none (bC doc (.str (Z3 st) (t+5+ns.length)) .none) md an (.ref (k+5)) .none 0))]
noncomputable def Ad(n:O):A4:=.int (.ofNat n) 0
noncomputable def AI(n:A8):A4:=.ref n
noncomputable def Aj(s:U)(t:EP):A4:=.str s t
noncomputable def Dc(s:D9):A4:=.builtin s
noncomputable def DD(l:BW A4):Bi:=BL (.type "tuple") (.seq l 0)
noncomputable def F0(n:O)(l:BW FQ):Bi:=BL (.type "dict") (.dict l n)
noncomputable def GR(l:BW A4):Bi:=BL .none (.fields l)
noncomputable def Dv(s:D9)(l:BW A4):Bi:=BL (.type s) (.fields l)
noncomputable def CO(v:A4):AD A4:=G v
noncomputable def Ny(s:U)(a:O)(l r i j:O)(e:O):Bi:=Dv "code" #[Aj s a,Aj s (a+1),Aj Ez (a+2),Ad l,Ad 0,Ad 0,Ad 0,Ad 0,AI r,.bool A6,Ad i,AI (r+1),.none,.none,.none,.none,Ad j,Ad l,Aj Ez e]
noncomputable def jQ(P:Dq):Bi:=⟨(.type "type"),L,.cls (SH Nt [.type "tuple"] [AI 135,.type "tuple",.type "object"] 134 Nt A6 [] [] A6 L A6),#[CO (AI 65),L,CO (Aj Nt 253),CO (Aj Nt 261),G .none,G (.bool A6)]⟩
noncomputable def jR(l:I Bi):I Bi:=Kg (λ_=>[]) (λx _ ih b=>bC b (x::ih A6) (ih M)) l M
noncomputable def jS(n:O):D9:=t4 ((sL 64 n []).map Char.ofNat)
noncomputable def Ct(P:Dq)(n:O)(t:EP):FQ:=E P (sD n) t (.builtin (jS n))
noncomputable def BO(P:Dq)(n:O)(t:EP):FQ:=E P (sD n) t (.type (jS n))
noncomputable def p0(P:Dq):Bi:=F0 159 #[E P s0 1 (Aj s1 160),E P s2 2 (Dc "builtins.__doc__:str#opaque"),E P s3 3 (Dc "builtins.__package__:str#opaque"),E P s4 4 (Dc "builtins.__loader__:shared#opaque"),E P s5 5 (Dc "builtins.__spec__#opaque"),Ct P 0x5f5f6275696c645f636c6173735f5f 6,Ct P 0x5f5f696d706f72745f5f 7,Ct P 0x616273 8,Ct P 0x616c6c 9,Ct P 0x616e79 10,Ct P 0x6173636969 11,Ct P 0x62696e 12,Ct P 0x627265616b706f696e74 13,Ct P 0x63616c6c61626c65 14,Ct P 0x636872 15,Ct P 0x636f6d70696c65 16,Ct P 0x64656c61747472 17,Ct P 0x646972 18,Ct P 0x6469766d6f64 19,Ct P 0x6576616c 20,Ct P 0x65786563 21,Ct P 0x666f726d6174 22,Ct P 0x67657461747472 23,Ct P 0x676c6f62616c73 24,Ct P 0x68617361747472 25,Ct P 0x68617368 26,Ct P 0x686578 27,Ct P 0x6964 28,Ct P 0x696e707574 29,Ct P 0x6973696e7374616e6365 30,Ct P 0x6973737562636c617373 31,Ct P 0x69746572 32,Ct P 0x6169746572 33,Ct P 0x6c656e 34,Ct P 0x6c6f63616c73 35,Ct P 0x6d6178 36,Ct P 0x6d696e 37,Ct P 0x6e657874 38,Ct P 0x616e657874 39,Ct P 0x6f6374 40,Ct P 0x6f7264 41,Ct P 0x706f77 42,Ct P 0x7072696e74 43,Ct P 0x72657072 44,Ct P 0x726f756e64 45,Ct P 0x73657461747472 46,Ct P 0x736f72746564 47,Ct P 0x73756d 48,Ct P 0x76617273 49,E P (sD 0x4e6f6e65) 50 .none,⟨keyHash P il,.str il 51,.ellipsis⟩,⟨keyHash P ip,.str ip 52,.notImplemented⟩,E P (sD 0x46616c7365) 53 (.bool A6),E P (sD 0x54727565) 54 (.bool M),BO P 0x626f6f6c 55,BO P 0x6d656d6f727976696577 56,BO P 0x627974656172726179 57,BO P 0x6279746573 58,BO P 0x636c6173736d6574686f64 59,BO P 0x636f6d706c6578 60,BO P 0x64696374 61,BO P 0x656e756d6572617465 62,BO P 0x66696c746572 63,BO P 0x666c6f6174 64,BO P 0x66726f7a656e736574 65,BO P 0x70726f7065727479 66,BO P 0x696e74 67,BO P 0x6c697374 68,BO P 0x6d6170 69,BO P 0x6f626a656374 70,BO P 0x72616e6765 71,BO P 0x7265766572736564 72,BO P 0x736574 73,BO P 0x736c696365 74,BO P 0x7374617469636d6574686f64 75,BO P 0x737472 76,BO P 0x7375706572 77,BO P 0x7475706c65 78,BO P 0x74797065 79,BO P 0x7a6970 80,E P (sD 0x5f5f64656275675f5f) 81 (.bool M),BO P 0x42617365457863657074696f6e 82,BO P 0x42617365457863657074696f6e47726f7570 83,BO P 0x457863657074696f6e 84,BO P 0x47656e657261746f7245786974 85,BO P 0x4b6579626f617264496e74657272757074 86,BO P 0x53797374656d45786974 87,BO P 0x41726974686d657469634572726f72 88,BO P 0x417373657274696f6e4572726f72 89,BO P 0x4174747269627574654572726f72 90,BO P 0x4275666665724572726f72 91,BO P 0x454f464572726f72 92,BO P 0x496d706f72744572726f72 93,BO P 0x4c6f6f6b75704572726f72 94,BO P 0x4d656d6f72794572726f72 95,BO P 0x4e616d654572726f72 96,BO P 0x4f534572726f72 97,BO P 0x5265666572656e63654572726f72 98,BO P 0x52756e74696d654572726f72 99,BO P 0x53746f704173796e63497465726174696f6e 100,BO P 0x53746f70497465726174696f6e 101,BO P 0x53796e7461784572726f72 102,BO P 0x53797374656d4572726f72 103,BO P 0x547970654572726f72 104,BO P 0x56616c75654572726f72 105,BO P 0x5761726e696e67 106,BO P 0x466c6f6174696e67506f696e744572726f72 107,BO P 0x4f766572666c6f774572726f72 108,BO P 0x5a65726f4469766973696f6e4572726f72 109,BO P 0x42797465735761726e696e67 110,BO P 0x4465707265636174696f6e5761726e696e67 111,BO P 0x456e636f64696e675761726e696e67 112,BO P 0x4675747572655761726e696e67 113,BO P 0x496d706f72745761726e696e67 114,BO P 0x50656e64696e674465707265636174696f6e5761726e696e67 115,BO P 0x5265736f757263655761726e696e67 116,BO P 0x52756e74696d655761726e696e67 117,BO P 0x53796e7461785761726e696e67 118,BO P 0x556e69636f64655761726e696e67 119,BO P 0x557365725761726e696e67 120,BO P 0x426c6f636b696e67494f4572726f72 121,BO P 0x4368696c6450726f636573734572726f72 122,BO P 0x436f6e6e656374696f6e4572726f72 123,BO P 0x46696c654578697374734572726f72 124,BO P 0x46696c654e6f74466f756e644572726f72 125,BO P 0x496e7465727275707465644572726f72 126,BO P 0x4973414469726563746f72794572726f72 127,BO P 0x4e6f74414469726563746f72794572726f72 128,BO P 0x5065726d697373696f6e4572726f72 129,BO P 0x50726f636573734c6f6f6b75704572726f72 130,BO P 0x54696d656f75744572726f72 131,BO P 0x496e64656e746174696f6e4572726f72 132,BO P 0x5f496e636f6d706c657465496e7075744572726f72 133,BO P 0x496e6465784572726f72 134,BO P 0x4b65794572726f72 135,BO P 0x4d6f64756c654e6f74466f756e644572726f72 136,BO P 0x4e6f74496d706c656d656e7465644572726f72 137,BO P 0x507974686f6e46696e616c697a6174696f6e4572726f72 138,BO P 0x526563757273696f6e4572726f72 139,BO P 0x556e626f756e644c6f63616c4572726f72 140,BO P 0x556e69636f64654572726f72 141,BO P 0x42726f6b656e506970654572726f72 142,BO P 0x436f6e6e656374696f6e41626f727465644572726f72 143,BO P 0x436f6e6e656374696f6e526566757365644572726f72 144,BO P 0x436f6e6e656374696f6e52657365744572726f72 145,BO P 0x5461624572726f72 146,BO P 0x556e69636f64654465636f64654572726f72 147,BO P 0x556e69636f6465456e636f64654572726f72 148,BO P 0x556e69636f64655472616e736c6174654572726f72 149,BO P 0x457863657074696f6e47726f7570 150,E P (sD 0x456e7669726f6e6d656e744572726f72) 151 (.type "OSError"),E P (sD 0x494f4572726f72) 152 (.type "OSError"),Ct P 0x6f70656e 153,E P (sD 0x71756974) 154 (Dc "builtins.quit#opaque"),E P (sD 0x65786974) 155 (Dc "builtins.exit#opaque"),E P (sD 0x636f70797269676874) 156 (Dc "builtins.copyright#opaque"),E P (sD 0x63726564697473) 157 (Dc "builtins.credits#opaque"),E P (sD 0x6c6963656e7365) 158 (Dc "builtins.license#opaque"),E P (sD 0x68656c70) 159 (Dc "builtins.help#opaque")]
noncomputable def p1(P:Dq):Bi:=F0 2 #[E P s1 162 (AI 4),E P SI 163 (AI 5)]
noncomputable def p2(P:Dq):Bi:=BL .none (.dict #[] 0)
noncomputable def p3(P:Dq):Bi:=F0 9 #[E P s0 165 (Aj SI 164),E P s2 166 .none,E P s3 167 .none,E P s4 168 (Dc "__main__.__loader__#opaque"),E P s5 169 .none,E P Z4 170 (AI 6),E P iq 171 (AI 4),E P ir 173 (Aj Ez 172),E P iu 174 .none]
noncomputable def p4(P:Dq):Bi:=⟨(.type "module"),G 0,.plain,#[]⟩
noncomputable def p5(P:Dq):Bi:=⟨(.type "module"),G 3,.plain,#[]⟩
noncomputable def p6(P:Dq):Bi:=F0 0 #[]
noncomputable def p7(P:Dq):Bi:=DD #[]
noncomputable def p8(P:Dq):Bi:=GR #[]
noncomputable def p9(P:Dq):Bi:=Ny iv 176 1 7 175 179 180
noncomputable def jT(P:Dq):Bi:=⟨(.type "frame"),L,.plain,#[CO (AI 9),CO (AI 3),CO (AI 3),L,CO (Aj SI 164),L,CO (AI 0)]⟩
noncomputable def jU(P:Dq):Bi:=DD #[]
noncomputable def wf(P:Dq):Bi:=GR #[]
noncomputable def jV(P:Dq):Bi:=Ny iv 182 1 11 181 185 186
noncomputable def jW(P:Dq):Bi:=⟨(.type "frame"),L,.plain,#[CO (AI 13),CO (AI 3),CO (AI 3),L,CO (Aj SI 164),L,CO (AI 0)]⟩
noncomputable def Nz(P:Dq):I Bi:=[[p0 P,p1 P,p2 P,F0 38 #[E P s0 165 (Aj JC 791),E P s2 166 .none,E P s3 167 .none,E P s4 168 (Dc "__main__.__loader__#opaque"),E P s5 169 .none,E P Z4 170 (AI 6),E P iq 171 (AI 4),E P ir 173 (Aj Ez 172),E P iu 174 .none,E P Z5 193 (AI 21),E P Nr 252 (AI 60),E P Nt 380 (AI 135),E P Z6 388 (AI 145),E P Nu 582 (AI 242),E P Z7 593 (AI 253),E P Z8 604 (AI 260),E P Nv 630 (AI 277),E P Nw 673 (AI 310),E P Z9 680 (AI 319),E P ZA 692 (AI 326),E P SJ 705 (AI 333),E P ZB 714 (AI 340),E P SM 726 (AI 347),E P ZC 736 (AI 354),E P ZD 746 (AI 361),E P ZE 757 (AI 368),E P ZF 773 (AI 375),E P ZG 790 (AI 382),E P SN 798 (AI 387),E P SO 804 (AI 392),E P ZH 814 (AI 399),E P SP 820 (AI 404),E P ZI 831 (AI 411),E P SQ 837 (AI 416),E P ZJ 845 (AI 423),E P ZK 860 (AI 430),E P SR 866 (AI 435),E P ZL 875 (AI 442)],p4 P,p5 P,p6 P,p7 P,p8 P,p9 P,jT P,jU P,GR #[Ad 1,Ad 0,AI 20,Ad 5,Ad 0,AI 27,Ad 23,Ad 0,AI 71,Ad 66,Ad 0,AI 144,Ad 70,Ad 0,AI 151,Ad 462,Ad 0,AI 252,Ad 472,Ad 0,AI 259,Ad 478,Ad 0,AI 266,Ad 483,Ad 0,AI 285,Ad 498,Ad 0,AI 318,Ad 502,Ad 0,AI 325,Ad 519,Ad 0,AI 332,Ad 531,Ad 0,AI 339,Ad 536,Ad 0,AI 346,Ad 557,Ad 0,AI 353,Ad 574,Ad 0,AI 360,Ad 580,Ad 0,AI 367,Ad 589,Ad 0,AI 374,Ad 616,Ad 0,AI 381,Ad 656,Ad 0,AI 386,Ad 666,Ad 0,AI 391,Ad 668,Ad 0,AI 398,Ad 676,Ad 0,AI 403,Ad 691,Ad 0,AI 410,Ad 699,Ad 0,AI 415,Ad 705,Ad 0,AI 422,Ad 707,Ad 0,AI 429,Ad 716,Ad 0,AI 434,Ad 725,Ad 0,AI 441],jV P,jW P],fo 15 (Ba 0) Z5 Z5 [Va] 187 1 1 .none A6 (Aj SI 164) L,[DD #[],Dv "builtin_function_or_method" #[Dc "type.__prepare__",.type "type"],F0 8 #[E P JD 203 (Aj DP 194),E P Ps 205 (Aj Nr 204),E P Jy 207 (.int 5 206),E P Pt 216 (AI 35),E P ZM 225 (AI 43),E P ZN 234 (AI 50),E P ZO 242 (AI 57),E P Jz 245 (AI 58)],DD #[],GR #[Ad 7,Ad 4,AI 34,Ad 11,Ad 4,AI 42,Ad 18,Ad 4,AI 49,Ad 21,Ad 4,AI 56],Ny Nr 198 5 25 181 201 202,⟨(.type "frame"),L,.plain,#[CO (AI 27),CO (AI 3),CO (AI 24),L,CO (Aj DP 194),L,CO (AI 0)]⟩],fo 29 (DC 2 0) Pt (sD 0x5f7475706c656765747465722e5f5f696e69745f5f) [Em,ME,Vb] 208 7 3 .none A6 (Aj DP 194) L,[DD #[.none]],fo 37 (DC 2 1) ZM (sD 0x5f7475706c656765747465722e5f5f6765745f5f) [Em,ZP,sD 0x6f626a74797065] 217 11 3 (AI 36) A6 (Aj DP 194) L,fo 44 (DC 2 2) ZN (sD 0x5f7475706c656765747465722e5f5f7365745f5f) [Em,ZP,sD 0x76616c7565] 226 18 3 .none A6 (Aj DP 194) L,fo 51 (DC 2 3) ZO (sD 0x5f7475706c656765747465722e5f5f64656c6574655f5f) [Em,ZP] 235 21 2 .none A6 (Aj DP 194) L,[DD #[Aj s2 243,Aj ME 244],F0 4 #[E P JD 203 (Aj DP 194),E P Jy 207 (.int 5 206),E P Pt 216 (AI 35),E P ZM 225 (AI 43),E P ZN 234 (AI 50),E P ZO 242 (AI 57),E P Jz 245 (AI 58),E P Vc 247 (AI 61),E P Vd 249 (AI 62),E P s2 250 .none],⟨(.type "type"),L,.cls (SH Nr [.type "object"] [AI 60,.type "object"] 59 Nr M [] [] A6 L A6),#[L,L,CO (Aj Nr 196),CO (Aj Nr 204),CO (Dc "object.__new__"),G (.bool M)]⟩,Dv "getset_descriptor" #[Aj Vc 246,AI 60,Dc "function.__dict__",Dc "function.__dict__#set"],Dv "getset_descriptor" #[Aj Vd 248,AI 60,Dc "ExceptionGroup.__weakref__",.none],Dv "super" #[AI 60,AI 60,AI 60],Dv "builtin_function_or_method" #[Dc "object.__init_subclass__",AI 60],DD #[.type "tuple"],Dv "builtin_function_or_method" #[Dc "type.__prepare__",.type "type"],F0 20 #[E P JD 260 (Aj DP 194),E P Ps 262 (Aj Nt 261),E P Jy 264 (.int 23 263),E P s2 266 (Aj iw 265),E P ix 268 (AI 73),E P iy 272 (AI 74),E P iz 273 (AI 75),E P ZQ 284 (AI 82),E P Ve 306 (AI 91),E P ZR 317 (AI 100),E P j0 318 (AI 100),E P ZS 326 (AI 107),E P ZT 333 (AI 114),E P ZU 341 (AI 121),E P j2 345 (AI 122),E P Hs 355 (AI 124),E P Ht 365 (AI 127),E P Pu 375 (AI 130),E P Jz 376 (AI 132),E P (sD 0x5f5f636c61737363656c6c5f5f) 377 (AI 68)],BL (.type "cell") (.cell (CO (AI 135))),DD #[],GR #[Ad 29,Ad 4,AI 81,Ad 34,Ad 4,AI 88,Ad 41,Ad 4,AI 99,Ad 52,Ad 4,AI 106,Ad 56,Ad 4,AI 113,Ad 59,Ad 4,AI 120],Ny Nt 255 23 69 181 258 259,⟨(.type "frame"),L,.plain,#[CO (AI 71),CO (AI 3),CO (AI 67),L,CO (Aj DP 194),L,CO (AI 0)]⟩,DD #[],DD #[Aj Hs 269,Aj Ht 270,Aj Pu 271],F0 0 #[]],fo 76 (DC 3 4) ZQ (sD 0x4d617463682e5f5f6e65775f5f) [sD 0x5f636c73,Hs,Ht,Pu] 274 29 4 .none M (Aj DP 194) L,fo 83 (DC 3 5) Ve j4 [SU,sD 0x6974657261626c65,j3] 285 33 2 .none M (Aj DP 194) (G 92),[F0 5 #[E P JD 295 (Aj DP 194),E P s0 298 (Aj Ve 297),E P Ps 301 (Aj j4 300),E P s2 303 (Aj (sD 0x4d616b652061206e6577204d61746368206f626a6563742066726f6d20612073657175656e6365206f72206974657261626c65) 293),E P Z4 305 (AI 92)],⟨(.type "classmethod"),G 90,(.fields #[AI 89,.bool A6]),#[]⟩,F0 0 #[],DD #[AI 68],DD #[Aj j5 310],GR #[],DD #[Aj Em 311,Aj (sD 0x6b776473) 312,Aj j3 313],DD #[],BL .none (.func (G7 (DC 3 6) ZV 0 [] .none .none .none .none L .none .none 0)),Dv "code" #[Aj ZR 307,Aj ZV 308,Aj Ez 309,Ad 41,Ad 1,Ad 1,Ad 0,Ad 11,AI 94,.bool M,Ad 181,AI 95,.none,AI 96,AI 97,AI 98,Ad 314,Ad 41,Aj Ez 315],BL (.type "function") (.func (G7 (DC 3 6) ZV 3 [(j5,68)] .none .none (.str (Z3 (DC 3 6)) 316) (Aj DP 194) L (AI 99) (AI 93) 0))],fo 101 (DC 3 8) ZS (sD 0x4d617463682e5f5f726570725f5f) [Em] 319 52 1 .none M (Aj DP 194) L,fo 108 (DC 3 9) ZT (sD 0x4d617463682e5f617364696374) [Em] 327 56 1 .none A6 (Aj DP 194) L,fo 115 (DC 3 10) ZU (sD 0x4d617463682e5f5f6765746e6577617267735f5f) [Em] 334 59 1 .none M (Aj DP 194) L,[DD #[Aj Hs 342,Aj Ht 343,Aj Pu 344],F0 2 #[E P ME 352 (.int 0 346),E P s2 354 (Aj j6 347)],⟨(AI 60),G 123,.plain,#[]⟩,BL (.type "frame") (.dict #[E P Em 348 (AI 124),E P ME 349 (.int 0 346),E P Vb 350 (Aj j6 347)] 3),F0 2 #[E P ME 362 (.int 1 356),E P s2 364 (Aj j7 357)],⟨(AI 60),G 126,.plain,#[]⟩,BL (.type "frame") (.dict #[E P Em 358 (AI 127),E P ME 359 (.int 1 356),E P Vb 360 (Aj j7 357)] 3),F0 2 #[E P ME 372 (.int 2 366),E P s2 374 (Aj j8 367)],⟨(AI 60),G 129,.plain,#[]⟩,BL (.type "frame") (.dict #[E P Em 368 (AI 130),E P ME 369 (.int 2 366),E P Vb 370 (Aj j8 367)] 3),DD #[],BL (.type "list") (.seq #[] 0),F0 2 #[E P JD 260 (Aj DP 194),E P Jy 264 (.int 23 263),E P s2 266 (Aj iw 265),E P ix 268 (AI 73),E P iy 272 (AI 74),E P iz 273 (AI 75),E P ZQ 284 (AI 136),E P Ve 306 (AI 91),E P ZR 317 (AI 100),E P j0 318 (AI 100),E P ZS 326 (AI 107),E P ZT 333 (AI 114),E P ZU 341 (AI 121),E P j2 345 (AI 122),E P Hs 355 (AI 124),E P Ht 365 (AI 127),E P Pu 375 (AI 130),E P Jz 376 (AI 132)],jQ P,Dv "staticmethod" #[AI 82],Dv "super" #[AI 135,AI 135,AI 135],Dv "builtin_function_or_method" #[Dc "object.__init_subclass__",AI 135]],fo 139 (Ba 4) Z6 Z6 [j9,jA] 381 66 2 .none A6 (Aj DP 194) L,[DD #[],Dv "builtin_function_or_method" #[Dc "type.__prepare__",.type "type"],F0 17 #[E P JD 396 (Aj DP 194),E P Ps 398 (Aj Nu 397),E P Jy 400 (.int 70 399),E P s2 402 (.str (ik 5) 401),E P Pt 417 (AI 160),E P ZW 427 (AI 167),E P ZX 436 (AI 174),E P ZY 445 (AI 181),E P jB 463 (AI 188),E P ZZ 491 (AI 196),E P Z_ 518 (AI 203),E P Za 533 (AI 210),E P Zc 542 (AI 218),E P Zd 551 (AI 225),E P Ze 558 (AI 232),E P Zf 565 (AI 239),E P Jz 576 (AI 240)],DD #[],GR #[Ad 145,Ad 4,AI 159,Ad 173,Ad 4,AI 166,Ad 184,Ad 4,AI 173,Ad 209,Ad 4,AI 180,Ad 236,Ad 4,AI 187,Ad 260,Ad 4,AI 195,Ad 335,Ad 4,AI 202,Ad 383,Ad 4,AI 209,Ad 430,Ad 4,AI 217,Ad 433,Ad 4,AI 224,Ad 457,Ad 4,AI 231,Ad 460,Ad 4,AI 238],Ny Nu 391 70 149 181 394 395,⟨(.type "frame"),L,.plain,#[CO (AI 151),CO (AI 3),CO (AI 148),L,CO (Aj DP 194),L,CO (AI 0)]⟩,DD #[.none,Aj jC 404,Aj jC 405,.bool M]],fo 154 (DC 5 1) Pt (sD 0x53657175656e63654d6174636865722e5f5f696e69745f5f) [Em,Zg,Hs,Ht,jD] 406 145 5 (AI 153) M (Aj DP 194) L,fo 161 (DC 5 2) ZW (sD 0x53657175656e63654d6174636865722e7365745f73657173) [Em,Hs,Ht] 418 173 3 .none M (Aj DP 194) L,fo 168 (DC 5 3) ZX (sD 0x53657175656e63654d6174636865722e7365745f73657131) [Em,Hs] 428 184 2 .none M (Aj DP 194) L,fo 175 (DC 5 4) ZY (sD 0x53657175656e63654d6174636865722e7365745f73657132) [Em,Ht] 437 209 2 .none M (Aj DP 194) L,fo 182 (DC 5 5) (sD 0x5f5f636861696e5f62) (sD 0x53657175656e63654d6174636865722e5f5f636861696e5f62) [Em,Ht,Zh,MF,sD 0x656c74,sD 0x696e6469636573,sD 0x6a756e6b,Zg,sD 0x706f70756c6172,jE,sD 0x6e74657374,sD 0x69647873] 446 236 1 .none A6 (Aj DP 194) L,[DD #[.int 0 464,.none,.int 0 465,.none]],fo 190 (DC 5 6) ZZ (sD 0x53657175656e63654d6174636865722e66696e645f6c6f6e676573745f6d61746368) [Em,jF,jG,jH,jI,Hs,Ht,Zh,sD 0x6973626a756e6b,sD 0x6265737469,sD 0x626573746a,sD 0x6265737473697a65,sD 0x6a326c656e,sD 0x6e6f7468696e67,MF,sD 0x6a326c656e676574,sD 0x6e65776a326c656e,SV,Va] 466 260 5 (AI 189) M (Aj DP 194) L,fo 197 (DC 5 7) Z_ (sD 0x53657175656e63654d6174636865722e6765745f6d61746368696e675f626c6f636b73) [Em,sD 0x6c61,sD 0x6c62,sD 0x7175657565,jJ,jF,jG,jH,jI,MF,SV,Va,jK,sD 0x6931,sD 0x6a31,sD 0x6b31,sD 0x6e6f6e5f61646a6163656e74,sD 0x6932,sD 0x6a32,sD 0x6b32] 492 335 1 .none M (Aj DP 194) L,fo 204 (DC 5 8) Za (sD 0x53657175656e63654d6174636865722e6765745f6f70636f646573) [Em,MF,SV,sD 0x616e73776572,sD 0x6169,sD 0x626a,Pu,sD 0x746167] 519 383 1 .none M (Aj DP 194) L,[DD #[.int 3 534]],fo 212 (DC 5 9) Zc (sD 0x53657175656e63654d6174636865722e6765745f67726f757065645f6f70636f646573) [Em,jE] 535 430 2 (AI 211) A6 (Aj DP 194) L,fo 219 (DC 5 10) Zd (sD 0x53657175656e63654d6174636865722e726174696f) [Em,j9] 543 433 1 .none M (Aj DP 194) L,fo 226 (DC 5 11) Ze (sD 0x53657175656e63654d6174636865722e717569636b5f726174696f) [Em] 552 457 1 .none A6 (Aj DP 194) L,fo 233 (DC 5 12) Zf (sD 0x53657175656e63654d6174636865722e7265616c5f717569636b5f726174696f) [Em] 559 460 1 .none A6 (Aj DP 194) L,[DD #[Aj Hs 566,Aj jD 567,Aj Ht 568,Aj Zh 569,Aj (sD 0x626a756e6b) 570,Aj (sD 0x62706f70756c6172) 571,Aj (sD 0x66756c6c62636f756e74) 572,Aj Zg 573,Aj jJ 574,Aj (sD 0x6f70636f646573) 575],F0 3 #[E P JD 396 (Aj DP 194),E P Jy 400 (.int 70 399),E P s2 402 (.str (ik 5) 401),E P Pt 417 (AI 160),E P ZW 427 (AI 167),E P ZX 436 (AI 174),E P ZY 445 (AI 181),E P jB 463 (AI 188),E P ZZ 491 (AI 196),E P Z_ 518 (AI 203),E P Za 533 (AI 210),E P Zc 542 (AI 218),E P Zd 551 (AI 225),E P Ze 558 (AI 232),E P Zf 565 (AI 239),E P Jz 576 (AI 240),E P Vc 578 (AI 243),E P Vd 580 (AI 244)],⟨(.type "type"),L,.cls (SH Nu [.type "object"] [AI 242,.type "object"] 241 Nu M [] [] A6 L A6),#[L,L,CO (Aj Nu 389),CO (Aj Nu 397),CO (Dc "object.__new__"),G (.bool M)]⟩,Dv "getset_descriptor" #[Aj Vc 577,AI 242,Dc "function.__dict__",Dc "function.__dict__#set"],Dv "getset_descriptor" #[Aj Vd 579,AI 242,Dc "ExceptionGroup.__weakref__",.none],Dv "super" #[AI 242,AI 242,AI 242],Dv "builtin_function_or_method" #[Dc "object.__init_subclass__",AI 242]],fo 247 (Ba 6) Z7 Z7 [jL,sD 0x73746f70,sD 0x626567696e6e696e67,jA] 583 462 2 .none M (Aj DP 194) L,fo 254 (Ba 8) Z8 Z8 [jK,sD 0x77686174,jM] 596 472 2 .none A6 (Aj jN 594) L,[DD #[.type "type"],Dv "builtin_function_or_method" #[Dc "type.__prepare__",.type "type"],F0 5 #[E P JD 614 (Aj Vf 605),E P Ps 616 (Aj Nv 615),E P Jy 618 (.int 478 617),E P Pw 626 (AI 274),E P Jz 627 (AI 275)],DD #[],GR #[Ad 480,Ad 4,AI 273],Ny Nv 609 478 264 181 612 613,⟨(.type "frame"),L,.plain,#[CO (AI 266),CO (AI 3),CO (AI 263),L,CO (Aj Vf 605),L,CO (AI 0)]⟩],fo 268 (DC 10 0) Pw (sD 0x4142434d6574612e7265676973746572) [SU,jO] 619 480 2 .none A6 (Aj Vf 605) L,[DD #[],F0 2 #[E P JD 614 (Aj Vf 605),E P Jy 618 (.int 478 617),E P Pw 626 (AI 274),E P Jz 627 (AI 275),E P s2 628 .none],⟨(.type "type"),L,.cls (SH Nv [.type "type"] [AI 277,.type "type",.type "object"] 276 Nv M [] [AI 310] A6 L A6),#[CO (AI 261),L,CO (Aj Nv 607),CO (Aj Nv 615),CO (Dc "type.__new__"),G (.bool M)]⟩,Dv "super" #[AI 277,AI 277,AI 277],Dv "builtin_function_or_method" #[Dc "object.__init_subclass__",AI 277],DD #[AI 277],Dv "builtin_function_or_method" #[Dc "type.__prepare__",.type "type"],F0 7 #[E P JD 640 (Aj MG 631),E P Ps 642 (Aj Nw 641),E P Jy 644 (.int 483 643),E P Zi 653 (AI 293),E P Zj 661 (AI 300),E P Pw 669 (AI 307),E P Jz 670 (AI 308)],DD #[],GR #[Ad 485,Ad 4,AI 292,Ad 491,Ad 4,AI 299,Ad 496,Ad 4,AI 306],Ny Nw 635 483 283 181 638 639,⟨(.type "frame"),L,.plain,#[CO (AI 285),CO (AI 3),CO (AI 282),L,CO (Aj MG 631),L,CO (AI 0)]⟩],fo 287 (DC 12 0) Zi (sD 0x5f4142434c696b652e5f5f696e7374616e6365636865636b5f5f) [SU,sD 0x696e7374616e6365,Zk] 645 485 2 .none A6 (Aj MG 631) L,fo 294 (DC 12 1) Zj (sD 0x5f4142434c696b652e5f5f737562636c617373636865636b5f5f) [SU,Zk] 654 491 2 .none A6 (Aj MG 631) L,fo 301 (DC 12 2) Pw (sD 0x5f4142434c696b652e7265676973746572) [SU,jO] 662 496 2 .none A6 (Aj MG 631) L,[DD #[],F0 2 #[E P JD 640 (Aj MG 631),E P Jy 644 (.int 483 643),E P Zi 653 (AI 293),E P Zj 661 (AI 300),E P Pw 669 (AI 307),E P Jz 670 (AI 308),E P s2 671 .none],⟨(.type "type"),L,.cls (SH Nw [AI 277] [AI 310,AI 277,.type "type",.type "object"] 309 Nw M [] [] A6 L A6),#[CO (AI 280),L,CO (Aj Nw 633),CO (Aj Nw 641),CO (Dc "type.__new__"),G (.bool M)]⟩,Dv "super" #[AI 310,AI 310,AI 310],Dv "builtin_function_or_method" #[Dc "object.__init_subclass__",AI 310]],fo 313 (Ba 13) Z9 Z9 [Zk] 674 498 1 .none A6 (Aj MG 631) L,fo 320 (Ba 15) ZA ZA [Px,jM,sD 0x686f6f6b,sD 0x676976656e] 683 502 1 .none A6 (Aj jN 681) L,[DD #[],GR #[],DD #[Aj (sD 0x66756e636e616d65) 698,Aj (sD 0x61726773) 699,Aj (sD 0x686173737472) 700,Aj (sD 0x6861736279746573) 701,Aj (sD 0x73) 702],DD #[],BL .none (.func (G7 (Ba 17) SJ 0 [] .none .none .none .none L .none .none 0)),Dv "code" #[Aj SJ 695,Aj SJ 696,Aj Ez 697,Ad 519,Ad 1,Ad 0,Ad 0,Ad 7,AI 327,.bool M,Ad 181,AI 328,.none,AI 329,AI 330,AI 331,Ad 703,Ad 519,Aj Ez 704],BL (.type "function") (.func (G7 (Ba 17) SJ 3 [] .none .none .none (Aj (sD 0x6370793331332e67656e6572696370617468) 693) L (AI 332) .none 0))],fo 334 (Ba 19) ZB ZB [Px] 708 531 1 .none A6 (Aj Py 706) L,[DD #[],GR #[],DD #[Aj Hs 718,Aj Vg 719,Aj SX 720,Aj Px 721,Aj Ht 722],DD #[],BL .none (.func (G7 (Ba 20) SM 0 [] .none .none .none .none L .none .none 0)),Dv "code" #[Aj SM 715,Aj SM 716,Aj Ez 717,Ad 536,Ad 1,Ad 0,Ad 0,Ad 7,AI 341,.bool M,Ad 181,AI 342,.none,AI 343,AI 344,AI 345,Ad 723,Ad 536,Aj Ez 724],BL (.type "function") (.func (G7 (Ba 20) SM 3 [] .none .none (.str (Z3 (Ba 20)) 725) (Aj Py 706) L (AI 346) .none 0))],fo 348 (Ba 21) ZC ZC [Vg,SX,sD 0x656d707479] 727 557 1 .none M (Aj Py 706) L,fo 355 (Ba 22) ZD ZD [Vg,SX,MF] 737 574 1 .none M (Aj Py 706) L,fo 362 (Ba 23) ZE ZE [Vg,SX,MF,sD 0x68656164] 747 580 1 .none M (Aj Py 706) L,fo 369 (Ba 24) ZF ZF [Px,SX,sD 0x646f74,sD 0x646f74646f74,sD 0x5f,sD 0x696e697469616c5f736c6173686573,sD 0x636f6d7073,sD 0x6e65775f636f6d7073,sD 0x636f6d70] 758 589 1 .none M (Aj Py 706) L,fo 376 (Ba 26) ZG ZG [sD 0x6578706563746564,sD 0x61637475616c,MF,SV,sD 0x6d697373696e67,sD 0x756e6578706563746564,sD 0x65,Hs] 776 616 2 .none M (Aj (sD 0x6370793331332e756e6974746573742e7574696c) 774) L,[DD #[],GR #[],BL .none (.func (G7 (Ba 28) SN 0 [] .none .none .none .none L .none .none 0)),Dv "code" #[Aj SN 793,Aj SN 794,Aj Ez 795,Ad 656,Ad 1,Ad 0,Ad 0,Ad 3,AI 383,.bool M,Ad 181,AI 384,.none,.none,.none,AI 385,Ad 796,Ad 656,Aj Ez 797],BL (.type "function") (.func (G7 (Ba 28) SN 3 [] .none .none .none (Aj JC 791) L (AI 386) .none 0)),DD #[],GR #[],BL .none (.func (G7 (Ba 29) SO 0 [] .none .none .none .none L .none .none 0)),Dv "code" #[Aj SO 799,Aj SO 800,Aj Ez 801,Ad 666,Ad 1,Ad 0,Ad 0,Ad 3,AI 388,.bool M,Ad 181,AI 389,.none,.none,.none,AI 390,Ad 802,Ad 666,Aj Ez 803],BL (.type "function") (.func (G7 (Ba 29) SO 3 [] .none .none .none (Aj JC 791) L (AI 391) .none 0))],fo 393 (Ba 30) ZH ZH [jP,sD 0x706c616365,sD 0x696e6e6572,Px] 805 668 2 .none A6 (Aj JC 791) L,[DD #[],GR #[],BL .none (.func (G7 (Ba 31) SP 0 [] .none .none .none .none L .none .none 0)),Dv "code" #[Aj SP 815,Aj SP 816,Aj Ez 817,Ad 676,Ad 3,Ad 0,Ad 0,Ad 3,AI 400,.bool M,Ad 181,AI 401,.none,.none,.none,AI 402,Ad 818,Ad 676,Aj Ez 819],BL (.type "function") (.func (G7 (Ba 31) SP 3 [] .none .none .none (Aj JC 791) L (AI 403) .none 0))],fo 405 (Ba 32) ZI ZI [jP,sD 0x746f70,Px,sD 0x6e6f6465,sD 0x70617274] 821 691 1 .none A6 (Aj JC 791) L,[DD #[],GR #[],BL .none (.func (G7 (Ba 33) SQ 0 [] .none .none .none .none L .none .none 0)),Dv "code" #[Aj SQ 832,Aj SQ 833,Aj Ez 834,Ad 699,Ad 2,Ad 0,Ad 0,Ad 3,AI 412,.bool M,Ad 181,AI 413,.none,.none,.none,AI 414,Ad 835,Ad 699,Aj Ez 836],BL (.type "function") (.func (G7 (Ba 33) SQ 3 [] .none .none .none (Aj JC 791) L (AI 415) .none 0))],fo 417 (Ba 34) ZJ ZJ [jL,sD 0x636f756e74] 838 705 2 .none A6 (Aj JC 791) L,fo 424 (Ba 35) ZK ZK [Hs,Ht,sD 0x7061697273,sD 0x726f7773,Va,MF,SV,sD 0x6c6f7374,sD 0x776f6e] 846 707 2 .none A6 (Aj JC 791) L,[DD #[],GR #[],BL .none (.func (G7 (Ba 36) SR 0 [] .none .none .none .none L .none .none 0)),Dv "code" #[Aj SR 861,Aj SR 862,Aj Ez 863,Ad 716,Ad 3,Ad 0,Ad 0,Ad 3,AI 431,.bool M,Ad 181,AI 432,.none,.none,.none,AI 433,Ad 864,Ad 716,Aj Ez 865],BL (.type "function") (.func (G7 (Ba 36) SR 3 [] .none .none .none (Aj JC 791) L (AI 434) .none 0))],fo 436 (Ba 37) ZL ZL [sD 0x736372697074,sD 0x647261776e,sD 0x746f6c645f736f] 867 725 1 .none A6 (Aj JC 791) L].flatten
noncomputable def jX(f:O):I Bi->BT:=RT (λ_=>.nil) (λ_ ih l=>lC l .nil λx r=>.node x (ih (jR r)) (ih (jR (r.drop 1)))) f
noncomputable def SY(P:Dq):BT:=jX 12 (Nz P)
noncomputable def wg(P:Dq):BT:=(.node (p0 P) (.node (p1 P) (.node (p3 P) (.node (p7 P) .nil .nil) (.node (jU P) .nil .nil)) (.node (p5 P) (.node (p9 P) .nil .nil) (.node (jV P) .nil .nil))) (.node (p2 P) (.node (p4 P) (.node (p8 P) .nil .nil) (.node (wf P) .nil .nil)) (.node (p6 P) (.node (jT P) .nil .nil) (.node (jW P) .nil .nil))))
noncomputable def Bb(P:Dq):Gh:=(Nz P).zipIdx.map λp=>(p.2,p.1)
noncomputable def wh(o:Bi):I FQ:=if h:o.data.ctorIdx=3 then t5 (motive:=λ_=>I FQ) o.data h (λN _=>N.toList)else[]
noncomputable def wj(o:Bi):I A4:=if h:o.data.ctorIdx=9 then t6 (motive:=λ_=>I A4) o.data h (λN=>N.toList)else[]
noncomputable def wk(n m j:O)(nm:A4)(P:Dq):I Bi:=(((Nz P).take n).set 3 (F0 m (br6 (E P s0 165 nm::((wh ((Nz P).getD 3 (p2 P))).take m).tail)))).set 12 (GR (br6 ((wj ((Nz P).getD 12 (p2 P))).take j)))
end
section
noncomputable abbrev Tx:=I O
noncomputable def CU(a b:Tx):AK:=Kg (motive:=λ_=>Tx->AK) (λb=>l0 b A6 M) (λx _ ih b=>lC b A6 λy t=>bT (BC x y) A6 (ih t)) a b
noncomputable def Bo:AK->I Tx
 |false=>[[],[120],[120,121],[121,120],[120,121,122],[122,120,121],[121,121],[120,122,120,121],[120,118,121,122,117,119],[118,121,122],[120,120]]|true=>[[],[120],[120,121],[121,120],[120,121,122],[122,120,121],[121,121],[120,122,120,121],[120,119,121,122,116,119],[119,121,122,118]]
noncomputable def IP:I Tx:=[[],[120],[120,121],[121,120],[120,121,122],[122,120,121],[121,121],[120,122,120,121]]
inductive V where|none|bool(b:AK)|int(i:AX)|str(s:Tx)|tup(c:AD A8)(Y:I V)|top(v:A4)|ref(i:O)|HA(lo hi:AX)|B'(k:O)(i:O)|sym(k:AK)(t:Tx)(ok:t∈Bo k)|IQ(m r:O)|O'(n:O)|any deriving Inhabited
noncomputable def jY(v:V):AD (AK):=V.rec (motive_1:=λ_=>AD (AK)) (motive_2:=λ_=>DM) L G (λ_=>L) (λ_=>L) (λ_ _ _=>L) (λ_=>L) (λ_=>L) (λ_ _=>L) (λ_ _=>L) (λ_ _ _=>L) (λ_ _=>L) (λ_=>L) L () (λ_ _ _ _=>()) v
theorem wl{v:V}(q:¬v.ctorIdx=1):jY v=L:=by cases v<;>first|rfl|exact(q rfl).elim
noncomputable def vBool{J:Type}(v:V)(d:J)(k:AK->J):J:=oS (jY v) d k
theorem jZ{J:Type}{v:V}{d:J}{k:AK->J}{r:J}(h:vBool v d k=r){P:V->Prop}(c:∀x,k x=r->P (.bool x))(e:d=r->P v):P v:=if q:v.ctorIdx=1 then V.bool.elim (motive_1:=λv=>vBool v d k=r->P v) v q (λx h=>c x h) h else e (oV (wl q) h)
theorem S_{J:Type}{v:V}{d:J}{k:AK->J}{r:J}(h:vBool v d k=r)(hd:d=r->Bj){P:V->Prop}(c:∀x,k x=r->P (.bool x)):P v:=jZ h c λe=>(hd e).elim
noncomputable def j_(v:V):AD (AX):=V.rec (motive_1:=λ_=>AD (AX)) (motive_2:=λ_=>DM) L (λ_=>L) G (λ_=>L) (λ_ _ _=>L) (λ_=>L) (λ_=>L) (λ_ _=>L) (λ_ _=>L) (λ_ _ _=>L) (λ_ _=>L) (λ_=>L) L () (λ_ _ _ _=>()) v
theorem wm{v:V}(q:¬v.ctorIdx=2):j_ v=L:=by cases v<;>first|rfl|exact(q rfl).elim
noncomputable def vInt{J:Type}(v:V)(d:J)(k:AX->J):J:=oS (j_ v) d k
theorem Pz{J:Type}{v:V}{d:J}{k:AX->J}{r:J}(h:vInt v d k=r){P:V->Prop}(c:∀x,k x=r->P (.int x))(e:d=r->P v):P v:=if q:v.ctorIdx=2 then V.int.elim (motive_1:=λv=>vInt v d k=r->P v) v q (λx h=>c x h) h else e (oV (wm q) h)
theorem Cu{J:Type}{v:V}{d:J}{k:AX->J}{r:J}(h:vInt v d k=r)(hd:d=r->Bj){P:V->Prop}(c:∀x,k x=r->P (.int x)):P v:=Pz h c λe=>(hd e).elim
noncomputable def ja(v:V):AD (Tx):=V.rec (motive_1:=λ_=>AD (Tx)) (motive_2:=λ_=>DM) L (λ_=>L) (λ_=>L) G (λ_ _ _=>L) (λ_=>L) (λ_=>L) (λ_ _=>L) (λ_ _=>L) (λ_ _ _=>L) (λ_ _=>L) (λ_=>L) L () (λ_ _ _ _=>()) v
theorem wn{v:V}(q:¬v.ctorIdx=3):ja v=L:=by cases v<;>first|rfl|exact(q rfl).elim
noncomputable def vStr{J:Type}(v:V)(d:J)(k:Tx->J):J:=oS (ja v) d k
theorem O0{J:Type}{v:V}{d:J}{k:Tx->J}{r:J}(h:vStr v d k=r){P:V->Prop}(c:∀x,k x=r->P (.str x))(e:d=r->P v):P v:=if q:v.ctorIdx=3 then V.str.elim (motive_1:=λv=>vStr v d k=r->P v) v q (λx h=>c x h) h else e (oV (wn q) h)
theorem Dd{J:Type}{v:V}{d:J}{k:Tx->J}{r:J}(h:vStr v d k=r)(hd:d=r->Bj){P:V->Prop}(c:∀x,k x=r->P (.str x)):P v:=O0 h c λe=>(hd e).elim
noncomputable def jb(v:V):AD (AD A8×I V):=V.rec (motive_1:=λ_=>AD (AD A8×I V)) (motive_2:=λ_=>DM) L (λ_=>L) (λ_=>L) (λ_=>L) (λa b _=>G (a,b)) (λ_=>L) (λ_=>L) (λ_ _=>L) (λ_ _=>L) (λ_ _ _=>L) (λ_ _=>L) (λ_=>L) L () (λ_ _ _ _=>()) v
theorem wo{v:V}(q:¬v.ctorIdx=4):jb v=L:=by cases v<;>first|rfl|exact(q rfl).elim
noncomputable def FU{J:Type}(v:V)(d:J)(k:AD A8->I V->J):J:=oS (jb v) d (H7 k)
theorem jc{J:Type}{v:V}{d:J}{k:AD A8->I V->J}{r:J}(h:FU v d k=r){P:V->Prop}(c:∀x y,k x y=r->P (.tup x y))(e:d=r->P v):P v:=if q:v.ctorIdx=4 then V.tup.elim (motive_1:=λv=>FU v d k=r->P v) v q (λx y h=>c x y h) h else e (oV (wo q) h)
theorem IR{J:Type}{v:V}{d:J}{k:AD A8->I V->J}{r:J}(h:FU v d k=r)(hd:d=r->Bj){P:V->Prop}(c:∀x y,k x y=r->P (.tup x y)):P v:=jc h c λe=>(hd e).elim
noncomputable def jd(v:V):AD (A4):=V.rec (motive_1:=λ_=>AD (A4)) (motive_2:=λ_=>DM) L (λ_=>L) (λ_=>L) (λ_=>L) (λ_ _ _=>L) G (λ_=>L) (λ_ _=>L) (λ_ _=>L) (λ_ _ _=>L) (λ_ _=>L) (λ_=>L) L () (λ_ _ _ _=>()) v
theorem wq{v:V}(q:¬v.ctorIdx=5):jd v=L:=by cases v<;>first|rfl|exact(q rfl).elim
noncomputable def IS{J:Type}(v:V)(d:J)(k:A4->J):J:=oS (jd v) d k
theorem Zl{J:Type}{v:V}{d:J}{k:A4->J}{r:J}(h:IS v d k=r){P:V->Prop}(c:∀x,k x=r->P (.top x))(e:d=r->P v):P v:=if q:v.ctorIdx=5 then V.top.elim (motive_1:=λv=>IS v d k=r->P v) v q (λx h=>c x h) h else e (oV (wq q) h)
theorem O1{J:Type}{v:V}{d:J}{k:A4->J}{r:J}(h:IS v d k=r)(hd:d=r->Bj){P:V->Prop}(c:∀x,k x=r->P (.top x)):P v:=Zl h c λe=>(hd e).elim
noncomputable def je(v:V):AD (O):=V.rec (motive_1:=λ_=>AD (O)) (motive_2:=λ_=>DM) L (λ_=>L) (λ_=>L) (λ_=>L) (λ_ _ _=>L) (λ_=>L) G (λ_ _=>L) (λ_ _=>L) (λ_ _ _=>L) (λ_ _=>L) (λ_=>L) L () (λ_ _ _ _=>()) v
theorem wt{v:V}(q:¬v.ctorIdx=6):je v=L:=by cases v<;>first|rfl|exact(q rfl).elim
noncomputable def DQ{J:Type}(v:V)(d:J)(k:O->J):J:=oS (je v) d k
theorem Vh{J:Type}{v:V}{d:J}{k:O->J}{r:J}(h:DQ v d k=r){P:V->Prop}(c:∀x,k x=r->P (.ref x))(e:d=r->P v):P v:=if q:v.ctorIdx=6 then V.ref.elim (motive_1:=λv=>DQ v d k=r->P v) v q (λx h=>c x h) h else e (oV (wt q) h)
theorem EI{J:Type}{v:V}{d:J}{k:O->J}{r:J}(h:DQ v d k=r)(hd:d=r->Bj){P:V->Prop}(c:∀x,k x=r->P (.ref x)):P v:=Vh h c λe=>(hd e).elim
noncomputable def Sa{J:Type}(v:V)(d:J)(k:O->O->J):J:=if h:v.ctorIdx=10 then V.IQ.elim (motive_1:=λ_=>J) v h k else d
theorem wu{J:Type}{v:V}{d:J}{k:O->O->J}{r:J}(h:Sa v d k=r){P:V->Prop}(c:∀x y,k x y=r->P (.IQ x y))(e:d=r->P v):P v:=if q:v.ctorIdx=10 then V.IQ.elim (motive_1:=λv=>Sa v d k=r->P v) v q (λx y h=>c x y h) h else e ((D3 q).symm.trans h)
theorem jf{J:Type}{v:V}{d:J}{k:O->O->J}{r:J}(h:Sa v d k=r)(hd:d=r->Bj){P:V->Prop}(c:∀x y,k x y=r->P (.IQ x y)):P v:=wu h c λe=>(hd e).elim
noncomputable def Vi{J:Type}(v:V)(d:J)(k:O->J):J:=if h:v.ctorIdx=11 then V.O'.elim (motive_1:=λ_=>J) v h k else d
theorem ww{J:Type}{v:V}{d:J}{k:O->J}{r:J}(h:Vi v d k=r){P:V->Prop}(c:∀x,k x=r->P (.O' x))(e:d=r->P v):P v:=if q:v.ctorIdx=11 then V.O'.elim (motive_1:=λv=>Vi v d k=r->P v) v q (λx h=>c x h) h else e ((D3 q).symm.trans h)
theorem wx{J:Type}{v:V}{d:J}{k:O->J}{r:J}(h:Vi v d k=r)(hd:d=r->Bj){P:V->Prop}(c:∀x,k x=r->P (.O' x)):P v:=ww h c λe=>(hd e).elim
noncomputable def wy(v:A4):AD (D9):=if h:v.ctorIdx=8 then br7 (motive:=λ_=>AD (D9)) v h G else L
noncomputable def Kv{J:Type}(v:A4)(d:J)(k:D9->J):J:=oS (wy v) d k
theorem jg{J:Type}{v:A4}{d:J}{k:D9->J}{r:J}(h:Kv v d k=r){P:A4->Prop}(c:∀x,k x=r->P (.type x))(e:d=r->P v):P v:=if q:v.ctorIdx=8 then br7 (motive:=λv=>Kv v d k=r->P v) v q (λx h=>c x h) h else e (oV (D3 q) h)
theorem Sb{J:Type}{v:A4}{d:J}{k:D9->J}{r:J}(h:Kv v d k=r)(hd:d=r->Bj){P:A4->Prop}(c:∀x,k x=r->P (.type x)):P v:=jg h c λe=>(hd e).elim
noncomputable def IT{J:Type}(v:V)(d k:J):J:=if v.ctorIdx=0 then k else d
theorem Zm{J:Type}{v:V}{d k r:J}(h:IT v d k=r){P:V->Prop}(c:k=r->P .none)(e:d=r->P v):P v:=if q:v.ctorIdx=0 then V.none.elim (motive_1:=λv=>IT v d k=r->P v) v q c h else e ((CS q).symm.trans h)
theorem Q0{J:Type}{v:V}{d k r:J}(h:IT v d k=r)(hd:d=r->Bj){P:V->Prop}(c:k=r->P .none):P v:=Zm h c λe=>(hd e).elim
noncomputable def wz{J:Type}(v:V)(d:J)(k:AX->AX->J):J:=if h:v.ctorIdx=7 then V.HA.elim (motive_1:=λ_=>J) v h k else d
noncomputable def Vj{J:Type}(v:V)(d:J)(k:O->O->J):J:=if h:v.ctorIdx=8 then V.B'.elim (motive_1:=λ_=>J) v h k else d
theorem x7{J:Type}{v:V}{d:J}{k:O->O->J}{r:J}(h:Vj v d k=r){P:V->Prop}(c:∀x y,k x y=r->P (.B' x y))(e:d=r->P v):P v:=if q:v.ctorIdx=8 then V.B'.elim (motive_1:=λv=>Vj v d k=r->P v) v q (λx y h=>c x y h) h else e ((D3 q).symm.trans h)
theorem xB{J:Type}{v:V}{d:J}{k:O->O->J}{r:J}(h:Vj v d k=r)(hd:d=r->Bj){P:V->Prop}(c:∀x y,k x y=r->P (.B' x y)):P v:=x7 h c λe=>(hd e).elim
noncomputable def xC(v:A4):AD (A8):=if h:v.ctorIdx=10 then br8 (motive:=λ_=>AD (A8)) v h G else L
noncomputable def Kw{J:Type}(v:A4)(d:J)(k:A8->J):J:=oS (xC v) d k
theorem xF{J:Type}{v:A4}{d:J}{k:A8->J}{r:J}(h:Kw v d k=r){P:A4->Prop}(c:∀x,k x=r->P (.ref x))(e:d=r->P v):P v:=if q:v.ctorIdx=10 then br8 (motive:=λv=>Kw v d k=r->P v) v q (λx h=>c x h) h else e (oV (D3 q) h)
theorem Q1{J:Type}{v:A4}{d:J}{k:A8->J}{r:J}(h:Kw v d k=r)(hd:d=r->Bj){P:A4->Prop}(c:∀x,k x=r->P (.ref x)):P v:=xF h c λe=>(hd e).elim
noncomputable def xG(v:A4):AD (D9):=if h:v.ctorIdx=9 then br9 (motive:=λ_=>AD (D9)) v h G else L
noncomputable def Zn{J:Type}(v:A4)(d:J)(k:D9->J):J:=oS (xG v) d k
theorem xH{J:Type}{v:A4}{d:J}{k:D9->J}{r:J}(h:Zn v d k=r){P:A4->Prop}(c:∀x,k x=r->P (.builtin x))(e:d=r->P v):P v:=if q:v.ctorIdx=9 then br9 (motive:=λv=>Zn v d k=r->P v) v q (λx h=>c x h) h else e (oV (D3 q) h)
inductive Sg where|it(l:I Tx)|tx(t:Tx)|run(p a b:Tx)
inductive Ob where|list(Y:I V)|dict(N:I (V×V))|HU|inst(c:A8)(d:O)|EY(N:I (U×V))|B3(N:I (V×V))|rows(r:O)(Y:I Sg)deriving Inhabited
noncomputable def xI(v:Ob):AD (I V):=if h:v.ctorIdx=0 then Ob.list.elim (motive:=λ_=>AD (I V)) v h G else L
noncomputable def EJ{J:Type}(v:Ob)(d:J)(k:I V->J):J:=oS (xI v) d k
theorem K0{J:Type}{v:Ob}{d:J}{k:I V->J}{r:J}(h:EJ v d k=r){P:Ob->Prop}(c:∀x,k x=r->P (.list x))(e:d=r->P v):P v:=if q:v.ctorIdx=0 then Ob.list.elim (motive:=λv=>EJ v d k=r->P v) v q (λx h=>c x h) h else e (oV (D3 q) h)
theorem IU{J:Type}{v:Ob}{d:J}{k:I V->J}{r:J}(h:EJ v d k=r)(hd:d=r->Bj){P:Ob->Prop}(c:∀x,k x=r->P (.list x)):P v:=K0 h c λe=>(hd e).elim
noncomputable def xJ(v:Ob):AD (I (V×V)):=if h:v.ctorIdx=1 then Ob.dict.elim (motive:=λ_=>AD (I (V×V))) v h G else L
noncomputable def FV{J:Type}(v:Ob)(d:J)(k:I (V×V)->J):J:=oS (xJ v) d k
theorem Sd{J:Type}{v:Ob}{d:J}{k:I (V×V)->J}{r:J}(h:FV v d k=r){P:Ob->Prop}(c:∀x,k x=r->P (.dict x))(e:d=r->P v):P v:=if q:v.ctorIdx=1 then Ob.dict.elim (motive:=λv=>FV v d k=r->P v) v q (λx h=>c x h) h else e (oV (D3 q) h)
theorem JE{J:Type}{v:Ob}{d:J}{k:I (V×V)->J}{r:J}(h:FV v d k=r)(hd:d=r->Bj){P:Ob->Prop}(c:∀x,k x=r->P (.dict x)):P v:=Sd h c λe=>(hd e).elim
noncomputable def MH{J:Type}(v:Ob)(d:J)(k:I (V×V)->J):J:=if h:v.ctorIdx=5 then Ob.B3.elim (motive:=λ_=>J) v h k else d
theorem xK{J:Type}{v:Ob}{d:J}{k:I (V×V)->J}{r:J}(h:MH v d k=r){P:Ob->Prop}(c:∀x,k x=r->P (.B3 x))(e:d=r->P v):P v:=if q:v.ctorIdx=5 then Ob.B3.elim (motive:=λv=>MH v d k=r->P v) v q (λx h=>c x h) h else e ((D3 q).symm.trans h)
theorem Sf{J:Type}{v:Ob}{d:J}{k:I (V×V)->J}{r:J}(h:MH v d k=r)(hd:d=r->Bj){P:Ob->Prop}(c:∀x,k x=r->P (.B3 x)):P v:=xK h c λe=>(hd e).elim
noncomputable def Q2{J:Type}(v:Ob)(d k:J):J:=if v.ctorIdx=2 then k else d
theorem jh{J:Type}{v:Ob}{d k r:J}(h:Q2 v d k=r){P:Ob->Prop}(c:k=r->P .HU)(e:d=r->P v):P v:=if q:v.ctorIdx=2 then Ob.HU.elim (motive:=λv=>Q2 v d k=r->P v) v q c h else e ((CS q).symm.trans h)
theorem xL{J:Type}{v:Ob}{d k r:J}(h:Q2 v d k=r)(hd:d=r->Bj){P:Ob->Prop}(c:k=r->P .HU):P v:=jh h c λe=>(hd e).elim
noncomputable def xM(v:Ob):AD (A8×O):=if h:v.ctorIdx=3 then Ob.inst.elim (motive:=λ_=>AD (A8×O)) v h (λa0 a1=>G (a0,a1))else L
noncomputable def Q3{J:Type}(v:Ob)(d:J)(k:A8->O->J):J:=oS (xM v) d (H7 k)
theorem ji{J:Type}{v:Ob}{d:J}{k:A8->O->J}{r:J}(h:Q3 v d k=r){P:Ob->Prop}(c:∀x y,k x y=r->P (.inst x y))(e:d=r->P v):P v:=if q:v.ctorIdx=3 then Ob.inst.elim (motive:=λv=>Q3 v d k=r->P v) v q (λx y h=>c x y h) h else e (oV (D3 q) h)
theorem jj{J:Type}{v:Ob}{d:J}{k:A8->O->J}{r:J}(h:Q3 v d k=r)(hd:d=r->Bj){P:Ob->Prop}(c:∀x y,k x y=r->P (.inst x y)):P v:=ji h c λe=>(hd e).elim
noncomputable def xN(v:Ob):AD (I (U×V)):=if h:v.ctorIdx=4 then Ob.EY.elim (motive:=λ_=>AD (I (U×V))) v h G else L
noncomputable def Q4{J:Type}(v:Ob)(d:J)(k:I (U×V)->J):J:=oS (xN v) d k
theorem xO{J:Type}{v:Ob}{d:J}{k:I (U×V)->J}{r:J}(h:Q4 v d k=r){P:Ob->Prop}(c:∀x,k x=r->P (.EY x))(e:d=r->P v):P v:=if q:v.ctorIdx=4 then Ob.EY.elim (motive:=λv=>Q4 v d k=r->P v) v q (λx h=>c x h) h else e (oV (D3 q) h)
theorem Zo{J:Type}{v:Ob}{d:J}{k:I (U×V)->J}{r:J}(h:Q4 v d k=r)(hd:d=r->Bj){P:Ob->Prop}(c:∀x,k x=r->P (.EY x)):P v:=xO h c λe=>(hd e).elim
noncomputable def Q5{J:Type}(v:Ob)(d:J)(k:O->I Sg->J):J:=if h:v.ctorIdx=6 then Ob.rows.elim (motive:=λ_=>J) v h k else d
theorem jk{J:Type}{v:Ob}{d:J}{k:O->I Sg->J}{r:J}(h:Q5 v d k=r){P:Ob->Prop}(c:∀x y,k x y=r->P (.rows x y))(e:d=r->P v):P v:=if q:v.ctorIdx=6 then Ob.rows.elim (motive:=λv=>Q5 v d k=r->P v) v q (λx y h=>c x y h) h else e ((D3 q).symm.trans h)
theorem jl{J:Type}{v:Ob}{d:J}{k:O->I Sg->J}{r:J}(h:Q5 v d k=r)(hd:d=r->Bj){P:Ob->Prop}(c:∀x y,k x y=r->P (.rows x y)):P v:=jk h c λe=>(hd e).elim
structure St where
 env:I (U×V)h:I (O×Ob)n:O deriving Inhabited
inductive Fl where|next|brk|cont|ret(v:V)
inductive AS where|v(v:V)|vs(l:I V)|b(b:AK)|f(f:Fl)|ps(l:I (V×V))
structure Fn where
 sc:BU
 ps:I U
 va:AD U
 body:I As
 dflt:I V
structure Kx where
 sc:BU
 d:O
noncomputable def Cw(a b:U):AK:=CU a.cps.toList b.cps.toList
noncomputable def EZ:Tx->Tx->AK
 |_,[]=>A6|[],_::_=>M|a::x,b::y=>match BC a b with|true=>EZ x y|false=>G1 a b
noncomputable def Ah{C:Type}(l:I (U×C))(x:U):AD C:=Kg (motive:=λ_=>AD C) L (λp _ ih=>bC (Cw p.1 x) (G p.2) ih) l
noncomputable def E_{C:Type}(l:I (U×C))(x:U)(v:C):I (U×C):=Kg (motive:=λ_=>I (U×C)) [(x,v)] (λp l ih=>bC (Cw p.1 x) ((p.1,v)::l) (p::ih)) l
noncomputable def AL{C:Type}(l:I (O×C))(x:O):AD C:=Kg (motive:=λ_=>AD C) L (λp _ ih=>bC (BC p.1 x) (G p.2) ih) l
noncomputable def putN{C:Type}(l:I (O×C))(x:O)(v:C):I (O×C):=Kg (motive:=λ_=>I (O×C)) [] (λp l ih=>bC (BC p.1 x) ((p.1,v)::l) (p::ih)) l
noncomputable def Gr{C:Type}:I C->O->AD C
 |[],_=>L|a::l,n=>match n with|0=>G a|n+1=>Gr l n
noncomputable def K1(f:V->V->AD AK):I V->I V->AD AK
 |[],[]=>G M|a::x,b::y=>B' (f a b) λp=>B' (K1 f x y) λq=>G (p&&q)|[],_::_=>G A6|_::_,[]=>G A6
noncomputable def Q6(a b:V):AD AK:=vInt a (vStr a L λx=>vStr b L λy=>G (CU x y)) λx=>vInt b L λy=>G (decide (x=y))
noncomputable def G8(a b:V):AD AK:=vInt a (vStr a (FU a L λc x=>oN c L (FU b L λc' y=>oN c' L (K1 Q6 x y))) λx=>vStr b L λy=>G (CU x y)) λx=>vInt b L λy=>G (decide (x=y))
noncomputable def Zp(x y:I V):AD AK:=K1 G8 x y
noncomputable def JF:I AX->I AX->AK
 |a::x,b::y=>if a=b then JF x y else decide (a<b)|_,_=>A6
noncomputable def jm(v:V):AX:=vInt v 0 λi=>i
noncomputable def Sh(v w:V):AD AK:=FU v L λ_ l=>FU w L λ_ m=>G (JF (l.map jm) (m.map jm))
noncomputable def D':I (V×V)->V->AD V
 |[],_=>L|p::l,x=>match G8 p.1 x with|some M=>G p.2|_=>D' l x
noncomputable def En:I (V×V)->V->V->I (V×V)
 |[],x,v=>[(x,v)]|p::l,x,v=>match G8 p.1 x with|some M=>(p.1,v)::l|_=>p::En l x v
noncomputable def Hu:I Tx->I Tx
 |[]=>[]|x::l=>match(Hu l).any (CU x)with|true=>Hu l|false=>x::Hu l
noncomputable def Zq:V->I V->AD V
 |x,[]=>G x|x,y::l=>B' (Sh x y) λb=>Zq (bC b y x) l
noncomputable def Hv{C:Type}(l:I C)(lo hi:AD AX):I C:=let n:=l.length;let a:=match lo with|some i=>bs0 n i|none=>0;let b:=match hi with|some i=>bs0 n i|none=>n;(l.take b).drop a
noncomputable def Q7{C:Type}(l:I C)(i:AX):AD C:=if i<0 then(if i+l.length<0 then L else Gr l (i+l.length).toNat)else Gr l i.toNat
noncomputable def K2:Tx->Tx->AK
 |[],_=>M|_::_,[]=>A6|a::x,b::y=>match BC a b with|true=>K2 x y|false=>A6
noncomputable def Q8(n:O):Tx:=match G1 n 10 with|true=>[48+n]|false=>[48+n/10,48+n%10]
noncomputable def O2(i:AX):AK:=decide (0<=i)&&decide (i<100)
noncomputable def JG(i:AX):Tx:=Q8 i.toNat
noncomputable def HV:I V->AD (I Tx)
 |[]=>G []|v::l=>vStr v L λt=>B' (HV l) λr=>G (t::r)
noncomputable def CH{C:Type}(l:I C):AK:=EQ l.length 100000
noncomputable def truthy(v:V)(h:I (O×Ob)):AD AK:=IT v (vBool v (vInt v (vStr v (DQ v L λi=>B' (AL h i) λo=>EJ o L λY=>bT (CH Y) L (G (!Y.isEmpty))) λs=>bT (CH s) L (G (!s.isEmpty))) λi=>G (decide (i≠0))) G) (G A6)
noncomputable def Zr(i:AX):AK:=decide (0<=i)&&decide (i<=1000)
noncomputable def b2i(b:AK):AX:=if b then 1 else 0
noncomputable def jn(a b:V):AD V:=(vInt a L λa=>(vInt b L λb=>G (.int (a+b))).or (vBool b L λb=>G (.int (a+b2i b)))).or ((vBool a L λa=>(vInt b L λb=>G (.int (b2i a+b))).or (vBool b L λb=>G (.int (b2i a+b2i b)))).or (vStr a L λa=>vStr b L λb=>bT (CH (a++b)) L (G (.str (a++b)))))
noncomputable def Zs(b:AX):AK:=decide (0<b)&&decide (b<=1000000000)
noncomputable def Vk(m r:O)(b:AX):AK:=BC (m%b.toNat) 0&&G1 r m
noncomputable def jp(a b:V):AD V:=vInt b L λb=>bT (Zs b) L ((vInt a L λa=>G (.int (t7 a b))).or (Sa a L λm r=>bT (Vk m r b) L (G (.IQ (m/b.toNat) (r/b.toNat)))))
noncomputable def jq(a b:V):AD V:=vInt b L λb=>bT (Zs b) L ((vInt a L λa=>G (.int (t8 a b))).or (Sa a L λm r=>G (match Vk m r b with|true=>.int (f_ (r%b.toNat))|false=>.O' b.toNat)))
noncomputable def jr(a b:V):AD V:=(vBool a L λa=>vBool b L λb=>G (.int (b2i a*b2i b))).or (vStr a L λa=>l1 a L λc=>vInt b L λn=>bT (Zr n) L (G (.str (Y4 n.toNat c))))
noncomputable def Zt(a b:V):AD V:=vInt a L λa=>vInt b L λb=>G (.int (a-b))
noncomputable def xP(a b:V):AD V:=(vInt a L λa=>vInt b L λb=>G (.int (a+b))).or (vStr a L λa=>vStr b L λb=>bT (CH (a++b)) L (G (.str (a++b))))
noncomputable def Zu(op:Jk)(a b:V):AD V:=if op=.Add then xP a b else if op=.Sub then Zt a b else L
noncomputable def De(N:I (V×V))(k:V):AK:=(vStr k A6 λ_=>l0 N (lC N A6 λp _=>vStr p.1 A6 λ_=>M) M)||(vInt k A6 λ_=>l0 N (lC N A6 λp _=>vInt p.1 A6 λ_=>M) M)
noncomputable def O3:I V->V->AD AK
 |[],v=>vStr v L λ_=>G A6|y::l,v=>vStr y L λb=>vStr v L λa=>B' (O3 l v) λr=>G (CU b a||r)
noncomputable def js(a b:V)(h:I (O×Ob)):AD AK:=(vInt a L λx=>vInt b L λy=>G (decide (x=y))).or ((vStr a L λx=>vStr b L λy=>G (CU x y)).or (DQ a L λi=>DQ b L λj=>B' (AL h i) λo=>B' (AL h j) λo'=>EJ o L λx=>EJ o' L λy=>Zp x y))
noncomputable def xQ(a b:V):AD AK:=(vInt a L λx=>vInt b L λy=>G (!decide (x=y))).or (vStr a L λx=>vStr b L λy=>G (!CU x y))
noncomputable def xR(a b:V):AD AK:=(vInt a L λx=>vInt b L λy=>G (decide (x<y))).or (vStr a L λx=>vStr b L λy=>G (EZ x y))
noncomputable def Vl(f:AX->AX->AK)(a b:V):AD AK:=vInt a L λx=>vInt b L λy=>G (f x y)
noncomputable def Zv(t:AK)(a b:V):AD AK:=IT b L ((IT a L (G t)).or ((vStr a L λ_=>G !t).or ((DQ a L λ_=>G !t).or (vInt a L λ_=>G !t))))
noncomputable def Si(f:AK->AK)(a b:V)(h:I (O×Ob)):AD AK:=DQ b L λj=>B' (AL h j) λo=>(FV o L λN=>bT (De N a) L (G (f (D' N a).isSome))).or ((MH o L λN=>bT (De N a) L (G (f (D' N a).isSome))).or (EJ o L λY=>B' (O3 Y a) λr=>G (f r)))
noncomputable def Vm(op:PP)(a b:V)(h:I (O×Ob)):AD AK:=match op with
 |.Eq=>js a b h|.NotEq=>xQ a b|.Lt=>xR a b|.Gt=>Vl (λx y=>decide (y<x)) a b|.LtE=>Vl (λx y=>decide (x<=y)) a b|.GtE=>Vl (λx y=>decide (y<=x)) a b|.Is=>Zv M a b|.IsNot=>Zv A6 a b|.In=>Si (λb=>b) a b h|.NotIn=>Si (λb=>!b) a b h
noncomputable def O4:fN->AD V
 |.none=>G .none|.bool b=>G (.bool b)|.int i=>G (.int i)|.str s=>G (.str s.cps.toList)|_=>L
inductive It where|tup(Y:I V)|HA(lo hi:AX)|lst(k:O)|keys(k n:O)|K3(s:Tx)
noncomputable def JH(i:AX):AK:=decide (-1000000000<=i)&&decide (i<=1000000000)
noncomputable def Q9(v:V)(h:I (O×Ob)):AD It:=FU v (wz v (DQ v L λi=>B' (AL h i) λo=>EJ o (FV o L λN=>G (.keys i N.length)) λ_=>G (.lst i)) λlo hi=>bT (JH lo&&JH hi) L (G (.HA lo hi))) λc Y=>oN c L (G (.tup Y))
noncomputable def IV(it:It)(i:O)(h:I (O×Ob)):AD (AD V):=match it with
 |.tup Y=>G (Gr Y i)|.HA lo hi=>G (if lo+f_ i<hi then G (.int (lo+f_ i))else L)|.lst k=>B' (AL h k) λo=>EJ o L λY=>G (Gr Y i)|.keys k n=>B' (AL h k) λo=>FV o L λN=>bT (BC N.length n) L (G ((Gr N i).map (·.1)))|.K3 s=>G ((Gr s i).map λc=>.tup L [.int (f_ i),.str [c]])
noncomputable def St.new(H:St)(o:Ob):V×St:=(.ref H.n,⟨H.env,(H.n,o)::H.h,H.n+1⟩)
noncomputable def St.set(H:St)(i:O)(o:Ob):St:=⟨H.env,putN H.h i o,H.n⟩
noncomputable def Sj(F:Fn)(args:I V):I V:=args.take F.ps.length++F.dflt.drop (F.dflt.length-(F.ps.length-args.length))
noncomputable def JI(F:Fn)(args:I V):AD (I (U×V)):=bT (EQ args.length (bC F.va.isSome 1000 F.ps.length)&&BC F.ps.length (Sj F args).length) L (G (F.ps.zip (Sj F args)++F.va.toList.map λx=>(x,V.tup L (args.drop F.ps.length))))
noncomputable def DG(e:Tx):I Tx->I Tx
 |[]=>[]|x::l=>match CU x e with|true=>DG e l|false=>x::l
noncomputable def D4:O->I Tx->I Tx->I Tx×I Tx
 |0,Y,ys=>(Y,ys)|_+1,[],ys=>([],ys)|_+1,Y,[]=>(Y,[])|n+1,e::Y,a::ys=>match EZ e a with
 |true=>let r:=D4 n (DG e Y) (a::ys);(e::r.1,r.2)|false=>match EZ a e with
 |true=>let r:=D4 n (e::Y) (DG a ys);(r.1,a::r.2)|false=>D4 n (DG e Y) (DG a ys)
inductive A0 where|ok(r:AS)(H:St)|bad
inductive MK where|str|lst|F1|fn(a:A8)|tup
inductive Cd where|e(x:AA)|N(l:I AA)|t(x:AA)|ts(and:AK)(l:I AA)|s(x:As)|ss(l:I As)|asg(t:AA)(v:V)|MI(ts:I AA)(vs:I V)|GS(ts:I AA)(v:V)|loop(t:AA)(it:It)(i:O)(body:I As)|MJ(Zw:AA)(body:I As)|call(f:V)(args:I V)|HW(kd:MK)(o:V)(m:U)(args:I V)|GU(C_:AA)(g:FP)(gens:I FP)(it:It)(i:O)(Am:I V)|Sk(k v:AA)(g:FP)(it:It)(i:O)(d:O)|pairs(ks:I (AD AA))(vs:I AA)(Am:I (V×V))
noncomputable abbrev OT:=Kx->St->AD A0
noncomputable def jt(fe:AA->OT)(fs:As->OT)(fc:V->I V->OT)(c:Cd):OT:=Cd.rec (motive:=λ_=>OT) fe (λ_ _ _=>L) (λ_ _ _=>L) (λ_ _ _ _=>L) fs (λ_ _ _=>L) (λ_ _ _ _=>L) (λ_ _ _ _=>L) (λ_ _ _ _=>L) (λ_ _ _ _ _ _=>L) (λ_ _ _ _=>L) fc (λ_ _ _ _ _ _=>L) (λ_ _ _ _ _ _ _ _=>L) (λ_ _ _ _ _ _ _ _=>L) (λ_ _ _ _ _=>L) c
structure Ctx where
 glob:I (U×V)fn:A8->AD Fn
 Bp:A8
 Sl:A8
 ju:A8
 Dl:A8
 QA:A8
 Gs:A8
 Vn:AK
 HW:I (U×A8)CR:Kx->Cd->St->AD A0
noncomputable def A0.V(o:A0)(k:Mine.V->St->A0):A0:=A0.rec (motive:=λ_=>A0) (λr H=>AS.rec (motive:=λ_=>A0) (λv=>k v H) (λ_=>.bad) (λ_=>.bad) (λ_=>.bad) (λ_=>.bad) r) .bad o
noncomputable def A0.A1(o:A0)(k:I Mine.V->St->A0):A0:=A0.rec (motive:=λ_=>A0) (λr H=>AS.rec (motive:=λ_=>A0) (λ_=>.bad) (λv=>k v H) (λ_=>.bad) (λ_=>.bad) (λ_=>.bad) r) .bad o
noncomputable def A0.B(o:A0)(k:AK->St->A0):A0:=A0.rec (motive:=λ_=>A0) (λr H=>AS.rec (motive:=λ_=>A0) (λ_=>.bad) (λ_=>.bad) (λv=>k v H) (λ_=>.bad) (λ_=>.bad) r) .bad o
noncomputable def A0.F(o:A0)(k:Fl->St->A0):A0:=A0.rec (motive:=λ_=>A0) (λr H=>AS.rec (motive:=λ_=>A0) (λ_=>.bad) (λ_=>.bad) (λ_=>.bad) (λv=>k v H) (λ_=>.bad) r) .bad o
noncomputable def A0.of{C:Type}(o:AD C)(k:C->A0):A0:=fM (motive:=λ_=>A0) .bad k o
noncomputable def A0.lst(h:I (O×Ob))(v:Mine.V)(k:O->I Mine.V->A0):A0:=DQ v .bad λi=>oS (AL h i) .bad λo=>EJ o .bad (k i)
noncomputable def A0.F1(h:I (O×Ob))(v:Mine.V)(k:O->I (Mine.V×Mine.V)->A0):A0:=DQ v .bad λi=>oS (AL h i) .bad λo=>FV o .bad (k i)
noncomputable def Dm:O:=1000000
noncomputable def jv(v:Mine.V):AD (I Tx):=FU v L λo vs=>oN o L (HV vs)
noncomputable def Vo(v:Mine.V):AD Sg:=vStr v (B' (jv v) λl=>G (.it l)) λt=>G (.tx t)
noncomputable def QB:I Mine.V->AD (I Sg)
 |[]=>G []|v::l=>B' (Vo v) λt=>B' (QB l) λr=>G (t::r)
noncomputable def FW(o:Ob):AD (O×I Sg):=EJ o (Q5 o L λr Y=>G (r,Y)) λY=>bT (CH Y) L (B' (QB Y) λl=>G (Dm-Y.length,l))
noncomputable def A0.iff(b:AK)(o:A0):A0:=PQ (motive:=λ_=>A0) .bad o b
noncomputable def O5(x:AA)(n:D9):AK:=DO x A6 λid _=>Cw id (Ev n)
noncomputable def Sm(x:AA):AD AA:=ED x L λf a k _=>l1 a L λx=>l0 k L (bT (O5 f "enumerate") L (G x))
noncomputable def QC:U:=⟨⟨[115,111,114,116,101,100]⟩⟩
noncomputable def Zx:U:=⟨⟨[115,101,116]⟩⟩
noncomputable def Zy:U:=⟨⟨[108,105,115,116]⟩⟩
noncomputable def Zz:U:=⟨⟨[109,97,112]⟩⟩
noncomputable def Sn:U:=⟨⟨[77,97,116,99,104]⟩⟩
noncomputable def a5(f:AA)(a:I AA):AD AA:=l1 a L λc=>ED c L λg a k _=>l1 a L λx=>l0 k L (bT (O5 f "sorted"&&O5 g "set") L (G x))
noncomputable def a6(f:AA)(a:I AA):AD AA:=l1 a L λc=>ED c L λg a k _=>lC a L λm a=>l1 a L λx=>H8 m L λo a _=>l0 k L (bT (O5 f "list"&&(O5 g "map"&&(O5 o "Match"&&Cw a (Ev "_make")))) L (G x))
noncomputable def So(sc:BU)(x:U):AD E3:=Ah sc.names x
noncomputable def isIn(l:I E3)(o:AD E3):AK:=o.any l.contains
noncomputable def G9(sc:BU)(x:U):AK:=isIn [.local,.cell] (So sc x)
noncomputable def D0(sc:BU)(x:U):AK:=isIn [.local,.cell,.free] (So sc x)
noncomputable def Di(sc:BU)(x:U):AK:=isIn [.globalImplicit] (So sc x)
noncomputable def QD(sc:BU):AK:=sc.names.all λp=>!Cw p.1 (Ev "__debug__")&&!Cw p.1 (Ev "__classdict__")
noncomputable def a7(sc:BU)(x:U):AK:=isIn [.cell,.free] (So sc x)
noncomputable def Sp{C:Type}:I (U×C)->AK
 |[]=>M|p::l=>match Ah l p.1 with|none=>Sp l|some _=>A6
noncomputable def Ky(sc IW:BU)(env:I (U×Mine.V)):AK:=(match IW.kind with|.function=>M|_=>A6)&&QD IW&&Sp IW.names&&IW.names.all λx=>match x.2 with
 |.local=>(match Ah env x.1 with|none=>M|some _=>A6)|.free=>a7 sc x.1|.globalImplicit=>M|_=>A6
noncomputable def Vp(o:AA):AK:=ED o M λ_ args _ _=>!args.isEmpty
noncomputable def CP(e:AA):AK:=!(BC e.ctorIdx 22||BC e.ctorIdx 7)
noncomputable def ML(g:FP):AK:=CP g.iter&&match g.is_async with|.ofNat 0=>M|_=>A6
noncomputable def xS:I FP->AK
 |[]=>M|g::_=>ML g
noncomputable def a8(ih:Cd->St->A0)(l:I AA)(H:St):A0:=match l with
 |[]=>.ok (.b M) H|[c]=>ih (.t c) H|_=>.bad
section
variable(A3:Ctx)
noncomputable def Fo(v:AD V)(H:St):A0:=A0.of v λv=>.ok (.v v) H
noncomputable def a9(v:AD AK)(H:St):A0:=A0.of v λv=>.ok (.b v) H
noncomputable def FX(p:V×St):A0:=.ok (.v p.1) p.2
noncomputable def QE(x:Tx):I Tx->I Tx
 |[]=>[x]|y::l=>match EZ x y with|true=>x::y::l|false=>y::QE x l
noncomputable def Ea:I Tx->I Tx
 |[]=>[]|x::l=>QE x (Ea l)
noncomputable def O6(Y:I V)(H:St):A0:=A0.of (HV Y) λl=>A0.iff (G1 l.length 60) (FX (H.new (.list ((Ea l).map .str))))
noncomputable def O7(v:V):AK:=FU v A6 λo l=>oN o A6 (lC l A6 λa l=>lC l A6 λb l=>l1 l A6 λc=>vInt a A6 λ_=>vInt b A6 λ_=>vInt c A6 λ_=>M)
noncomputable def JJ(v:V):AK:=FU v A6 λo l=>oS o A6 λ_=>lC l A6 λa l=>lC l A6 λb l=>l1 l A6 λc=>vInt a A6 λ_=>vInt b A6 λ_=>vInt c A6 λ_=>M
noncomputable def jw(v:V)(H:St):A0:=bC (JJ v) (.ok (.v (.int 3)) H) (vStr v (A0.lst H.h v λ_ Y=>A0.iff (CH Y) (.ok (.v (.int Y.length)) H)) λs=>A0.iff (CH s) (.ok (.v (.int s.length)) H))
noncomputable def jx(v:V)(H:St):A0:=A0.lst H.h v λ_ Y=>lC Y .bad λx Y=>A0.iff (O7 x&&Y.all O7&&CH Y) (Fo (Zq x Y) H)
noncomputable def jy(i:O)(H:St):A0:=A0.of (AL H.h i) λo=>EJ o (FV o (MH o .bad λN=>O6 (N.map (·.1)) H) λN=>O6 (N.map (·.1)) H) λY=>O6 Y H
noncomputable def Vq(v:V):AK:=BC v.ctorIdx 3||BC v.ctorIdx 9
noncomputable def jz(v:V)(t:D9)(H:St):A0:=A0.iff (t=="str"||t=="bytes") (DQ v (A0.iff (Vq v) (.ok (.v (.bool (t=="str"))) H)) λi=>A0.of (AL H.h i) λo=>A0.iff (FV o (MH o A6 λ_=>M) (λ_=>M)&&t=="str") (.ok (.v (.bool A6)) H))
noncomputable def aA(id:D9)(args:I V)(H:St):A0:=if id="len"then l1 args .bad λv=>jw v H else if id="min"then lC args .bad λa l=>l1 l .bad λb=>vInt a .bad λa=>vInt b .bad λb=>.ok (.v (.int (if b<a then b else a))) H else if id="max"then l1 args .bad λv=>jx v H else if id="sorted"then l1 args .bad λv=>DQ v .bad λi=>jy i H else if id="isinstance"then lC args .bad λv l=>l1 l .bad λt=>IS t .bad λt=>Kv t .bad λt=>jz v t H else if id="issubclass"then lC args .bad λt l=>l1 l .bad λp=>IS t .bad λt=>Kv t .bad λt=>FU p .bad λo l=>oN o .bad (lC l .bad λa l=>l1 l .bad λb=>IS a .bad λa=>Kv a .bad λa=>IS b .bad λb=>Kv b .bad λb=>bT (decide (t="str")&&(decide (a="str")&&decide (b="bytes"))) .bad (.ok (.v (.bool M)) H))else .bad
noncomputable def aB(t:D9)(args:I V)(H:St):A0:=if t="type"then l1 args .bad λv=>vStr v .bad λ_=>.ok (.v (.top (.type "str"))) H else if t="range"then Yu args .bad (λn=>vInt n .bad λn=>.ok (.v (.HA 0 n)) H) λa b=>vInt a .bad λa=>vInt b .bad λb=>.ok (.v (.HA a b)) H else if t="set"then l0 args .bad (FX (H.new .HU))else if t="str"then l1 args .bad λv=>vInt v .bad λi=>A0.iff (O2 i) (.ok (.v (.str (JG i))) H)else .bad
inductive SK where|sw|ew|split|rfind|rstrip|fmt|join
inductive LK where|append|pop|sort
inductive DK where|Sq|get
noncomputable def Vr:I (U×SK):=[(⟨⟨[115,116,97,114,116,115,119,105,116,104]⟩⟩,.sw),(⟨⟨[101,110,100,115,119,105,116,104]⟩⟩,.ew),(⟨⟨[115,112,108,105,116]⟩⟩,.split),(⟨⟨[114,102,105,110,100]⟩⟩,.rfind),(⟨⟨[114,115,116,114,105,112]⟩⟩,.rstrip),(⟨⟨[102,111,114,109,97,116]⟩⟩,.fmt),(⟨⟨[106,111,105,110]⟩⟩,.join)]
noncomputable def Sr(m:U):AD SK:=Ah Vr m
noncomputable def Vs:I (U×LK):=[(⟨⟨[97,112,112,101,110,100]⟩⟩,.append),(⟨⟨[112,111,112]⟩⟩,.pop),(⟨⟨[115,111,114,116]⟩⟩,.sort)]
noncomputable def Vt(m:U):AD LK:=Ah Vs m
noncomputable def Vu:I (U×DK):=[(⟨⟨[115,101,116,100,101,102,97,117,108,116]⟩⟩,.Sq),(⟨⟨[103,101,116]⟩⟩,.get)]
noncomputable def Vv(m:U):AD DK:=Ah Vu m
noncomputable def k3(s:Tx)(k:SK)(args:I V)(H:St):A0:=A0.iff (CH s)<|match k with
 |.sw=>l1 args .bad λp=>vStr p .bad λp=>.ok (.v (.bool (K2 p s))) H|.ew=>l1 args .bad λp=>vStr p .bad λp=>.ok (.v (.bool (Txt.endswith ⟨⟨s⟩⟩ ⟨⟨p⟩⟩))) H|.split=>l1 args .bad λp=>vStr p .bad λp=>l1 p .bad λc=>FX (H.new (.list ((Y5 ⟨⟨s⟩⟩ ⟨⟨[c]⟩⟩).map λx=>.str x.cps.toList)))|.rfind=>l1 args .bad λp=>vStr p .bad λp=>.ok (.v (.int (Txt.rfind ⟨⟨s⟩⟩ ⟨⟨p⟩⟩))) H|.rstrip=>l1 args .bad λp=>vStr p .bad λp=>.ok (.v (.str (Txt.rstripChars ⟨⟨s⟩⟩ ⟨⟨p⟩⟩).cps.toList)) H|.fmt=>Yu args .bad (λv=>vInt v .bad λi=>A0.iff (CU s [123,125]&&O2 i) (.ok (.v (.str (JG i))) H)) λv w=>vInt v .bad λi=>vInt w .bad λj=>A0.iff (CU s [123,125,44,123,125]&&(O2 i&&O2 j)) (.ok (.v (.str (JG i++44::JG j))) H)|.join=>l1 args .bad λv=>A0.lst H.h v λ_ Y=>A0.of (HV Y) λl=>A0.iff (PySem.JoinOk ⟨⟨s⟩⟩ (l.map λx=>⟨⟨x⟩⟩)) (.ok (.v (.str (Txt.join ⟨⟨s⟩⟩ (l.map λx=>⟨⟨x⟩⟩)).cps.toList)) H)
noncomputable def aC{J:Type}(lt:O->O->AD AK)(t:KasT J):AD J:=KasT.rec (motive:=λ_=>AD J) G (λi j _ ih=>(lt i j).bind ih) t
noncomputable def k5(Y:I V)(i j:O):AD AK:=bT (JJ (Y.getD i .none)&&JJ (Y.getD j .none)) L (Sh (Y.getD i .none) (Y.getD j .none))
noncomputable def aD(Y:I V):AD (I V):=bT (G1 Y.length 64) L (bC (G1 Y.length 2) (G Y) (B' (aC (k5 Y) (kas_sort Y.length)) λp=>bT (G1 p.size 64) L (G (p.toList.map λi=>Y.getD i .none))))
noncomputable def xT(i:O)(Y:I V)(m:LK)(args:I V)(H:St):A0:=match m with
 |.append=>l1 args .bad λv=>A0.iff (CH Y) (.ok (.v .none) (H.set i (.list (Y++[v]))))|.pop=>l0 args .bad (A0.iff (CH Y) (A0.of Y.getLast? λx=>.ok (.v x) (H.set i (.list Y.dropLast))))|.sort=>l0 args .bad (A0.iff (Y.all JJ) (A0.of (aD Y) λl=>.ok (.v .none) (H.set i (.list l))))
noncomputable def O8(i:O)(N:I (V×V))(m:DK)(args:I V)(H:St):A0:=l2 args .bad λk d=>match m with
 |.Sq=>A0.iff (De N k&&CH N) (match D' N k with
 |some v=>.ok (.v v) H|none=>.ok (.v d) (H.set i (.dict (En N k d))))|.get=>A0.iff (De N k) (.ok (.v ((D' N k).getD d)) H)
noncomputable def xU:V->AK|.str s=>IP.any (CU s)|_=>A6
noncomputable def xV(Y:I V)(k:V)(H:St):A0:=vInt k (Vi k .bad λn=>A0.iff (BC n Y.length&&(EQ n 1000&&Y.all xU)) (.ok (.v .any) H)) λk=>A0.iff (JH k&&CH Y) (Fo (Q7 Y k) H)
noncomputable def k6(a:O)(k:V)(H:St):A0:=A0.of (AL H.h a) λo=>EJ o (FV o (MH o .bad λN=>A0.iff (De N k) (Fo (D' N k) H)) λN=>A0.iff (De N k) (Fo (D' N k) H)) λY=>xV Y k H
noncomputable def aE(o i:V)(H:St):A0:=vStr o (FU o (DQ o .bad λa=>k6 a i H) λc Y=>oN c .bad (vInt i .bad λk=>A0.iff (JH k&&CH Y) (Fo (Q7 Y k) H))) λs=>vInt i .bad λk=>A0.iff (JH k&&CH s) (Fo ((Q7 s k).map λc=>.str [c]) H)
noncomputable def Ss(v:V):AD (AD AX):=IT v (vInt v L λi=>bT (JH i) L (G (G i))) (G L)
noncomputable def aF(o lo hi:V)(H:St):A0:=A0.of (Ss lo) λa=>A0.of (Ss hi) λb=>vStr o (A0.lst H.h o λ_ Y=>A0.iff (CH Y) (FX (H.new (.list (Hv Y a b))))) λs=>A0.iff (CH s) (.ok (.v (.str (Hv s a b))) H)
noncomputable def k8:V->AK|.top _=>A6|_=>M
noncomputable def aG:I U:=[⟨⟨[105,115,106,117,110,107]⟩⟩,⟨⟨[97]⟩⟩,⟨⟨[98]⟩⟩,⟨⟨[97,117,116,111,106,117,110,107]⟩⟩,⟨⟨[109,97,116,99,104,105,110,103,95,98,108,111,99,107,115]⟩⟩,⟨⟨[111,112,99,111,100,101,115]⟩⟩,⟨⟨[102,117,108,108,98,99,111,117,110,116]⟩⟩,⟨⟨[98,50,106]⟩⟩,⟨⟨[98,106,117,110,107]⟩⟩,⟨⟨[98,112,111,112,117,108,97,114]⟩⟩]
noncomputable def Su(a:U):AK:=aG.any (Cw a)
noncomputable def k9(o:V)(a:U)(H:St):A0:=DQ o .bad λi=>A0.of (AL H.h i) λob=>Q3 ob (Q2 ob (FV ob .bad λ_=>A0.iff (Cw a (Ev "get")) (.ok (.v (.B' 1 i)) H)) (A0.iff (Cw a (Ev "__contains__")) (.ok (.v (.B' 0 i)) H))) λc d=>A0.iff (BC c A3.Dl&&Su a) (A0.of (AL H.h d) λo=>Q4 o .bad λN=>A0.of (Ah N a) λv=>A0.iff (k8 v) (.ok (.v v) H))
noncomputable def Sv(i j:O)(H:St):A0:=A0.of (AL H.h i) λo=>A0.of (AL H.h j) λo'=>let rr:=A0.of (FW o) λx=>A0.of (FW o') λy=>A0.iff (EQ Dm (x.1+y.1)) (FX (H.new (.rows (x.1+y.1-Dm) (x.2++y.2))));EJ o rr λx=>EJ o' rr λy=>A0.iff (CH (x++y)) (FX (H.new (.list (x++y))))
noncomputable def Vw(op:Jk)(a b:V)(H:St):A0:=if op=.Add then DQ a (Fo (jn a b) H) λi=>DQ b .bad λj=>Sv i j H else if op=.Sub then Fo (Zt a b) H else if op=.FloorDiv then Fo (jp a b) H else if op=.Mod then Fo (jq a b) H else if op=.Mult then Fo (jr a b) H else .bad
noncomputable def xW(m:U):AK:=(Sr m).isSome
noncomputable def kC(m:U):AK:=(Vt m).isSome
noncomputable def xX(m:U):AK:=(Vv m).isSome
noncomputable def xY(o:Ob)(m:U)(h:I (O×Ob)):AD MK:=EJ o (Q5 o (FV o (Q3 o L λc d=>bT (BC c A3.Dl) L (B' (AL h d) λo=>Q4 o L λN=>oN (Ah N m) L (B' (Ah A3.HW m) λa=>G (.fn a)))) λ_=>bT (xX m) L (G .F1)) λ_ _=>bT (kC m) L (G .lst)) λ_=>bT (kC m) L (G .lst)
noncomputable def QF(v:V)(m:U)(h:I (O×Ob)):AD MK:=vStr v (IS v (DQ v L λi=>B' (AL h i) λo=>xY A3 o m h) λw=>Kv w L λt=>bT (decide (t="tuple")&&Cw m (Ev "__new__")) L (G .tup)) λ_=>bT (xW m) L (G .str)
noncomputable def MM:I (AD AA)->I AA->AD (I (V×V))
 |[],vs=>l0 vs L (G [])|k::ks,vs=>oS k L λx=>HS x L λc _ _=>lC vs L λy vs=>HS y L λc' _ _=>B' (O4 c) λk=>B' (O4 c') λv=>B' (MM ks vs) λl=>G ((k,v)::l)
noncomputable def Sw(N:I (V×V)):AK:=N.all λp=>match p.1 with|.str _=>M|_=>A6
noncomputable def Kz:I (V×V)->I (V×V)->AD (I (V×V))
 |[],Am=>G Am|p::l,Am=>bC (De Am p.1&&CH Am) (Kz l (En Am p.1 p.2)) L
noncomputable def Sx(l:AA)(op:Jk)(r:AA):AD (Tx×U×Tx×Tx):=HS l L λc _ _=>Pp c L λc=>ED r L λf a k pos=>H8 f L λo m Fp=>DO o L λid _=>lC a L λy a=>l1 a L λz=>HS y L λy _ _=>Pp y L λy=>HS z L λz _ _=>Pp z L λz=>l0 k L (bT (decide (op=.Add)&&(Cw m (⟨⟨[114,101,112,108,97,99,101]⟩⟩:U)&&BC Fp.endLine pos.line)) L (G (c.cps.toList,id,y.cps.toList,z.cps.toList)))
noncomputable def Vx(N Am:I (V×V)):AD (I (V×V)):=match Sw N&&Sw Am with|true=>Kz N Am|false=>L
noncomputable def JK(K:Kx)(Ao:Kx->Cd->St->A0)(F:Fn)(args:I V)(H:St):A0:=A0.of (JI F args) λb=>match K.d with
 |0=>.bad|d+1=>(Ao ⟨F.sc,d⟩ (.ss F.body) ⟨b,H.h,H.n⟩).F λf A7=>match f with
 |.ret v=>.ok (.v v) ⟨H.env,A7.h,A7.n⟩|.next=>.ok (.v .none) ⟨H.env,A7.h,A7.n⟩|_=>.bad
noncomputable def Vy(K:Kx)(Ao:Kx->Cd->St->A0)(i:O):O->O->I V->St->A0
 |0,_,_,_=>.bad|m+1,k,Am,H=>A0.of (IV (.lst i) k H.h) λr=>match r with
 |none=>.ok (.vs Am) H|some x=>(A0.of (A3.fn A3.ju) λfn=>JK K Ao fn [.top (.ref A3.Bp),x] H).V λv H=>Vy K Ao i m (k+1) (Am++[v]) H
noncomputable def xZ(ks:I (AD AA))(vs:I AA):AD (AA×AA×AA):=l2 ks L λa b=>oN a L (oS b L λk=>l2 vs L λv0 v=>G (v0,k,v))
noncomputable def x_(Ao:Kx->Cd->St->A0)(K:Kx)(v0 k v:AA)(H:St):A0:=let ih:=Ao K;(ih (.e v0) (H.new (.dict [])).2).V λw AB=>A0.F1 AB.h w λwi N=>A0.iff (!BC wi H.n)<|A0.F1 AB.h (.ref H.n) λ_ Am=>A0.of (Vx N Am) λAm=>(ih (.e k) ((AB.set H.n (.dict Am)).new (.dict [])).2).V λkv Bc=>(ih (.e v) Bc).V λvv Bc=>A0.F1 Bc.h (.ref AB.n) λ_ sub=>A0.iff (De sub kv&&CH sub)<|A0.F1 Bc.h (.ref H.n) λ_ Am=>A0.of (Vx (En sub kv vv) Am) λAm=>.ok (.v (.ref H.n)) ((Bc.set AB.n (.dict (En sub kv vv))).set H.n (.dict Am))
noncomputable def HX:(Ctx->Kx->(Kx->Cd->St->A0)->St->A0)×DM:=⟨λ_ _ _ _=>.bad,()⟩
noncomputable def xa(K:Kx)(H:St)(p:Tx×U×Tx×Tx):A0:=A0.iff (D0 K.sc p.2.1&&CH p.1) (A0.of (Ah H.env p.2.1) λv=>vStr v .bad λs=>A0.iff (CH s&&!CU p.2.2.1 p.2.2.2&&EQ p.2.2.2.length 100&&CH (p.1++(bs1 ⟨⟨s⟩⟩ ⟨⟨p.2.2.1⟩⟩ ⟨⟨p.2.2.2⟩⟩).cps.toList)) (.ok (.v (.str (p.1++(bs1 ⟨⟨s⟩⟩ ⟨⟨p.2.2.1⟩⟩ ⟨⟨p.2.2.2⟩⟩).cps.toList))) H))
noncomputable abbrev IH:=Kx->Cd->St->A0
noncomputable abbrev ST:=Ctx->Kx->IH->St->A0
noncomputable def xc(A3:Ctx)(K:Kx)(Ao:IH)(x:AA)(H:St):A0:=A0.iff (Di K.sc Zy&&Di K.sc Zz&&Di K.sc Sn&&CP x)<|(Ao K (.e x) H).V λv H=>A0.lst H.h v λi Y=>A0.iff (CH Y)<|match K.d with
 |d+1=>(Vy A3 ⟨K.sc,d⟩ Ao i 60 0 [] H).A1 λl H=>FX (H.new (.list l))|0=>.bad
noncomputable def xd(K:Kx)(ih:Cd->St->A0)(x:AA)(H:St):A0:=A0.iff (Di K.sc QC&&Di K.sc Zx&&CP x)<|(ih (.e x) H).V λv H=>A0.lst H.h v λ_ Y=>A0.of (HV Y) λl=>A0.iff (G1 l.length 60) (FX (H.new (.list ((Ea (Hu l)).map .str))))
noncomputable def kD(x:AA):ST×DM:=bR3 (motive_1:=λ_=>ST×DM) x (λop Y _=>⟨λ_ K Ao H=>bT (decide (op=.Or)) .bad (l2 Y .bad λa b=>(Ao K (.e a) H).V λv H=>A0.of (truthy v H.h) λt=>bC t (.ok (.v v) H) (Ao K (.e b) H)),()⟩) (λ_ _ _=>HX) (λl op r _=>⟨λ_ K Ao H=>oS (Sx l op r) ((Ao K (.e l) H).V λa H=>(Ao K (.e r) H).V λb H=>Vw op a b H) λp=>xa K H p,()⟩) (λop x _=>⟨λ_ K Ao H=>match op with
 |.USub=>(Ao K (.e x) H).V λv H=>vInt v .bad λi=>.ok (.v (.int (-i))) H|.Not=>(Ao K (.e x) H).V λv H=>A0.of (truthy v H.h) λb=>.ok (.v (.bool !b)) H|_=>.bad,()⟩) (λ_ _ _ _=>HX) (λt a b _=>⟨λ_ K Ao H=>(Ao K (.t t) H).B λc H=>bC c (Ao K (.e a) H) (Ao K (.e b) H),()⟩) (λks vs _=>⟨λ_ K Ao H=>bC (ks.isEmpty&&vs.isEmpty) (FX (H.new (.dict [])))<|oS (xZ ks vs) (A0.of (MM ks vs) λps=>A0.iff (EQ ps.length 15) (A0.of (Kz ps []) λN=>FX (H.new (.dict N)))) λp=>x_ Ao K p.1 p.2.1 p.2.2 H,()⟩) (λ_ _ _=>HX) (λC_ gs IW _=>⟨λ_ K Ao H=>lC gs .bad λg gens=>A0.iff (ML g) ((Ao K (.e g.iter) H).V λit H=>A0.iff (Ky K.sc IW H.env) (A0.of (Q9 it H.h) λit=>(Ao ⟨IW,K.d⟩ (.GU C_ g gens it 0 []) H).A1 λl A7=>FX (St.new ⟨H.env,A7.h,A7.n⟩ (.list l)))),()⟩) (λ_ _ _ _=>HX) (λk v gs IW _=>⟨λ_ K Ao H=>l1 gs .bad λg=>A0.iff (ML g) ((Ao K (.e g.iter) H).V λit H=>A0.iff (Ky K.sc IW H.env) (A0.of (Q9 it H.h) λit=>(Ao ⟨IW,K.d⟩ (.Sk k v g it 0 H.n) (H.new (.dict [])).2).F λ_ A7=>.ok (.v (.ref H.n)) ⟨H.env,A7.h,A7.n⟩)),()⟩) (λ_ _ _ _=>HX) (λ_ _=>HX) (λ_ _=>HX) (λ_ _=>HX) (λl CN rs _=>⟨λ_ K Ao H=>l1 CN .bad λop=>l1 rs .bad λr=>A0.iff (!t9 op r)<|(Ao K (.e l) H).V λa H=>(Ao K (.e r) H).V λb H=>A0.of (Vm op a b H.h) λb=>.ok (.v (.bool b)) H,()⟩) (λf args kw pos=>⟨λA3 K Ao H=>l0 kw .bad<|A0.iff (args.all CP)<|H8 f (oS (a5 f args) (oS (a6 f args) ((Ao K (.e f) H).V λfv H=>(Ao K (.N args) H).A1 λvs H=>Ao K (.call fv vs) H) λx=>xc A3 K Ao x H) λx=>xd K (Ao K) x H) λo m Fp=>A0.iff (Vp o&&BC Fp.endLine pos.line&&G1 args.length 30) ((Ao K (.e o) H).V λv H=>A0.of (QF A3 v m H.h) λkd=>(Ao K (.N args) H).A1 λvs H=>Ao K (.HW kd v m vs) H),()⟩) (λ_ _ _ _=>HX) (λ_ _=>HX) (λk _ _=>⟨λ_ _ _ H=>Fo (O4 k) H,()⟩) (λo a _=>⟨λA3 K Ao H=>A0.iff (Vp o) ((Ao K (.e o) H).V λv H=>k9 A3 v a H),()⟩) (λo i _=>⟨λ_ K Ao H=>(Ao K (.e o) H).V λv H=>Nm i ((Ao K (.e i) H).V λk H=>aE v k H) λlo hi st _=>oN st .bad<|(oS lo (A0.ok (.v .none) H) λx=>Ao K (.e x) H).V λa H=>(oS hi (A0.ok (.v .none) H) λx=>Ao K (.e x) H).V λb H=>aF v a b H,()⟩) (λ_ _=>HX) (λid _=>⟨λA3 K _ H=>bC (D0 K.sc id) (Fo (Ah H.env id) H) (bC (Di K.sc id) (Fo (Ah A3.glob id) H) .bad),()⟩) (λY _=>⟨λ_ K Ao H=>(Ao K (.N Y) H).A1 λvs H=>A0.iff (CH vs) (FX (H.new (.list vs))),()⟩) (λY _ _=>⟨λ_ K Ao H=>(Ao K (.N Y) H).A1 λvs H=>A0.iff (CH vs) (.ok (.v (.tup L vs)) H),()⟩) (λ_ _ _ _=>HX)
noncomputable def Fq(K:Kx)(Ao:IH)(x:AA)(H:St):A0:=(kD x).1 A3 K Ao H
noncomputable def stepT(K:Kx)(Ao:Kx->Cd->St->A0)(a:A8)(args:I V)(H:St):A0:=bC (BC a A3.Dl) (nS K.d .bad λd=>(A0.of (A3.fn A3.QA) λfn=>JK ⟨K.sc,d⟩ Ao fn (.ref (H.n+1)::args) ⟨H.env,(H.n+1,.inst a H.n)::(H.n,.EY [])::H.h,H.n+2⟩).V λr A7=>IT r .bad (.ok (.v (.ref (H.n+1))) A7))<|bC (BC a A3.Gs&&A3.Vn) (l2 args .bad λx y=>A0.lst H.h x λi Y=>A0.lst H.h y λj ys=>A0.iff (!BC i j&&CH Y&&CH ys&&G1 0 K.d)<|A0.of (HV Y) λY=>A0.of (HV ys) λys=>.ok (.v (.tup L [.ref H.n,.ref (H.n+1)])) ((H.new (.list ((D4 (Y.length+ys.length) Y ys).1.map V.str))).2.new (.list ((D4 (Y.length+ys.length) Y ys).2.map V.str))).2)<|bC (BC a A3.Bp) (nS K.d .bad λd=>(A0.of (A3.fn A3.Sl) λF=>JK ⟨K.sc,d⟩ Ao F (.top (.ref A3.Bp)::args) H).V λr A7=>FU r .bad λo Y=>oS o .bad λc=>lC args .bad λ_ l=>l2 l .bad λ_ _=>A0.iff (BC c A3.Bp) (.ok (.v (.tup (G c) Y)) A7))<|A0.of (A3.fn a) λF=>JK K Ao F args H
noncomputable def kE(K:Kx)(Ao:Kx->Cd->St->A0)(f:V)(args:I V)(H:St):A0:=IS f (Vj f .bad λk i=>if k=0 then l1 args .bad λv=>vStr v .bad λ_=>A0.of (AL H.h i) λo=>Q2 o .bad (.ok (.v (.bool A6)) H)else if k=1 then A0.F1 H.h (.ref i) λi N=>O8 i N .get args H else .bad) λw=>Zn w (Kv w (Kw w .bad λa=>stepT A3 K Ao a args H) λt=>aB t args H) λid=>aA id args H
noncomputable def kF(K:Kx)(Ao:Kx->Cd->St->A0)(kd:MK)(o:V)(m:U)(args:I V)(H:St):A0:=match kd with
 |.str=>vStr o .bad λs=>A0.of (Sr m) λk=>k3 s k args H|.lst=>DQ o .bad λi=>A0.of (AL H.h i) λob=>A0.of (Vt m) λk=>EJ ob (Q5 ob .bad λr Y=>match k with
 |.append=>l1 args .bad λv=>nS r .bad λr=>A0.of (Vo v) λl=>.ok (.v .none) (H.set i (.rows r (Y++[l])))|.pop=>.bad|.sort=>.bad) λY=>xT i Y k args H|.F1=>DQ o .bad λi=>A0.of (Vv m) λk=>A0.F1 H.h (.ref i) λi N=>O8 i N k args H|.fn a=>Ao K (.call (.top (.ref a)) (o::args)) H|.tup=>l2 args .bad λa b=>IS a .bad λw=>Kw w .bad λc=>FU b .bad λo Y=>oN o .bad (A0.iff (BC c A3.Bp&&CH Y) (.ok (.v (.tup (G c) Y)) H))
noncomputable def xe(K:Kx)(Ao:Kx->Cd->St->A0)(t:AA)(v:V)(H:St):A0:=Ju t (H8 t (JA t .bad λo i _=>(Ao K (.e o) H).V λw H=>(Ao K (.e i) H).V λk H=>DQ w .bad λa=>A0.of (AL H.h a) λob=>EJ ob (FV ob .bad λN=>A0.iff (De N k&&CH N) (.ok (.f .next) (H.set a (.dict (En N k v))))) λY=>vInt k .bad λk=>A0.iff (JH k&&decide (0<=k)&&decide (k<Y.length)) (.ok (.f .next) (H.set a (.list (Y.set k.toNat v))))) λo a _=>(Ao K (.e o) H).V λw H=>DQ w .bad λi=>A0.of (AL H.h i) λob=>Q3 ob .bad λc d=>A0.iff (BC c A3.Dl&&Su a) (A0.of (AL H.h d) λo=>Q4 o .bad λN=>A0.iff (CH N) (.ok (.f .next) (H.set d (.EY (E_ N a v)))))) λts _ _=>FU v .bad λ_ vs=>A0.iff (BC vs.length ts.length&&ts.all CP) (Ao K (.MI ts vs) H)
noncomputable def L2(K:Kx)(Ao:Kx->Cd->St->A0)(t:AA)(v:V)(H:St):A0:=DO t (xe A3 K Ao t v H) λid _=>A0.iff (G9 K.sc id) (.ok (.f .next) ⟨E_ H.env id v,H.h,H.n⟩)
noncomputable def JL(e:AA):AK:=BC e.ctorIdx 8||(BC e.ctorIdx 9||BC e.ctorIdx 10)
noncomputable def MN(ts:I AA)(e:AA):AK:=l1 ts A6 λt=>Ju e A6 λ_ _ _=>BC t.ctorIdx 25||BC t.ctorIdx 24
noncomputable def xf(ts:I AA)(e:AA):AK:=l1 ts A6 λt=>DO t A6 λ_ _=>IL e A6 λ_ _ _ _=>M
noncomputable def MO:O->AA->AK
 |_,.Call ..=>M|_,.Attribute ..=>M|_,.Name id _=>!Cw id ⟨⟨[95,95,100,101,98,117,103,95,95]⟩⟩|n+1,.BinOp l _ r _=>MO n l||MO n r|n+1,.UnaryOp _ e _=>MO n e|n+1,.Subscript v _ _=>MO n v|_,_=>A6
noncomputable def Sy:I AA->AD (I U)
 |[]=>G []|t::l=>DO t L λid _=>B' (Sy l) λl=>G (id::l)
noncomputable def QG:I U->AK
 |[]=>M|x::l=>!l.any (Cw x)&&QG l
noncomputable def putAll:I (U×V)->I U->I V->I (U×V)
 |env,x::Y,v::vs=>putAll (E_ env x v) Y vs|env,_,_=>env
noncomputable def Vz(ts:I AA)(e:AA):AD (I U):=l1 ts L λt=>Ju t L λts _ _=>Ju e L λvs _ _=>bT (vs.any (MO 4)) L (Sy ts)
noncomputable def A0.nx(o:A0):A0:=o.F λ_ H=>.ok (.f .next) H
noncomputable abbrev SS:=Kx->IH->St->A0
noncomputable def GV:SS×DM:=⟨λ_ _ _=>.bad,()⟩
noncomputable def kI(x:As):SS×DM:=Stmt.casesOn (motive_2:=λ_=>SS×DM) x (λ_ _ _ _ _ _ _ _ _ _=>GV) (λ_ _ _ _ _ _ _ _ _ _=>GV) (λ_ _ _ _ _ _ _ _ _ _ _=>GV) (λe _=>⟨λK Ao H=>oS e (.ok (.f (.ret .none)) H) λe=>(Ao K (.e e) H).V λv H=>.ok (.f (.ret v)) H,()⟩) (λ_ _=>GV) (λts e _=>⟨λK Ao H=>bC (MN ts e) (A0.of (Vz ts e) λBf=>(Ao K (.e e) H).V λv H=>FU v .bad λo vs=>oN o .bad (A0.iff (BC Bf.length vs.length&&Bf.all (G9 K.sc)&&QG Bf) (.ok (.f .next) ⟨putAll H.env Bf vs,H.h,H.n⟩))) (A0.iff (!JL e||xf ts e) ((Ao K (.e e) H).V λv H=>(Ao K (.GS ts v) H).nx)),()⟩) (λ_ _ _ _ _ _ _=>GV) (λt op e _=>⟨λK Ao H=>DO t .bad λid p=>A0.iff (D0 K.sc id)<|A0.of (Ah H.env id) λa=>(Ao K (.e e) H).V λb H=>A0.of (Zu op a b) λv=>(Ao K (.asg (.Name id p) v) H).nx,()⟩) (λ_ _ _ _ _=>GV) (λt it b e _=>⟨λK Ao H=>l0 e .bad<|oS (Sm it) (A0.iff (CP it) ((Ao K (.e it) H).V λv H=>A0.of (Q9 v H.h) λit=>Ao K (.loop t it 0 b) H)) λx=>Ju t .bad λts k p=>A0.iff (Di K.sc ⟨⟨[101,110,117,109,101,114,97,116,101]⟩⟩&&CP x) ((Ao K (.e x) H).V λv H=>vStr v .bad λs=>A0.iff (s.all λc=>G1 c 128) (Ao K (.loop (.Tuple ts k p) (.K3 s) 0 b) H)),()⟩) (λ_ _ _ _ _=>GV) (λt b e _=>⟨λK Ao H=>l0 e .bad (Ao K (.MJ t b) H),()⟩) (λt a b _=>⟨λK Ao H=>(Ao K (.t t) H).B λc H=>bC c (Ao K (.ss a) H) (Ao K (.ss b) H),()⟩) (λ_ _ _=>GV) (λ_ _ _=>GV) (λ_ _ _=>GV) (λ_ _ _=>GV) (λbody hs e f _=>⟨λK Ao H=>lC hs .bad λ_ _=>l0 e .bad (l0 f .bad (Ao K (.ss body) H)),()⟩) (λ_ _ _ _ _=>GV) (λ_ _ _=>GV) (λ_ _=>GV) (λ_ _ _ _=>GV) (λ_ _=>GV) (λ_ _=>GV) (λe _=>⟨λK Ao H=>A0.iff (!JL e)<|(Ao K (.e e) H).V λ_ H=>.ok (.f .next) H,()⟩) (λ_=>⟨λ_ _ H=>.ok (.f .next) H,()⟩) (λ_=>⟨λ_ _ H=>.ok (.f .brk) H,()⟩) (λ_=>⟨λ_ _ H=>.ok (.f .cont) H,()⟩)
noncomputable def IX(K:Kx)(Ao:IH)(x:As)(H:St):A0:=(kI x).1 K Ao H
noncomputable def tV(x:AA):ST×DM:=match x with
 |.UnaryOp .Not x _=>⟨λ_ K Ao H=>(Ao K (.t x) H).B λb H=>.ok (.b !b) H,()⟩|.BoolOp op Y _=>⟨λ_ K Ao H=>Ao K (.ts (match op with|.And=>M|.Or=>A6) Y) H,()⟩|.IfExp ..=>HX|.Compare l [op] [r] _=>⟨λ_ K Ao H=>A0.iff (!t9 op r)<|(Ao K (.e l) H).V λa H=>(Ao K (.e r) H).V λb H=>a9 (Vm op a b H.h) H,()⟩|.Compare ..=>HX|x=>⟨λ_ K Ao H=>(Ao K (.e x) H).V λv H=>a9 (truthy v H.h) H,()⟩
noncomputable def kJ(c:Cd):ST:=Cd.rec (motive:=λ_=>ST) (λx A3 K Ao H=>(kD x).1 A3 K Ao H) (λl _ K Ao H=>lC l (.ok (.vs []) H) λx l=>A0.iff (CP x) ((Ao K (.e x) H).V λv H=>(Ao K (.N l) H).A1 λvs H=>.ok (.vs (v::vs)) H)) (λx A3 K Ao H=>(tV x).1 A3 K Ao H) (λand l _ K Ao H=>lC l (.ok (.b and) H) λx l=>(Ao K (.t x) H).B λb H=>if b==and then Ao K (.ts and l) H else .ok (.b b) H) (λx _ K Ao H=>(kI x).1 K Ao H) (λl _ K Ao H=>lC l (.ok (.f .next) H) λx l=>(Ao K (.s x) H).F λf H=>match f with
 |.next=>Ao K (.ss l) H|f=>.ok (.f f) H) (λt v A3 K Ao H=>L2 A3 K Ao t v H) (λts vs _ K Ao H=>match ts,vs with
 |[],[]=>.ok (.f .next) H|t::ts,v::vs=>A0.iff (CP t) ((Ao K (.asg t v) H).F λ_ H=>Ao K (.MI ts vs) H)|_,_=>.bad) (λts v _ K Ao H=>lC ts (.ok (.f .next) H) λt ts=>A0.iff (CP t) ((Ao K (.asg t v) H).F λ_ H=>Ao K (.GS ts v) H)) (λt it i body _ K Ao H=>A0.of (IV it i H.h) λr=>oS r (.ok (.f .next) H) λx=>(Ao K (.asg t x) H).F λ_ H=>(Ao K (.ss body) H).F λf H=>match f with
 |.brk=>.ok (.f .next) H|.ret v=>.ok (.f (.ret v)) H|_=>Ao K (.loop t it (i+1) body) H) (λZw body _ K Ao H=>(Ao K (.t Zw) H).B λb H=>bC b ((Ao K (.ss body) H).F λf H=>match f with
 |.brk=>.ok (.f .next) H|.ret v=>.ok (.f (.ret v)) H|_=>Ao K (.MJ Zw body) H) (.ok (.f .next) H)) (λf args A3 K Ao H=>kE A3 K Ao f args H) (λkd o m args A3 K Ao H=>kF A3 K Ao kd o m args H) (λC_ g gens it i Am _ K Ao H=>A0.of (IV it i H.h) λr=>oS r (.ok (.vs Am) H) λx=>A0.iff (CH Am&&xS gens) ((Ao K (.asg g.target x) H).F λ_ H=>(a8 (Ao K) g.ifs H).B λb H=>bC b (match gens with
 |[]=>(Ao K (.e C_) H).V λv H=>Ao K (.GU C_ g gens it (i+1) (Am++[v])) H|g'::kK=>(Ao K (.e g'.iter) H).V λw H=>A0.of (Q9 w H.h) λW0=>(Ao K (.GU C_ g' kK W0 0 Am) H).A1 λAm H=>Ao K (.GU C_ g gens it (i+1) Am) H) (Ao K (.GU C_ g gens it (i+1) Am) H))) (λk v g it i d _ K Ao H=>A0.of (IV it i H.h) λr=>oS r (.ok (.f .next) H) λx=>(Ao K (.asg g.target x) H).F λ_ H=>(a8 (Ao K) g.ifs H).B λb H=>bC b ((Ao K (.e k) H).V λkv H=>(Ao K (.e v) H).V λvv H=>A0.F1 H.h (.ref d) λ_ Am=>A0.iff (De Am kv&&CH Am) (Ao K (.Sk k v g it (i+1) d) (H.set d (.dict (En Am kv vv))))) (Ao K (.Sk k v g it (i+1) d) H)) (λks vs Am _ K Ao H=>match ks,vs with
 |[],[]=>FX (H.new (.dict Am))|none::ks,v::vs=>(Ao K (.e v) H).V λw H=>A0.F1 H.h w λ_ N=>Ao K (.pairs ks vs (N.foldl (λa p=>En a p.1 p.2) Am)) H|some k::ks,v::vs=>(Ao K (.e k) H).V λkv H=>(Ao K (.e v) H).V λvv H=>A0.iff (De Am kv) (Ao K (.pairs ks vs (En Am kv vv)) H)|_,_=>.bad) c
noncomputable def step(K:Kx)(Ao:IH)(c:Cd)(H:St):A0:=kJ c A3 K Ao H
noncomputable def ev(n:O):IH:=RT (motive:=λ_=>IH) (λ_ _ _=>.bad) (λ_ ih K c H=>oS (A3.CR K c H) (kJ c A3 K ih H) λo=>o) n
end
theorem Ac{r:Mine.AS}{H:Mine.St}(h:A0.bad=.ok r H):Bj:=A0.noConfusion h
theorem BE{J:Type}{x:J}(h:L=G x):Bj:=by contradiction
theorem E5(h:A6=M):Bj:=Un h
end
local macro_rules |`(tactic|show$t)=>`(tactic|refine(?_:$t))
local macro_rules |`(tactic|omega)=>`(tactic|first|with_reducible(first|exact Nat.zero_le _|exact Nat.le_refl _|exact Nat.le_add_left _ _)|omega(config:={}))
noncomputable def kL:AD A8->A4
 |none=>.type "tuple"|some c=>.ref c
noncomputable def xg:O->D9
 |0=>"set.__contains__"|_=>"dict.get"
noncomputable def W1:A4->AK
 |.type t=>t=="tuple"||t=="builtin_function_or_method"||t=="range"|.ref c=>c==135|_=>A6
noncomputable def W2:AD A8->AK
 |none=>M|some c=>c==135
noncomputable def C2(o:Bi):AK:=W1 o.cls&&match o.data with|.seq ..=>M|.fields ..=>M|_=>A6
noncomputable def xh(c:AD A8)(o:Bi):Prop:=W2 c=M/\(c=L->o.dict=L/\o.slots=#[])
theorem xj{c:AD A8}(h:W2 c=M):W1 (kL c)=M:=by cases c with
 |none=>rfl|some c=>exact h
mutual
noncomputable def VR(h:BK)(C:I A8):V->A4->Prop
 |.none,u=>u=.none|.bool b,u=>u=.bool b|.int i,u=>∃t,u=.int i t|.str s,u=>∃t,u=.str ⟨⟨s⟩⟩ t|.sym _ s _,u=>∃t,u=.str ⟨⟨s⟩⟩ t|.IQ m r,u=>∃AG t,u=.int AG t/\AG%(m:AX)=r|.O' m,u=>∃AG t,u=.int AG t/\0<=AG/\AG<(m:AX)|.any,u=>∃s t,u=.str ⟨⟨s⟩⟩ t/\s∈IP|.top v,u=>u=v|.ref i,u=>∃a,C[i]?=G a/\u=.ref a|.HA lo hi,u=>∃a t t' HB,u=.ref a/\h.get? a=G {cls:=.type "range",data:=.fields #[.int lo t,.int hi t',.int 1 HB]}|.B' k i,u=>∃a d,u=.ref a/\C[i]?=G d/\h.get? a=G {cls:=.type "builtin_function_or_method",data:=.fields #[.builtin (xg k),.ref d]}|.tup c Y,u=>∃a o us n,u=.ref a/\h.get? a=G o/\xh c o/\o.cls=kL c/\o.data=.seq us n/\Aa h C Y us.toList
noncomputable def Aa(h:BK)(C:I A8):I V->I A4->Prop
 |[],l=>l=[]|x::Y,l=>∃u us,l=u::us/\VR h C x u/\Aa h C Y us
end
noncomputable def Dw(h Q:BK):Prop:=∀b o,h.get? b=G o->C2 o=M->Q.get? b=G o
theorem Dw.refl(h:BK):Dw h h:=λ_ _ e _=>e
theorem Dw.trans{AP BD C3:BK}(x:Dw AP BD)(y:Dw BD C3):Dw AP C3:=λb o e c=>y b o (x b o e c) c
theorem FY{C J:I A8}{i:O}{a:A8}(h:C[i]?=G a):(C++J)[i]?=G a:=by
 refine xE (HM.mp h) ?_;intro hl _;rw[Y6 hl];exact h
theorem Aa.cons{h:BK}{C:I A8}{v:V}{u:A4}{vs:I V}{us:I A4}(a:VR h C v u)(b:Aa h C vs us):Aa h C (v::vs) (u::us):=⟨u,us,rfl,a,b⟩
theorem Aa.Sz{h:BK}{C:I A8}{v:V}{vs:I V}{us:I A4}(r:Aa h C (v::vs) us){P:I A4->Prop}(k:∀u us,VR h C v u->Aa h C vs us->P (u::us)):P us:=Bv r λu us e a b=>e▸k u us a b
theorem Aa.ind{h:BK}{C:I A8}{P:I V->I A4->Prop}(n:P [] [])(c:∀v u vs us,VR h C v u->Aa h C vs us->P vs us->P (v::vs) (u::us)){vs:I V}:∀{us:I A4},Aa h C vs us->P vs us:=by induction vs with
 |nil=>intro us e;cases e;exact n|cons v vs ih=>intro us r;exact r.Sz λu us a b=>c v u vs us a b (ih b)
theorem Aa.imp{h Q:BK}{C J:I A8}{vs:I V}{us:I A4}(r:Aa h C vs us):(∀v∈vs,∀u,VR h C v u->VR Q J v u)->Aa Q J vs us:=Aa.ind (P:=λvs us=>(∀v∈vs,∀u,VR h C v u->VR Q J v u)->Aa Q J vs us) (λ_=>rfl) (λv u vs us a _ ih k=>.cons (k v Co u a) (ih λw m=>k w (Cp _ m))) r
theorem V.ind{P:V->Prop}(a:∀v,(∀h C Q J u,VR h C v u->VR Q J v u)->P v)(r:∀lo hi,P (.HA lo hi))(b:∀i,P (.ref i))(c:∀k i,P (.B' k i))(d:∀c Y,(∀v∈Y,P v)->P (.tup c Y))(v:V):P v:=V.rec (motive_1:=P) (motive_2:=λY=>∀v∈Y,P v) (a _ λ_ _ _ _ _ e=>e) (λ_=>a _ λ_ _ _ _ _ e=>e) (λ_=>a _ λ_ _ _ _ _ e=>e) (λ_=>a _ λ_ _ _ _ _ e=>e) (λc Y ih=>d c Y ih) (λ_=>a _ λ_ _ _ _ _ e=>e) b r c (λ_ _ _=>a _ λ_ _ _ _ _ e=>e) (λ_ _=>a _ λ_ _ _ _ _ e=>e) (λ_=>a _ λ_ _ _ _ _ e=>e) (a _ λ_ _ _ _ _ e=>e) (λ_ m=>nomatch m) (λ_ _ x y _ m=>(Cj.mp m).elim (λe=>e▸x) (y _)) v
theorem VR.mono{h Q:BK}{C J:I A8}(hi:Dw h Q){v:V}{u:A4}:VR h C v u->VR Q (C++J) v u:=V.ind (P:=λv=>∀u,VR h C v u->VR Q (C++J) v u) (λ_ k u e=>k _ _ _ _ u e) (λ_ _ _ e=>Jx e λa t t' HB q z=>⟨a,t,t',HB,q,hi _ _ z rfl⟩) (λ_ _ e=>AC e λa e q=>⟨a,FY e,q⟩) (λ_ _ _ e=>Bv e λa d q e z=>⟨a,d,q,FY e,hi _ _ z rfl⟩) (λ_ _ ih _ e=>Ku e λa o us n q e t c d x=>⟨a,o,us,n,q,hi _ _ e (by unfold C2;rw[c,d,xj t.1];rfl),t,c,d,x.imp ih⟩) v u
theorem Aa.mono{h Q:BK}{C J:I A8}(hi:Dw h Q){v:I V}{u:I A4}(r:Aa h C v u):Aa Q (C++J) v u:=r.imp λ_ _ _=>VR.mono hi
theorem Eb{J:Type}{b:AK}{x y r:J}(h:bC b x y=r){P:Prop}(l:b=M->x=r->P)(m:b=A6->y=r->P):P:=by cases b with
 |true=>exact l rfl h|false=>exact m rfl h
theorem T1{C:Type}{p:U×C}{l:I (U×C)}{x:U}:Ah (p::l) x=bC (Cw p.1 x) (G p.2) (Ah l x):=rfl
theorem IY{C:Type}{p:O×C}{l:I (O×C)}{x:O}:AL (p::l) x=bC (BC p.1 x) (G p.2) (AL l x):=rfl
theorem xk{C:Type}{p:U×C}{l:I (U×C)}{x:U}{v:C}:E_ (p::l) x v=bC (Cw p.1 x) ((p.1,v)::l) (p::E_ l x v):=rfl
theorem QH{C:Type}{p:O×C}{l:I (O×C)}{x:O}{v:C}:putN (p::l) x v=bC (BC p.1 x) ((p.1,v)::l) (p::putN l x v):=rfl
theorem JM{C:Type}{i:O}{o:C}{l:I (O×C)}:AL ((i,o)::l) i=G o:=by rw[IY,J2];rfl
theorem W3{i j:O}(h:i≠j):BC i j=A6:=tA.mpr λq=>h (CD q)
theorem IZ{C:Type}{i j:O}(h:i≠j){o:C}{l:I (O×C)}:AL ((i,o)::l) j=AL l j:=by rw[IY,W3 h];rfl
theorem aH{C:Type}{i j:O}{o w:C}{l:I (O×C)}(h:AL ((i,o)::l) j=G w){P:O->C->Prop}(a:P i o)(b:i≠j->AL l j=G w->P j w):P j w:=by
 refine Eb (show bC (BC i j) (G o) (AL l j)=G w from h) (λq e=>?_) λq e=>b (Nat.ne_of_beq_eq_false q) e;have :=CD q;clear q b h;subst this;exact Br e a
theorem T3{J:Type}{x:O}{v:J}{l:I (O×J)}:AL l x=G v->(x,v)∈l:=by induction l with
 |nil=>exactλh=>(AF h).elim|cons p l ih=>exactλh=>aH (P:=λx v=>(x,v)∈p::l) h Co λ_ e=>Cp _ (ih e)
theorem MP{J:Type}{i:O}{o w:J}{h:I (O×J)}:AL h i=G w->AL (putN h i o) i=G o:=by induction h with
 |nil=>exactλh=>(AF h).elim|cons p h ih=>
 intro e;rw[IY]at e;rw[QH];refine Eb e (λq _=>?_) λq e=>?_;. rw[q];show bC (BC p.1 i) _ _=_;rw[q];rfl
 . rw[q];show bC (BC p.1 i) _ _=_;rw[q];exact ih e
theorem xl{J:Type}{i:O}{x y:J}{h:I (O×J)}:putN (putN h i x) i y=putN h i y:=by induction h with
 |nil=>rfl|cons p h ih=>
 rw[QH,QH];cases q:BC p.1 i with
 |true=>show bC (BC p.1 i) _ _=_;rw[q];rfl|false=>show bC (BC p.1 i) _ _=_;rw[q];exact congrArg (p::·) ih
theorem MQ{J:Type}{i j:O}{o:J}(hj:j≠i){l:I (O×J)}:AL (putN l i o) j=AL l j:=by induction l with
 |nil=>rfl|cons p l ih=>
 rw[QH,IY];cases q:BC p.1 i with
 |true=>
  show bC (BC p.1 j) _ _=_;rw[W3 λz=>hj (z.symm.trans (CD q))];rfl|false=>exact congrArg (bC (BC p.1 j) (G p.2)) ih
theorem xm{J:Type}{i:O}{o:J}{h:I (O×J)}:AL h i=G o->putN h i o=h:=by induction h with
 |nil=>exactλh=>(AF h).elim|cons p h ih=>
 intro e;rw[IY]at e;rw[QH];refine Eb e (λq e=>?_) λq e=>?_;. rw[q];exact congrArg (·::h) (NR rfl (Bm e).symm)
 . rw[q];exact congrArg (p::·) (ih e)
noncomputable def rV{J:Type}(r:AS)(d:J)(k:V->J):J:=match r with|.v v=>k v|.vs _=>d|.b _=>d|.f _=>d|.ps _=>d
theorem xn{J:Type}{x:AS}{d:J}{k:V->J}{r:J}(h:rV x d k=r)(hd:d=r->Bj){P:AS->Prop}(c:∀v,k v=r->P (.v v)):P x:=by cases x with
 |v v=>exact c v h|_=>exact(hd h).elim
noncomputable def rF{J:Type}(r:AS)(d:J)(k:Fl->J):J:=match r with|.f f=>k f|.vs _=>d|.b _=>d|.v _=>d|.ps _=>d
theorem xo{J:Type}{x:AS}{d:J}{k:Fl->J}{r:J}(h:rF x d k=r)(hd:d=r->Bj){P:AS->Prop}(c:∀v,k v=r->P (.f v)):P x:=by cases x with
 |f v=>exact c v h|_=>exact(hd h).elim
noncomputable def kM{J:Type}(f:Fl)(d k:J):J:=match f with|.next=>k|.brk=>d|.cont=>d|.ret _=>d
theorem xp{J:Type}{f:Fl}{d k r:J}(h:kM f d k=r)(hd:d=r->Bj){P:Fl->Prop}(c:k=r->P .next):P f:=by cases f with
 |next=>exact c h|_=>exact(hd h).elim
noncomputable def aI{J:Type}(o:A0)(d:J)(k:AS->Mine.St->J):J:=match o with|.ok r H=>k r H|.bad=>d
theorem kN{J:Type}{o:A0}{d:J}{k:AS->Mine.St->J}{r:J}(h:aI o d k=r)(hd:d=r->Bj){P:A0->Prop}(c:∀x H,k x H=r->P (.ok x H)):P o:=by cases o with
 |bad=>exact(hd h).elim|ok x H=>exact c x H h
noncomputable def K4{J:Type}(o:A0)(d:J)(k:V->Mine.St->J):J:=aI o d λr H=>rV r d λv=>k v H
theorem W4{J:Type}{o:A0}{d:J}{k:V->Mine.St->J}{r:J}(h:K4 o d k=r)(hd:d=r->Bj){P:A0->Prop}(c:∀v H,k v H=r->P (.ok (.v v) H)):P o:=by apply kN h hd;intro x H h;exact xn (P:=λx=>P (.ok x H)) h hd λv h=>c v H h
theorem W5{J:Type}{o:A0}{d:J}{k:V->Mine.St->J}{r:J}(h:K4 o d k=r)(hd:d=r->Bj){P:Prop}(c:∀v H,o=.ok (.v v) H->k v H=r->P):P:=W4 (P:=λo'=>o=o'->P) h hd (λv H h e=>c v H e h) rfl
theorem aJ{h:BK}{C:I A8}{us:I A4}(rs:Aa h C [] us){P:I A4->Prop}(k:P []):P us:=by cases rs;exact k
theorem MR{h:BK}{C:I A8}{v:V}{us:I A4}(rs:Aa h C [v] us){P:I A4->Prop}(k:∀u,VR h C v u->P [u]):P us:=by refine Bv rs ?_;(try clear rs);intro u l Aw r e;subst Aw;cases e;exact k u r
theorem T4{h:BK}{C:I A8}{v w:V}{us:I A4}(rs:Aa h C [v,w] us){P:I A4->Prop}(k:∀u u',VR h C v u->VR h C w u'->P [u,u']):P us:=by refine SA rs ?_;(try clear rs);intro u l B6 r u' l' BJ r' e;subst B6;subst BJ;cases e;exact k u u' r r'
theorem QI{h:BK}{C:I A8}{x:Tx}{us:I A4}(rs:Aa h C [.str x] us){P:I A4->Prop}(k:∀t,P [.str ⟨⟨x⟩⟩ t]):P us:=MR rs λu r=>by refine xE r ?_;(try clear r);intro t BP;subst BP;exact k t
theorem aK{h:BK}{C:I A8}{x:AX}{us:I A4}(rs:Aa h C [.int x] us){P:I A4->Prop}(k:∀t,P [.int x t]):P us:=MR rs λu r=>by refine xE r ?_;(try clear r);intro t Bq;subst Bq;exact k t
theorem kO{h:BK}{C:I A8}{x y:AX}{us:I A4}(rs:Aa h C [.int x,.int y] us){P:I A4->Prop}(k:∀t t',P [.int x t,.int y t']):P us:=T4 rs λu u' r r'=>by refine xE r ?_;(try clear r);intro t Bg;subst Bg;refine xE r' ?_;(try clear r');intro t' Bu;subst Bu;exact k t t'
theorem Aa.length{h:BK}{C:I A8}{v:I V}{u:I A4}(r:Aa h C v u):v.length=u.length:=Aa.ind (P:=λv u=>v.length=u.length) rfl (λ_ _ _ _ _ _ ih=>congrArg (·+1) ih) r
theorem Aa.get{h:BK}{C:I A8}{v:I V}{u:I A4}{i:O}{x:V}(r:Aa h C v u)(e:v[i]?=G x):∃y,u[i]?=G y/\VR h C x y:=by
 revert i;refine Aa.ind (P:=λv u=>∀{i},v[i]?=G x->∃y,u[i]?=G y/\VR h C x y) (λe=>(AF e).elim) (λv u vs us a _ ih i q=>?_) r;cases i with
 |zero=>exact Br q (P:=λx=>∃y,G u=G y/\VR h C x y) ⟨u,rfl,a⟩|succ i=>exact ih q
theorem Aa.app{h:BK}{C:I A8}{v v':I V}{u u':I A4}(x:Aa h C v u)(y:Aa h C v' u'):Aa h C (v++v') (u++u'):=Aa.ind (P:=λv u=>Aa h C (v++v') (u++u')) y (λ_ _ _ _ a _ ih=>.cons a ih) x
noncomputable def W6(BN N:I (V×V)):Prop:=BN.Perm N/\PT
noncomputable def aL:Tx->Tx->O
 |a::x,b::y=>match BC a b with|true=>aL x y+1|false=>0
 |_,_=>0
noncomputable def kP(a:Tx)(i:O):Tx->O->O×O×O->O×O×O
 |[],_,r=>r|c::y,j,r=>kP a i y (j+1) (match G1 r.1 (aL a (c::y))with|true=>(aL a (c::y),i,j)|false=>r)
noncomputable def kQ(b:Tx):Tx->O->O×O×O->O×O×O
 |[],_,r=>r|c::x,i,r=>kQ b x (i+1) (kP (c::x) i b 0 r)
noncomputable def aM:O->Tx->Tx->O->O->I (O×O×O)
 |0,_,_,_,_=>[]|n+1,a,b,p,q=>match kQ b a 0 (0,0,0)with
 |(0,_,_)=>[]|(k+1,i,j)=>aM n (a.take i) (b.take j) p q++(k+1,p+i,q+j)::aM n (a.drop (i+k+1)) (b.drop (j+k+1)) (p+i+k+1) (q+j+k+1)
noncomputable def W7(s n:O):Tx:=match n with
 |0=>Q8 s++[44,48]|1=>Q8 (s+1)|n=>Q8 (s+1)++44::Q8 n
noncomputable def kR(i j i' j':O):I (I Tx):=let f:=W7 i (i'-i);let g:=W7 j (j'-j);match i'-i,j'-j with
 |0,0=>[]|0,_=>[[[105,110,115,101,114,116],f,g]]|_,0=>[[[100,101,108,101,116,101],f,g]]|_,_=>[[[114,101,112,108,97,99,101],f,g]]
noncomputable def kS(la lb:O):I (O×O×O)->O->O->I (I Tx)
 |[],i,j=>kR i j la lb|(k,p,q)::l,i,j=>kR i j p q++kS la lb l (p+k) (q+k)
noncomputable def C8(a b:Tx):I (I Tx):=kS a.length b.length (aM 20 a b 0 0) 0 0
noncomputable def O9(p:Tx):I Tx->V
 |t::r=>.tup L (.str t::.str p::r.map .str)|[]=>.tup L [.str p]
noncomputable def I_:Sg->I V
 |.it l=>[.tup L (l.map .str)]|.tx t=>[.str t]|.run p a b=>(C8 a b).map (O9 p)
noncomputable def DS(l:I Sg):I V:=l.flatMap I_
section
variable(prog:Hf)(w:EC)
noncomputable def DR{K:Type}(key:K->V)(h:BK)(C:I A8):I (V×V)->I (K×A4)->Prop
 |[],l=>l=[]|e::N,l=>∃k u r,l=(k,u)::r/\e.1=key k/\VR h C e.2 u/\DR key h C N r
noncomputable def GW(x:U):V:=.str x.cps.toList
noncomputable def T5(i:AX):V:=.int i
noncomputable def Dn(h:BK)(C:I A8)(a:A8)(N:I (V×V)):Prop:=(∃Az,h.DictAt (strKind prog w) a Az Az.length/\DR GW h C N Az)\/(∃Az,h.DictAt (intKind prog w) a Az Az.length/\DR T5 h C N Az)
noncomputable def Ca(h:BK)(C:I A8)(a:A8):Ob->Prop
 |.list Y=>∃us,h.PlainList a us/\Aa h C Y us.toList|.dict N=>Dn prog w h C a N|.B3 N=>∃BN,W6 BN N/\Dn prog w h C a BN|.EY N=>∃m,h.Ns1 a m/\∀x,match Ah N x with|some v=>∃u,m x=G u/\VR h C v u|none=>m x=L
 |.rows r Y=>∃us,h.PlainList a us/\Aa h C (DS Y) us.toList/\(DS Y).length+r<=Dm|.HU=>∃led,h.get? a=G {cls:=.type "set",dict:=L,data:=.set #[] 0 (.fresh 0 0 led)}|.inst c d=>∃da,C[d]?=G da/\h.get? a=G {cls:=.ref c,dict:=G da,data:=.plain}
end
theorem DR.cons{K:Type}{key:K->V}{h:BK}{C:I A8}{k:K}{v:V}{u:A4}{N:I (V×V)}{r:I (K×A4)}(a:VR h C v u)(d:DR key h C N r):DR key h C ((key k,v)::N) ((k,u)::r):=⟨k,u,r,rfl,rfl,a,d⟩
theorem DR.ind{K:Type}{key:K->V}{h:BK}{C:I A8}{P:I (V×V)->I (K×A4)->Prop}(n:P [] [])(c:∀k v u N r,VR h C v u->DR key h C N r->P N r->P ((key k,v)::N) ((k,u)::r)){N:I (V×V)}:∀{l:I (K×A4)},DR key h C N l->P N l:=by induction N with
 |nil=>intro l e;cases e;exact n|cons e N ih=>
 intro l e';refine JB e' ?_;clear e';intro k u r q e1 a d;subst q;rw[show e=(key k,e.2)from NR e1 rfl];exact c k e.2 u N r a d (ih d)
theorem DR.mono{K:Type}{key:K->V}{h Q:BK}{C J:I A8}(hi:Dw h Q){N:I (V×V)}{l:I (K×A4)}(d:DR key h C N l):DR key Q (C++J) N l:=DR.ind (P:=DR key Q (C++J)) rfl (λ_ _ _ _ _ a _ ih=>DR.cons (a.mono hi) ih) d
theorem Dn.mono{prog:Hf}{w:EC}{h Q:BK}{C J:I A8}{a:A8}{N:I (V×V)}(hi:Dw h Q)(ha:∀x,h.get? a=G x->Q.get? a=G x)(x:Dn prog w h C a N):Dn prog w Q (C++J) a N:=by
 rcases x with C9|Ck;refine AC C9 ?_;(try clear C9);intro Az D8 v;obtain⟨o,BN,e,r⟩:=D8;rotate_left;refine AC Ck ?_;(try clear Ck);intro Az DX v;obtain⟨o,BN,e,r⟩:=DX;rotate_left;. exact .inl ⟨Az,⟨o,BN,ha _ e,r⟩,v.mono hi⟩
 . exact .inr ⟨Az,⟨o,BN,ha _ e,r⟩,v.mono hi⟩
theorem Ca.mono{prog:Hf}{w:EC}{h Q:BK}{C J:I A8}{a:A8}{o:Ob}(hi:Dw h Q)(ha:∀x,h.get? a=G x->Q.get? a=G x)(x:Ca prog w h C a o):Ca prog w Q (C++J) a o:=by cases o with
 |list Y=>refine AC x ?_;(try clear x);intro us p v;exact⟨us,p.at ha,v.mono hi⟩|dict N=>exact Dn.mono hi ha x|B3 N=>refine AC x ?_;(try clear x);intro BN p y;exact⟨BN,p,y.mono hi ha⟩|EY N=>
  refine AC x ?_;(try clear x);intro m ns r;refine⟨m,ns.at ha,λy=>?_⟩;have :=r y;revert this;split;. rintro⟨u,e,v⟩;exact⟨u,e,v.mono hi⟩
  . exact id|rows r Y=>refine CZ x ?_;(try clear x);intro us p v l;exact⟨us,p.at ha,v.mono hi,l⟩|HU=>refine xE x ?_;(try clear x);intro l e;exact⟨l,ha _ e⟩|inst c d=>refine AC x ?_;(try clear x);intro da e g;exact⟨da,FY e,ha _ g⟩
noncomputable def HC(o:Bi):AK:=match o.data with|.dict ..=>M|_=>A6
structure Nx(AM AZ:I A8)(h Q:BK)(C AT:I A8):Prop where
 pre:∃J,AT=C++J/\∀b∈J,h.get? b=L
 live:∀b o,h.get? b=G o->∃o',Q.get? b=G o'
 Bw:Dw h Q
 same:∀b o,h.get? b=G o->b∉C->b∉AZ->∃sl,Q.get? b=G {o with slots:=sl}/\((b∈AM->HC o=A6)->sl=o.slots)
theorem Nx.refl(AM AZ:I A8)(h:BK)(C:I A8):Nx AM AZ h h C C:=⟨⟨[],by simp,λ_ hb=>by simp at hb⟩,λ_ o e=>⟨o,e⟩,Dw.refl h,λ_ o e _ _=>⟨o.slots,e,λ_=>rfl⟩⟩
theorem Nx.data{AZ:I A8}{h Q:BK}{C AT:I A8}(x:Nx AM AZ h Q C AT)(b:A8)(o:Bi)(e:h.get? b=G o)(n:b∉C)(m:b∉AZ):∃sl,Q.get? b=G {o with slots:=sl}:=let⟨sl,q,_⟩:=x.same b o e n m;⟨sl,q⟩
theorem Nx.keep{AZ:I A8}{h Q:BK}{C AT:I A8}(x:Nx AM AZ h Q C AT)(b:A8)(o:Bi)(e:h.get? b=G o)(n:b∉C)(m:b∉AZ)(z:b∈AM->HC o=A6):Q.get? b=G o:=by
 refine AC (x.same b o e n m) ?_;intro sl q r;rw[r z]at q;exact q
theorem HD{h Q:BK}{b:A8}(l:∀b o,h.get? b=G o->∃o',Q.get? b=G o')(n:Q.get? b=L):h.get? b=L:=by cases e:h.get? b with
 |none=>rfl|some o=>refine xE (l b o e) ?_;intro o' e';rw[n]at e';cases e'
theorem Nx.out{AZ:I A8}{h Q:BK}{C AT:I A8}(x:Nx AM AZ h Q C AT){b:A8}{o:Bi}(g:h.get? b=G o)(n:b∉C):b∉AT:=by
 refine AC x.pre ?_;intro J e hb;intro m;rw[e]at m;rcases Dr.mp m with m|m;. exact n m
 . rw[hb b m]at g;cases g
theorem Nx.trans{AZ:I A8}{AP BD C3:BK}{A_ Au BS:I A8}(x:Nx AM AZ AP BD A_ Au)(y:Nx AM AZ BD C3 Au BS):Nx AM AZ AP C3 A_ BS:=by
 refine AC x.pre ?_;intro J e hb;refine AC y.pre ?_;intro EH e' hc;refine⟨⟨J++EH,by rw[e',e,Uq],λb m=>?_⟩,λb o g=>?_,x.Bw.trans y.Bw,λb o g n m=>?_⟩
 . rcases Dr.mp m with m|m;. exact hb b m
   . exact HD x.live (hc b m)
 . refine xE (x.live b o g) ?_;intro o' g';exact y.live b o' g'
 . refine AC (x.same b o g n m) ?_;intro s1 q1 r1;refine AC (y.same b _ q1 (x.out g n) m) ?_;intro s2 q2 r2;exact⟨s2,q2,λz=>by have e2:=r2 z;rw[r1 z]at e2;exact e2⟩
theorem VR.nx{AZ:I A8}{h Q:BK}{C AT:I A8}(x:Nx AM AZ h Q C AT){v:V}{u:A4}(r:VR h C v u):VR Q AT v u:=by refine AC x.pre ?_;intro J e _;rw[e];exact r.mono x.Bw
theorem Aa.nx{AZ:I A8}{h Q:BK}{C AT:I A8}(x:Nx AM AZ h Q C AT){v:I V}{u:I A4}(r:Aa h C v u):Aa Q AT v u:=by refine AC x.pre ?_;intro J e _;rw[e];exact r.mono x.Bw
structure Fm where
 env:Gi
 AZ:I A8
 outs:I Gi
noncomputable def Fm.D(F:Fm):I A8:=F.outs.filterMap (·.frame)
structure Bs where
 prog:Hf
 w:EC
 base:BK
 os:H5
 gens:BW fa
noncomputable def K5(F:Fm)(x:U):Prop:=F.env.kindOf x=G .local\/F.env.kindOf x=G .cell\/F.env.kindOf x=G .free
noncomputable def T6(F:Fm)(h:BK)(m:U->AD A4)(x:U)(u:A4):Prop:=(F.env.kindOf x=G .local->m x=G u)/\(F.env.kindOf x=G .cell\/F.env.kindOf x=G .free->∃c,F.env.cells.lookup x=G c/\h.IsCell c (G u))
noncomputable def Cf(F:Fm)(h:BK)(C:I A8)(env:I (U×V)):Prop:=∃m,h.Ns F.env.locals m/\(∀c∈F.env.cells,∃u,h.IsCell c.2 u)/\∀x v,Ah env x=G v->K5 F x->∃u,T6 F h m x u/\VR h C v u
noncomputable def kT(F:Fm)(x:U):E3->Prop
 |.local=>F.env.kindOf x=G .local|.cell=>F.env.kindOf x=G .cell/\∃c,F.env.cells.lookup x=G c/\c∈F.AZ|.free=>(F.env.kindOf x=G .cell\/F.env.kindOf x=G .free)/\∃c,F.env.cells.lookup x=G c|.globalImplicit=>F.env.kindOf x=G .globalImplicit|.globalExplicit=>PT
structure GA(K:Kx)(F:Fm):Prop where
 fn:F.env.scope.kind=.function
 sc:QD K.sc=M
 kd:∀x k,Ah K.sc.names x=G k->kT F x k
 g3:F.env.globals=3b0:F.env.builtins=0cells:F.env.cells.Pairwise λx y=>x.2≠y.2Ia:F.env.locals∈F.AZ
 MT:∀c∈F.env.cells,c.2≠F.env.locals
theorem W8{l:I E3}{o:AD E3}(h:isIn l o=M){P:E3->Prop}(c:∀k∈l,P k):∃k,o=G k/\P k:=by cases o with
 |none=>exact(B0 h).elim|some k=>exact⟨k,rfl,c k (List.elem_iff.mp h)⟩
theorem GA.at{K:Kx}{F:Fm}(g:GA K F){l:I E3}{x:U}(h:isIn l (So K.sc x)=M){P:Prop}(c:∀k∈l,kT F x k->P):P:=AC (W8 h c) λk e c=>c (g.kd x k e)
theorem GA.loc{K:Kx}{F:Fm}(g:GA K F)(x:U)(h:D0 K.sc x=M):K5 F x:=g.at h (all_cons .inl (all_cons (λz=>.inr (.inl z.1)) (all_cons (λz=>.inr z.1) EE)))
theorem GA.own{K:Kx}{F:Fm}(g:GA K F)(x:U)(h:G9 K.sc x=M):F.env.kindOf x=G .local\/(F.env.kindOf x=G .cell/\∃c,F.env.cells.lookup x=G c/\c∈F.AZ):=g.at h (all_cons .inl (all_cons .inr EE))
theorem GA.glob{K:Kx}{F:Fm}(g:GA K F)(x:U)(h:Di K.sc x=M):F.env.kindOf x=G .globalImplicit:=g.at h (all_cons id EE)
theorem GA.cf{K:Kx}{F:Fm}(g:GA K F)(x:U)(h:a7 K.sc x=M):(F.env.kindOf x=G .cell\/F.env.kindOf x=G .free)/\∃c,F.env.cells.lookup x=G c:=g.at h (all_cons (λz=>⟨.inl z.1,AC z.2 λc e _=>⟨c,e⟩⟩) (all_cons id EE))
theorem T7{F:Fm}{x:U}(h:F.env.kindOf x=G .cell\/F.env.kindOf x=G .free)(z:F.env.kindOf x=G .local){P:Prop}:P:=h.elim (λe=>nomatch z.symm.trans e) λe=>nomatch z.symm.trans e
structure Gd(B:Bs)(F:Fm)(K:Kx)(A:CK)(H:St)(C:I A8)(s:AR):Prop where
 kinds:GA K F
 len:C.length=H.n
 nodup:C.Nodup
 fresh:∀a∈C,B.base.get? a=L
 live:∀a∈C,∃o,s.heap.get? a=G o
 D5:∀a∈F.AZ,B.base.get? a=L/\a∉C/\∃o,s.heap.get? a=G o
 D1:∀c∈F.env.cells,c.2∉C/\∃o,s.heap.get? c.2=G o
 objs:∀i o,AL H.h i=G o->∃a,C[i]?=G a/\Ca B.prog B.w s.heap C a o
 env:Cf F s.heap C H.env
 base:B.base.StaysIn s.heap
 os:s.os=B.os
 gens:s.gens=B.gens
 frames:A.frames=G F.outs
 DT:s.heap.FunFrames B.base F.outs
 Cy:∀A1∈F.outs.filterMap (·.frame),A1∉C/\(A1∈F.AZ->A1=F.env.locals)/\∃o,s.heap.get? A1=G o/\HC o=M
 mods:∃o,B.base.get? NS=G o
 handled:A.handled=L
 depth:A.depth+3*K.d<900units:A.units+10*K.d<9000
theorem Gd.obj{B:Bs}{F:Fm}{K:Kx}{A:CK}{H:St}{C:I A8}{s:AR}(g:Gd B F K A H C s){i:O}{o:Ob}(h:AL H.h i=G o){a:A8}(ha:C[i]?=G a):Ca B.prog B.w s.heap C a o:=AC (g.objs i o h) λ_ e r=>Bm (e.symm.trans ha)▸r
variable{C AT BG A_ AZ Au AM:I A8}{h Q Af:BK}{v v' k:Mine.V}{A A':CK}{s s' AJ:AR}{A7 H AB Bc DI:Mine.St}{i n d j r m tk ep kd k0 depth:O}{B:Bs}{K K':Kx}{F F':Fm}{u u' ku vu fu c fl fv du:A4}{A3:Mine.Ctx}{E A2:A4->AR->Prop}{a AE D z TI a0 E1:A8}{J T EH:Type}{pos p p2 p1 p3 p4:B9}{us first:I A4}{N ps BN:I (Mine.V×Mine.V)}{x id name:U}{prog:Hf}{w:EC}{f:Fl}{t t':EP}{Y args vs Am ys MU:I Mine.V}{env:Gi}{A1 l AG An CL L0 L1:I Tx}{P:Dq}{b led ex on:AK}{o ob o':Ob}{Kf:Gh}{sc:BU}{BA:O->O}{B7 rs Dx:I O}{Av:fb}{A9 JN JO K6 ext2 brk tf L3:As}{y q:Tx}{fd:Kh}{g:FP}{ts:I AA}{e C_:AA}{it:It}{BF hp:I (O×Ob)}{gens:I FP}{C4:I Gi}{names:I U}{Cb:BW A4}{op:Jk}{pl:Dz AK}{ord:I (AX×A4)}{CV K7:I (U×Mine.V)}
theorem Ec{a b:Tx}:CU a b=M↔a=b:=by induction a generalizing b with
 |nil=>cases b with
  |nil=>exact⟨λ_=>rfl,λ_=>rfl⟩|cons y t=>exact⟨λh=>(B0 h).elim,λh=>nomatch h⟩
 |cons x l ih=>cases b with
 |nil=>exact⟨λh=>(B0 h).elim,λh=>nomatch h⟩|cons y t=>
  refine⟨λh=>Ce (k:=CU l t) h B0 λe h=>by rw[CD e,ih.mp h],λh=>?_⟩;injection h with h1 h2;subst h1;show bT (BC x x) A6 (CU l t)=M;rw[J2,ih.mpr h2];rfl
theorem kU{a b:Tx}:CU a b=A6↔a≠b:=by rw[<-bs2,Ec]
theorem E2{a b:U}:Cw a b=M↔a=b:=by
 unfold Cw;rw[Ec];constructor;. intro e;cases a;cases b;simp only[bs3];exact tB.mp e
 . intro e;rw[e]
theorem aN{a b:U}(h:Cw a b=M){P:U->Prop}(k:P b):P a:=E2.mp h▸k
theorem xq{a b:U}(h:Cw a b=M){P:U->Prop}(k:P a):P b:=E2.mp h▸k
theorem L4{a b:U}:Cw a b=A6↔a≠b:=by rw[<-bs2,E2]
theorem QJ{C:Type}{v:C}{y:U}{l:I (U×C)}:Ah (E_ l x v) y=if x=y then G v else Ah l y:=by induction l with
 |nil=>
  show bC (Cw x y) (G v) L=_;by_cases h:x=y;. rw[DA h,E2.mpr h];rfl
  . rw[CS h,L4.mpr h];rfl|cons p l ih=>
  rw[xk,T1];by_cases h:p.1=x
  . rw[E2.mpr h];show bC (Cw p.1 y) (G v) (Ah l y)=_;rw[h];by_cases Q:x=y;. rw[DA Q,E2.mpr Q];rfl
    . rw[CS Q,L4.mpr Q];rfl
  . rw[L4.mpr h];show bC (Cw p.1 y) (G p.2) (Ah (E_ l x v) y)=_;by_cases Q:p.1=y;. rw[E2.mpr Q,CS λq=>h (Q.trans q.symm)];rfl
    . rw[L4.mpr Q];exact ih
theorem aO{C:Type}{v:C}{l:I (O×C)}:∀{w:C},AL (putN l i v) j=G w->(j=i/\w=v)\/(j≠i/\AL l j=G w):=by induction l with
 |nil=>exactλh=>(AF h).elim|cons p l ih=>
 intro w h;rw[QH]at h;rw[IY];by_cases e:p.1=i
 . rw[show BC p.1 i=M from e▸J2 _]at h;by_cases q:p.1=j
   . subst q;rw[show bC M ((p.1,v)::l) (p::putN l i v)=(p.1,v)::l from rfl,JM]at h;exact .inl ⟨e,(Bm h).symm⟩
   . rw[show bC M ((p.1,v)::l) (p::putN l i v)=(p.1,v)::l from rfl,IZ q]at h;rw[W3 q];exact .inr ⟨λz=>q (e.trans z.symm),h⟩
 . rw[W3 e]at h;have h:bC (BC p.1 j) (G p.2) (AL (putN l i v) j)=G w:=h;refine Eb h (λq e'=>.inr ⟨λz=>e ((CD q).trans z),by rw[q];exact e'⟩) λq e'=>?_;rw[q];exact ih e'
theorem Nx.ext(k:∀b o,h.get? b=G o->Q.get? b=G o):Nx AM AZ h Q C C:=⟨⟨[],by simp,λ_ hb=>by simp at hb⟩,λb o e=>⟨o,k b o e⟩,λb o e _=>k b o e,λb o e _ _=>⟨o.slots,k b o e,λ_=>rfl⟩⟩
theorem Nx.add(J:I A8)(k:∀b o,h.get? b=G o->Q.get? b=G o)(n:∀b∈J,h.get? b=L):Nx AM AZ h Q C (C++J):=⟨⟨J,rfl,n⟩,λb o e=>⟨o,k b o e⟩,λb o e _=>k b o e,λb o e _ _=>⟨o.slots,k b o e,λ_=>rfl⟩⟩
theorem Nx.but(ha:a∈C\/a∈AZ)(k:Ds a h Q)(hc:∀o,h.get? a=G o->C2 o=A6)(hl:∃o,Q.get? a=G o):Nx AM AZ h Q C C:=by
 refine⟨⟨[],by simp,λ_ hb=>by simp at hb⟩,λb o e=>?_,λb o e c=>?_,λb o e n m=>⟨o.slots,?_,λ_=>rfl⟩⟩
 . by_cases q:b=a;. clear ha hc k;subst q;exact hl
   . exact⟨o,k b o q e⟩
 . by_cases q:b=a;. clear ha hl k;subst q;rw[hc o e]at c;exact(E5 c).elim
   . exact k b o q e
 . exact k b o (λq=>by clear hc hl k;subst q;exact ha.elim n m) e
section
theorem Gd.of(g:Gd B F K A H C s){J:I A8}(x:Nx F.D F.AZ s.heap Q C (C++J))(GB:J.Nodup)(hn:∀b∈J,s.heap.get? b=L)(hl:∀b∈J,∃o,Q.get? b=G o)(len:(C++J).length=A7.n)(objs:∀i o,AL A7.h i=G o->∃a,(C++J)[i]?=G a/\Ca B.prog B.w Q (C++J) a o)(env:Cf F Q (C++J) A7.env)(base:B.base.StaysIn Q):Gd B F K A A7 (C++J) {s with heap:=Q,toks:=tk}:=by
 have bn:∀b∈J,B.base.get? b=L:=λb m=>by cases e:B.base.get? b with
 |none=>rfl|some o=>have :=g.base b o e;rw[hn b m]at this;exact(BE this).elim
 refine⟨g.kinds,len,?_,?_,?_,?_,λc m=>⟨x.out (g.D1 c m).2.choose_spec (g.D1 c m).1,x.live _ _ (g.D1 c m).2.choose_spec⟩,objs,env,base,g.os,g.gens,g.frames,?_,?_,g.mods,g.handled,g.depth,g.units⟩
 . refine IE.mpr ⟨g.nodup,GB,λa ha b hb e=>?_⟩;subst e;refine xE (g.live a ha) ?_;intro o q;rw[hn a hb]at q;exact(BE q).elim
 . intro a m;rcases Dr.mp m with m|m;. exact g.fresh a m
   . exact bn a m
 . intro a m;rcases Dr.mp m with m|m;. refine xE (g.live a m) ?_;intro o q;exact x.live a o q
   . exact hl a m
 . intro a m;refine IN (g.D5 a m) ?_;intro q r o l;exact⟨q,x.out l r,x.live a o l⟩
 . have hL:=g.DT;have fd:=g.Cy;refine CZ env ?_;(try clear env);intro mm ns _ _;revert hL fd;generalize F.outs=l;intro hL fd;show Q.FunFrames B.base l;induction l with
 |nil=>trivial|cons e r ih=>
     refine G6 hL ?_;(try clear hL);intro hk Aw hr;refine HT Aw ?_;(try clear Aw);intro A1 o hf hb ho hd;have fL:=fd A1 (by simp[hf]);refine⟨hk,?_,ih hr λL' m'=>fd L' (by rw[RX,hf];exact Cp _ m')⟩;by_cases q:A1∈F.AZ
     . have e:=fL.2.1 q;refine Gq ns ?_;(try clear ns);intro oL N ep hL aP _;rw[<-e]at hL;exact⟨A1,oL,hf,hb,hL,λvs z=>by rw[aP]at z;(exfalso;cases z)⟩
     . refine xE (x.data A1 o ho fL.1 q) ?_;intro sl z;exact⟨A1,_,hf,hb,z,hd⟩
 . intro A1 m;refine Pq (g.Cy A1 m) ?_;intro q r o ho hd;refine⟨x.out ho q,r,?_⟩;by_cases z:A1∈F.AZ
   . refine AC env ?_;(try clear env);intro mm B6 _;refine Gq B6 ?_;(try clear B6);intro oL N ep hL aP _;rw[<-r z]at hL;exact⟨oL,hL,by unfold HC;rw[aP]⟩
   . refine xE (x.data A1 o ho q z) ?_;(try clear z);intro sl z;exact⟨_,z,hd⟩
theorem Cf.imp{env:I (U×V)}(x:Cf F h C env)(ns:∀m,h.Ns F.env.locals m->Q.Ns F.env.locals m)(ce:∀n c u,(n,c)∈F.env.cells->h.IsCell c u->Q.IsCell c u)(vr:∀v u,VR h C v u->VR Q AT v u):Cf F Q AT env:=CZ x λm n xr r=>⟨m,ns m n,λc hc=>xE (xr c hc) λu q=>⟨u,ce c.1 c.2 u hc q⟩,λx v e q=>AC (r x v e q) λu s r=>⟨u,⟨s.1,λz=>AC (s.2 z) λc e f=>⟨c,e,ce x c _ (mem_of_lookup e) f⟩⟩,vr v u r⟩⟩
theorem Cf.ext{env:I (U×V)}{J:I A8}(k:∀b o,h.get? b=G o->Q.get? b=G o)(x:Cf F h C env):Cf F Q (C++J) env:=x.imp (λ_ ns=>ns.at' λo e=>k _ o e) (λ_ _ _ _ q=>q.keeps k) λ_ _ r=>r.mono λb o e _=>k b o e
theorem Gd.tok(g:Gd B F K A H C s)(tk:O):Gd B F K A H C {s with toks:=tk}:=⟨g.kinds,g.len,g.nodup,g.fresh,g.live,g.D5,g.D1,g.objs,g.env,g.base,g.os,g.gens,g.frames,g.DT,g.Cy,g.mods,g.handled,g.depth,g.units⟩
theorem Gd.ext(g:Gd B F K A H C s)(k:∀b o,s.heap.get? b=G o->Q.get? b=G o):Gd B F K A H C {s with heap:=Q,toks:=tk}:=by
 have :=g.of (A7:=H) (Q:=Q) (tk:=tk) (J:=[]) (Nx.add [] k (λ_ hb=>by simp at hb)) HN (λ_ hb=>by simp at hb) (λ_ hb=>by simp at hb) (by simpa using g.len) (λi o e=>by refine AC (g.objs i o e) ?_;intro a p q;exact⟨a,by simpa using p,q.mono (λb o e _=>k b o e) (k a)⟩) (g.env.ext k) (λb o e=>k b o (g.base b o e));simpa using this
theorem Gd.new(g:Gd B F K A H C s)(k:∀b o,s.heap.get? b=G o->Q.get? b=G o)(hn:s.heap.get? a=L)(hl:∃o,Q.get? a=G o)(ho:Ca B.prog B.w Q (C++[a]) a o):Gd B F K A (H.new o).2 (C++[a]) {s with heap:=Q,toks:=tk}:=by
 have OA:∀b∈[a],s.heap.get? b=L:=λb hb=>by rw[CI.mp hb];exact hn
 refine g.of (Nx.add [a] k OA) (by simp) OA (λb hb=>by rw[CI.mp hb];exact hl) (by simp[Mine.St.new,g.len]) (λi o' e=>?_) (g.env.ext k) (λb o e=>k b o (g.base b o e));simp only[Mine.St.new,AL]at e;cases q:BC H.n i with
 |true=>
  rw[q]at e;injection e with e;subst e;have :=CD q;exact⟨a,by rw[<-this,<-g.len];simp,ho⟩|false=>
  rw[q]at e;refine AC (g.objs i o' e) ?_;intro b p r;exact⟨b,FY p,r.mono (λb o e _=>k b o e) (k b)⟩
theorem T8{p:I A8->Prop}(h:p (C++[])):p C:=by simpa using h
theorem Cf.but{env:I (U×V)}(ha:a≠F.env.locals)(hc:∀c∈F.env.cells,c.2≠a)(k:Ds a h Q)(hi:Dw h Q)(x:Cf F h C env):Cf F Q C env:=x.imp (λ_ ns=>ns.extBut k (CX ha)) (λn c u m q=>AC q λo e d=>⟨o,k _ _ (hc _ m) e,d⟩) λv u r=>T8 (p:=λJ=>VR Q J v u) (r.mono hi)
theorem Gd.aQ(g:Gd B F K A H C s)(x:Nx F.D F.AZ s.heap Q C C)(len:A7.n=H.n)(objs:∀i o,AL A7.h i=G o->∃a,C[i]?=G a/\Ca B.prog B.w Q C a o)(env:Cf F Q C A7.env)(base:B.base.StaysIn Q):Gd B F K A A7 C {s with heap:=Q,toks:=tk}:=by
 have e:C++[]=C:=HO C;have :=g.of (A7:=A7) (Q:=Q) (tk:=tk) (J:=[]) (by rw[e];exact x) HN (λ_ hb=>by simp at hb) (λ_ hb=>by simp at hb) (by rw[e,len];exact g.len) (by rw[e];exact objs) (by rw[e];exact env) base;rwa[e]at this
theorem Ca.C2(r:Ca prog w h C a o)(hi:∀c d,o=.inst c d->c≠135):∀x,h.get? a=G x->C2 x=A6:=by
 intro x e;cases o with
 |list Y=>refine AC r ?_;(try clear r);intro us BJ _;refine xE BJ ?_;(try clear BJ);intro n q;rw[q]at e;injection e with e;subst e;rfl|dict N=>(rcases r with Bu|C9;refine AC Bu ?_;(try clear Bu);intro _ FE _;obtain⟨o,_,q,⟨c,_⟩,_⟩:=FE;rotate_left;refine AC C9 ?_;(try clear C9);intro _ GC _;obtain⟨o,_,q,⟨c,_⟩,_⟩:=GC;rotate_left)<;>(rw[q]at e;injection e with e;subst e;unfold Mine.C2;rw[c];rfl)|B3 N=>
  refine AC r ?_;(try clear r);intro _ _ r;(rcases r with Ck|D8;refine AC Ck ?_;(try clear Ck);intro _ HE _;obtain⟨o,_,q,⟨c,_⟩,_⟩:=HE;rotate_left;refine AC D8 ?_;(try clear D8);intro _ Hw _;obtain⟨o,_,q,⟨c,_⟩,_⟩:=Hw;rotate_left)<;>(rw[q]at e;injection e with e;subst e;unfold Mine.C2;rw[c];rfl)|EY N=>refine AC r ?_;(try clear r);intro m BP _;refine Gq BP ?_;(try clear BP);intro o _ _ q d _;rw[q]at e;injection e with e;subst e;unfold Mine.C2;rw[d];simp|rows k Y=>refine AC r ?_;(try clear r);intro us Bq _;refine xE Bq ?_;(try clear Bq);intro n q;rw[q]at e;injection e with e;subst e;rfl|HU=>refine xE r ?_;(try clear r);intro l q;rw[q]at e;injection e with e;subst e;rfl|inst c d=>
  refine AC r ?_;(try clear r);intro da _ q;rw[q]at e;injection e with e;subst e;have :=hi c d rfl;show(c==135&&A6)=A6;simp
theorem Gd.set(g:Gd B F K A H C s)(hi:C[i]?=G a)(W9:AL H.h i=G o)(Cc:∀c d,o≠.inst c d)(k:Ds a s.heap Q)(hl:∃o,Q.get? a=G o)(ho:∀x:Dw s.heap Q,Ca B.prog B.w Q C a o'):Gd B F K A (H.set i o') C {s with heap:=Q,toks:=tk}/\Nx F.D [] s.heap Q C C:=by
 have ha:a∈C:=Ew hi;refine AC (g.objs i o W9) ?_;intro a' QK r;rw[hi]at QK;injection QK with QK;subst QK;have x:Nx F.D F.AZ s.heap Q C C:=Nx.but (.inl ha) k (r.C2 λc d e=>absurd e (Cc c d)) hl;have x0:Nx F.D [] s.heap Q C C:=Nx.but (.inl ha) k (r.C2 λc d e=>absurd e (Cc c d)) hl;refine⟨g.aQ x rfl (λj p e=>?_) (g.env.but ?_ ?_ k x.Bw) (λb p e=>?_),x0⟩
 . rcases aO e with DX|Ed;refine xA DX ?_;(try clear DX);intro L5 L6;subst L5;subst L6;rotate_left;refine xA Ed ?_;(try clear Ed);intro hj e;rotate_left;. exact⟨a,hi,ho x.Bw⟩
   . refine AC (g.objs j p e) ?_;intro b q r;refine⟨b,q,?_⟩;have hb:b≠a:=λz=>by
      clear ha hl ho k;subst z;refine xE (HM.mp hi) ?_;intro l1 q1;refine xE (HM.mp q) ?_;intro l2 q2;exact hj ((RY l2 g.nodup).mp (q.trans hi.symm))
     have :=r.mono (J:=[]) x.Bw λy=>k b y hb;simpa using this
 . exactλz=>(g.D5 _ g.kinds.Ia).2.1 (z▸ha)
 . exactλc m z=>(g.D1 c m).1 (z▸ha)
 . refine k b p (λz=>?_) (g.base b p e);clear hi hl ho k r;subst z;rw[g.fresh b ha]at e;exact(BE e).elim
theorem Gd.aR(g:Gd B F K A H C s)(ha:a∉C)(k:Ds a s.heap Q)(x:Dw s.heap Q):∀i o,AL H.h i=G o->∃a,C[i]?=G a/\Ca B.prog B.w Q C a o:=λi o e=>by
 refine AC (g.objs i o e) ?_;intro b q r;have :=r.mono (J:=[]) x λy=>k b y (λz=>ha (z▸Ew q));exact⟨b,q,by simpa using this⟩
theorem Gd.xs(g:Gd B F K A H C s):∀o,s.heap.get? F.env.locals=G o->∃N ep,o.data=.dict N ep:=λo e=>by
 refine CZ g.env ?_;intro m Bg _ _;refine Gq Bg ?_;(try clear Bg);intro o' N ep q d _;rw[q]at e;injection e with e;subst e;exact⟨N,ep,d⟩
theorem Gd.kV(g:Gd B F K A H C s){m:U->AD A4}(hx:F.env.kindOf x=G .local)(hv:VR s.heap C v u)(er:∀y w,Ah H.env y=G w->K5 F y->∃u,T6 F s.heap m y u/\VR s.heap C w u)(hn:Q.Ns F.env.locals (λy=>if y=x then G u else m y))(k:E4 F.env.locals s.heap Q):Gd B F K A ⟨E_ H.env x v,H.h,H.n⟩ C {s with heap:=Q,toks:=tk}/\Nx F.D F.AZ s.heap Q C C:=by
 refine G6 (g.D5 _ g.kinds.Ia) ?_;intro aS ha _;have xx:Nx F.D F.AZ s.heap Q C C:=Nx.but (.inr g.kinds.Ia) k.extBut (λo e=>by
   refine DB (g.xs o e) ?_;intro N ep d;unfold C2;rw[d];simp) (by refine Hq hn ?_;(try clear hn);intro o _ _ e _;exact⟨o,e⟩);have hi:∀{v:V}{u:A4},VR s.heap C v u->VR Q C v u:=λq=>q.nx xx;refine⟨g.aQ xx rfl (g.aR ha k.extBut xx.Bw) ⟨_,hn,λc m=>let⟨_,_,ce,_⟩:=g.env;let⟨u,e⟩:=ce c m;⟨u,e.sameBut k (g.kinds.MT c m)⟩,λy w l fr=>?_⟩ (λb p e=>k.extBut b p (λz=>by rw[z,aS]at e;exact(BE e).elim) (g.base b p e)),xx⟩;rw[QJ]at l;by_cases q:x=y
 . rw[DA q]at l;exact⟨u,⟨λ_=>DA q.symm,λz=>T7 z (q▸hx)⟩,Bm l▸hi hv⟩
 . rw[CS q]at l;refine AC (er y w l fr) ?_;intro u' sl z;exact⟨u',⟨λz=>(CS λe=>q e.symm).trans (sl.1 z),λz=>AC (sl.2 z) λc e f=>⟨c,e,f.sameBut k (g.kinds.MT _ (mem_of_lookup e))⟩⟩,hi z⟩
theorem Gd.kW(g:Gd B F K A H C s){c:A8}{T9:AD A4}(hx:F.env.kindOf x=G .cell)(hc:F.env.cells.lookup x=G c)(hw:c∈F.AZ)(hv:VR s.heap C v u)(W9:s.heap.IsCell c T9)(hn:Q.IsCell c (G u))(k:E4 c s.heap Q):Gd B F K A ⟨E_ H.env x v,H.h,H.n⟩ C {s with heap:=Q,toks:=tk}/\Nx F.D F.AZ s.heap Q C C:=by
 refine G6 (g.D5 _ hw) ?_;intro aS ha _;have xx:Nx F.D F.AZ s.heap Q C C:=Nx.but (.inr hw) k.extBut (λo e=>by
   refine AC W9 ?_;(try clear W9);intro o' e' d;rw[e']at e;injection e with e;subst e;unfold C2;rw[d];simp) (by refine AC hn ?_;(try clear hn);intro o e _;exact⟨o,e⟩);have hi:∀{v:V}{u:A4},VR s.heap C v u->VR Q C v u:=λq=>q.nx xx;refine CZ g.env ?_;intro kX ns ce r;have hL:F.env.locals≠c:=λz=>g.kinds.MT _ (mem_of_lookup hc) z.symm;refine⟨g.aQ xx rfl (g.aR ha k.extBut xx.Bw) ⟨kX,ns.sameBut k hL,λc' m'=>if z:c'.2=c then⟨_,z▸hn⟩else let⟨u,e⟩:=ce c' m';⟨u,e.sameBut k z⟩,λy w l fr=>?_⟩ (λb p e=>k.extBut b p (λz=>?_) (g.base b p e)),xx⟩
 . rw[QJ]at l;by_cases q:x=y
   . rw[DA q]at l;exact⟨u,⟨λz=>T7 (.inl (q▸hx)) z,λ_=>⟨c,q▸hc,hn⟩⟩,Bm l▸hi hv⟩
   . rw[CS q]at l;refine AC (r y w l fr) ?_;intro u' sl z;exact⟨u',⟨sl.1,λz=>AC (sl.2 z) λc' e f=>⟨c',e,f.sameBut k λz=>q (name_of_addr g.kinds.cells (mem_of_lookup hc) (z▸mem_of_lookup e))⟩⟩,hi z⟩
 . rw[z,aS]at e;exact(BE e).elim
end
noncomputable def WA(AZ:I A8)(B:Bs)(F:Fm)(K:Kx)(A:CK)(A7:Mine.St)(C:I A8)(s:AR)(t:Dz J)(Ib:BK->I A8->J->Prop):Prop:=∀(A2:J->AR->Prop)(E:A4->AR->Prop),(∀u AT s',Gd B F K A A7 AT s'->Nx F.D AZ s.heap s'.heap C AT->Ib s'.heap AT u->A2 u s')->AH (AQ B.prog B.w) A t A2 E s
noncomputable abbrev CJ(B:Bs)(F:Fm)(K:Kx)(A:CK)(A7:Mine.St)(C:I A8)(s:AR)(t:Dz J)(Ib:BK->I A8->J->Prop):Prop:=WA F.AZ B F K A A7 C s t Ib
noncomputable abbrev Ae(B:Bs)(F:Fm)(K:Kx)(A:CK)(A7:Mine.St)(C:I A8)(s:AR)(t:Dz J)(Ib:BK->I A8->J->Prop):Prop:=WA [] B F K A A7 C s t Ib
theorem Nx.FZ(x:Nx AM [] h Q C AT):Nx AM AZ h Q C AT:=⟨x.pre,x.live,x.Bw,λb o e n _=>x.same b o e n (by simp)⟩
theorem WA.TA{t:Dz J}{Ib:BK->I A8->J->Prop}(d:Ae B F K A A7 C s t Ib):CJ B F K A A7 C s t Ib:=λA2 E k=>d A2 E λu AT s' g x r=>k u AT s' g x.FZ r
noncomputable abbrev RV(v:V):BK->I A8->A4->Prop:=λh C u=>VR h C v u
noncomputable abbrev OB(v:I V):BK->I A8->I A4->Prop:=λh C u=>Aa h C v u
noncomputable abbrev RB(b:AK):BK->I A8->AK->Prop:=λ_ _ u=>u=b
noncomputable abbrev RU:BK->I A8->DM->Prop:=λ_ _ _=>PT
noncomputable def FR(f:Fl):BK->I A8->HP->Prop:=λh C u=>match f with
 |.next=>u=.next|.brk=>u=.brk|.cont=>u=.cont|.ret v=>∃x,u=.ret x/\VR h C v x
section
theorem CJ.pure{b:J}{Ib:BK->I A8->J->Prop}(g:Gd B F K A H C s)(r:Ib s.heap C b):WA AZ B F K A H C s (Pure.pure b) Ib:=λ_ _ k=>AW (k b C s g (Nx.refl ..) r)
theorem FF{v:J}{l:I (U×J)}:Ah l x=G v->(x,v)∈l:=by induction l with
 |nil=>exactλh=>(AF h).elim|cons p l ih=>
 intro h;refine Eb (T1.symm.trans h) (λq h=>?_) λ_ h=>Cp _ (ih h);rw[<-E2.mp q,<-Bm h];exact Co
theorem TB{l:I (U×J)}{env:I (U×EH)}{f:J->EH}(h:l.map (λp=>Ah env p.1)=l.map λp=>G (f p.2)){v:J}(e:Ah l x=G v):Ah env x=G (f v):=H6.mp h _ (FF e)
theorem aT(h:QD sc=M)(hl:D0 sc x=M):(x==("__debug__":U))=A6/\(x==("__classdict__":U))=A6:=by
 refine AC (W8 (P:=λ_=>PT) hl λ_ _=>trivial) ?_;intro k q _;have :=(Bn.mp h) _ (FF q);simp only[D6,PU,L4]at this;exact⟨Lp.mpr this.1,Lp.mpr this.2⟩
theorem aU(g:Gd B F K A H C s)(hl:D0 K.sc x=M)(hv:Ah H.env x=G v)(k:∀u,VR s.heap C v u->A2 u s):AH (AQ B.prog B.w) A' (loadName F.env x) A2 E s:=by
 refine CZ g.env ?_;intro m ns _ r;refine AC (r x v hv (g.kinds.loc x hl)) ?_;intro u sl z;have ku:=k u z;rcases g.kinds.loc x hl with q|q|q;. exact wpAny_loadName_local g.kinds.fn q ns (sl.1 q) ku
 . exact AC (sl.2 (.inl q)) λc e f=>wpAny_loadName_cell g.kinds.fn q e f ku
 . exact AC (sl.2 (.inr q)) λc e f=>wpAny_loadName_free g.kinds.fn q e f ku (aT g.kinds.sc hl).2
theorem kY(g:Gd B F K A H C s)(hl:D0 K.sc id=M)(hv:Ah H.env id=G v):Ae B F K A H C s (loadName F.env id) (RV v):=λA2 E k=>aU g hl hv λu z=>k u C s g (Nx.refl ..) z
theorem aV(g:Gd B F K A H C s)(hl:D0 K.sc id=M)(hv:Ah H.env id=G v):Ae B F K A H C s (eval (.Name id pos) F.env) (RV v):=λA2 E k=>wpAny_Name (kY g hl hv A2 E k) (aT g.kinds.sc hl).1
theorem WB{c:fN}{L7:O}(g:Gd B F K A H C s)(hv:O4 c=G v):Ae B F K A H C s (eval (.Constant c L7 pos) F.env) (RV v):=by cases c with
 |none=>refine Br (P:=λv=>Ae B F K A H C s _ (RV v)) hv ?_;exactλ_ _ k=>wpAny_Constant_none (k _ C s g (Nx.refl ..) rfl)|bool b=>refine Br (P:=λv=>Ae B F K A H C s _ (RV v)) hv ?_;exactλ_ _ k=>tC (k _ C s g (Nx.refl ..) rfl)|int i=>refine Br (P:=λv=>Ae B F K A H C s _ (RV v)) hv ?_;exactλ_ _ k=>bs4 (k _ C _ (g.tok _) (Nx.refl ..) ⟨_,rfl⟩)|str x=>refine Br (P:=λv=>Ae B F K A H C s _ (RV v)) hv ?_;exactλ_ _ k=>ff (k _ C _ (g.tok _) (Nx.refl ..) ⟨_,rfl⟩)|_=>exact(AF hv).elim
end
structure CM(B:Bs)(F:Fm)(C:I A8)(h:BK)(AE:A8):Prop where
 C:AE∉C
 w:AE∉F.AZ
 cells:∀c∈F.env.cells,c.2≠AE
 base:B.base.get? AE=L
 outs:AE∉F.outs.filterMap (·.frame)live:∃o,h.get? AE=G o
section
noncomputable def E6(h:BK)(C:I A8)(it:It)(i:O)(AE:A8):Prop:=match it with
 |.tup Y=>∃T us,T≠AE/\h.IsTupleIter AE T i/\h.IsTuple T us/\Aa h C Y us.toList|.HA lo hi=>∃left,IsRangeIter h AE (lo+(i:AX)) left 1/\left=max (hi-lo) 0-(i:AX)|.lst k=>∃a,C[k]?=G a/\h.IsListIter AE a i|.keys k n=>∃a,C[k]?=G a/\h.IsKeyIter AE a i n n|.K3 _=>Bj
end
theorem FG{r r':AS}(h:A0.ok r H=.ok r' A7):r=r'/\H=A7:=by injection h with a b;exact⟨a,b⟩
theorem B5{v v':Mine.V}(h:A0.ok (.v v) H=.ok (.v v') A7){P:Mine.V->Mine.St->Prop}(k:P v H):P v' A7:=by injection h with a b;injection a with a;subst a;subst b;exact k
theorem BX{v v':Fl}(h:A0.ok (.f v) H=.ok (.f v') A7){P:Fl->Mine.St->Prop}(k:P v H):P v' A7:=by injection h with a b;injection a with a;subst a;subst b;exact k
theorem OC{r r':AS}(h:A0.ok r H=.ok r' A7){P:Mine.St->Prop}(k:P H):P A7:=(FG h).2▸k
theorem BY{v v':I Mine.V}(h:A0.ok (.vs v) H=.ok (.vs v') A7){P:I Mine.V->Mine.St->Prop}(k:P v H):P v' A7:=by injection h with a b;injection a with a;subst a;subst b;exact k
theorem BZ{v v':AK}(h:A0.ok (.b v) H=.ok (.b v') A7){P:AK->Mine.St->Prop}(k:P v H):P v' A7:=by injection h with a b;injection a with a;subst a;subst b;exact k
theorem A0.Cg{o:A0}{k:Mine.V->Mine.St->A0}{r:AS}(h:o.V k=.ok r A7){P:Prop}(c:∀v AB,o=.ok (.v v) AB->k v AB=.ok r A7->P):P:=by cases o with
 |bad=>exact(Ac h).elim|ok x AB=>cases x with
 |v v=>exact c v AB rfl h|_=>exact(Ac h).elim
theorem A0.L8{o:A0}{k:I Mine.V->Mine.St->A0}{r:AS}(h:o.A1 k=.ok r A7){P:Prop}(c:∀v AB,o=.ok (.vs v) AB->k v AB=.ok r A7->P):P:=by cases o with
 |bad=>exact(Ac h).elim|ok x AB=>cases x with
 |vs v=>exact c v AB rfl h|_=>exact(Ac h).elim
theorem A0.OD{o:A0}{k:AK->Mine.St->A0}{r:AS}(h:o.B k=.ok r A7){P:Prop}(c:∀v AB,o=.ok (.b v) AB->k v AB=.ok r A7->P):P:=by cases o with
 |bad=>exact(Ac h).elim|ok x AB=>cases x with
 |b v=>exact c v AB rfl h|_=>exact(Ac h).elim
theorem A0.Hx{o:A0}{k:Fl->Mine.St->A0}{r:AS}(h:o.F k=.ok r A7){P:Prop}(c:∀v AB,o=.ok (.f v) AB->k v AB=.ok r A7->P):P:=by cases o with
 |bad=>exact(Ac h).elim|ok x AB=>cases x with
 |f v=>exact c v AB rfl h|_=>exact(Ac h).elim
theorem A0.kZ{o:A0}(h:o.nx=.ok (.f f) A7):f=.next/\∃f',o=.ok (.f f') A7:=A0.Hx h λf' _ e h=>BX h (P:=λf A7=>f=.next/\∃f',o=.ok (.f f') A7) ⟨rfl,f',e⟩
theorem A0.xt{o:A0}{k:Mine.V->Mine.St->A0}(h:(o.V λv H=>(k v H).nx)=.ok (.f f) A7):f=.next/\∃f',o.V k=.ok (.f f') A7:=A0.Cg h λv H e h=>by rw[e];exact A0.kZ h
theorem A0.Bx{o:AD J}{k:J->A0}{r:AS}(h:A0.of o k=.ok r A7){P:Prop}(c:∀v,o=G v->k v=.ok r A7->P):P:=by cases o with
 |none=>exact(Ac h).elim|some v=>exact c v rfl h
theorem A0.Be{o:A0}{r:AS}(h:A0.iff b o=.ok r A7){P:Prop}(c:b=M->o=.ok r A7->P):P:=by cases b with
 |false=>exact(Ac h).elim|true=>exact c rfl h
theorem A0.MW{v:Mine.V}{k:O->I Mine.V->A0}{r:AS}(h:A0.lst hp v k=.ok r A7){P:Mine.V->Prop}(c:∀i Y,AL hp i=G (.list Y)->k i Y=.ok r A7->P (.ref i)):P v:=by
 apply EI h Ac;intro i h;cases e:AL hp i with
 |none=>rw[e]at h;exact(Ac h).elim|some o=>rw[e]at h;cases o with
 |list Y=>exact c i Y e h|_=>exact(Ac h).elim
theorem A0.OE{k:O->I (Mine.V×Mine.V)->A0}{r:AS}(h:A0.F1 hp (.ref i) k=.ok r A7){P:Prop}(c:∀Y,AL hp i=G (.dict Y)->k i Y=.ok r A7->P):P:=by
 have h:(oS (AL hp i) .bad λo=>FV o .bad (k i))=A0.ok r A7:=h;cases e:AL hp i with
 |none=>rw[e]at h;exact(Ac h).elim|some o=>rw[e]at h;cases o with
 |dict Y=>exact c Y e h|_=>exact(Ac h).elim
theorem A0.xu{v:Mine.V}{k:O->I (Mine.V×Mine.V)->A0}{r:AS}(h:A0.F1 hp v k=.ok r A7){P:Mine.V->Prop}(c:∀i Y,AL hp i=G (.dict Y)->k i Y=.ok r A7->P (.ref i)):P v:=EI h Ac λi h=>A0.OE (hp:=hp) (i:=i) (k:=k) h (c i)
theorem MX{x:AD V}(h:Fo x H=.ok (.v v) A7):x=G v/\A7=H:=by
 refine A0.Bx h λw e h=>?_;apply B5 h;exact⟨e,rfl⟩
structure C5(B:Bs)(A3:Mine.Ctx)(n:O):Prop where
 e:∀{K:Kx}{x:AA}{H A7:Mine.St}{v:V},ev A3 n K (.e x) H=.ok (.v v) A7->∀{F:Fm}{A:CK}{C:I A8}{s:AR},Gd B F K A H C s->Ae B F K A A7 C s (eval x F.env) (RV v)N:∀{K:Kx}{l:I AA}{H A7:Mine.St}{v:I V},ev A3 n K (.N l) H=.ok (.vs v) A7->∀{F:Fm}{A:CK}{C:I A8}{s:AR}(pos:B9),Gd B F K A H C s->Ae B F K A A7 C s (Lq (F9 pos (E' l F.env))) (OB v)t:∀{K:Kx}{x:AA}{H A7:Mine.St}{v:AK},ev A3 n K (.t x) H=.ok (.b v) A7->∀{F:Fm}{A:CK}{C:I A8}{s:AR},Gd B F K A H C s->Ae B F K A A7 C s (NT x F.env (eval x F.env)) (RB v)ts:∀{K:Kx}{a:AK}{l:I AA}{H A7:Mine.St}{v:AK},ev A3 n K (.ts a l) H=.ok (.b v) A7->∀{F:Fm}{A:CK}{C:I A8}{s:AR},Gd B F K A H C s->Ae B F K A A7 C s (allTrue (if a then .And else .Or) l F.env) (RB v)s:∀{K:Kx}{x:As}{H A7:Mine.St}{f:Fl},ev A3 n K (.s x) H=.ok (.f f) A7->∀{F:Fm}{A:CK}{C:I A8}{s:AR},Gd B F K A H C s->CJ B F K A A7 C s (exec x F.env) (FR f)ss:∀{K:Kx}{l:I As}{H A7:Mine.St}{f:Fl},ev A3 n K (.ss l) H=.ok (.f f) A7->∀{F:Fm}{A:CK}{C:I A8}{s:AR},Gd B F K A H C s->CJ B F K A A7 C s (J3 l F.env) (FR f)asg:∀{K:Kx}{t:AA}{v:V}{H A7:Mine.St}{f:Fl},ev A3 n K (.asg t v) H=.ok (.f f) A7->∀{F:Fm}{A:CK}{C:I A8}{s:AR}{u:A4},Gd B F K A H C s->VR s.heap C v u->CJ B F K A A7 C s (Ex t F.env u) RU
 MI:∀{K:Kx}{ts:I AA}{vs:I V}{H A7:Mine.St}{f:Fl},ev A3 n K (.MI ts vs) H=.ok (.f f) A7->∀{F:Fm}{A:CK}{C:I A8}{s:AR}{us:I A4},Gd B F K A H C s->Aa s.heap C vs us->CJ B F K A A7 C s (NU ((GK ts F.env).map (·.2)) us) RU
 GS:∀{K:Kx}{ts:I AA}{v:V}{H A7:Mine.St}{f:Fl},ev A3 n K (.GS ts v) H=.ok (.f f) A7->∀{F:Fm}{A:CK}{C:I A8}{s:AR}{u:A4},Gd B F K A H C s->VR s.heap C v u->CJ B F K A A7 C s (fg u ((GK ts F.env).map (·.2))) RU
 xv:∀{K:Kx}{v:V}{H A7:Mine.St}{r:AS},ev A3 n K (.GS [] v) H=.ok r A7->A7=H
 xw:∀{K:Kx}{id:U}{pos:B9}{v:V}{H A7:Mine.St}{f:Fl},ev A3 n K (.asg (.Name id pos) v) H=.ok (.f f) A7->∀{F:Fm}{A:CK}{C:I A8}{s:AR}{u:A4},Gd B F K A H C s->VR s.heap C v u->CJ B F K A A7 C s (fh F.env id u) RU
 call:∀{K:Kx}{f:V}{args:I V}{H A7:Mine.St}{v:V},ev A3 n K (.call f args) H=.ok (.v v) A7->∀{F:Fm}{A:CK}{C:I A8}{s:AR}{fu:A4}{us:I A4},Gd B F K A H C s->VR s.heap C f fu->Aa s.heap C args us->Ae B F K A A7 C s (CE fu us) (RV v)MJ:∀{K:Kx}{t:AA}{b:I As}{H A7:Mine.St}{f:Fl},ev A3 n K (.MJ t b) H=.ok (.f f) A7->∀{F:Fm}{A:CK}{C:I A8}{s:AR}{AS:Dt->AR->Prop},Gd B F K A H C s->(∀u AT s',Gd B F K A A7 AT s'->Nx F.D F.AZ s.heap s'.heap C AT->FR f s'.heap AT u->AS (.ok u) s')->D7 (AQ B.prog B.w) A (.whileLoop t b [] F.env) AS s
 loop:∀{K:Kx}{t:AA}{it:It}{i:O}{b:I As}{H A7:Mine.St}{f:Fl},ev A3 n K (.loop t it i b) H=.ok (.f f) A7->∀{F:Fm}{A:CK}{C BG:I A8}{s:AR}{Af:BK}{AE:A8}{AS:Dt->AR->Prop},Gd B F K A H C s->Nx F.D F.AZ Af s.heap BG C->Af.get? AE=L->CM B F C s.heap AE->E6 s.heap C it i AE->(∀u AT s',Gd B F K A A7 AT s'->Nx F.D F.AZ Af s'.heap BG AT->FR f s'.heap AT u->AS (.ok u) s')->D7 (AQ B.prog B.w) A (.forLoop t (.ref AE) b [] F.env) AS s
theorem C5.eW(A9:C5 B A3 n){x:AA}(h:ev A3 n K (.e x) H=.ok (.v v) A7)(g:Gd B F K A H C s):CJ B F K A A7 C s (eval x F.env) (RV v):=(A9.e h g).TA
theorem C5.tW(A9:C5 B A3 n){x:AA}{v:AK}(h:ev A3 n K (.t x) H=.ok (.b v) A7)(g:Gd B F K A H C s):CJ B F K A A7 C s (NT x F.env (eval x F.env)) (RB v):=(A9.t h g).TA
section
theorem xz(A9:C5 B A3 n){t a b:AA}(h:Fq A3 K (ev A3 n) (.IfExp t a b pos) H=.ok (.v v) A7)(g:Gd B F K A H C s):Ae B F K A A7 C s (eval (.IfExp t a b pos) F.env) (RV v):=by
 refine A0.OD h ?_;intro c AB AP BD;intro A2 E k;refine wpAny_IfExp (A9.t AP g _ _ λu A_ AJ AN Ab Aq=>?_);clear AP;subst Aq;cases u;. exact A9.e BD AN _ _ λu Au Ai AU Al BB=>k u Au Ai AU (Ab.trans Al) BB
 . exact A9.e BD AN _ _ λu Au Ai AU Al BB=>k u Au Ai AU (Ab.trans Al) BB
theorem aW{x:AA}(h:CP x=M):(∀l env,E' (x::l) env=(A6,eval x env)::E' l env)/\(∀ts env,GK (x::ts) env=(A6,Ex x env)::GK ts env)/\∀env v,tD x env v=pure v:=by cases x<;>first|exact⟨λ_ _=>rfl,λ_ _=>rfl,λ_ _=>rfl⟩|exact(E5 h).elim
theorem K8{x:AA}(h:CP x=M){l:I AA}:E' (x::l) env=(A6,eval x env)::E' l env:=(aW h).1 l env
theorem aX{t:AA}(h:CP t=M):GK (t::ts) env=(A6,Ex t env)::GK ts env:=(aW h).2.1 ts env
theorem QL(h:CP e=M)(x:A4):tD e env x=pure x:=(aW h).2.2 env x
theorem y0(A9:C5 B A3 n){l:I AA}{v:I V}(h:step A3 K (ev A3 n) (.N l) H=.ok (.vs v) A7)(pos:B9)(g:Gd B F K A H C s):Ae B F K A A7 C s (Lq (F9 pos (E' l F.env))) (OB v):=by
 intro A2 E k;cases l with
 |nil=>
  (first|(revert k;(first|apply BX h|apply B5 h|apply BY h|apply BZ h|apply B_ h);intro k)|apply BX h|apply B5 h|apply BY h|apply BZ h|apply B_ h);exact Ur (k [] C s g (Nx.refl ..) rfl)|cons x l=>
  refine A0.Be h ?_;clear h;intro hp h;refine A0.Cg h ?_;clear h;intro a AB AP h;refine A0.L8 h ?_;clear h;intro b Bc BD h;(first|(revert k;(first|apply BX h|apply B5 h|apply BY h|apply BZ h|apply B_ h);intro k)|apply BX h|apply B5 h|apply BY h|apply BZ h|apply B_ h);refine Lr (A9.e AP g _ _ λu A_ AJ AN Ab Aq=>A9.N BD pos AN _ _ λus Au Ai AU Al BB=>k _ Au Ai AU (Ab.trans Al) ⟨u,us,rfl,Aq.nx Al,BB⟩) (K8 hp)
theorem y1(A9:C5 B A3 n){l:I As}(h:step A3 K (ev A3 n) (.ss l) H=.ok (.f f) A7)(g:Gd B F K A H C s):CJ B F K A A7 C s (J3 l F.env) (FR f):=by
 intro A2 E k;cases l with
 |nil=>
  (first|(revert k;(first|apply BX h|apply B5 h|apply BY h|apply BZ h|apply B_ h);intro k)|apply BX h|apply B5 h|apply BY h|apply BZ h|apply B_ h);exact G2 (k .next C s g (Nx.refl ..) rfl)|cons x l=>
  refine A0.Hx h ?_;clear h;intro a AB AP h;refine DH (A9.s AP g _ _ λu A_ AJ AN Ab Aq=>?_);cases a with
 |next=>
   cases Aq;exact A9.ss h AN _ _ λus Au Ai AU Al BB=>k _ Au Ai AU (Ab.trans Al) BB|brk=>
   cases Aq;(first|(revert k;(first|apply BX h|apply B5 h|apply BY h|apply BZ h|apply B_ h);intro k)|apply BX h|apply B5 h|apply BY h|apply BZ h|apply B_ h);exact k _ A_ AJ AN Ab rfl|cont=>
   cases Aq;(first|(revert k;(first|apply BX h|apply B5 h|apply BY h|apply BZ h|apply B_ h);intro k)|apply BX h|apply B5 h|apply BY h|apply BZ h|apply B_ h);exact k _ A_ AJ AN Ab rfl|ret v=>
   refine AC Aq ?_;(try clear Aq);intro y Bg Aq;subst Bg;(first|(revert k;(first|apply BX h|apply B5 h|apply BY h|apply BZ h|apply B_ h);intro k)|apply BX h|apply B5 h|apply BY h|apply BZ h|apply B_ h);exact k _ A_ AJ AN Ab ⟨y,rfl,Aq⟩
structure Lf(B:Bs):Prop where
 truthy:∀{F:Fm}{K:Kx}{A:CK}{H:Mine.St}{C:I A8}{s:AR}{v:V}{u:A4}{b:AK},Gd B F K A H C s->VR s.heap C v u->Mine.truthy v H.h=G b->Ae B F K A H C s (tE u) (RB b)cmp:∀{F:Fm}{K:Kx}{A:CK}{H:Mine.St}{C:I A8}{s:AR}{op:PP}{v v':V}{u u':A4}{b:AK},Gd B F K A H C s->VR s.heap C v u->VR s.heap C v' u'->Vm op v v' H.h=G b->Ae B F K A H C s (Db op u u') (λ_ _ r=>r=.bool b)y2:∀{F:Fm}{K:Kx}{A:CK}{H:Mine.St}{C:I A8}{s:AR}{op:Jk}{v v' r:V}{u u':A4},Gd B F K A H C s->VR s.heap C v u->VR s.heap C v' u'->Zu op v v'=G r->Ae B F K A H C s (inplaceOp op u u') (RV r)bin:∀{F:Fm}{K:Kx}{A:CK}{H A7:Mine.St}{C:I A8}{s:AR}{op:Jk}{v v' r:V}{u u':A4},Gd B F K A H C s->VR s.heap C v u->VR s.heap C v' u'->Vw op v v' H=.ok (.v r) A7->Ae B F K A A7 C s (Ey op u u') (RV r)
theorem y3(A9:C5 B A3 n)(Lo:Lf B){l r:AA}(hr:Sx l op r=L)(h:Fq A3 K (ev A3 n) (.BinOp l op r pos) H=.ok (.v v) A7)(g:Gd B F K A H C s):Ae B F K A A7 C s (eval (.BinOp l op r pos) F.env) (RV v):=by
 refine M7 h (λx e _=>by rw[hr]at e;exact(AF e).elim) λ_ h=>?_;refine A0.Cg h ?_;clear h;intro a AB AP h;refine A0.Cg h ?_;clear h;intro b Bc BD h;intro A2 E k;exact tF (A9.e AP g _ _ λu A_ AJ AN Ab Aq=>A9.e BD AN _ _ λu' Au Ai AU Al BB=>Lo.bin AU (Aq.nx Al) BB h _ _ λy BS Ax Ap B8 BQ=>k y BS Ax Ap (Ab.trans (Al.trans B8)) BQ)
theorem y4(A9:C5 B A3 n)(Lo:Lf B){l r:AA}{op:PP}(h:Fq A3 K (ev A3 n) (.Compare l [op] [r] pos) H=.ok (.v v) A7)(g:Gd B F K A H C s):Ae B F K A A7 C s (eval (.Compare l [op] [r] pos) F.env) (RV v):=by
 refine A0.Be h ?_;clear h;intro hm h;refine A0.Cg h ?_;clear h;intro a AB AP h;refine A0.Cg h ?_;clear h;intro b Bc BD h;refine A0.Bx h ?_;clear h;intro c C3 h;(first|(revert k;(first|apply BX h|apply B5 h|apply BY h|apply BZ h|apply B_ h);intro k)|apply BX h|apply B5 h|apply BY h|apply BZ h|apply B_ h);intro A2 E k;refine bs5 (A9.e AP g _ _ λu A_ AJ AN Ab Aq=>A9.e BD AN _ _ λu' Au Ai AU Al BB=>Lo.cmp AU (Aq.nx Al) BB C3 _ _ λy BS Ax Ap B8 BQ=>k y BS Ax Ap (Ab.trans (Al.trans B8)) BQ) (by simpa using hm)
theorem y5(A9:C5 B A3 n)(Lo:Lf B){a b:AA}(h:Fq A3 K (ev A3 n) (.BoolOp .Or [a,b] pos) H=.ok (.v v) A7)(g:Gd B F K A H C s):Ae B F K A A7 C s (eval (.BoolOp .Or [a,b] pos) F.env) (RV v):=by
 refine A0.Cg h ?_;clear h;intro x AB AP h;refine A0.Bx h ?_;clear h;intro c C3 h;intro A2 E k;refine wpAny_Or2 (A9.e AP g _ _ λu A_ AJ AN Ab Aq=>Lo.truthy AN Aq C3 _ _ λy BS Ax Ap B8 BQ=>?_);clear C3;subst BQ;cases y with
 |true=>
  (first|(revert k;(first|apply BX h|apply B5 h|apply BY h|apply BZ h|apply B_ h);intro k)|apply BX h|apply B5 h|apply BY h|apply BZ h|apply B_ h);exact k u BS Ax Ap (Ab.trans B8) (Aq.nx B8)|false=>exact A9.e h Ap _ _ λu' Au Ai AU Al BB=>k u' Au Ai AU (Ab.trans (B8.trans Al)) BB
theorem y6(A9:C5 B A3 n){l:I AA}(h:Fq A3 K (ev A3 n) (.Tuple l kd pos) H=.ok (.v v) A7)(g:Gd B F K A H C s):Ae B F K A A7 C s (eval (.Tuple l kd pos) F.env) (RV v):=by
 refine A0.L8 h ?_;clear h;intro a AB AP h;refine A0.Be h ?_;clear h;intro hf h;(first|(revert k;(first|apply BX h|apply B5 h|apply BY h|apply BZ h|apply B_ h);intro k)|apply BX h|apply B5 h|apply BY h|apply BZ h|apply B_ h);intro A2 E k;refine wpAny_Tuple (A9.N AP pos g _ _ λus A_ AJ AN Ab Aq=>⟨?_,?_⟩)
 . rw[<-Aq.length];exact B4 (Dk hf) (by decide)
 . have kp:∀b o,AJ.heap.get? b=G o->(AJ.heap.push {cls:=.type "tuple",data:=.seq us.toArray}).get? b=G o:=λb o e=>C1 _ e;refine k _ A_ _ (AN.ext (tk:=AJ.toks) kp) (Ab.trans (Nx.ext kp)) ⟨_,_,us.toArray,0,rfl,CY _ rfl,⟨rfl,λ_=>⟨rfl,rfl⟩⟩,rfl,rfl,?_⟩;have :=Aq.mono (J:=[]) (Q:=AJ.heap.push {cls:=.type "tuple",data:=.seq us.toArray}) (λb o e _=>kp b o e);simpa using this
theorem y7(A9:C5 B A3 n){l:I AA}(h:Fq A3 K (ev A3 n) (.List l pos) H=.ok (.v v) A7)(g:Gd B F K A H C s):Ae B F K A A7 C s (eval (.List l pos) F.env) (RV v):=by
 refine A0.L8 h ?_;clear h;intro a AB AP h;refine A0.Be h ?_;clear h;intro hf h;(first|(revert k;(first|apply BX h|apply B5 h|apply BY h|apply BZ h|apply B_ h);intro k)|apply BX h|apply B5 h|apply BY h|apply BZ h|apply B_ h);intro A2 E k;refine wpAny_List (A9.N AP pos g _ _ λus A_ AJ AN Ab Aq=>⟨?_,?_⟩)
 . rw[<-Aq.length];exact B4 (Dk hf) (by decide)
 . have kp:∀b o,AJ.heap.get? b=G o->(AJ.heap.push {cls:=.type "list",data:=.seq us.toArray}).get? b=G o:=λb o e=>C1 _ e;have hn:AJ.heap.get? AJ.heap.objs.size=L:=by cases e:AJ.heap.get? AJ.heap.objs.size with
 |none=>rfl|some o=>exact absurd (Dh e) (J1 _)
   have hg:=CY AJ.heap (o:={cls:=.type "list",data:=.seq us.toArray}) rfl;refine k _ (A_++[AJ.heap.objs.size]) _ (AN.new (tk:=AJ.toks) kp hn ⟨_,hg⟩ (o:=.list a) ⟨us.toArray,⟨_,hg⟩,?_⟩) (Ab.trans (Nx.add [_] kp λb hb=>by rw[CI.mp hb];exact hn)) ⟨_,?_,rfl⟩;. exact Aq.mono (λb o e _=>kp b o e)
   . rw[<-AN.len];simp
end
section
theorem y8(A9:C5 B A3 n){a:AK}{l:I AA}{v:AK}(h:step A3 K (ev A3 n) (.ts a l) H=.ok (.b v) A7)(g:Gd B F K A H C s):Ae B F K A A7 C s (allTrue (if a then .And else .Or) l F.env) (RB v):=by
 intro A2 E k;cases l with
 |nil=>
  (first|(revert k;(first|apply BX h|apply B5 h|apply BY h|apply BZ h|apply B_ h);intro k)|apply BX h|apply B5 h|apply BY h|apply BZ h|apply B_ h);cases a;. exact wpAny_allTrue_Or_nil (k _ C s g (Nx.refl ..) rfl)
  . exact wpAny_allTrue_And_nil (k _ C s g (Nx.refl ..) rfl)|cons x l=>
  refine A0.OD h ?_;clear h;intro b AB AP h;cases a
  . refine wpAny_allTrue_Or_cons (A9.t AP g _ _ λu A_ AJ AN Ab Aq=>?_);clear AP;subst Aq;cases u;. exact A9.ts (a:=A6) h AN _ _ λu' Au Ai AU Al BB=>k u' Au Ai AU (Ab.trans Al) BB
    . (first|(revert k;(first|apply BX h|apply B5 h|apply BY h|apply BZ h|apply B_ h);intro k)|apply BX h|apply B5 h|apply BY h|apply BZ h|apply B_ h);exact k _ A_ AJ AN Ab rfl
  . refine wpAny_allTrue_And_cons (A9.t AP g _ _ λu A_ AJ AN Ab Aq=>?_);clear AP;subst Aq;cases u
    . (first|(revert k;(first|apply BX h|apply B5 h|apply BY h|apply BZ h|apply B_ h);intro k)|apply BX h|apply B5 h|apply BY h|apply BZ h|apply B_ h);exact k _ A_ AJ AN Ab rfl
    . exact A9.ts (a:=M) h AN _ _ λu' Au Ai AU Al BB=>k u' Au Ai AU (Ab.trans Al) BB
theorem k_(A9:C5 B A3 n)(Lo:Lf B){x:AA}{v:AK}(h:((ev A3 n K (.e x) H).V λv H=>a9 (truthy v H.h) H)=.ok (.b v) A7)(g:Gd B F K A H C s)(he:NT x F.env (eval x F.env)=(do let v<-eval x F.env;Ki x.pos;Hg [v] (tE v))):Ae B F K A A7 C s (NT x F.env (eval x F.env)) (RB v):=by
 intro A2 E k;refine A0.Cg h ?_;clear h;intro a AB AP h;refine A0.Bx h ?_;clear h;intro b BD h;(first|(revert k;(first|apply BX h|apply B5 h|apply BY h|apply BZ h|apply B_ h);intro k)|apply BX h|apply B5 h|apply BY h|apply BZ h|apply B_ h);exact tG (A9.e AP g _ _ λu A_ AJ AN Ab Aq=>Lo.truthy AN Aq BD _ _ λy Au Ai AU Al BB=>k y Au Ai AU (Ab.trans Al) BB) he
theorem y9(A9:C5 B A3 n)(Lo:Lf B){x:AA}{v:AK}(h:step A3 K (ev A3 n) (.t x) H=.ok (.b v) A7)(g:Gd B F K A H C s):Ae B F K A A7 C s (NT x F.env (eval x F.env)) (RB v):=by cases x with
 |UnaryOp op x pos=>cases op with
  |Not=>
   intro A2 E k;refine A0.OD h ?_;clear h;intro b AB AP h;(first|(revert k;(first|apply BX h|apply B5 h|apply BY h|apply BZ h|apply B_ h);intro k)|apply BX h|apply B5 h|apply BY h|apply BZ h|apply B_ h);refine wpAny_isTrue_Not (A9.t AP g _ _ λu A_ AJ AN Ab Aq=>?_);clear h AP;subst Aq;exact k _ A_ AJ AN Ab rfl|_=>exact k_ A9 Lo h g rfl
 |BoolOp op Y pos=>
  intro A2 E k;refine wpAny_isTrue_BoolOp ?_;have :=A9.ts h g A2 E k;cases op<;>exact this|IfExp=>exact(Ac h).elim|Compare l CN rs pos=>cases CN with
  |nil=>exact(Ac h).elim|cons op CN=>cases CN with
  |cons _ _=>exact(Ac h).elim|nil=>cases rs with
  |nil=>exact(Ac h).elim|cons r rs=>cases rs with
  |cons _ _=>exact(Ac h).elim|nil=>
   refine A0.Be h ?_;clear h;intro hm h;refine A0.Cg h ?_;clear h;intro a AB AP h;refine A0.Cg h ?_;clear h;intro b Bc BD h;refine A0.Bx h ?_;clear h;intro c C3 h;(first|(revert k;(first|apply BX h|apply B5 h|apply BY h|apply BZ h|apply B_ h);intro k)|apply BX h|apply B5 h|apply BY h|apply BZ h|apply B_ h);intro A2 E k;refine fj (A9.e AP g _ _ λu A_ AJ AN Ab Aq=>A9.e BD AN _ _ λu' Au Ai AU Al BB=>Lo.cmp AU (Aq.nx Al) BB C3 _ _ λy BS Ax Ap B8 BQ=>?_) (by simpa using hm);subst BQ;exact NV (k _ BS Ax Ap (Ab.trans (Al.trans B8)) rfl)
 |_=>exact k_ A9 Lo h g rfl
theorem yA(A9:C5 B A3 n){t:AA}{a b:I As}(h:IX K (ev A3 n) (.If t a b pos) H=.ok (.f f) A7)(g:Gd B F K A H C s):CJ B F K A A7 C s (exec (.If t a b pos) F.env) (FR f):=by
 refine A0.OD h ?_;intro c AB AP BD;intro A2 E k;refine tH (A9.tW AP g _ _ λu A_ AJ AN Ab Aq=>?_);clear AP;subst Aq;cases u;. exact A9.ss BD AN _ _ λu Au Ai AU Al BB=>k u Au Ai AU (Ab.trans Al) BB
 . exact A9.ss BD AN _ _ λu Au Ai AU Al BB=>k u Au Ai AU (Ab.trans Al) BB
theorem yB(A9:C5 B A3 n)(h:IX K (ev A3 n) (.Return (G e) pos) H=.ok (.f f) A7)(g:Gd B F K A H C s):CJ B F K A A7 C s (exec (.Return (G e) pos) F.env) (FR f):=by
 refine A0.Cg h ?_;clear h;intro a AB AP h;(first|(revert k;(first|apply BX h|apply B5 h|apply BY h|apply BZ h|apply B_ h);intro k)|apply BX h|apply B5 h|apply BY h|apply BZ h|apply B_ h);intro A2 E k;exact tI (A9.eW AP g _ _ λu A_ AJ AN Ab Aq=>k _ A_ AJ AN Ab ⟨u,rfl,Aq⟩)
theorem yE(h:IX K (ev A3 n) (.Return L pos) H=.ok (.f f) A7)(g:Gd B F K A H C s):CJ B F K A A7 C s (exec (.Return L pos) F.env) (FR f):=by
 (first|(revert k;(first|apply BX h|apply B5 h|apply BY h|apply BZ h|apply B_ h);intro k)|apply BX h|apply B5 h|apply BY h|apply BZ h|apply B_ h);intro A2 E k;exact wpAny_Return_none (k _ C s g (Nx.refl ..) ⟨.none,rfl,rfl⟩)
theorem yL(h:IX K (ev A3 n) (.Pass pos) H=.ok (.f f) A7)(g:Gd B F K A H C s):CJ B F K A A7 C s (exec (.Pass pos) F.env) (FR f):=by
 (first|(revert k;(first|apply BX h|apply B5 h|apply BY h|apply BZ h|apply B_ h);intro k)|apply BX h|apply B5 h|apply BY h|apply BZ h|apply B_ h);exactλA2 E k=>wpAny_Pass (k _ C s g (Nx.refl ..) rfl)
theorem yM(h:IX K (ev A3 n) (.Break pos) H=.ok (.f f) A7)(g:Gd B F K A H C s):CJ B F K A A7 C s (exec (.Break pos) F.env) (FR f):=by
 (first|(revert k;(first|apply BX h|apply B5 h|apply BY h|apply BZ h|apply B_ h);intro k)|apply BX h|apply B5 h|apply BY h|apply BZ h|apply B_ h);exactλA2 E k=>wpAny_Break (k _ C s g (Nx.refl ..) rfl)
theorem yN(h:IX K (ev A3 n) (.Continue pos) H=.ok (.f f) A7)(g:Gd B F K A H C s):CJ B F K A A7 C s (exec (.Continue pos) F.env) (FR f):=by
 (first|(revert k;(first|apply BX h|apply B5 h|apply BY h|apply BZ h|apply B_ h);intro k)|apply BX h|apply B5 h|apply BY h|apply BZ h|apply B_ h);exactλA2 E k=>wpAny_Continue (k _ C s g (Nx.refl ..) rfl)
theorem ka(g:Gd B F K A H C s):(F.env.scope.kind==.class||(F.env.scope.kind==.module&&F.env.locals !=F.env.globals))=A6:=by rw[g.kinds.fn];rfl
theorem aY(h:L2 A3 K (ev A3 n) (.Name id pos) v H=.ok (.f f) A7)(g:Gd B F K A H C s)(r:VR s.heap C v u):CJ B F K A A7 C s (fh F.env id u) RU:=by
 intro A2 E k;refine A0.Be (b:=G9 K.sc id) h ?_;clear h;intro ho h;(first|(revert k;apply OC h;intro k)|apply OC h);refine CZ g.env ?_;intro m ns ce er;rcases g.kinds.own id ho with q|Aw;rotate_left;refine Hp Aw ?_;(try clear Aw);intro q c hc hw;rotate_left
 . refine bs6 q ns (λQ hn hs=>?_) (ka g);refine xA (g.kV (Q:=Q) (tk:=s.toks+1) q r er hn hs) ?_;intro g' x';exact k () C _ g' x' trivial
 . have hv:∃T9,s.heap.IsCell c T9:=ce _ (mem_of_lookup hc);refine xE hv ?_;(try clear hv);intro T9 hv;refine bs7 g.kinds.fn q hc hv (λQ hn hs=>?_);refine xA (g.kW (Q:=Q) (tk:=s.toks) q hc hw r hv hn hs) ?_;intro g' x';exact k () C _ g' x' trivial
end
theorem WC:(GK ts env).length=ts.length:=by induction ts with
 |nil=>rfl|cons t ts ih=>cases t<;>exact congrArg Nat.succ ih
section
theorem yO(A9:C5 B A3 n)(h:step A3 K (ev A3 n) (.MI ts vs) H=.ok (.f f) A7)(g:Gd B F K A H C s)(r:Aa s.heap C vs us):CJ B F K A A7 C s (NU ((GK ts F.env).map (·.2)) us) RU:=by
 intro A2 E k;cases ts with
 |nil=>cases vs with
  |cons _ _=>exact(Ac h).elim|nil=>
  (first|(revert k;apply OC h;intro k)|apply OC h);cases r;exact AW (k () C s g (Nx.refl ..) trivial)
 |cons t ts=>cases vs with
 |nil=>exact(Ac h).elim|cons v vs=>
  refine A0.Be h ?_;clear h;intro hp h;refine A0.Hx h ?_;clear h;intro _ AB AP h;refine Bv r ?_;(try clear r);intro u us B6 r rs;subst B6;rw[aX hp];show AH _ A (do Hg us (Ex t F.env u);NU ((GK ts F.env).map (·.2)) us) A2 E s;exact A5 (C0 (A9.asg AP g r _ _ λ_ A_ AJ AN Ab _=>A9.MI h AN (rs.nx Ab) _ _ λ_ Au Ai AU Al _=>k () Au Ai AU (Ab.trans Al) trivial))
theorem yP(A9:C5 B A3 n)(h:step A3 K (ev A3 n) (.GS ts v) H=.ok (.f f) A7)(g:Gd B F K A H C s)(r:VR s.heap C v u):CJ B F K A A7 C s (fg u ((GK ts F.env).map (·.2))) RU:=by
 intro A2 E k;cases ts with
 |nil=>
  (first|(revert k;apply OC h;intro k)|apply OC h);exact AW (k () C s g (Nx.refl ..) trivial)|cons t ts=>
  refine A0.Be h ?_;clear h;intro hp h;refine A0.Hx h ?_;clear h;intro _ AB AP h;rw[aX hp];cases ts with
 |nil=>
   show AH _ A (Ex t F.env u) A2 E s;refine A9.asg AP g r _ _ λ_ A_ AJ AN Ab _=>?_;obtain rfl:=A9.xv h;exact k () A_ AJ AN Ab trivial|cons t' ts=>
   have e':((A6,Ex t F.env)::GK (t'::ts) F.env).map (·.2)=Ex t F.env::(GK (t'::ts) F.env).map (·.2):=rfl;rw[e'];have Cc:∃y ys,(GK (t'::ts) F.env).map (·.2)=y::ys:=by
    have :=WC (ts:=t'::ts) (env:=F.env);cases q:GK (t'::ts) F.env with
 |nil=>rw[q]at this;(exfalso;cases this)|cons y ys=>exact⟨_,_,rfl⟩
   have step:fg u (Ex t F.env::(GK (t'::ts) F.env).map (·.2))=(do Hg [u] (Ex t F.env u);fg u ((GK (t'::ts) F.env).map (·.2))):=by
    refine DB Cc ?_;(try clear Cc);intro y ys q;rw[q];rfl
   rw[step];exact A5 (C0 (A9.asg AP g r _ _ λ_ A_ AJ AN Ab _=>A9.GS h AN (r.nx Ab) _ _ λ_ Au Ai AU Al _=>k () Au Ai AU (Ab.trans Al) trivial))
theorem QM(r:VR h C (.tup L Y) u):∃a us,u=.ref a/\h.IsTuple a us/\Aa h C Y us.toList:=by
 refine Ku r ?_;(try clear r);intro a o us n BP e _ c d v;subst BP;exact⟨a,us,rfl,⟨o,e,c,n,d⟩,v⟩
theorem WD:∀{ts:I AA},ts.all CP=M->(GK ts env).findIdx? (·.1)=L
 |[],_=>rfl|t::ts,h=>by
  simp only[tJ,D6]at h;rw[aX h.1,List.findIdx?_cons];simp[WD h.2]
theorem yR(A9:C5 B A3 n)(h:L2 A3 K (ev A3 n) (.Tuple ts kd pos) (.tup L Y) H=.ok (.f f) A7)(g:Gd B F K A H C s)(r:VR s.heap C (.tup L Y) u):CJ B F K A A7 C s (Ex (.Tuple ts kd pos) F.env u) RU:=by
 refine A0.Be h ?_;clear h;intro hl h;simp only[D6]at hl;refine xA hl ?_;(try clear hl);intro hl hp;have hl:=CD hl;refine Bv (QM r) ?_;intro a us Bq ht rs;clear r;subst Bq;intro A2 E k;have Ch:ts.length=us.size:=by rw[<-hl,rs.length];simp
 refine bs8 g.handled ht (by rw[WC,Ch]) (WD hp) λQ hx=>?_;have kp:∀b o,s.heap.get? b=G o->Q.get? b=G o:=λb o e=>hx b o (ER (Dh e)) e;have Ab:Nx F.D F.AZ s.heap Q C C:=Nx.ext kp;exact A9.MI h (g.ext (tk:=s.toks) kp) (rs.nx Ab) _ _ λ_ Au Ai AU Al _=>k () Au Ai AU (Ab.trans Al) trivial
theorem WE{t:AA}{b:I As}{AS:Dt->AR->Prop}(h:AH (AQ prog w) A (NT t env (eval t env)) (λc AJ=>if c then AH (AQ prog w) A (J3 b env) (λf Ai=>match f with
 |.next|.cont=>D7 (AQ prog w) A (.whileLoop t b [] env) AS Ai|.brk=>AS (.ok .next) Ai|.ret v=>AS (.ok (.ret v)) Ai) (RZ (AQ prog w) A env λe s'=>AS (.error e) s') AJ else AS (.ok .next) AJ) (RZ (AQ prog w) A env λe s'=>AS (.error e) s') s):D7 (AQ prog w) A (.whileLoop t b [] env) AS s:=by
 refine fk rfl (λ_ s'=>s'=s) (λn s' e=>?_) 0 rfl;subst e;show AH _ A ((bs9 t b [] env).onRaise (λx=>do IF x env;fq x)) _ _ _;refine fw ?_;simp only[bs9];refine A5 (Fg h (λc AJ AP=>?_) λ_ _ Q=>Q);cases c with
 |false=>exact A5 (G2 (AW AP))|true=>
 refine A5 (Fg AP (λf Ai BD=>?_) λ_ _ Q=>Q);cases f with
 |next=>exact AW (.inr ⟨rfl,BD⟩)|cont=>exact AW (.inr ⟨rfl,BD⟩)|brk=>exact AW BD|ret v=>exact AW BD
theorem yY(A9:C5 B A3 n){t:AA}{b:I As}(h:step A3 K (ev A3 n) (.MJ t b) H=.ok (.f f) A7){AS:Dt->AR->Prop}(g:Gd B F K A H C s)(k:∀u AT s',Gd B F K A A7 AT s'->Nx F.D F.AZ s.heap s'.heap C AT->FR f s'.heap AT u->AS (.ok u) s'):D7 (AQ B.prog B.w) A (.whileLoop t b [] F.env) AS s:=by
 refine A0.OD h ?_;clear h;intro c AB AP h;refine WE (A9.tW AP g _ _ λu A_ AJ AN Ab Aq=>?_);clear AP;subst Aq;cases u with
 |false=>
  (first|(revert k;(first|apply BX h|apply B5 h|apply BY h|apply BZ h|apply B_ h);intro k)|apply BX h|apply B5 h|apply BY h|apply BZ h|apply B_ h);exact k _ A_ AJ AN Ab rfl|true=>
  refine A0.Hx h ?_;clear h;intro d Bc BD h;refine A9.ss BD AN _ _ λu Au Ai AU Al BB=>?_;cases d with
 |next=>cases BB;exact A9.MJ h AU λu BS Ax Ap B8 BQ=>k u BS Ax Ap (Ab.trans (Al.trans B8)) BQ|cont=>cases BB;exact A9.MJ h AU λu BS Ax Ap B8 BQ=>k u BS Ax Ap (Ab.trans (Al.trans B8)) BQ|brk=>
   cases BB;(first|(revert k;(first|apply BX h|apply B5 h|apply BY h|apply BZ h|apply B_ h);intro k)|apply BX h|apply B5 h|apply BY h|apply BZ h|apply B_ h);exact k _ Au Ai AU (Ab.trans Al) rfl|ret v=>
   refine AC BB ?_;(try clear BB);intro y C9 BB;subst C9;(first|(revert k;(first|apply BX h|apply B5 h|apply BY h|apply BZ h|apply B_ h);intro k)|apply BX h|apply B5 h|apply BY h|apply BZ h|apply B_ h);exact k _ Au Ai AU (Ab.trans Al) ⟨y,rfl,BB⟩
theorem yZ(A9:C5 B A3 n){t:AA}{b:I As}(h:IX K (ev A3 n) (.While t b [] pos) H=.ok (.f f) A7)(g:Gd B F K A H C s):CJ B F K A A7 C s (exec (.While t b [] pos) F.env) (FR f):=λA2 E k=>tK (A9.MJ h g λu AT s' g' x' r'=>k u AT s' g' x' r')
end
theorem Nx.kc{W':I A8}(x:Nx AM AZ h Q C AT)(hw:∀b,b∈AZ->b∈W'):Nx AM W' h Q C AT:=⟨x.pre,x.live,x.Bw,λb o e n m=>x.same b o e n λq=>m (hw b q)⟩
section
theorem Gd.freeOf(g:Gd B F K A H C s)(hI:s.heap.get? AE=L)(hl:∃o,Q.get? AE=G o):CM B F C Q AE where
 C:=λm=>by refine xE (g.live AE m) ?_;intro o e;rw[hI]at e;exact(BE e).elim
 w:=λm=>by refine IN (g.D5 AE m) ?_;intro _ _ o e;rw[hI]at e;exact(BE e).elim
 cells:=λc m z=>by refine H9 (g.D1 c m) ?_;intro _ o e;rw[z,hI]at e;exact(BE e).elim
 base:=by cases e:B.base.get? AE with
 |none=>rfl|some o=>have :=g.base AE o e;rw[hI]at this;exact(BE this).elim
 outs:=λm=>by refine Hp (g.DT.mem m) ?_;intro _ o e _;rw[hI]at e;exact(BE e).elim
 live:=hl
theorem CM.nx(f:CM B F C h AE)(x:Nx AM AZ h Q C AT):CM B F AT Q AE:=by
 refine xE f.live ?_;intro o e;exact⟨x.out e f.C,f.w,f.cells,f.base,f.outs,x.live AE o e⟩
theorem Gd.move(g:Gd B F K A H C s)(f:CM B F C s.heap AE)(k:Ds AE s.heap Q)(hc:∀o,s.heap.get? AE=G o->C2 o=A6):Gd B F K A H C {s with heap:=Q,toks:=tk}:=by
 have xi:Dw s.heap Q:=λb o e c=>k b o (λz=>by clear f k;subst z;rw[hc o e]at c;exact(E5 c).elim) e;have hL:AE≠F.env.locals:=λz=>f.w (z▸g.kinds.Ia);refine⟨g.kinds,g.len,g.nodup,g.fresh,λa m=>?_,λa m=>?_,λc m=>?_,g.aR f.C k xi,g.env.but hL f.cells k xi,λb o e=>?_,g.os,g.gens,g.frames,?_,λA1 m=>?_,g.mods,g.handled,g.depth,g.units⟩;. refine xE (g.live a m) ?_;intro o e;exact⟨o,k _ _ (λz=>f.C (z▸m)) e⟩
 . refine IN (g.D5 a m) ?_;intro p q o e;exact⟨p,q,o,k _ _ (λz=>f.w (z▸m)) e⟩
 . refine H9 (g.D1 c m) ?_;intro q o e;exact⟨q,o,k _ _ (f.cells c m) e⟩
 . exact k b o (λz=>by rw[z,f.base]at e;exact(BE e).elim) (g.base b o e)
 . have hf:=f.outs;have hL:=g.DT;revert hf hL;generalize F.outs=l;intro hf hL;show Q.FunFrames B.base l;induction l with
 |nil=>trivial|cons e r ih=>
   refine G6 hL ?_;(try clear hL);intro hk Aw hr;refine HT Aw ?_;(try clear Aw);intro A1 o D2 hb ho hd;rw[RX,D2]at hf;exact⟨hk,⟨A1,o,D2,hb,k A1 o (λz=>hf (z▸Co)) ho,hd⟩,ih (λm=>hf (Cp _ m)) hr⟩
 . refine Pq (g.Cy A1 m) ?_;intro p q o e d;exact⟨p,q,o,k _ _ (λz=>f.outs (z▸m)) e,d⟩
theorem Nx.F2(x:Nx AM AZ Af h BG C)(k:Ds AE h Q)(hI:Af.get? AE=L):Nx AM AZ Af Q BG C:=by
 have ne:∀{b:A8}{o:Bi},Af.get? b=G o->b≠AE:=λe z=>by rw[z,hI]at e;exact(BE e).elim
 refine⟨x.pre,λb o e=>?_,λb o e c=>k b o (ne e) (x.Bw b o e c),λb o e n m=>let⟨sl,q,r⟩:=x.same b o e n m;⟨sl,k b _ (ne e) q,r⟩⟩;. refine xE (x.live b o e) ?_;intro o' e';exact⟨o',k b o' (ne e) e'⟩
theorem MY{t:AA}{it:A4}{b:I As}{AS:Dt->AR->Prop}(h:AH (AQ prog w) A (ES it) (λr AJ=>match r with
 |none=>AS (.ok .next) AJ|some v=>AH (AQ prog w) A (Y7 t it v) (λ_ WF=>AH (AQ prog w) A (Ex t env v) (λ_ Ai=>AH (AQ prog w) A (J3 b env) (λf Ax=>match f with
 |.next|.cont=>D7 (AQ prog w) A (.forLoop t it b [] env) AS Ax|.brk=>AS (.ok .next) Ax|.ret v=>AS (.ok (.ret v)) Ax) (RZ (AQ prog w) A env λe s'=>AS (.error e) s') Ai) (RZ (AQ prog w) A env λe s'=>AS (.error e) s') WF) (RZ (AQ prog w) A env λe s'=>AS (.error e) s') AJ) (RZ (AQ prog w) A env λe s'=>AS (.error e) s') s):D7 (AQ prog w) A (.forLoop t it b [] env) AS s:=by
 refine fk rfl (λ_ s'=>s'=s) (λn s' e=>?_) 0 rfl;subst e;show AH _ A ((bt0 t it b [] env).onRaise (λx=>do IF x env;fq x)) _ _ _;refine fw ?_;simp only[bt0];refine A5 (El (A5 (Y8 (Fg h (λr AJ AP=>?_) λ_ _ Q=>El Q))));cases r with
 |none=>exact AW (.inr ⟨rfl,codeAny_block (G2 AP)⟩)|some v=>
 refine A5 (Fg AP (λ_ WF y_=>A5 (Fg y_ (λ_ Ai BD=>A5 (Fg BD (λf Ax C3=>?_) λ_ _ Q=>Q)) λ_ _ Q=>Q)) λ_ _ Q=>Q);cases f with
 |next=>exact AW (.inr ⟨rfl,C3⟩)|cont=>exact AW (.inr ⟨rfl,C3⟩)|brk=>exact AW C3|ret v=>exact AW C3
theorem HY:∀{l:I J}{i:O},Gr l i=l[i]?
 |[],i=>by cases i<;>rfl|a::l,0=>rfl|a::l,i+1=>HY (l:=l) (i:=i)
theorem E6.nx(r:E6 h C it i AE)(x:Nx AM AZ h Q C AT)(Dj:AE∉C)(hw:AE∉AZ):E6 Q AT it i AE:=by
 refine AC (id x.pre) ?_;intro J e _;cases it with
 |tup Y=>
  refine HT r ?_;(try clear r);intro T us ne B6 BJ v;refine CZ B6 ?_;(try clear B6);intro o ho hc hd;refine Pr BJ ?_;(try clear BJ);intro o' Ic GD n GX;refine⟨T,us,ne,⟨o,x.keep AE o ho Dj hw (λ_=>by unfold HC;rw[hd]),hc,hd⟩,⟨o',x.Bw T o' Ic (by unfold C2;rw[GD,GX];rfl),GD,n,GX⟩,v.nx x⟩|HA lo hi=>
  refine AC r ?_;(try clear r);intro l a b;exact⟨l,x.keep AE _ a Dj hw (λ_=>rfl),b⟩|lst k=>
  refine VS r ?_;(try clear r);intro a q o ho hc hd;exact⟨a,by rw[e];exact FY q,o,x.keep AE o ho Dj hw (λ_=>by unfold HC;rw[hd]),hc,hd⟩|keys k n=>
  refine VS r ?_;(try clear r);intro a q o ho hc hd;exact⟨a,by rw[e];exact FY q,o,x.keep AE o ho Dj hw (λ_=>by unfold HC;rw[hd]),hc,hd⟩|K3 s=>exact r
end
section
theorem Gu(k:Ds AE h Q)(hc:∀o,h.get? AE=G o->C2 o=A6):Dw h Q:=λb o e c=>k b o (λz=>by clear k;subst z;rw[hc o e]at c;exact(E5 c).elim) e
theorem VR.Bw(r:VR h C v u)(x:Dw h Q):VR Q C v u:=by
 have :=r.mono (J:=[]) x;simpa using this
theorem Aa.Bw{v:I V}{u:I A4}(r:Aa h C v u)(x:Dw h Q):Aa Q C v u:=by
 have :=r.mono (J:=[]) x;simpa using this
theorem CM.at(f:CM B F C h AE)(l:∃o,Q.get? AE=G o):CM B F C Q AE:=⟨f.C,f.w,f.cells,f.base,f.outs,l⟩
theorem Aa.none{v:I V}{u:I A4}(r:Aa h C v u)(e:v[i]?=L):u[i]?=L:=by
 rw[fx]at e ⊢;rw[<-r.length];exact e
theorem DR.length{key:T->V}{l:I (T×A4)}(d:DR key h C N l):l.length=N.length:=DR.ind (P:=λN l=>l.length=N.length) rfl (λ_ _ _ _ _ _ _ ih=>congrArg (·+1) ih) d
theorem DR.get{key:T->V}{l:I (T×A4)}{p:V×V}(d:DR key h C N l)(q:N[i]?=G p):∃k u,l[i]?=G (k,u)/\p.1=key k/\VR h C p.2 u:=by
 revert i;refine DR.ind (P:=λN l=>∀{i},N[i]?=G p->∃k u,l[i]?=G (k,u)/\p.1=key k/\VR h C p.2 u) (λe=>(AF e).elim) (λk v u N r a _ ih i q=>?_) d;cases i with
 |zero=>exact Br q (P:=λp=>∃k' u',G (k,u)=G (k',u')/\p.1=key k'/\VR h C p.2 u') ⟨k,u,rfl,rfl,a⟩|succ i=>exact ih q
theorem kf[DecidableEq T]{By:KeyKind B.prog B.w T}{key:T->V}(g:Gd B F K A H C s)(f:CM B F C s.heap AE){Az:I (T×A4)}(ha:a≠AE)(hr:∀k u h,By.is k u=M->VR h C (key k) u)(hi:s.heap.IsKeyIter AE a i m m)(hm:s.heap.DictAt By a Az Az.length)(hd:DR key s.heap C N Az)(hl:N.length=m){A2:AD A4->AR->Prop}(ks:∀x,N[i]?=G x->∀u Q tk,Gd B F K A H C {s with heap:=Q,toks:=tk}->Ds AE s.heap Q->CM B F C Q AE->Q.IsKeyIter AE a (i+1) m m->VR Q C x.1 u->A2 (G u) {s with heap:=Q,toks:=tk})(kn:N[i]?=L->∀Q tk,Gd B F K A H C {s with heap:=Q,toks:=tk}->Ds AE s.heap Q->A2 L {s with heap:=Q,toks:=tk}):AH (AQ B.prog B.w) A (ES (.ref AE)) A2 E s:=by
 have ya:Az.length=m:=by rw[hd.length,hl]
 have hc:∀o,s.heap.get? AE=G o->C2 o=A6:=λo e=>by
  refine CZ hi ?_;(try clear hi);intro o' e' c _;rw[e']at e;injection e with e;subst e;unfold C2;rw[c];rfl
 clear hl;subst ya;cases q:N[i]? with
 |some x=>
  refine Bv (hd.get q) ?_;intro k u hk e1 _;refine wpAny_pyNext_dict_item hi hm hk λkv Q yb Bz hs=>?_;exact ks x q kv Q s.toks (g.move f hs.extBut hc) hs.extBut (f.at (by refine AC Bz ?_;(try clear Bz);intro o e _;exact⟨o,e⟩)) Bz (by rw[e1];exact hr k kv Q yb)|none=>
  have :Az[i]?=L:=by
   rw[fx]at q ⊢;rw[hd.length];exact q
  exact wpAny_pyNext_dict_end g.handled hi hm this λQ hs=>kn q Q s.toks (g.move f hs hc) hs
set_option tactic.hygienic true in
theorem K9(g:Gd B F K A H C s)(f:CM B F C s.heap AE)(r:E6 s.heap C it i AE){o:AD V}(h:IV it i H.h=G o){A2:AD A4->AR->Prop}(ks:∀x,o=G x->∀u Q tk,Gd B F K A H C {s with heap:=Q,toks:=tk}->Ds AE s.heap Q->CM B F C Q AE->E6 Q C it (i+1) AE->VR Q C x u->A2 (G u) {s with heap:=Q,toks:=tk})(kn:o=L->∀Q tk,Gd B F K A H C {s with heap:=Q,toks:=tk}->Ds AE s.heap Q->A2 L {s with heap:=Q,toks:=tk}):AH (AQ B.prog B.w) A (ES (.ref AE)) A2 E s:=by cases it with
 |tup Y=>
  injection h with h;rw[HY]at h;refine HT r ?_;(try clear r);intro T us ne hi ht v;have hc:∀o,s.heap.get? AE=G o->C2 o=A6:=λo e=>by
    refine CZ hi ?_;(try clear hi);intro o' e' c _;rw[e']at e;injection e with e;subst e;unfold C2;rw[c];rfl
  cases o with
  |some x=>
    refine AC (v.get h) ?_;intro u e w;refine wpAny_pyNext_tuple_item hi ht (by simpa using e) λQ Bz hs=>?_;have im:=Gu hs.extBut hc;exact ks x rfl u Q s.toks (g.move f hs.extBut hc) hs.extBut (f.at (by refine AC Bz ?_;(try clear Bz);intro o e _;exact⟨o,e⟩)) ⟨T,us,ne,Bz,ht.extBut hs.extBut ne,v.Bw im⟩ (w.Bw im)|none=>exact wpAny_pyNext_tuple_end g.handled hi ht (by have :=v.none h;simpa using this) λQ hs=>kn rfl Q s.toks (g.move f hs hc) hs
 |HA lo hi=>
  refine AC r ?_;(try clear r);intro left hr hl;injection h with h;have hc:∀o,s.heap.get? AE=G o->C2 o=A6:=λo e=>by rw[hr]at e;injection e with e;subst e;rfl
  split at h
  . rename_i lt;clear kn;subst h;have lt':lo+(i:AX)<hi:=lt;refine wpAny_pyNext_range_item hr (by(with_reducible exact Mine.vp (by assumption) (by assumption))) λQ Bz hs=>?_;have e1:lo+((i+1:O):AX)=lo+(i:AX)+1:=by(with_reducible exact Mine.w5)
    exact ks _ rfl _ Q (s.toks+1) (g.move f hs.extBut hc) hs.extBut (f.at ⟨_,Bz⟩) ⟨left-1,e1▸Bz,by(with_reducible exact Mine.w4 (by assumption))⟩ ⟨_,rfl⟩
  . rename_i lt;clear ks;subst h;have lt':¬lo+(i:AX)<hi:=lt;exact wpAny_pyNext_range_end g.handled hr (by(with_reducible exact Mine.wF (by assumption) (by assumption))) λQ hs=>kn rfl Q s.toks (g.move f hs hc) hs|lst k=>
  refine AC r ?_;(try clear r);intro a ha hi;refine BI h λob hx h=>?_;revert hx;apply IU h AF
  . intro Y h hx;injection h with h;rw[HY]at h;refine AC (g.obj hx ha) ?_;intro us hp v;have ne:a≠AE:=λz=>f.C (z▸Ew ha);have hc:∀o,s.heap.get? AE=G o->C2 o=A6:=λo e=>by
      refine CZ hi ?_;(try clear hi);intro o' e' c _;rw[e']at e;injection e with e;subst e;unfold C2;rw[c];rfl
    cases o with
  |some x=>
      refine AC (v.get h) ?_;intro u e w;refine tL hi hp.isList (by simpa using e) λQ Bz hs=>?_;exact ks x rfl u Q s.toks (g.move f hs.extBut hc) hs.extBut (f.at (by refine AC Bz ?_;(try clear Bz);intro o e _;exact⟨o,e⟩)) ⟨a,ha,Bz⟩ (w.Bw (Gu hs.extBut hc))|none=>exact bt1 g.handled hi hp.isList (by have :=v.none h;simpa using this) λQ hs=>kn rfl Q s.toks (g.move f hs hc) hs
 |keys k m=>
  refine AC r ?_;(try clear r);intro a ha hi;refine BI h λob hx h=>?_;revert hx;apply JE h AF
  . intro N h hx;refine Ce h AF λhl h=>?_
    . have hl:=CD hl;injection h with h;rw[HY]at h;have ne:a≠AE:=λz=>f.C (z▸Ew ha);have hp:=g.obj hx ha;rcases hp with BJ|BP;refine AC BJ ?_;(try clear BJ);intro Az hm hd;rotate_left;refine AC BP ?_;(try clear BP);intro Az hm hd;rotate_left
      . refine kf (key:=GW) g f ne (λk u h hk=>?_) hi hm hd hl (λx hx u Q tk g' e' f' i' v'=>ks x.1 (by rw[<-h,hx];rfl) u Q tk g' e' f' ⟨a,ha,i'⟩ v') λhx Q tk g' e'=>kn (by rw[<-h,hx];rfl) Q tk g' e';refine xE (Value.isStrOf_shape hk) ?_;intro t Aw;clear hk;subst Aw;exact⟨t,by cases k;rfl⟩
      . refine kf (key:=T5) g f ne (λk u h hk=>?_) hi hm hd hl (λx hx u Q tk g' e' f' i' v'=>ks x.1 (by rw[<-h,hx];rfl) u Q tk g' e' f' ⟨a,ha,i'⟩ v') λhx Q tk g' e'=>kn (by rw[<-h,hx];rfl) Q tk g' e';refine xE (Value.isInt_shape hk) ?_;intro t B6;clear hk;subst B6;exact⟨t,rfl⟩|K3 s=>exact r.elim
end
section
theorem GF(h:BK):h.get? h.objs.size=L:=by cases e:h.get? h.objs.size with
 |none=>rfl|some o=>exact absurd (Dh e) (J1 _)
theorem OF(g:Gd B F K A H C s)(r:VR s.heap C v u)(h:Q9 v H.h=G it)(k:∀AE Q tk,Gd B F K A H C {s with heap:=Q,toks:=tk}->Nx F.D [] s.heap Q C C->s.heap.get? AE=L->CM B F C Q AE->E6 Q C it 0 AE->A2 (.ref AE) {s with heap:=Q,toks:=tk}):AH (AQ B.prog B.w) A (PV u) A2 E s:=by
 have put:∀(o:Bi),o.isFreed=A6->(∀Q,Q=s.heap.push o->E6 Q C it 0 s.heap.objs.size)->A2 (.ref s.heap.objs.size) {s with heap:=s.heap.push o}:=λo hf hr=>by
  have kp:∀b x,s.heap.get? b=G x->(s.heap.push o).get? b=G x:=λb x e=>C1 _ e;exact k _ _ s.toks (g.ext kp) (Nx.ext kp) (GF _) (g.freeOf (GF _) ⟨o,CY _ hf⟩) (hr _ rfl)
 cases v with
 |tup c Y=>cases c with
  |some _=>exact(BE h).elim|none=>
    injection h with h;clear k;subst h;refine Bv (QM r) ?_;intro T us Aw ht rs;clear r;subst Aw;refine wpAny_pyIter_tuple ht (put _ rfl λQ e=>?_);subst e;refine⟨T,us,?_,⟨_,CY _ rfl,rfl,rfl⟩,ht.push _,rs.Bw λb x e _=>C1 _ e⟩;refine AC ht ?_;(try clear ht);intro o e _;exact ER (Dh e)
 |HA lo hi=>
  refine Ce h AF λhb h=>?_
  . injection h with h;clear k;subst h;simp only[JH,D6,PW]at hb;refine Jx r ?_;(try clear r);intro a t t' HB B6 ha;subst B6;refine wpAny_pyIter_range ha (small_one (by omega) (by omega) (by omega) (by omega)) ?_;rw[rangeSize_one];refine put _ rfl λQ e=>?_;subst e;refine⟨if lo<hi then hi-lo else 0,?_,?_⟩
    . have :lo+((0:O):AX)=lo:=by omega
      rw[this];exact CY _ rfl
    . split<;>omega|ref i=>
  refine AC r ?_;(try clear r);intro a ha BJ;subst BJ;refine BI h λob hx h=>?_;revert hx;apply K0 h
  . intro Y h hx;injection h with h;clear k;subst h;refine AC (g.obj hx ha) ?_;intro us hp _;refine fy hp.isList (put _ rfl λQ e=>?_);subst e;exact⟨a,ha,_,CY _ rfl,rfl,rfl⟩
  . intro h;apply JE h AF;intro N h hx;injection h with h;clear k;subst h;have hp:=g.obj hx ha;have hd:(a==NS)=A6:=by
      refine xE g.mods ?_;intro o e;have :=g.fresh a (Ew ha);exact Lp.mpr λz=>by rw[z,e]at this;(exfalso;cases this)
    rcases hp with Bu|C9;refine AC Bu ?_;(try clear Bu);intro Az hm GX;rotate_left;refine AC C9 ?_;(try clear C9);intro Az hm GX;rotate_left
    . refine bt2 hd hm (put _ rfl λQ e=>?_);subst e;exact⟨a,ha,_,CY _ rfl,rfl,by rw[GX.length];rfl⟩
    . refine bt2 hd hm (put _ rfl λQ e=>?_);subst e;exact⟨a,ha,_,CY _ rfl,rfl,by rw[GX.length];rfl⟩|_=>exact(BE h).elim
theorem E6.cls(r:E6 h C it i AE):∃o nm vs,h.get? AE=G o/\o.cls=.type nm/\o.data=.fields vs/\(nm="tuple_iterator"\/nm="range_iterator"\/nm="list_iterator"\/nm="dict_keyiterator"):=by cases it with
 |tup Y=>refine Bv r ?_;(try clear r);intro T us _ BP _;refine CZ BP ?_;(try clear BP);intro o e c d;exact⟨o,_,_,e,c,d,.inl rfl⟩|HA lo hi=>refine AC r ?_;(try clear r);intro l e _;exact⟨_,_,_,e,rfl,rfl,.inr (.inl rfl)⟩|lst k=>refine VS r ?_;(try clear r);intro a _ o e c d;exact⟨o,_,_,e,c,d,.inr (.inr (.inl rfl))⟩|keys k n=>refine VS r ?_;(try clear r);intro a _ o e c d;exact⟨o,_,_,e,c,d,.inr (.inr (.inr rfl))⟩|K3 s=>exact r.elim
theorem QN(r:E6 s.heap C it i AE){t:AA}{v:A4}{A2:DM->AR->Prop}(h:A2 () s):AH Av A (Y7 t (.ref AE) v) A2 E s:=by
 refine JB r.cls ?_;intro o nm vs e c d hn;have main:∀x,AH Av A (do
 let o<-load AE match o.cls,o.data with
 |.type n,.fields vs=>if(["enumerate","zip","dict_itemiterator","dict_reverseitemiterator","odict_iterator","itertools.zip_longest","itertools.pairwise"].contains n&&vs.any (·==ET x))=M then R_ "x"else pure ()|_,_=>pure ()) A2 E s:=λx=>by
  refine A5 (NW e ?_);rw[c,d];rcases hn with rfl|rfl|rfl|rfl<;>exact AW h
 cases t<;>first|exact AW h|skip
 all_goals
  cases v<;>first|exact AW h|skip
  unfold Y7;refine A5 (NW e ?_);rw[c,d];rcases hn with rfl|rfl|rfl|rfl<;>exact AW h
theorem yc(A9:C5 B A3 n){t:AA}{b:I As}(h:step A3 K (ev A3 n) (.loop t it i b) H=.ok (.f f) A7){AS:Dt->AR->Prop}(g:Gd B F K A H C s)(Cq:Nx F.D F.AZ Af s.heap BG C)(hI:Af.get? AE=L)(fr:CM B F C s.heap AE)(r:E6 s.heap C it i AE)(k:∀u AT s',Gd B F K A A7 AT s'->Nx F.D F.AZ Af s'.heap BG AT->FR f s'.heap AT u->AS (.ok u) s'):D7 (AQ B.prog B.w) A (.forLoop t (.ref AE) b [] F.env) AS s:=by
 refine A0.Bx h ?_;clear h;intro o AP h;refine MY (K9 g fr r AP (λx hx u Q tk AN DU Eo Aq Hy=>?_) λhx Q tk AN DU=>?_)
 . clear AP;subst hx;refine A0.Hx h ?_;clear h;intro _ Bc BD h;refine A0.Hx h ?_;clear h;intro d GY C3 h;have L9:=Cq.F2 DU hI;refine QN Aq (A9.asg BD AN Hy _ _ λ_ Au Ai AU Al _=>A9.ss C3 AU _ _ λMZ BS Ax Ap B8 BQ=>?_);have xx:=Al.trans B8;have EF:=Eo.nx xx;have Gv:=Aq.nx xx Eo.C Eo.w;have Ep:=L9.trans xx;cases d with
 |next=>cases BQ;exact A9.loop h Ap Ep hI EF Gv k|cont=>cases BQ;exact A9.loop h Ap Ep hI EF Gv k|brk=>
    cases BQ;(first|(revert k;(first|apply BX h|apply B5 h|apply BY h|apply BZ h|apply B_ h);intro k)|apply BX h|apply B5 h|apply BY h|apply BZ h|apply B_ h);exact k _ BS Ax Ap Ep rfl|ret v=>
    refine AC BQ ?_;(try clear BQ);intro y Bg BQ;subst Bg;(first|(revert k;(first|apply BX h|apply B5 h|apply BY h|apply BZ h|apply B_ h);intro k)|apply BX h|apply B5 h|apply BY h|apply BZ h|apply B_ h);exact k _ BS Ax Ap Ep ⟨y,rfl,BQ⟩
 . clear AP;subst hx;(first|(revert k;(first|apply BX h|apply B5 h|apply BY h|apply BZ h|apply B_ h);intro k)|apply BX h|apply B5 h|apply BY h|apply BZ h|apply B_ h);exact k _ C _ AN (Cq.F2 DU hI) rfl
theorem yd(A9:C5 B A3 n){t it:AA}{b:I As}(he:Sm it=L)(h:IX K (ev A3 n) (.For t it b [] pos) H=.ok (.f f) A7)(g:Gd B F K A H C s):CJ B F K A A7 C s (exec (.For t it b [] pos) F.env) (FR f):=by
 refine M7 h (λx e _=>by rw[he]at e;exact(AF e).elim) λ_ h=>?_;refine A0.Be h ?_;clear h;intro hp h;refine A0.Cg h ?_;clear h;intro v AB AP h;refine A0.Bx h ?_;clear h;intro i BD h;intro A2 E k;refine Y9 (A9.eW AP g _ _ λu A_ AJ AN Ab Aq=>OF AN Aq BD λAE Q tk AU Al hI KA TC=>A9.loop h AU Al.FZ hI KA TC λu BS Ax Ap B8 BQ=>k u BS Ax Ap (Ab.trans B8) BQ) ?_;exact QL hp
end
section
theorem TD{t:AD AA}{l:O}(h:JL e=A6):YA e t l env=pure A6:=by cases e<;>first|rfl|(exfalso;cases h)
theorem ye(A9:C5 B A3 n)(h:IX K (ev A3 n) (.Expr e pos) H=.ok (.f f) A7)(g:Gd B F K A H C s):CJ B F K A A7 C s (exec (.Expr e pos) F.env) (FR f):=by
 refine A0.Be h ?_;clear h;intro hc h;refine A0.Cg h ?_;clear h;intro v AB AP h;(first|(revert k;(first|apply BX h|apply B5 h|apply BY h|apply BZ h|apply B_ h);intro k)|apply BX h|apply B5 h|apply BY h|apply BZ h|apply B_ h);intro A2 E k;refine bt3 (A9.eW AP g _ _ λu A_ AJ AN Ab _=>k _ A_ AJ AN Ab rfl) ?_ (TD (by simpa using hc));have :=g.kinds.fn;unfold interactive;simp[this]
theorem yf(h:L2 A3 K (ev A3 n) (.Name id pos) v H=.ok (.f f) A7)(g:Gd B F K A H C s)(r:VR s.heap C v u):CJ B F K A A7 C s (Ex (.Name id pos) F.env u) RU:=λA2 E k=>bt4 (aY h g r A2 E k)
theorem yg(A9:C5 B A3 n)(Lo:Lf B)(h:IX K (ev A3 n) (.AugAssign (.Name id p) op e pos) H=.ok (.f f) A7)(g:Gd B F K A H C s):CJ B F K A A7 C s (exec (.AugAssign (.Name id p) op e pos) F.env) (FR f):=by
 refine A0.Be h ?_;clear h;intro hl h;refine A0.Bx h ?_;clear h;intro a AP h;refine A0.Cg h ?_;clear h;intro b Bc BD h;refine A0.Bx h ?_;clear h;intro v C3 h;refine H9 (A0.kZ h) ?_;clear h;intro hf f' h;subst hf;intro A2 E k;exact bt5 ((kY g hl AP).TA _ _ λu A_ AJ AN Ab Aq=>A9.eW BD AN _ _ λu' Au Ai AU Al BB=>(Lo.y2 AU (Aq.nx Al) BB C3).TA _ _ λy BS Ax Ap B8 BQ=>A9.xw h Ap BQ _ _ λ_ Ie EG CA Cz _=>k _ Ie EG CA (Ab.trans (Al.trans (B8.trans Cz))) rfl)
theorem aZ(h:MN ts e=A6):g0 ts e env=pure L:=by cases ts with
 |nil=>rfl|cons t ts=>cases ts with
 |cons _ _=>cases t<;>rfl|nil=>cases t<;>first|rfl|(cases e<;>first|rfl|exact(Un h))
theorem yh(A9:C5 B A3 n)(hc:JL e=A6)(ht:MN ts e=A6)(h:((ev A3 n K (.e e) H).V λv H=>ev A3 n K (.GS ts v) H)=.ok (.f f) A7)(g:Gd B F K A H C s):CJ B F K A A7 C s (exec (.Assign ts e pos) F.env) (FR .next):=by
 refine A0.Cg h ?_;clear h;intro v AB AP h;intro A2 E k;refine g4 (A9.eW AP g _ _ λu A_ AJ AN Ab Aq=>A9.GS h AN Aq _ _ λ_ Au Ai AU Al _=>k _ Au Ai AU (Ab.trans Al) rfl) ?_ (aZ ht);cases ts with
 |nil=>rfl|cons t ts=>cases ts with
 |nil=>exact TD hc|cons _ _=>rfl
end
theorem a_{l:I (U×J)}:Ah l x=l.lookup x:=by induction l with
 |nil=>rfl|cons p l ih=>
 obtain⟨k,v⟩:=p;show bC (Cw k x) (G v) (Ah l x)=_;rw[PX,ih];cases q:Cw k x with
 |true=>have :=E2.mp q;subst this;simp;rfl|false=>
 have :(x==k)=A6:=Lp.mpr λz=>L4.mp q z.symm;rw[this];rfl
section
theorem Ns.slots{m:U->AD A4}(x:h.Ns a m)(k:∀o,h.get? a=G o->∃sl,Q.get? a=G {o with slots:=sl}):Q.Ns a m:=by
 refine Gq x ?_;(try clear x);intro o N ep e d r;refine xE (k o e) ?_;intro sl e';exact⟨_,N,ep,e',d,r⟩
theorem Cf.Gw{env:I (U×V)}(g:Gd B F K A H C s)(y:Cf F s.heap C env)(x:Nx F.D [] s.heap s'.heap C AT):Cf F s'.heap AT env:=by
 refine G6 (g.D5 _ g.kinds.Ia) ?_;intro _ hL _;exact y.imp (λ_ ns=>Ns.slots ns λo e=>x.data _ o e hL (λm=>nomatch m)) (λn c u hm q=>AC q λo e d=>xE (x.data _ o e (g.D1 _ hm).1 (λm=>nomatch m)) λsl e'=>⟨_,e',d⟩) λ_ _ r=>r.nx x
theorem FunFrames.Gw{l:I Gi}(hl:s.heap.FunFrames B.base l)(hn:∀A1∈l.filterMap (·.frame),A1∉C)(x:Nx F.D [] s.heap s'.heap C AT):s'.heap.FunFrames B.base l:=by induction l with
 |nil=>trivial|cons e r ih=>
 refine G6 hl ?_;(try clear hl);intro hk Aw hr;refine HT Aw ?_;(try clear Aw);intro A1 o hf hb ho hd;refine xE (x.data A1 o ho (hn A1 (by simp[hf])) (by simp)) ?_;intro sl z;exact⟨hk,⟨A1,_,hf,hb,z,hd⟩,ih hr λL' m=>hn L' (by rw[RX,hf];exact Cp _ m)⟩
theorem Fm.yi{b:A8}(hf:env.frame=G env.locals)(hb:b≠env.locals)(z:b∈Fm.D ⟨env,AZ,env::F.outs⟩):b∈F.D:=by
 unfold Fm.D at z ⊢;rw[RX,hf]at z;exact(Cj.mp z).resolve_left hb
theorem Gd.back(g:Gd B F K A H C s)(x:Nx F.D [] s.heap s'.heap C AT)(len:AT.length=A7.n)(nodup:AT.Nodup)(fresh:∀a∈AT,B.base.get? a=L)(live:∀a∈AT,∃o,s'.heap.get? a=G o)(objs:∀i o,AL A7.h i=G o->∃a,AT[i]?=G a/\Ca B.prog B.w s'.heap AT a o)(base:B.base.StaysIn s'.heap)(os:s'.os=B.os)(gens:s'.gens=B.gens)(env:Cf F s'.heap AT A7.env):Gd B F K A A7 AT s' where
 kinds:=g.kinds;len:=len;nodup:=nodup;fresh:=fresh;live:=live;D5:=λa m=>by refine IN (g.D5 a m) ?_;intro p q o e;exact⟨p,x.out e q,x.live a o e⟩
 D1:=λc m=>by refine H9 (g.D1 c m) ?_;intro q o e;exact⟨x.out e q,x.live _ o e⟩
 objs:=objs;env:=env;base:=base;os:=os;gens:=gens;frames:=g.frames;DT:=FunFrames.Gw g.DT (λA1 m=>(g.Cy A1 m).1) x;Cy:=λA1 m=>by
  refine Pq (g.Cy A1 m) ?_;intro q r o ho hd;refine xE (x.data A1 o ho q (by simp)) ?_;intro sl z;exact⟨x.out ho q,r,_,z,hd⟩
 mods:=g.mods;handled:=g.handled;depth:=g.depth;units:=g.units
end
theorem aa:∀(names:I (U×E3))(n:O)(Am:I (U×A8))(x:U)(c:A8),(x,c)∈Am->(x,c)∈Jl n names Am
 |[],_,_,_,_,h=>h|(name,kind)::r,n,Am,x,c,h=>by
  unfold Jl;split;. exact aa r (n+1) _ x c (Cp _ h)
  . exact aa r n _ x c h
theorem TE:∀(names:I (U×E3))(n:O)(Am:I (U×A8))(x:U),(x,.cell)∈names->∃c,(x,c)∈Jl n names Am
 |(name,kind)::r,n,Am,x,h=>by
  unfold Jl;rcases Cj.mp h with q|q
  . injection q with q q';subst q;subst q';skip;exact⟨n,aa r (n+1) _ _ _ Co⟩
  . split;. exact TE r (n+1) _ x q
    . exact TE r n _ x q
theorem ab:∀(names:I (U×E3))(n:O)(Am:I (U×A8)),(names.map (·.1)).Nodup->(Am.map (·.1)).Nodup->(∀x∈names.map (·.1),x∉Am.map (·.1))->((Jl n names Am).map (·.1)).Nodup
 |[],_,_,_,h,_=>h|(name,kind)::r,n,Am,hn,ha,hd=>by
  unfold Jl;refine xA (EU.mp hn) ?_;intro h1 h2;split
  . refine ab r (n+1) _ h2 (EU.mpr ⟨hd name Co,ha⟩) λx hx hm=>?_;rcases Cj.mp hm with q|q;. exact h1 (q▸hx)
    . exact hd x (Cp _ hx) q
  . exact ab r n _ h2 ha λx hx=>hd x (Cp _ hx)
theorem ae:∀{l:I (U×J)}{x:U}{c:J},(l.map (·.1)).Nodup->(x,c)∈l->l.lookup x=G c
 |(k,v)::r,x,c,hn,h=>by
  refine xA (EU.mp hn) ?_;intro h1 h2;rw[PX];rcases Cj.mp h with q|q;. injection q with q q';subst q;subst q';simp
  . have :(x==k)=A6:=Lp.mpr λz=>h1 (E0.mpr ⟨_,q,z⟩);rw[this];exact ae h2 q
theorem WG{names:I (U×E3)}{c:A8}(hn:(names.map (·.1)).Nodup)(h:(x,c)∈Jl n names []):(Jl n names []).lookup x=G c:=ae (ab names n [] hn HN λ_ _ hm=>by simp at hm) h
noncomputable def BR(h:BK)(C:I A8):I (U×V)->I (U×A4)->Prop
 |[],l=>l=[]|p::b,l=>∃u r,l=(p.1,u)::r/\VR h C p.2 u/\BR h C b r
theorem BR.cons{b:I (U×V)}{r:I (U×A4)}(a:VR h C v u)(y:BR h C b r):BR h C ((x,v)::b) ((x,u)::r):=⟨u,r,rfl,a,y⟩
theorem BR.ind{P:I (U×V)->I (U×A4)->Prop}(n:P [] [])(c:∀x v u b r,VR h C v u->BR h C b r->P b r->P ((x,v)::b) ((x,u)::r)){b:I (U×V)}:∀{l:I (U×A4)},BR h C b l->P b l:=by induction b with
 |nil=>intro l e;cases e;exact n|cons p b ih=>intro l e;refine Bv e ?_;clear e;intro u r q a y;subst q;exact c p.1 p.2 u b r a y (ih y)
theorem BR.nx(x:Nx AM AZ h Q C AT){b:I (U×V)}{l:I (U×A4)}(r:BR h C b l):BR Q AT b l:=BR.ind (P:=BR Q AT) rfl (λ_ _ _ _ _ a _ ih=>.cons (a.nx x) ih) r
theorem BR.keys{b:I (U×V)}{l:I (U×A4)}(r:BR h C b l):l.map (·.1)=b.map (·.1):=BR.ind (P:=λb l=>l.map (·.1)=b.map (·.1)) rfl (λx _ _ _ _ _ _ ih=>congrArg (x::·) ih) r
theorem kg{kd:U->AD E3}:∀{l:I (U×A4)}{m:U->AD A4},x∉l.map (·.1)->Ra kd l m x=m x
 |[],_,_=>rfl|(n,v)::r,m,h=>by
  unfold Ra;have h1:x≠n:=λe=>h (by rw[e];simp);have h2:x∉r.map (·.1):=λe=>h (by simp only[J4];exact Cp _ e);rw[kg h2];split;. simp[h1]
  . rfl
theorem kh{kd:U->AD E3}:∀{l:I (U×A4)}{m:U->AD A4},x∉l.map (·.1)->Rb kd l m x=m x
 |[],_,_=>rfl|(n,v)::r,m,h=>by
  unfold Rb;have h1:x≠n:=λe=>h (by rw[e];simp);have h2:x∉r.map (·.1):=λe=>h (by simp only[J4];exact Cp _ e);rw[kh h2];split;. rfl
  . simp[h1]
theorem BR.local{kd:U->AD E3}(hx:kd x=G .local){b:I (U×V)}{l:I (U×A4)}(r:BR h C b l):∀{m:U->AD A4}{v:V},(b.map (·.1)).Nodup->Ah b x=G v->∃u,Ra kd l m x=G u/\VR h C v u:=BR.ind (P:=λb l=>∀{m:U->AD A4}{v:V},(b.map (·.1)).Nodup->Ah b x=G v->∃u,Ra kd l m x=G u/\VR h C v u) (λ_ e=>(AF e).elim) (λx' w u b r a y ih m v hn hl=>by
 have hn:=EU.mp hn;rw[T1]at hl;refine Eb hl (λq e=>?_) λ_ e=>ih hn.2 e;clear hl;have :=E2.mp q;subst this;refine Br e (P:=λv=>∃u',Ra kd ((x',u)::r) m x'=G u'/\VR h C v u') ⟨u,?_,a⟩;unfold Ra;rw[DA hx,kg (by rw[y.keys];exact hn.1)];exact DA rfl) r
theorem BR.cell{kd:U->AD E3}(hx:kd x≠G .local){b:I (U×V)}{l:I (U×A4)}(r:BR h C b l):∀{m:U->AD A4}{v:V},(b.map (·.1)).Nodup->Ah b x=G v->∃u,Rb kd l m x=G u/\VR h C v u:=BR.ind (P:=λb l=>∀{m:U->AD A4}{v:V},(b.map (·.1)).Nodup->Ah b x=G v->∃u,Rb kd l m x=G u/\VR h C v u) (λ_ e=>(AF e).elim) (λx' w u b r a y ih m v hn hl=>by
 have hn:=EU.mp hn;rw[T1]at hl;refine Eb hl (λq e=>?_) λ_ e=>ih hn.2 e;clear hl;have :=E2.mp q;subst this;refine Br e (P:=λv=>∃u',Rb kd ((x',u)::r) m x'=G u'/\VR h C v u') ⟨u,?_,a⟩;unfold Rb;rw[CS hx,kh (by rw[y.keys];exact hn.1)];exact DA rfl) r
structure FnAt(B:Bs)(a:A8)(fn:Fn)(o:Bi)(fd:Kh):Prop where
 get:B.base.get? a=G o
 data:o.data=.func fd
 sc:fd.scope=fn.sc
 body:fd.body=.stmts fn.body
 closure:fd.closure=[]co:fd.scope.isCoroutine=A6
 gen:fd.scope.isGenerator=A6
 kind:fd.scope.kind=.function
 g3:fd.globals=3b0:fd.builtins=0yj:QD fn.sc=M
 nodup:(fn.sc.names.map (·.1)).Nodup
 ki:∀x,fn.sc.names.lookup x≠G .free
 code:B.base.CodeRec fd.code fd.qualname
 lim:B.base.NoLimit
 bind:∀{args:I V}{b:I (U×V)},JI fn args=G b->(b.map (·.1)).Nodup/\(∀x∈b.map (·.1),fn.sc.names.lookup x=G .local\/fn.sc.names.lookup x=G .cell)/\∀{s:AR}{C:I A8}{us:I A4},B.base.StaysIn s.heap->Aa s.heap C args us->∀{Av:fb}{A:CK}{A2:I (U×A4)->AR->Prop}{E:A4->AR->Prop},(∀KC Q,(∀b o,s.heap.get? b=G o->Q.get? b=G o)->BR Q C b KC->A2 KC {s with heap:=Q})->AH Av A (g5 fd ⟨us,[]⟩) A2 E s
structure Ga(B:Bs)(F:Fm)(K:Kx)(A:CK)(H:St)(C:I A8)(s:AR):Prop where
 len:C.length=H.n
 nodup:C.Nodup
 fresh:∀a∈C,B.base.get? a=L
 live:∀a∈C,∃o,s.heap.get? a=G o
 objs:∀i o,AL H.h i=G o->∃a,C[i]?=G a/\Ca B.prog B.w s.heap C a o
 base:B.base.StaysIn s.heap
 os:s.os=B.os
 gens:s.gens=B.gens
 frames:A.frames=G F.outs
 DT:s.heap.FunFrames B.base F.outs
 Cy:∀A1∈F.outs.filterMap (·.frame),A1∉C/\(A1∈F.AZ->A1=F.env.locals)/\∃o,s.heap.get? A1=G o/\HC o=M
 mods:∃o,B.base.get? NS=G o
 handled:A.handled=L
 depth:A.depth+3*K.d<900units:A.units+10*K.d<9000
section
theorem KD(ha:h.objs.size<=a):h.get? a=L:=by cases e:h.get? a with
 |none=>rfl|some o=>exact absurd (Dh e) (Us.mpr ha)
theorem Gd.ga(g:Gd B F K A H C s):Ga B F K A H C s:=⟨g.len,g.nodup,g.fresh,g.live,g.objs,g.base,g.os,g.gens,g.frames,g.DT,g.Cy,g.mods,g.handled,g.depth,g.units⟩
theorem Ga.enter(g:Ga B F K A H C s)(hd:K.d=d+1){fn:Fn}{o:Bi}(ok:FnAt B a fn o fd){b:I (U×V)}{KC:I (U×A4)}(hn:(b.map (·.1)).Nodup)(hk:∀x∈b.map (·.1),fn.sc.names.lookup x=G .local\/fn.sc.names.lookup x=G .cell)(L7:∀b o,s.heap.get? b=G o->Af.get? b=G o)(hb:BR Af C b KC)(he:env=newEnv fd.scope Af.objs.size fd.globals (Jl (Af.objs.size+1) fd.scope.names []) (fd.qualname++".<locals>.") (G a) fd.code L fd.builtins)(x:InCallC {s with heap:=Af} env.locals (Ra env.kindOf KC λ_=>L) env.cells (Rb env.kindOf KC λ_=>L) AJ):Gd B ⟨env,env.locals::env.cells.map (·.2),env::F.outs⟩ ⟨fn.sc,d⟩ (A.deeper env) ⟨b,H.h,H.n⟩ C AJ/\(∀b o,s.heap.get? b=G o->AJ.heap.get? b=G o)/\env.frame=G env.locals/\∀w∈env.locals::env.cells.map (·.2),s.heap.get? w=L:=by
 refine DB x.toInCall.same ?_;intro AP tk Aw;subst Aw;have kj:∀b o,Af.get? b=G o->AP.get? b=G o:=x.toInCall.keep;have keep:∀b o,s.heap.get? b=G o->AP.get? b=G o:=λb o e=>kj b o (L7 b o e);have TF:env.scope=fn.sc:=by rw[he];exact ok.sc
 have EK:env.cells=Jl (Af.objs.size+1) fn.sc.names []:=by rw[he];show Jl _ fd.scope.names []=_;rw[ok.sc]
 have hL:env.locals=Af.objs.size:=by rw[he];rfl
 have af:∀y,env.kindOf y=fn.sc.names.lookup y:=λy=>by show env.scope.names.lookup y=_;rw[TF]
 have D2:env.frame=G env.locals:=by rw[he];rfl
 have kl:∀c∈env.cells,env.locals<c.2:=λc m=>x.above c.1 c.2 m;have new:∀w∈env.locals::env.cells.map (·.2),s.heap.get? w=L:=λw m=>by
  have :Af.get? w=L:=by
   refine KD ?_;rw[<-hL];rcases Cj.mp m with e|m;. exact Ek e.symm
   . refine AC (E0.mp m) ?_;intro c hc B6;clear m;subst B6;exact Gj (kl c hc)
  cases e:s.heap.get? w with
 |none=>rfl|some o=>rw[L7 _ _ e]at this;(exfalso;cases this)
 have cl:∀c∈env.cells,∃u,AP.IsCell c.2 u:=λc m=>by
  rw[EK]at m;have :=WG ok.nodup m;rw[<-EK]at this;exact⟨_,x.cell _ _ this⟩
 have im:Dw s.heap AP:=λb o e _=>keep b o e;have nb:∀w,s.heap.get? w=L->B.base.get? w=L:=λw hw=>by cases e:B.base.get? w with
 |none=>rfl|some o=>rw[g.base w o e]at hw;(exfalso;cases hw)
 have ag:∀w,s.heap.get? w=L->w∉C:=λw hw m=>by refine xE (g.live w m) ?_;intro o e;rw[hw]at e;exact(BE e).elim
 have xb:Nx F.D [] Af AP C C:=Nx.ext kj;have GZ:=hb.nx xb;refine Gq (id x.toInCall.ns) ?_;intro oL N ep KG yk _;refine⟨?_,keep,D2,new⟩;exact{
  kinds:={
   fn:=by rw[TF,<-ok.sc];exact ok.kind
   sc:=ok.yj
   kd:=λy k hy=>by
     rw[a_]at hy;have e:env.kindOf y=G k:=(af y).trans hy;revert e hy;cases k with
 |«local»=>exactλ_ e=>e|cell=>exactλhy e=>⟨e,xE (TE fn.sc.names (Af.objs.size+1) [] y (mem_of_lookup hy)) λc hc=>⟨c,EK▸WG ok.nodup hc,Cp _ (E0.mpr ⟨_,EK▸hc,rfl⟩)⟩⟩|free=>exactλhy _=>absurd hy (ok.ki y)|globalImplicit=>exactλ_ e=>e|globalExplicit=>exactλ_ _=>trivial
   g3:=by rw[he];exact ok.g3
   b0:=by rw[he];exact ok.b0
   cells:=x.apart
   Ia:=Co
   MT:=λc m=>PY (kl c m)}
  len:=g.len
  nodup:=g.nodup
  fresh:=g.fresh
  live:=λw m=>by refine xE (g.live w m) ?_;intro o e;exact⟨o,keep w o e⟩
  D5:=λw m=>⟨nb w (new w m),ag w (new w m),by
   rcases Cj.mp m with e|m;. rw[e];exact⟨_,KG⟩
   . refine AC (E0.mp m) ?_;intro c hc BJ;clear m;subst BJ;refine EX (cl c hc) ?_;intro u o e _;exact⟨o,e⟩⟩
  D1:=λc m=>⟨ag _ (new _ (Cp _ (E0.mpr ⟨c,m,rfl⟩))),by refine EX (cl c m) ?_;intro u o e _;exact⟨o,e⟩⟩
  objs:=λi o e=>by
   refine AC (g.objs i o e) ?_;intro a p r;have :=r.mono (J:=[]) im (keep a);exact⟨a,p,by simpa using this⟩
  env:=⟨_,x.toInCall.ns,cl,λy v l fr=>by
   rcases fr with q|q|q;. exact AC (GZ.local q hn l) λu e r=>⟨u,⟨λ_=>e,λz=>T7 z q⟩,r⟩
   . refine AC (GZ.cell (kd:=env.kindOf) (m:=λ_=>L) (λz=>T7 (.inl q) z) hn l) ?_;intro u e r;refine xE (TE fn.sc.names (Af.objs.size+1) [] y (mem_of_lookup ((af y).symm.trans q))) ?_;intro c hc;have e':=WG ok.nodup hc;rw[<-EK]at e';exact⟨u,⟨λz=>T7 (.inl q) z,λ_=>⟨c,e',e▸x.cell _ _ e'⟩⟩,r⟩
   . exact absurd ((af y).symm.trans q) (ok.ki y)⟩
  base:=λw o e=>keep w o (g.base w o e)
  os:=g.os
  gens:=g.gens
  frames:=by show A.frames.map _=_;rw[g.frames];rfl
  DT:=by
   refine bR4 (by rw[TF,<-ok.sc,ok.kind];decide) D2 x.toInCall.ns (nb _ (new _ Co)) ?_;exact bt6 (λb o e _=>⟨o,keep b o e,rfl⟩) g.DT
  Cy:=λA1 m=>by
   show A1∉C/\(A1∈env.locals::env.cells.map (·.2)->A1=env.locals)/\_;rw[RX,D2]at m;rcases Cj.mp m with e|m;. exact⟨e▸ag _ (new _ Co),λ_=>e,_,e▸KG,by unfold HC;rw[yk]⟩
   . refine Pq (g.Cy A1 m) ?_;intro q _ o ho hd;exact⟨q,λz=>(by rw[new A1 z]at ho;exact(BE ho).elim),o,keep _ _ ho,hd⟩
  mods:=g.mods
  handled:=g.handled
  depth:=by have :=g.depth;show A.depth+1+3*d<900;(with_reducible exact Mine.yK (by assumption) (by assumption) (by decide))
  units:=by have :=g.units;show A.units+3+10*d<9000;(with_reducible exact Mine.yK (by assumption) (by assumption) (by decide))}
theorem Ga.into(g:Ga B F K A H C s)(hd:K.d=d+1){fn:Fn}{o:Bi}(ok:FnAt B a fn o fd){b:I (U×V)}(hb:JI fn args=G b)(rs:Aa s.heap C args us){AS:Dt->AR->Prop}(D:∀{env:Gi}{AJ:AR},Gd B ⟨env,env.locals::env.cells.map (·.2),env::F.outs⟩ ⟨fn.sc,d⟩ (A.deeper env) ⟨b,H.h,H.n⟩ C AJ->(∀b o,s.heap.get? b=G o->AJ.heap.get? b=G o)->env.frame=G env.locals->(∀w∈env.locals::env.cells.map (·.2),s.heap.get? w=L)->D7 (AQ B.prog B.w) A (.func fn.body env) AS AJ):D7 (AQ B.prog B.w) A (.call (.ref a) ⟨us,[]⟩) AS s:=by
 refine G6 (ok.bind hb) ?_;intro hn hk bd;have yl:A.depth<recursionLimit:=by have :=g.depth;exact J0 (show _<900 by(with_reducible exact H3 (H4 _ _) (by assumption))) (by decide)
 refine codeAny_call_function yl (g.base a o ok.get) ok.data ok.co ok.gen ok.body (ok.code.keeps g.base) (bd g.base rs λKC Af L7 km=>?_);rw[ok.closure];refine wpAny_newFunctionEnv_cells ok.kind (λx hx=>?_) λenv he AJ x=>?_
 . have JP:x.1∈b.map (·.1):=by rw[<-km.keys];exact E0.mpr ⟨x,hx,rfl⟩
   rw[ok.sc];rcases hk x.1 JP with q|q;. exact .inl q
   . refine xE (TE fn.sc.names (Af.objs.size+1) [] x.1 (mem_of_lookup q)) ?_;intro c hc;refine .inr ⟨q,?_⟩;show((Jl (Af.objs.size+1) fn.sc.names []).lookup x.1).isSome=M;rw[WG ok.nodup hc];rfl
 . refine M9 (g.enter hd ok hn hk L7 km he x) ?_;intro AN keep D2 new;exact⟨ok.lim.keeps λw o e=>keep w o (g.base w o e),D AN keep D2 new⟩
theorem ah{fn:Fn}{o:Bi}(ok:FnAt B a fn o fd){b:I (U×V)}(hb:JI fn args=G b)(hd:K.d=d+1)(hf:f=.next/\v=.none\/f=.ret v)(D:∀{F:Fm}{A:CK}{C:I A8}{s:AR}{C4:I Gi},F.outs=F.env::C4->F.env.frame=G F.env.locals->Gd B F ⟨fn.sc,d⟩ A ⟨b,H.h,H.n⟩ C s->CJ B F ⟨fn.sc,d⟩ A AB C s (J3 fn.body F.env) (FR f))(g:Gd B F K A H C s)(rs:Aa s.heap C args us){AS:Dt->AR->Prop}(k:∀u AT s',Gd B F K A ⟨H.env,AB.h,AB.n⟩ AT s'->Nx F.D [] s.heap s'.heap C AT->VR s'.heap AT v u->AS (.ok (.ret u)) s'):D7 (AQ B.prog B.w) A (.call (.ref a) ⟨us,[]⟩) AS s:=by
 refine g.ga.into hd ok hb rs λ{env AJ}AN keep D2 new=>codeAny_func (D (C4:=F.outs) rfl D2 AN _ _ λu Au Ai AU Al BB=>?_);have xx:Nx F.D [] s.heap Ai.heap C Au:=by
   have y:=(Nx.ext (AM:=Fm.D ⟨env,env.locals::env.cells.map (·.2),env::F.outs⟩) (AZ:=[]) (C:=C) keep).kc (W':=env.locals::env.cells.map (·.2)) (λb m=>nomatch m)|>.trans Al;exact⟨y.pre,y.live,y.Bw,λb o e m _=>AC (y.same b o e m (λz=>by rw[new b z]at e;exact(BE e).elim)) λsl q r=>⟨sl,q,λhz=>r λz=>hz (Fm.yi D2 (λw=>by rw[new b (w▸Co)]at e;exact(BE e).elim) z)⟩⟩
 have gg:Gd B F K A ⟨H.env,AB.h,AB.n⟩ Au Ai:=g.back (A7:=⟨H.env,AB.h,AB.n⟩) xx AU.len AU.nodup AU.fresh AU.live AU.objs AU.base AU.os AU.gens (Cf.Gw g g.env xx);rcases hf with C9|rfl;refine xA C9 ?_;(try clear C9);intro Ck D8;subst Ck;subst D8;rotate_left;rotate_left;. exact k _ Au Ai gg xx (by cases BB;rfl)
 . refine AC BB ?_;(try clear BB);intro y B6 BB;subst B6;exact k _ Au Ai gg xx BB
theorem ak(A9:C5 B A3 n){fn:Fn}{o:Bi}(ok:FnAt B a fn o fd)(h:JK K (ev A3 n) fn args H=.ok (.v v) A7)(g:Gd B F K A H C s)(rs:Aa s.heap C args us){AS:Dt->AR->Prop}(k:∀u AT s',Gd B F K A A7 AT s'->Nx F.D [] s.heap s'.heap C AT->VR s'.heap AT v u->AS (.ok (.ret u)) s'):D7 (AQ B.prog B.w) A (.call (.ref a) ⟨us,[]⟩) AS s:=by
 refine A0.Bx h ?_;clear h;intro b hb h;have key:∃d f AB,K.d=d+1/\ev A3 n ⟨fn.sc,d⟩ (.ss fn.body) ⟨b,H.h,H.n⟩=.ok (.f f) AB/\(f=.next/\v=.none\/f=.ret v)/\A7=⟨H.env,AB.h,AB.n⟩:=by cases hd:K.d with
 |zero=>rw[hd]at h;exact(Ac h).elim|succ d=>
  rw[hd]at h;refine A0.Hx h ?_;clear h;intro f AB AP h;cases f with
 |ret w=>(first|(revert k;(first|apply BX h|apply B5 h|apply BY h|apply BZ h|apply B_ h);intro k)|apply BX h|apply B5 h|apply BY h|apply BZ h|apply B_ h);exact⟨d,_,AB,rfl,AP,.inr rfl,rfl⟩|next=>refine xA (FG h) ?_;intro q Bq;clear h k;subst Bq;injection q with q;exact⟨d,_,AB,rfl,AP,.inl ⟨rfl,q.symm⟩,rfl⟩|brk=>exact(Ac h).elim|cont=>exact(Ac h).elim
 refine JB key ?_;(try clear key);intro d f AB hd AP hf Bg;clear h;subst Bg;exact ah ok hb hd hf (λ_ _ g=>A9.ss AP g) g rs k
theorem ko(A9:C5 B A3 n){fn:Fn}{o:Bi}(ok:FnAt B a fn o fd)(h:JK K (ev A3 n) fn args H=.ok (.v v) A7)(g:Gd B F K A H C s)(rs:Aa s.heap C args us):Ae B F K A A7 C s (CE (.ref a) us) (RV v):=λA2 E k=>HQ (ak A9 ok h g rs λu AT s' g' x' r'=>k u AT s' g' x' r')
end
noncomputable def MV:MK->U->A4->A4->I A4->Prop
 |.str,m,u,f,first=>f=.builtin ("str."++m.toString)/\first=[u]|.lst,m,u,f,first=>f=.builtin ("list."++m.toString)/\first=[u]|.F1,m,u,f,first=>f=.builtin ("dict."++m.toString)/\first=[u]|.fn a,_,u,f,first=>f=.ref a/\first=[u]|.tup,_,_,f,first=>f=.builtin "tuple.__new__"/\first=[]
noncomputable def CW(Av:fb)(h:BK)(f:A4):Prop:=∃k,(k=Keeper.frame\/k=Keeper.machine\/k=Keeper.boundFrame)/\Gk Av h (keeperOf f) k
theorem CW.builtin{id:D9}:CW Av h (.builtin id):=⟨.machine,.inr (.inl rfl),bt7 rfl⟩
theorem CW.type{id:D9}:CW Av h (.type id):=⟨.machine,.inr (.inl rfl),bt7 rfl⟩
theorem CW.func{o:Bi}(e:h.get? a=G o)(d:o.data=.func fd):CW Av h (.ref a):=⟨.frame,.inl rfl,(Kj (part:=L) e).andThen (by rw[d];exact .now)⟩
structure TG(B:Bs)(A3:Mine.Ctx)(n:O):Prop where
 M_:∀{K:Kx}{f:V}{args:I V}{H A7:Mine.St}{v:V},ev A3 n K (.call f args) H=.ok (.v v) A7->∀{F:Fm}{A:CK}{C:I A8}{s:AR}{fu:A4},Gd B F K A H C s->VR s.heap C f fu->CW (AQ B.prog B.w) s.heap fu
 kq:∀{K:Kx}{kd:MK}{o:V}{m:U}{args:I V}{H A7:Mine.St}{v:V},ev A3 n K (.HW kd o m args) H=.ok (.v v) A7->∀{F:Fm}{A:CK}{C:I A8}{s:AR}{u fv:A4}{first:I A4},Gd B F K A H C s->MV kd m u fv first->CW (AQ B.prog B.w) s.heap fv
 HW:∀{K:Kx}{kd:MK}{o:V}{m:U}{args:I V}{H A7:Mine.St}{v:V},ev A3 n K (.HW kd o m args) H=.ok (.v v) A7->∀{F:Fm}{A:CK}{C:I A8}{s:AR}{u fv:A4}{first us:I A4},Gd B F K A H C s->MV kd m u fv first->VR s.heap C o u->Aa s.heap C args us->Ae B F K A A7 C s (CE fv (first++us)) (RV v)
noncomputable def kr(B:Bs)(A3:Mine.Ctx):Prop:=∀{F:Fm}{K:Kx}{A:CK}{H:Mine.St}{C:I A8}{s:AR}{v:V}{u:A4}{m:U}{kd:MK},Gd B F K A H C s->VR s.heap C v u->QF A3 v m H.h=G kd->∀pl A2 E,(∀fv first s',Gd B F K A H C s'->Nx F.D [] s.heap s'.heap C C->MV kd m u fv first->A2 (fv,first) s')->AH (AQ B.prog B.w) A (Jm u m pl) A2 E s
section
theorem WH:∀{l:I AA},l.all CP=M->(F9 pos (E' l env)).any (·.1)=A6
 |[],_=>rfl|x::l,h=>by
  rw[K8 (B1 h)];exact WH (l:=l) (Ak h)
theorem al{f:A4}{A2:Args->AR->Prop}(h:AH Av A (Lq []) (λvs s'=>A2 ⟨vs,[]⟩ s') E s):AH Av A (evalArgs f M [] []) A2 E s:=by
 unfold evalArgs;show AH Av A (Lq []>>=_) A2 E s;refine A5 (Fg h (λvs s' Q=>?_) λ_ _ x=>x);refine A5 (AW ?_);refine C0 ?_;exact A5 (AW (A5 (AW (AW Q))))
theorem kt{args:I AA}(hp:args.all CP=M)(h:∀p,Ae B F K A AB C s (Lq (F9 p (E' args F.env))) (OB vs))(hc:∀us A_ AJ,Gd B F K A AB A_ AJ->Nx F.D [] s.heap AJ.heap C A_->Aa AJ.heap A_ vs us->CW (AQ B.prog B.w) AJ.heap fv/\Ae B F K A A7 A_ AJ (CE fv (first++us)) (RV v)):Ae B F K A A7 C s (PZ pos fv first (F9 pos (E' args F.env)) []) (RV v):=by
 intro A2 E k;refine g6 (P:=λh=>CW (AQ B.prog B.w) h fv) (by rw[WH hp];rfl) (λh x=>x) ?_;have done:∀us A_ AJ,Gd B F K A AB A_ AJ->Nx F.D [] s.heap AJ.heap C A_->Aa AJ.heap A_ vs us->CW (AQ B.prog B.w) AJ.heap fv/\AH (AQ B.prog B.w) A (CE fv (first++us)) A2 E AJ:=λus A_ AJ AN Ab Aq=>by
  refine xA (hc us A_ AJ AN Ab Aq) ?_;intro c d;exact⟨c,d _ _ λu Au Ai AU Al BB=>k u Au Ai AU (Ab.trans Al) BB⟩
 cases args with
 |nil=>exact al (h pos _ E done)|cons x l=>
  have :=h pos _ E done;rw[K8 (B1 hp)]at this ⊢;exact tM this
set_option tactic.hygienic true in
theorem am{o:AA}{a:U}{w:Dz A4}(h:Vp o=M):attributeBase o a env w=w:=by
 cases o<;>first|rfl|skip
 rename_i f args kw pos;cases args with
 |nil=>exact(B0 h).elim|cons a l=>cases f<;>rfl
theorem ym(A9:C5 B A3 n)(Sc:TG B A3 n)(AS:kr B A3){o:AA}{m:U}{Fp:B9}{args:I AA}(h:Fq A3 K (ev A3 n) (.Call (.Attribute o m Fp) args [] pos) H=.ok (.v v) A7)(g:Gd B F K A H C s):Ae B F K A A7 C s (eval (.Call (.Attribute o m Fp) args [] pos) F.env) (RV v):=by
 refine A0.Be h ?_;clear h;intro hp h;refine A0.Be h ?_;clear h;intro hq h;simp only[D6]at hq;refine xA hq ?_;(try clear hq);intro Aw yn;refine xA Aw ?_;(try clear Aw);intro hs hl;refine A0.Cg h ?_;clear h;intro ov AB AP h;refine A0.Bx h ?_;clear h;intro kd BD h;refine A0.L8 h ?_;clear h;intro vs Bc C3 h;intro A2 E k;rw[bt8,am hs];refine A5 (A9.e AP g _ _ λu A_ AJ AN Ab Aq=>A5 (El ?_));have CH:bt9 (args.length+0) (F9 pos (E' args F.env)) (Ut pos (Uu [] F.env))=M:=by
  have e1:=WH (pos:=pos) (env:=F.env) hp;have e2:(F9 pos (E' args F.env)).all (λx=>!x.1)=M:=by
   rw[Bn];intro x hx;rw[YB]at e1;have :=e1 x hx;simpa using this
  have e3:args.length<30:=by have :=yn;simp only[G1]at this;exact Dk this
  show((F9 pos (E' args F.env)).all (λx=>!x.1)&&M&&decide (args.length+0+0<30))=M;rw[e2];simp[e3]
 show AH _ A (P_ o m Fp pos F.env u (args.length+0) (F9 pos (E' args F.env)) (Ut pos (Uu [] F.env))) A2 E AJ;unfold P_;rw[CH];refine A5 (C0 ?_);show AH _ A (Jm u m _) _ E AJ;refine AS AN Aq BD _ _ _ λfv first WF yo ky mv=>?_;show AH _ A (Jn M o F.env Fp pos>>=λp=>PZ p fv first (F9 pos (E' args F.env)) []) A2 E WF;have OG:Jn M o F.env Fp pos=pure pos:=by
  unfold Jn;have :(Fp.endLine==pos.line)=M:=by simpa using hl
  rw[this];rfl
 rw[OG];refine A5 (AW ?_);exact kt (A7:=A7) hp (λp=>A9.N C3 p yo) (λus Au Ai AU Al BB=>⟨Sc.kq h AU mv,(Sc.HW h AU mv ((Aq.nx ky).nx Al) BB)⟩) A2 E λy BS Ax Ap B8 BQ=>k y BS Ax Ap (Ab.trans (ky.trans B8)) BQ
theorem yp(A9:C5 B A3 n)(Sc:TG B A3 n){f:AA}{args:I AA}(hf:∀o m p,f≠.Attribute o m p)(hp:args.all CP=M)(h:((ev A3 n K (.e f) H).V λfv H=>(ev A3 n K (.N args) H).A1 λvs H=>ev A3 n K (.call fv vs) H)=.ok (.v v) A7)(g:Gd B F K A H C s):Ae B F K A A7 C s (eval (.Call f args [] pos) F.env) (RV v):=by
 refine A0.Cg h ?_;clear h;intro fv AB AP h;refine A0.L8 h ?_;clear h;intro vs Bc BD h;intro A2 E k;have e:eval (.Call f args [] pos) F.env=(do PZ pos (<-eval f F.env) [] (F9 pos (E' args F.env)) []):=by cases f<;>first|rfl|exact absurd rfl (hf _ _ _)
 rw[e];refine A5 (A9.e AP g _ _ λu A_ AJ AN Ab Aq=>?_);exact kt (A7:=A7) (first:=[]) hp (λp=>A9.N BD p AN) (λus Au Ai AU Al BB=>⟨Sc.M_ h AU (Aq.nx Al),(A9.call h AU (Aq.nx Al) BB)⟩) A2 E λy BS Ax Ap B8 BQ=>k y BS Ax Ap (Ab.trans B8) BQ
end
noncomputable def kz(C_:AA)(gens:I FP)(sc:BU)(pos:B9)(depth:O)(it Am:A4)(env:Gi)(g':FP)(x:A4):Dz Fin:=Hg [x] (if g'.is_async !=0 then asyncIter x else PV x)>>=λW0=>runOwn (.compStart (.ListComp C_ gens sc pos) (depth+1) W0 Am env) env>>=λ_=>Kk (.compLoop (.ListComp C_ gens sc pos) depth it Am env)
noncomputable def ao(C_:AA)(gens:I FP)(sc:BU)(pos:B9)(depth:O)(it Am:A4)(env:Gi)(o:AD FP)(ok:AK):Dz Fin:=if ok then(match o with
 |some g'=>eval g'.iter env>>=λx=>Ki g'.iter.pos>>=λ_=>if g'.is_async !=0 then foldedIterable g'.iter x>>=kz C_ gens sc pos depth it Am env g' else tD g'.iter env x>>=kz C_ gens sc pos depth it Am env g'|none=>do
 (do let _<-call (.builtin "list.append") [Am,<-eval C_ env])Kk (.compLoop (.ListComp C_ gens sc pos) depth it Am env))else Kk (.compLoop (.ListComp C_ gens sc pos) depth it Am env)
theorem l3{it Am:A4}(hg:gens[depth]?=G g)(ha:g.is_async=0):Uv (.ListComp C_ gens sc pos) depth it Am env=(Ki g.iter.pos>>=λ_=>ES it>>=λr=>match r with
 |none=>pure (.done .next)|some v=>Y7 g.target it v>>=λ_=>Ex g.target env v>>=λ_=>forIn g.ifs M (λc r=>if r=M then do let ok<-NT c env (eval c env);pure (G3 ok)else pure (G3 r))>>=ao C_ gens sc pos depth it Am env gens[depth+1]?):=by
 unfold Uv;simp only[hg,ha];rfl
section
theorem l4(A9:C5 B A3 n){l:I AA}(h:a8 (ev A3 n K) l H=.ok (.b b) A7)(g:Gd B F K A H C s):Ae B F K A A7 C s (forIn l M λc r=>if r=M then do let ok<-bu0 c F.env (eval c F.env);pure (G3 ok)else pure (G3 r)) (RB b):=by
 intro A2 E k;cases l with
 |nil=>
  (first|(revert k;(first|apply BX h|apply B5 h|apply BY h|apply BZ h|apply B_ h);intro k)|apply BX h|apply B5 h|apply BY h|apply BZ h|apply B_ h);exact wpAny_tests_nil (k _ C s g (Nx.refl ..) rfl)|cons c l=>cases l with
 |cons _ _=>exact(Ac h).elim|nil=>exact wpAny_tests_one (A9.t h g _ _ k)
theorem l5(r:E6 s.heap C it i AE)(h:A2 (.ref AE) s):AH (AQ B.prog B.w) A (PV (.ref AE)) A2 E s:=by cases it with
 |tup Y=>refine Bv r ?_;(try clear r);intro T us _ hi _;exact wpAny_pyIter_tupleiter hi h|HA lo hi=>refine AC r ?_;(try clear r);intro l hi _;exact wpAny_pyIter_rangeiter hi h|lst k=>refine AC r ?_;(try clear r);intro a _ hi;exact wpAny_pyIter_listiter hi h|keys k n=>refine AC r ?_;(try clear r);intro a _ hi;exact wpAny_pyIter_keyiter hi h|K3 s=>exact r.elim
theorem l6{Am:A4}{AS:Dt->AR->Prop}(hg:gens[depth]?=G g)(ha:g.is_async=0)(r:E6 s.heap C it i AE)(h:D7 (AQ B.prog B.w) A (.compLoop (.ListComp C_ gens sc pos) depth (.ref AE) Am env) AS s):D7 (AQ B.prog B.w) A (.compStart (.ListComp C_ gens sc pos) depth (.ref AE) Am env) AS s:=by
 refine Rc ?_;show AH _ A ((g7 (.ListComp C_ gens sc pos) depth (.ref AE) Am env).onRaise (λx=>do IF x env;Ki bu1)) _ _ s;refine bu2 ?_;unfold g7;have e:(clausesOf (.ListComp C_ gens sc pos))[depth]?=G g:=hg;simp only[e,bu3,ha,YC,Kl,Km];refine A5 (Rd (g8 ?_));split;. exact AW (Rf rfl h)
 . exact A5 (Gm (A5 (El (A5 (l5 r (AW (Rf rfl h)))))))
noncomputable def Gx(B:Bs)(F:Fm)(C:I A8)(h:BK)(D:A8)(Am:I V):Prop:=CM B F C h D/\∃us,h.PlainList D us/\Aa h C Am us.toList
theorem Gx.nx(f:Gx B F C h D Am)(x:Nx AM AZ h Q C AT)(hw:D∉AZ):Gx B F AT Q D Am:=by
 refine Hp f ?_;(try clear f);intro fr us B6 v;refine xE B6 ?_;(try clear B6);intro n e;exact⟨fr.nx x,us,⟨n,x.keep D _ e fr.C hw (λ_=>rfl)⟩,v.nx x⟩
theorem Gx.but(f:Gx B F C h D Am)(k:Ds AE h Q)(im:Dw h Q)(ne:D≠AE):Gx B F C Q D Am:=by
 refine Hp f ?_;(try clear f);intro fr us BJ v;refine xE BJ ?_;(try clear BJ);intro n e;exact⟨fr.at ⟨_,k D _ ne e⟩,us,⟨n,k D _ ne e⟩,v.Bw im⟩
structure OH(B:Bs)(A3:Mine.Ctx)(n:O):Prop where GU:∀{K:Kx}{C_:AA}{g:FP}{gens:I FP}{it:It}{i:O}{Am l:I V}{H A7:Mine.St},ev A3 n K (.GU C_ g gens it i Am) H=.ok (.vs l) A7->∀{G_:I FP}{sc:BU}{pos:B9}{depth:O},G_.drop depth=g::gens->g.is_async=0->∀{F:Fm}{A:CK}{C BG:I A8}{s:AR}{Af:BK}{AE D:A8}{AS:Dt->AR->Prop},Gd B F K A H C s->Nx F.D (D::F.AZ) Af s.heap BG C->Af.get? AE=L->CM B F C s.heap AE->E6 s.heap C it i AE->Gx B F C s.heap D Am->D≠AE->(∀AT s',Gd B F K A A7 AT s'->Nx F.D (D::F.AZ) Af s'.heap BG AT->Gx B F AT s'.heap D l->AS (.ok .next) s')->D7 (AQ B.prog B.w) A (.compLoop (.ListComp C_ G_ sc pos) depth (.ref AE) (.ref D) F.env) AS s
set_option tactic.hygienic true in
theorem QO(h:ML g=M):CP g.iter=M/\g.is_async=0:=by
 unfold ML at h;simp only[D6]at h;refine⟨h.1,?_⟩;have :=h.2;split at this;. rename_i e;exact e
 . exact(E5 this).elim
theorem yq(x:Nx AM AZ h Q C AT):Nx AM (D::AZ) h Q C AT:=x.kc λ_ m=>Cp _ m
theorem yr(A9:C5 B A3 n)(SL:OH B A3 n){l:I V}(h:step A3 K (ev A3 n) (.GU C_ g gens it i Am) H=.ok (.vs l) A7){G_:I FP}(hd:G_.drop depth=g::gens)(ha:g.is_async=0){AS:Dt->AR->Prop}(Bl:Gd B F K A H C s)(Cq:Nx F.D (D::F.AZ) Af s.heap BG C)(hI:Af.get? AE=L)(fr:CM B F C s.heap AE)(r:E6 s.heap C it i AE)(ac:Gx B F C s.heap D Am)(ne:D≠AE)(k:∀AT s',Gd B F K A A7 AT s'->Nx F.D (D::F.AZ) Af s'.heap BG AT->Gx B F AT s'.heap D l->AS (.ok .next) s'):D7 (AQ B.prog B.w) A (.compLoop (.ListComp C_ G_ sc pos) depth (.ref AE) (.ref D) F.env) AS s:=by
 have hg:G_[depth]?=G g:=by have :=congrArg (·[0]?) hd;simpa using this
 have l7:G_[depth+1]?=gens[0]?:=by have :=congrArg (·[1]?) hd;simpa using this
 have yt:G_.drop (depth+1)=gens:=by have :=congrArg (bu4 1) hd;simpa[bu5]using this
 refine A0.Bx h ?_;clear h;intro o AP h;refine fk rfl (λ_ s'=>s'=s) (λn s' e=>?_) 0 rfl;subst e;show AH _ A ((Uv (.ListComp C_ G_ sc pos) depth (.ref AE) (.ref D) F.env).onRaise (λx=>do IF x F.env;fq x)) _ _ _;refine fw ?_;cases o with
 |none=>
  (first|(revert k;(first|apply BX h|apply B5 h|apply BY h|apply BZ h|apply B_ h);intro k)|apply BX h|apply B5 h|apply BY h|apply BZ h|apply B_ h);have fin:∀Q tk,Gd B F K A H C {s' with heap:=Q,toks:=tk}->Ds AE s'.heap Q->AS (.ok .next) {s' with heap:=Q,toks:=tk}:=λQ tk AN DU=>by
   have hc:∀o,s'.heap.get? AE=G o->C2 o=A6:=λo e=>by
    refine JB r.cls ?_;intro o' nm vs e' c d hn;rw[e']at e;injection e with e;subst e;unfold C2;rw[c];rcases hn with rfl|rfl|rfl|rfl<;>rfl
   exact k C _ AN (Cq.F2 DU hI) (ac.but DU (Gu DU hc) ne)
  rw[l3 hg ha];exact A5 (El (A5 (K9 Bl fr r AP (λx hx=>by exact(BE hx).elim) λ_ Q tk AN DU=>AW (fin Q tk AN DU))))|some x=>
  refine A0.Be h ?_;clear h;intro hf h;simp only[D6]at hf;refine xA hf ?_;(try clear hf);intro hf yu;refine A0.Hx h ?_;clear h;intro _ Bc BD h;refine A0.OD h ?_;clear h;intro b GY C3 h;have hc:∀o,s'.heap.get? AE=G o->C2 o=A6:=λo e=>by
   refine JB r.cls ?_;intro o' nm vs e' c d hn;rw[e']at e;injection e with e;subst e;unfold C2;rw[c];rcases hn with rfl|rfl|rfl|rfl<;>rfl
  have l8:AE∉D::F.AZ:=λm=>by
   rcases Cj.mp m with e|e;. exact ne e.symm
   . exact fr.w e
  rw[l3 hg ha];refine A5 (El (A5 (K9 Bl fr r AP (λy hy u Q tk AN DU Eo Aq Hy=>?_) λhx=>by(exfalso;cases hx))));injection hy with hy;subst hy;refine A5 (QN Aq (A5 (A9.asg BD AN Hy _ _ λ_ Au Ai AU Al _=>?_)));refine A5 (l4 A9 C3 AU _ _ λMZ BS Ax Ap B8 BQ=>?_);clear C3;subst BQ;have xx:=Al.trans B8.FZ;have Ep:=(Cq.F2 DU hI).trans (yq xx);have EF:=Eo.nx xx;have BQ:=Aq.nx xx Eo.C Eo.w;have WI:=(ac.but DU (Gu DU hc) ne).nx xx (ac.but DU (Gu DU hc) ne).1.w;cases MZ with
 |false=>exact AW (.inr ⟨rfl,SL.GU h hd ha Ap Ep hI EF BQ WI ne k⟩)|true=>cases gens with
 |nil=>
    rw[show G_[depth+1]?=L from l7,show ao C_ G_ sc pos depth (.ref AE) (.ref D) F.env L M=_ from DA rfl];refine A0.Cg h ?_;clear h;intro v l9 FH h;refine A5 (A5 (A9.e FH Ap _ _ λu Ie EG CA Cz JQ=>?_));have lA:=WI.nx Cz (by simp);have LA:=EF.nx Cz;have HZ:=BQ.nx Cz EF.C (by simp);refine Hp lA ?_;(try clear lA);intro fD us hp vr;have Ee:us.size<=FA:=by
     have e1:=vr.length;have e2:Am.length<=100000:=Dk hf;simp at e1;exact B4 (show _<=100000 by(with_reducible exact Mine.yS (by assumption) (by assumption))) (by decide)
    refine A5 (wpAny_list_append_plain hp (λQ FI Df=>AW (AW ?_)) Ee);have TH:∀o,EG.heap.get? D=G o->C2 o=A6:=λo e=>by refine xE hp ?_;(try clear hp);intro m e';rw[e']at e;injection e with e;subst e;rfl
    have im:=Gu Df.extBut TH;have Cn:=CA.move (Q:=Q) (tk:=EG.toks) fD Df.extBut TH;have xD:Nx F.D (D::F.AZ) EG.heap Q Ie Ie:=Nx.but (.inr Co) Df.extBut TH (by refine xE FI ?_;(try clear FI);intro m e;exact⟨_,e⟩);have yv:=(Ep.trans Cz.FZ).trans xD;refine .inr ⟨rfl,SL.GU h hd ha Cn yv hI (LA.nx xD) (HZ.nx xD LA.C l8) ⟨fD.nx xD,_,FI,?_⟩ ne k⟩;have :=(vr.Bw im).app (v':=[v]) (u':=[u]) ⟨u,[],rfl,JQ.Bw im,rfl⟩;simpa using this|cons g' kK=>
    refine xA (QO yu) ?_;intro FI Fs;refine A0.Cg h ?_;clear h;intro w l9 FH h;refine A0.Bx h ?_;clear h;intro W0 Ma h;refine A0.L8 h ?_;clear h;intro Ig bO3 TJ h;have hl:G_[depth+1]?=G g':=by rw[l7];rfl
    rw[hl];rw[show ao C_ G_ sc pos depth (.ref AE) (.ref D) F.env (G g') M=_ from DA rfl];have na:¬(g'.is_async !=0)=M:=by rw[Fs];exact NX
    refine A5 (A9.e FH Ap _ _ λu Ie EG CA Cz JQ=>A5 (El (Pa (λz=>absurd z na) λ_=>A5 (NY (QL FI u) (A5 (C0 (Pa (λz=>absurd z na) λ_=>OF CA JQ Ma λI' Q tk Cn EL WJ WK WL=>?_)))))));have yw:=(WI.nx Cz (by simp)).nx EL (by simp);have Mb:D≠I':=λz=>by refine xE ((WI.nx Cz (by simp)).1.live) ?_;intro o e;rw[z,WJ]at e;exact(BE e).elim
    refine A5 (Y8 (wpAny_run (l6 (A:=A) hl Fs WL (SL.GU TJ (G_:=G_) (depth:=depth+1) yt Fs (Af:=EG.heap) (BG:=Ie) Cn (EL.FZ) WJ WK WL yw Mb λWM TK Gb GG yx=>?_))));have LA:=EF.nx Cz;have HZ:=BQ.nx Cz EF.C (by simp);exact AW (.inr ⟨rfl,SL.GU h hd ha Gb ((Ep.trans Cz.FZ).trans GG) hI (LA.nx GG) (HZ.nx GG LA.C l8) yx ne k⟩)
end
set_option tactic.hygienic true in
theorem aq:∀{l:I (U×J)},Sp l=M->(l.map (·.1)).Nodup
 |[],_=>HN|p::l,h=>by
  unfold Sp at h;split at h
  . rename_i e;refine EU.mpr ⟨λm=>?_,aq h⟩;refine AC (E0.mp m) ?_;intro q hq e';rw[a_]at e;have :∀{r:I (U×J)},q∈r->r.lookup p.1≠L:=λ{r}hr=>by induction r with
 |nil=>(exfalso;cases hr)|cons a r ih=>
     obtain⟨k,v⟩:=a;rw[PX];cases hb:p.1==k with
 |true=>simp|false=>
     rcases Cj.mp hr with z|z;. rw[z]at e';simp only at e';rw[e']at hb;simp at hb
     . exact ih z
    exact this hq e
  . exact(E5 h).elim
noncomputable def Er(env:Gi):I (U×E3)->I (U×A8)->I (U×A8)
 |[],Am=>Am|(x,k)::r,Am=>if k==.free then Er env r ((x,(env.cells.lookup x).getD 0)::Am)else Er env r Am
theorem ar:∀(names:I (U×E3))(Am:I (U×A8)),(∀x,(x,GL)∈names->∃c,env.cells.lookup x=G c)->(forIn names Am λ(x:U×E3)(cs:I (U×A8))=>(if(x.2==.free)=M then(do let c<-Uw env x.1;pure (G3 ((x.1,c)::cs)))else pure (G3 cs):Dz (tN (I (U×A8)))))=pure (Er env names Am)
 |[],Am,_=>by simp[Er]|(x,k)::r,Am,h=>by
  have hr:=λy(m:(y,GL)∈r)=>h y (Cp _ m);rw[Rg];unfold Er;by_cases q:k=.free
  . subst q;refine xE (h x Co) ?_;intro c e;have e1:Uw env x=pure c:=by unfold Uw;rw[e]
    simp only[g9,Kn,e1,e,Option.getD_some];exact ar r _ hr
  . have q':(k==GL)=A6:=by simpa using q
    simp only[q',Kl,Km];exact ar r _ hr
theorem WN(h:∀x,(x,GL)∈sc.names->∃c,env.cells.lookup x=G c):closureFor sc env=pure (Er env sc.names []):=by
 have :=ar sc.names [] h;unfold closureFor;show(forIn sc.names [] (λ(x:U×E3)(cs:I (U×A8))=>match x with|(name,kind)=>if(kind==GL)=M then(do let c<-Uw env name;pure (G3 ((name,c)::cs)))else pure (G3 cs))>>=λcs=>pure cs)=_;have e:(λ(x:U×E3)(cs:I (U×A8))=>(match x with|(name,kind)=>if(kind==.free)=M then(do let c<-Uw env name;pure (G3 ((name,c)::cs)))else pure (G3 cs):Dz (tN (I (U×A8)))))=λx cs=>if(x.2==.free)=M then(do let c<-Uw env x.1;pure (G3 ((x.1,c)::cs)))else pure (G3 cs):=by funext x cs;obtain⟨n,k⟩:=x;rfl
 rw[e,this];rfl
set_option tactic.hygienic true in
theorem QP:∀{names:I (U×E3)}{Am:I (U×A8)}{x:U}{c:A8},(∀x,(x,GL)∈names->∃c,env.cells.lookup x=G c)->(x,c)∈Er env names Am->(x,c)∈Am\/env.cells.lookup x=G c
 |[],_,_,_,_,h=>.inl h|(y,k)::r,Am,x,c,hh,h=>by
  have hr:=λy(m:(y,GL)∈r)=>hh y (Cp _ m);unfold Er at h;split at h
  . rename_i q;have q:k=.free:=by simpa using q
    subst q;rcases QP hr h with z|z
    . rcases Cj.mp z with e|e
      . injection e with e1 e2;subst e1;subst e2;refine xE (hh x Co) ?_;intro c e;rw[e];exact .inr rfl
      . exact .inl e
    . exact .inr z
  . exact QP hr h
theorem au:∀{names:I (U×E3)}{Am:I (U×A8)}{p:U×A8},p∈Am->p∈Er env names Am
 |[],_,_,h=>h|(y,k)::r,Am,p,h=>by
  unfold Er;split;. exact au (Cp _ h)
  . exact au h
theorem av:∀{names:I (U×E3)}{Am:I (U×A8)}{x:U},(x,GL)∈names->∃c,(x,c)∈Er env names Am
 |(y,k)::r,Am,x,h=>by
  unfold Er;rcases Cj.mp h with e|e
  . injection e with e1 e2;subst e1;subst e2;skip;exact⟨_,au Co⟩
  . split;. exact av e
    . exact av e
theorem aw:∀{names:I (U×E3)}{Am:I (U×A8)},(names.map (·.1)).Nodup->(Am.map (·.1)).Nodup->(∀x∈names.map (·.1),x∉Am.map (·.1))->((Er env names Am).map (·.1)).Nodup
 |[],_,_,h,_=>h|(y,k)::r,Am,hn,ha,hd=>by
  refine xA (EU.mp hn) ?_;intro h1 h2;unfold Er;split
  . refine aw h2 (EU.mpr ⟨hd y Co,ha⟩) λx hx hm=>?_;rcases Cj.mp hm with q|q;. exact h1 (q▸hx)
    . exact hd x (Cp _ hx) q
  . exact aw h2 ha λx hx=>hd x (Cp _ hx)
theorem lB:∀{l:I (U×J)}{x:U}{c:J},(x,c)∈l->∃c',l.lookup x=G c'
 |(k,v)::r,x,c,h=>by
  rw[PX];cases hb:x==k with
 |true=>exact⟨v,rfl⟩|false=>
  rcases Cj.mp h with q|q;. injection q with q _;subst q;simp at hb
  . exact lB q
theorem ax{env:Gi}{x:U}:∀{names:I (U×E3)},(names.map λ(n,k)=>if(k==GL&&env.scope.kind==.function&&env.kindOf n==G .cell)then(n,bu6)else(n,k)).lookup x=match names.lookup x with
  |none=>L|some k=>G (if(k==GL&&env.scope.kind==.function&&env.kindOf x==G .cell)then .cell else k)
 |[]=>rfl|(n,k)::r=>by
  have ih:=ax (env:=env) (x:=x) (names:=r);skip;show gA x ((if(k==GL&&env.scope.kind==.function&&env.kindOf n==G .cell)=M then(n,bu6)else(n,k))::_)=_;by_cases hx:x=n
  . subst hx;by_cases hc:(k==GL&&env.scope.kind==.function&&env.kindOf x==G .cell)=M;. rw[DA hc];simp[PX,hc]
    . rw[CS hc];simp[PX,hc]
  . have JP:(x==n)=A6:=by simpa using hx
    by_cases hc:(k==GL&&env.scope.kind==.function&&env.kindOf n==G .cell)=M;. rw[DA hc];simp only[PX,JP];exact ih
    . rw[CS hc];simp only[PX,JP];exact ih
section
theorem Gd.leave(AN:Gd B F K A H A_ AJ){A1:A8}(hW:F'.AZ=[A1])(g':Gd B F' K' A' A7 AT s')(TL:AJ.heap.get? A1=L)(TM:AJ.heap.get? D=L)(x:Nx F.D (D::F'.AZ) AJ.heap s'.heap A_ AT)(fD:CM B F' AT s'.heap D)(hs:E4 A1 s'.heap Q)(I0:∀o,s'.heap.get? A1=G o->C2 o=A6)(ho:Ca B.prog B.w Q (AT++[D]) D o):Gd B F K A (Mine.St.new ⟨H.env,A7.h,A7.n⟩ o).2 (AT++[D]) {s' with heap:=Q}/\Nx F.D [] AJ.heap Q A_ (AT++[D]):=by
 refine G6 (g'.D5 A1 (by rw[hW];simp)) ?_;intro QQ OI _;have KH:D≠A1:=λz=>fD.w (by rw[hW,z];simp);have k:Ds A1 s'.heap Q:=hs.extBut;have im:=Gu k I0;have ne:∀{b:A8}{o:Bi},AJ.heap.get? b=G o->b≠A1/\b≠D:=λe=>⟨λz=>by(rw[z,TL]at e;exact(BE e).elim),λz=>by(rw[z,TM]at e;exact(BE e).elim)⟩;have nW:∀{b:A8}{o:Bi},AJ.heap.get? b=G o->b∉D::F'.AZ:=λe m=>by
   rw[hW]at m;rcases Cj.mp m with z|z;. exact(ne e).2 z
   . exact(ne e).1 (CI.mp z)
 have xx:Nx F.D [] AJ.heap Q A_ (AT++[D]):=by
   refine AC x.pre ?_;intro J e hb;refine⟨⟨J++[D],by rw[e,Uq],λb m=>?_⟩,λb o q=>?_,λb o q c=>k b o (ne q).1 (x.Bw b o q c),λb o q m _=>let⟨sl,z,r⟩:=x.same b o q m (nW q);⟨sl,k b _ (ne q).1 z,r⟩⟩
   . rcases Dr.mp m with m|m;. exact hb b m
     . rw[CI.mp m];exact TM
   . refine xE (x.live b o q) ?_;intro o' q';exact⟨o',k b o' (ne q).1 q'⟩
 refine xE fD.live ?_;intro oD eD;refine⟨AN.back (s':={s' with heap:=Q}) (A7:=(Mine.St.new ⟨H.env,A7.h,A7.n⟩ o).2) xx (by simp[Mine.St.new,g'.len]) ?_ ?_ ?_ ?_ (λb p e=>k b p (λz=>by rw[z,QQ]at e;exact(BE e).elim) (g'.base b p e)) g'.os g'.gens (Cf.Gw AN AN.env xx),xx⟩
 . refine IE.mpr ⟨g'.nodup,by simp,λa ha b hb e=>?_⟩;rw[CI.mp hb]at e;exact fD.C (e▸ha)
 . intro a m;rcases Dr.mp m with m|m;. exact g'.fresh a m
   . rw[CI.mp m];exact fD.base
 . intro a m;rcases Dr.mp m with m|m;. refine xE (g'.live a m) ?_;intro p e;exact⟨p,k a p (λz=>OI (z▸m)) e⟩
   . rw[CI.mp m];exact⟨oD,k D oD KH eD⟩
 . intro i p e;simp only[Mine.St.new,AL]at e;cases q:BC A7.n i with
 |true=>
     rw[q]at e;injection e with e;subst e;have :=CD q;exact⟨D,by rw[<-this,<-g'.len];simp,ho⟩|false=>
     rw[q]at e;refine AC (g'.objs i p e) ?_;intro b q r;exact⟨b,FY q,r.mono im λy=>k b y λz=>OI (z▸Ew q)⟩
theorem GA.comp(kd:GA K F){env:I (U×V)}(hs:Ky K.sc sc env=M){A1:A8}{CV:Gi}(he:CV={scope:=tO sc F.env,locals:=A1,globals:=F.env.globals,cells:=Er F.env sc.names [],qual:=F.env.qual,func:=L,code:=F.env.code,frame:=F.env.frame,builtins:=F.env.builtins})(hL:∀c∈F.env.cells,c.2≠A1):GA ⟨sc,K.d⟩ ⟨CV,[A1],F.outs⟩/\sc.kind=.function/\(∀x∈sc.names,x.2≠.cell)/\(∀x,(x,GL)∈sc.names->∃c,F.env.cells.lookup x=G c)/\(∀x∈sc.names,x.2=.local->sc.names.lookup x.1=G .local)/\(∀x,sc.names.lookup x=G .local->Ah env x=L)/\(∀x,sc.names.lookup x=G .free->(F.env.kindOf x=G .cell\/F.env.kindOf x=G .free)/\∃c,F.env.cells.lookup x=G c/\(Er F.env sc.names []).lookup x=G c):=by
 unfold Ky at hs;simp only[D6]at hs;refine xA hs ?_;(try clear hs);intro Aw OJ;refine xA Aw ?_;(try clear Aw);intro GC QR;obtain⟨hk,LB⟩:=GC;have hk:sc.kind=.function:=by
   revert hk;cases sc.kind<;>intro hk<;>first|rfl|exact(E5 hk).elim
 have QR:=aq QR;have all:∀x k,(x,k)∈sc.names->(k=.local/\Ah env x=L)\/(k=.free/\a7 K.sc x=M)\/k=.globalImplicit:=λx k m=>by
   have :=(Bn.mp OJ) _ m;cases k<;>simp only at this;all_goals first|(first|exact(E5 this).elim|cases this)|skip
   . left;refine⟨rfl,?_⟩;split at this<;>first|assumption|exact(E5 this).elim
   . right;left;exact⟨rfl,this⟩
   . right;right;rfl
 have free:∀x,(x,GL)∈sc.names->(F.env.kindOf x=G .cell\/F.env.kindOf x=G .free)/\∃c,F.env.cells.lookup x=G c:=λx m=>by
   rcases all x _ m with B6|BJ|q;refine xA B6 ?_;(try clear B6);intro q _;rotate_left;refine xA BJ ?_;(try clear BJ);intro _ q;rotate_left;rotate_left;. (exfalso;cases q)
   . exact kd.cf x q
   . (exfalso;cases q)
 have D2:∀x,(x,GL)∈sc.names->∃c,F.env.cells.lookup x=G c:=λx m=>(free x m).2;have cl:∀x c,(x,c)∈Er F.env sc.names []->F.env.cells.lookup x=G c:=λx c m=>by
   rcases QP D2 m with z|z;. simp at z
   . exact z
 have lD:∀x,(x,GL)∈sc.names->∃c,F.env.cells.lookup x=G c/\(Er F.env sc.names []).lookup x=G c:=λx m=>by
   refine xE (av (env:=F.env) (Am:=[]) m) ?_;intro c hc;refine xE (lB hc) ?_;intro c' GD;exact⟨c',cl x c' (mem_of_lookup GD),GD⟩
 have kdOf:∀x,CV.kindOf x=match sc.names.lookup x with
 |none=>L|some k=>G (if(k==GL&&F.env.scope.kind==.function&&F.env.kindOf x==G .cell)then .cell else k):=λx=>by rw[he];exact ax
 refine⟨{
   fn:=by rw[he];exact hk
   sc:=LB
   kd:=λx k hx=>?_
   g3:=by rw[he];exact kd.g3
   b0:=by rw[he];exact kd.b0
   cells:=?_
   Ia:=by rw[he];simp
   MT:=λc m=>by rw[he]at m ⊢;exact hL _ (mem_of_lookup (cl c.1 c.2 m))},hk,λx m z=>?_,D2,λx m z=>?_,λx hx=>?_,λx hx=>⟨(free x (mem_of_lookup hx)).1,lD x (mem_of_lookup hx)⟩⟩
 . rw[a_]at hx;have e:=kdOf x;rw[hx]at e;refine(all x k (mem_of_lookup hx)).elim (λz=>?_) λz=>z.elim (λz=>?_) λz=>?_;. rw[z.1]at e ⊢;exact e
   . rw[z.1]at e hx ⊢;refine AC (lD x (mem_of_lookup hx)) ?_;intro c _ hc;refine⟨?_,c,by rw[he];exact hc⟩;dsimp only at e;split at e;. exact .inl e
     . exact .inr e
   . rw[z]at e ⊢;exact e
 . rw[he];show(Er F.env sc.names []).Pairwise λx y=>x.2≠y.2;have KI:=aw (env:=F.env) (Am:=[]) QR HN λ_ _ m=>by simp at m
   have hp:(Er F.env sc.names []).Pairwise λx y=>x.1≠y.1:=gB.mp KI;refine bR5 (λ{a b}ha hb Gc z=>?_) hp;exact Gc (name_of_addr kd.cells (mem_of_lookup (cl a.1 a.2 ha)) (by rw[z];exact mem_of_lookup (cl b.1 b.2 hb)))
 . obtain⟨y,k⟩:=x;simp only at z;subst z;(rcases all y _ m with D8|DX|q;refine xA D8 ?_;(try clear D8);intro q _;rotate_left;refine xA DX ?_;(try clear DX);intro q _;rotate_left;rotate_left)<;>(exfalso;cases q)
 . obtain⟨y,k⟩:=x;simp only at z ⊢;subst z;exact ae QR m
 . rcases all x _ (mem_of_lookup hx)with Ed|FE|q;refine xA Ed ?_;(try clear Ed);intro _ q;rotate_left;refine xA FE ?_;(try clear FE);intro q _;rotate_left;rotate_left;. exact q
   . (exfalso;cases q)
   . (exfalso;cases q)
end
section
noncomputable def TN(F:Fm)(sc:BU)(A1:A8):Gi:={scope:=tO sc F.env,locals:=A1,globals:=F.env.globals,cells:=Er F.env sc.names [],qual:=F.env.qual,func:=L,code:=F.env.code,frame:=F.env.frame,builtins:=F.env.builtins}
noncomputable def I1(F:Fm)(sc:BU)(A1:A8):Fm:=⟨TN F sc A1,[A1],F.outs⟩
theorem Gd.comp(g:Gd B F K A H C s)(hs:Ky K.sc sc H.env=M){A1:A8}(hL:s.heap.get? A1=L)(k:∀b o,s.heap.get? b=G o->Q.get? b=G o)(ns:Q.Ns A1 λ_=>L):Gd B (I1 F sc A1) ⟨sc,K.d⟩ A H C {s with heap:=Q,toks:=tk}:=by
 have new:∀{b:A8}{o:Bi},s.heap.get? b=G o->b≠A1:=λe z=>by rw[z,hL]at e;exact(BE e).elim
 have QQ:B.base.get? A1=L:=by cases e:B.base.get? A1 with
 |none=>rfl|some o=>have :=g.base A1 o e;rw[hL]at this;exact(BE this).elim
 have WO:∀c∈F.env.cells,c.2≠A1:=λc m=>by refine H9 (g.D1 c m) ?_;intro _ o e;exact new e
 refine iM (g.kinds.comp hs (A1:=A1) rfl WO) ?_;intro kd hk Mc D2 Md OK yy;have cl:∀x c,(x,c)∈Er F.env sc.names []->F.env.cells.lookup x=G c:=λx c m=>by
  rcases QP D2 m with z|z;. simp at z
  . exact z
 have im:Dw s.heap Q:=λb o e _=>k b o e;refine Hq (id ns) ?_;intro oL _ _ eL _;refine CZ g.env ?_;intro m _ ce r;exact{
  kinds:=kd
  len:=g.len
  nodup:=g.nodup
  fresh:=g.fresh
  live:=λa m=>by refine xE (g.live a m) ?_;intro o e;exact⟨o,k a o e⟩
  D5:=λa m=>by
   rw[CI.mp m];exact⟨QQ,λz=>by(refine xE (g.live A1 z) ?_;intro o e;exact new e rfl),oL,eL⟩
  D1:=λc m=>by
   refine H9 (g.D1 c (mem_of_lookup (cl c.1 c.2 m))) ?_;intro q o e;exact⟨q,o,k _ _ e⟩
  objs:=λi o e=>by
   refine AC (g.objs i o e) ?_;intro a p r;have :=r.mono (J:=[]) im (k a);exact⟨a,p,by simpa using this⟩
  env:=⟨_,ns,λc m=>by refine xE (ce _ (mem_of_lookup (cl c.1 c.2 m))) ?_;intro u q;exact⟨u,q.keeps k⟩,λx v hl fr=>by
   have kdOf:(TN F sc A1).kindOf x=match sc.names.lookup x with
 |none=>L|some k=>G (if(k==GL&&F.env.scope.kind==.function&&F.env.kindOf x==G .cell)then .cell else k):=ax;have yz:(TN F sc A1).kindOf x=G .local\/(TN F sc A1).kindOf x=G .cell\/(TN F sc A1).kindOf x=G .free:=fr;revert yz;rw[kdOf];cases q:sc.names.lookup x with
 |none=>intro z;exact absurd z (by simp)|some kk=>cases kk with
 |«local»=>rw[OK x q]at hl;exact(BE hl).elim|cell=>exact absurd rfl (Mc _ (mem_of_lookup q))|free=>
    intro _;refine Hp (yy x q) ?_;intro KI c hc GD;refine AC (r x v hl (.inr KI)) ?_;intro u sl e3;refine AC (sl.2 KI) ?_;intro c' e1 e2;have e1:=Bm (e1.symm.trans hc);refine⟨u,⟨λz=>?_,λ_=>⟨c,GD,e1▸e2.keeps k⟩⟩,e3.Bw im⟩;exfalso;have z:=kdOf.symm.trans z;rw[q]at z;dsimp only at z;split at z<;>(exfalso;cases z)|globalImplicit=>intro z;exact absurd z (by simp)|globalExplicit=>intro z;exact absurd z (by simp)⟩
  base:=λb o e=>k b o (g.base b o e)
  os:=g.os
  gens:=g.gens
  frames:=g.frames
  DT:=bt6 (λb o e _=>⟨o,k b o e,rfl⟩) g.DT
  Cy:=λb m=>let⟨q,_,o,ho,hd⟩:=g.Cy b m;⟨q,λz=>CI.mp z,o,k _ _ ho,hd⟩
  mods:=g.mods
  handled:=g.handled
  depth:=g.depth
  units:=g.units}
theorem CM.comp(fr:CM B F C s.heap AE)(g:Gd B F K A H C s)(hs:Ky K.sc sc H.env=M){A1:A8}(z0:AE≠A1)(hl:∃o,Q.get? AE=G o)(hL:∀c∈F.env.cells,c.2≠A1):CM B (I1 F sc A1) C Q AE where
 C:=fr.C;w:=λm=>z0 (CI.mp m);cells:=λc m=>by
  refine VQ (g.kinds.comp hs (A1:=A1) rfl hL) ?_;intro _ _ _ D2 _;rcases QP D2 m with z|z;. simp at z
  . exact fr.cells _ (mem_of_lookup z)
 base:=fr.base;outs:=fr.outs;live:=hl
theorem ay(SL:OH B A3 n){x:A4}{l:I V}(Ih:ML g=M)(AN:Gd B F K A AB A_ AJ)(hs:Ky K.sc sc AB.env=M)(Aq:VR AJ.heap A_ v x)(hi:Q9 v AB.h=G it)(h:ev A3 n ⟨sc,K.d⟩ (.GU C_ g gens it 0 []) AB=.ok (.vs l) Bc){RR:A4->A8->Dt->AR->Prop}(k:∀A1 D AT s',Gd B (I1 F sc A1) ⟨sc,K.d⟩ A Bc AT s'->AJ.heap.get? A1=L->AJ.heap.get? D=L->Nx F.D (D::[A1]) AJ.heap s'.heap A_ AT->Gx B (I1 F sc A1) AT s'.heap D l->RR (.ref D) A1 (.ok .next) s'):AH (AQ B.prog B.w) A (PV x) (λit Ai=>AH (AQ B.prog B.w) A (tP []) (λAm Ax=>AH (AQ B.prog B.w) A (newFunctionEnv sc F.env.globals (Er F.env sc.names []) [] F.env.qual L .none (G F.env)) (λlE EG=>D7 (AQ B.prog B.w) A (.compStart (.ListComp C_ (g::gens) sc pos) 0 it Am {lE with scope:=tO sc F.env}) (RR Am lE.locals) EG) E Ax) E Ai) E AJ:=by
 refine xA (QO Ih) ?_;intro hp ha;refine OF AN Aq hi λAE BD tk AU Al hI KA TC=>?_;refine IG ?_;have WO:∀c∈F.env.cells,∃o,BD.get? c.2=G o:=λc m=>(AU.D1 c m).2;refine M9 (AU.kinds.comp hs (A1:=BD.objs.size) rfl λc m z=>by refine xE (WO c m) ?_;intro o e;rw[z,GF]at e;exact(BE e).elim) ?_;intro _ hk Mc _;skip;generalize hH:BD.push {cls:=.type "list",dict:=L,data:=.seq ([]:I A4).toArray}=BF;have sz:BF.objs.size=BD.objs.size+1:=by rw[<-hH,II]
 have KJ:∀b o,BD.get? b=G o->BF.get? b=G o:=λb o e=>by rw[<-hH];exact C1 _ e
 refine bu7 Mc (λy hy=>by simp at hy) (λFH ns QS=>?_) hk;dsimp only at ns QS ⊢;have Me:BD.get? BF.objs.size=L:=KD (by rw[sz];exact PR _);have Mf:BD.get? BD.objs.size=L:=KD (DF _);have OL:∀b o,BD.get? b=G o->FH.get? b=G o:=λb o e=>QS.extBut b o (λz=>by rw[z,Me]at e;exact(BE e).elim) (C1 _ (KJ b o e));have up:∀{b:A8},BD.get? b=L->AJ.heap.get? b=L:=λ{b}e=>HD Al.live e;have KH:BD.objs.size≠BF.objs.size:=by rw[sz];exact ER (PS _)
 have pD:FH.PlainList BD.objs.size #[]:=⟨_,QS.extBut _ _ KH (C1 _ (hH▸CY _ rfl))⟩;have CA:=AU.comp (tk:=tk+([]:I (U×A4)).length) hs Me OL ns;have WP:∀{b:A8},BD.get? b=L->∀c∈F.env.cells,c.2≠b:=λe c m z=>by refine xE (WO c m) ?_;intro o q;rw[z,e]at q;exact(BE q).elim
 have LA:CM B (I1 F sc BF.objs.size) A_ FH AE:=KA.comp AU hs (λz=>by refine xE KA.live ?_;intro o e;rw[z,Me]at e;exact(BE e).elim) (by refine xE KA.live ?_;intro o e;exact⟨o,OL _ _ e⟩) (WP Me);have fD:CM B (I1 F sc BF.objs.size) A_ FH BD.objs.size:=(AU.freeOf (Q:=BD.push {cls:=.type "list",data:=.seq #[]}) Mf ⟨_,CY _ rfl⟩|>.at (Q:=FH) (by refine xE pD ?_;(try clear pD);intro m e;exact⟨_,e⟩))|>λq=>
 {C:=q.C,w:=λm=>KH (CI.mp m),cells:=λc m=>by
   refine VQ (AU.kinds.comp hs (A1:=BF.objs.size) rfl (WP Me)) ?_;intro _ _ _ D2 _;rcases QP D2 m with z|z;. simp at z
   . exact q.cells _ (mem_of_lookup z),base:=q.base,outs:=q.outs,live:=q.live};have Cz:Nx F.D ([]:I A8) BD FH A_ A_:=Nx.ext OL;have HZ:=TC.nx Cz KA.C (by simp);have Mb:BD.objs.size≠AE:=λz=>by refine xE KA.live ?_;intro o e;rw[<-z,Mf]at e;exact(BE e).elim
 refine l6 (depth:=0) rfl ha HZ (SL.GU h (G_:=g::gens) (depth:=0) rfl ha (F:=I1 F sc BF.objs.size) (Af:=AJ.heap) (BG:=A_) CA (Al.trans Cz).FZ hI LA HZ ⟨fD,#[],pD,rfl⟩ Mb λAT s' g' x' a'=>?_);exact k _ _ AT s' g' (up Me) (up Mf) x' a'
theorem lF(A9:C5 B A3 n)(SL:OH B A3 n)(h:Fq A3 K (ev A3 n) (.ListComp C_ (g::gens) sc pos) H=.ok (.v v) A7)(Bl:Gd B F K A H C s):Ae B F K A A7 C s (eval (.ListComp C_ (g::gens) sc pos) F.env) (RV v):=by
 refine A0.Be h ?_;clear h;intro Ih h;refine A0.Cg h ?_;clear h;intro w AB AP h;refine A0.Be h ?_;clear h;intro hs h;refine A0.Bx h ?_;clear h;intro it BD h;refine A0.L8 h ?_;clear h;intro l Bc C3 h;(first|(revert k;(first|apply BX h|apply B5 h|apply BY h|apply BZ h|apply B_ h);intro k)|apply BX h|apply B5 h|apply BY h|apply BZ h|apply B_ h);refine xA (QO Ih) ?_;intro hp ha;intro A2 E kk;refine S8 (Bl.kinds.comp hs (A1:=s.heap.objs.size) rfl λc m z=>by refine H9 (Bl.D1 c m) ?_;intro _ o e;rw[z,GF]at e;exact(BE e).elim) ?_;intro _ hk Mc D2 Md _;rw[bu8];have OM:Ux (g::gens)=A6:=by obtain⟨_,_,_,k⟩:=g;show(k !=0)=A6;simp only at ha;rw[ha];rfl
 have ON:Uy (g::gens) F.env=eval g.iter F.env:=by obtain⟨_,_,_,_⟩:=g;rfl
 rw[OM,ON];refine gC (use:=L) (g:=g) (gs:=gens) rfl (λx=>QL hp x) (WN D2) hk Md ?_;refine A9.e AP Bl _ _ λu A_ AJ AN Ab Aq=>?_;refine ay (RR:=λAm A1=>tQ (AQ B.prog B.w) A E L A2 Am A1) SL Ih AN hs Aq BD C3 λA1 D AT s' g' hL hD x' a'=>?_;refine AC (id g'.env) ?_;intro m ns _;refine⟨m,ns,λQ Df=>?_⟩;refine Hp a' ?_;(try clear a');intro fD us F_ vr;have I0:∀o,s'.heap.get? A1=G o->C2 o=A6:=λo e=>by
  refine Gq ns ?_;(try clear ns);intro o' N ep e' d _;have e':s'.heap.get? A1=G o':=e';rw[e']at e;injection e with e;subst e;unfold C2;rw[d];simp
 have KH:D≠A1:=λz=>fD.w (by rw[z];exact CI.mpr rfl);have im:=Gu Df.extBut I0;refine xA (AN.leave (F':=I1 F sc A1) rfl g' hL hD x' fD Df I0 (o:=.list l) ⟨us,F_.extBut Df.extBut KH,vr.mono im⟩) ?_;intro gg xx;refine kk _ _ _ gg (Ab.trans xx) ⟨D,?_,rfl⟩;have :=g'.len;rw[<-this];simp
end
section
theorem z8{A1:A8}(g':Gd B F' K' A' A7 AT s')(hW:F'.AZ=[A1])(AN:Gd B F K A H A_ AJ)(hL:AJ.heap.get? A1=L)(Dj:A1∉Au)(hl:∃o,h.get? A1=G o):CM B F Au h A1 where
 C:=Dj;w:=λm=>by refine IN (AN.D5 A1 m) ?_;intro _ _ o e;rw[hL]at e;exact(BE e).elim
 cells:=λc m z=>by refine H9 (AN.D1 c m) ?_;intro _ o e;rw[z,hL]at e;exact(BE e).elim
 base:=(g'.D5 A1 (by rw[hW];simp)).1;outs:=λm=>by refine Hp (AN.DT.mem m) ?_;intro _ o e _;rw[hL]at e;exact(BE e).elim
 live:=hl
theorem z9(WQ:C5 B A3 m)(SL:OH B A3 m)(A9:C5 B A3 n){KL:B9}(az:YA (.ListComp C_ (g::gens) sc KL) (G (.Name id p)) pos.line F.env=pure M)(h:((Fq A3 K (ev A3 m) (.ListComp C_ (g::gens) sc KL) H).V λv H=>ev A3 n K (.GS [.Name id p] v) H)=.ok (.f f) A7)(Bl:Gd B F K A H C s):CJ B F K A A7 C s (exec (.Assign [.Name id p] (.ListComp C_ (g::gens) sc KL) pos) F.env) (FR .next):=by
 refine A0.Cg h ?_;clear h;intro v GY h FH;refine A0.Be h ?_;clear h;intro Ih h;refine A0.Cg h ?_;clear h;intro w AB AP h;refine A0.Be h ?_;clear h;intro hs h;refine A0.Bx h ?_;clear h;intro it BD h;refine A0.L8 h ?_;clear h;intro l Bc C3 h;refine xA (FG h) ?_;intro q Aw;subst Aw;injection q with q;subst q;refine xA (QO Ih) ?_;intro hp ha;intro A2 E kk;rw[exec_Assign_Name_used _ _ _ _ az];refine A5 (El (A5 ?_));show AH _ A (do let _<-bu9 (.ListComp C_ (g::gens) sc KL) sc F.env _ (tP []) (Ux (g::gens)) (Uy (g::gens) F.env) (G (Ex (.Name id p) F.env))) _ _ s;have OM:Ux (g::gens)=A6:=by obtain⟨_,_,_,k⟩:=g;show(k !=0)=A6;simp only at ha;rw[ha];rfl
 have ON:Uy (g::gens) F.env=eval g.iter F.env:=by obtain⟨_,_,_,_⟩:=g;rfl
 rw[OM,ON];refine A5 (Fg (Q:=λ_ s'=>A2 .next s') ?_ (λ_ s' hq=>AW (AW hq)) λ_ _ e=>e);refine S8 (Bl.kinds.comp hs (A1:=s.heap.objs.size) rfl λc m z=>by refine H9 (Bl.D1 c m) ?_;intro _ o e;rw[z,GF]at e;exact(BE e).elim) ?_;intro _ hk Mc D2 Md _;refine gC (use:=G (Ex (.Name id p) F.env)) (Q:=λ_ s'=>A2 .next s') (g:=g) (gs:=gens) rfl (λx=>QL hp x) (WN D2) hk Md ?_;refine WQ.e AP Bl _ _ λu A_ AJ AN Ab Aq=>?_
 . refine ay (RR:=λAm A1=>tQ (AQ B.prog B.w) A E (G (Ex (.Name id p) F.env)) (λ_ s'=>A2 .next s') Am A1) SL Ih AN hs Aq BD C3 λA1 D AT s' g' hL hD x' a'=>?_;refine AC ((λx=>x) g'.env) ?_;intro mm ns _;refine Hp a' ?_;(try clear a');intro fD us F_ vr;have I0:∀o,s'.heap.get? A1=G o->C2 o=A6:=λo e=>by
    refine Gq ns ?_;(try clear ns);intro o' N ep e' d _;have e':s'.heap.get? A1=G o':=e';rw[e']at e;injection e with e;subst e;unfold C2;rw[d];simp
   have KH:D≠A1:=λz=>fD.w (by rw[z];exact CI.mpr rfl);have sb:E4 A1 s'.heap s'.heap:=gD ..;refine xA (AN.leave (F':=I1 F sc A1) rfl g' hL hD x' fD sb I0 (o:=.list l) ⟨us,F_,vr.mono (λ_ _ e _=>e)⟩) ?_;intro gg xx;have rD:VR s'.heap (AT++[D]) (.ref Bc.n) (.ref D):=⟨D,by rw[<-g'.len];simp,rfl⟩;refine G6 (g'.D5 A1 (by show A1∈[A1];simp)) ?_;intro QQ OI _;have lG:A1∉AT++[D]:=λz=>by
    rcases Dr.mp z with z|z;. exact OI z
    . exact KH (CI.mp z).symm
   show AH _ A (Ex (.Name id p) F.env (.ref D)) _ E s';refine A9.GS FH gg rD _ _ λ_ Au Ai AU Al _=>?_;have zA:A1∉F.AZ:=λm=>by refine IN (AN.D5 A1 m) ?_;intro _ _ o e;rw[hL]at e;exact(BE e).elim
   have TO:Ai.heap.Ns A1 mm:=Ns.slots ns λo e=>Al.data A1 o e lG zA;refine⟨mm,TO,λQ Df=>?_⟩;have zB:∀o,Ai.heap.get? A1=G o->C2 o=A6:=λo e=>by
    refine Gq TO ?_;(try clear TO);intro o' N ep e' d _;rw[e']at e;injection e with e;subst e;unfold C2;rw[d];simp
   have Me:A1∉Au:=by
    refine Gq ns ?_;(try clear ns);intro o' N ep e' d _;exact Al.out e' lG
   have fL:CM B F Au Ai.heap A1:=z8 g' rfl AN hL Me (by refine Gq TO ?_;(try clear TO);intro o' N ep e' d _;exact⟨_,e'⟩);refine kk _ Au _ (AU.move (tk:=Ai.toks) fL Df.extBut zB) ?_ rfl;exact((Ab.trans xx).FZ.trans Al).F2 Df.extBut (HD Ab.live hL)
theorem zC{l:O}:∃b,YA e (G (.Name id p)) l env=pure b:=by
 unfold YA;split<;>exact⟨_,rfl⟩
theorem zD(WQ:C5 B A3 m)(SL:OH B A3 m)(A9:C5 B A3 n){KL:B9}(h:((Fq A3 K (ev A3 m) (.ListComp C_ (g::gens) sc KL) H).V λv H=>ev A3 n K (.GS [.Name id p] v) H)=.ok (.f f) A7)(Bl:Gd B F K A H C s):CJ B F K A A7 C s (exec (.Assign [.Name id p] (.ListComp C_ (g::gens) sc KL) pos) F.env) (FR .next):=by
 refine xE (zC (e:=.ListComp C_ (g::gens) sc KL) (id:=id) (p:=p) (l:=pos.line) (env:=F.env)) ?_;intro b hb;cases b with
 |true=>exact z9 WQ SL A9 hb h Bl|false=>
 refine A0.Cg h ?_;clear h;intro v AB AP h;intro A2 E k;exact g4 (((lF WQ SL AP Bl).TA) _ _ λu A_ AJ AN Ab Aq=>A9.GS h AN Aq _ _ λ_ Au Ai AU Al _=>k _ Au Ai AU (Ab.trans Al) rfl) hb rfl
end
section
theorem Ef{l:I J}(h:CH l=M):l.length<=100000:=Dk h
theorem zE(g:Gd B F K A H C s)(r:VR s.heap C v u)(h:Mine.truthy v H.h=G b):Ae B F K A H C s (tE u) (RB b):=by
 intro A2 E k;cases v with
 |none=>cases r;injection h with h;subst h;exact bR6 (k _ C s g (Nx.refl ..) rfl)|bool c=>cases r;injection h with h;subst h;exact NV (k _ C s g (Nx.refl ..) rfl)|int i=>
  refine xE r ?_;(try clear r);intro t Aw;subst Aw;injection h with h;subst h;refine PySem.P.truthy_int (k _ C s g (Nx.refl ..) ?_);show(i !=0)=decide (i≠0);by_cases q:i=0<;>simp[q]|str x=>
  refine xE r ?_;(try clear r);intro t B6;subst B6;refine Ce h AF λhf h=>?_
  . have :=Ef hf;injection h with h;subst h;have hl:(⟨⟨x⟩⟩:U).length=x.length:=rfl;refine PySem.P.truthy_str (by rw[hl];omega) (k _ C _ (g.tok _) (Nx.refl ..) ?_);show((x.length:AX)!=0)=!x.isEmpty;cases x<;>simp;omega|ref i=>
  refine AC r ?_;(try clear r);intro a ha BJ;subst BJ;refine BI h λob hx h=>?_;revert hx;apply IU h AF
  . intro Y h hx;refine Ce h AF λhf h=>?_
    . have :=Ef hf;injection h with h;subst h;refine AC (g.obj hx ha) ?_;intro us hp v;have hl:Y.length=us.size:=by rw[v.length];simp
      refine wpAny_truthy_list hp.isList (by omega) ?_;refine k _ C _ (g.tok _) (Nx.refl ..) ?_;show(!us.isEmpty)=!Y.isEmpty;unfold Array.isEmpty;cases Y<;>simp at hl<;>simp[<-hl]|_=>exact(BE h).elim
theorem lH(x y:Tx):(⟨⟨x⟩⟩:U)++⟨⟨y⟩⟩=⟨⟨x++y⟩⟩:=by
 show bv0 _ _=_;simp[bv0]
theorem zF{r:V}(g:Gd B F K A H C s)(hv:VR s.heap C v u)(Bh:VR s.heap C v' u')(h:Zu op v v'=G r):Ae B F K A H C s (inplaceOp op u u') (RV r):=by
 revert hv Bh;refine Fi h (λe h=>?_) λh=>Fi h (λe h=>?_) λh=>(AF h).elim
 . subst e;refine GP h (λh=>?_) λh=>?_
   . apply Cu h AF;intro a h;apply Cu h AF;intro b h hv Bh A2 E;apply Br h;intro k;refine xE hv ?_;(try clear hv);intro t BP;subst BP;refine xE Bh ?_;(try clear Bh);intro t' Bq;subst Bq;exact bv1 (k _ C _ (g.tok _) (Nx.refl ..) ⟨_,rfl⟩)
   . apply Dd h AF;intro x h;apply Dd h AF;intro y h hv Bh A2 E;refine Ce h AF λhf h=>?_;apply Br h;intro k;refine xE hv ?_;(try clear hv);intro t Bg;subst Bg;refine xE Bh ?_;(try clear Bh);intro t' Bu;subst Bu;have :=Ef hf;refine PySem.P.iadd_str ?_;skip;cases x with
 |nil=>exact k _ C _ g (Nx.refl ..) ⟨_,rfl⟩|cons a x=>cases y with
 |nil=>exact k _ C _ g (Nx.refl ..) ⟨t,by simp⟩|cons b y=>
     show(tR _).post A2 s;rw[lH];exact⟨B4 (show _<=100000 from this) (by decide),k _ C _ (g.tok _) (Nx.refl ..) ⟨_,rfl⟩⟩
 . subst e;apply Cu h AF;intro a h;apply Cu h AF;intro b h hv Bh A2 E;apply Br h;intro k;refine xE hv ?_;(try clear hv);intro t C9;subst C9;refine xE Bh ?_;(try clear Bh);intro t' Ck;subst Ck;exact bR7 (k _ C _ (g.tok _) (Nx.refl ..) ⟨_,rfl⟩)
end
section
theorem lI{a b:AX}(g:Gd B F K A H C s)(hb:b>0):Ae B F K A H C s (Ey .Mod (.int a t) (.int b t')) (RV (.int (t8 a b))):=by
 intro A2 E k;have h0:¬(b==0)=M:=by simp only[Rh];(with_reducible exact bv2 (by assumption))
 exact bR8 h0 (k (.int (t8 a b) s.toks) C _ (g.tok _) (Nx.refl ..) ⟨_,rfl⟩)
theorem zG{a b:AX}(g:Gd B F K A H C s):Ae B F K A H C s (Ey .Add (.int a t) (.int b t')) (RV (.int (a+b))):=λA2 E k=>bR9 (k (.int (a+b) s.toks) C _ (g.tok _) (Nx.refl ..) ⟨_,rfl⟩)
theorem zH{a b:AX}(g:Gd B F K A H C s):Ae B F K A H C s (Ey .Sub (.int a t) (.int b t')) (RV (.int (a-b))):=λA2 E k=>bS0 (k (.int (a-b) s.toks) C _ (g.tok _) (Nx.refl ..) ⟨_,rfl⟩)
theorem lJ{a b:AX}(g:Gd B F K A H C s)(hb:0<b/\b<=1000000000):Ae B F K A H C s (Ey .FloorDiv (.int a t) (.int b t')) (RV (.int (t7 a b))):=by
 intro A2 E k;have h0:¬(b==0)=M:=by simp only[Rh];omega
 have h1:¬(bv3 a b)=M:=by
  unfold bv3;have hn:b.natAbs<=1000000000:=by(with_reducible exact Mine.wX (by assumption))
  have hl:b.natAbs.log2<30:=(bv4 (by omega)).mpr (by(with_reducible exact H3 (by assumption) (by decide)));have e:(b==0)=A6:=by simpa using h0
  simp only[e,Kl,Km,D6,PW];intro h;have :=h.1;(with_reducible exact Mine.vl (by assumption) (by assumption))
 exact bS1 h0 h1 (k (.int (t7 a b) s.toks) C _ (g.tok _) (Nx.refl ..) ⟨_,rfl⟩)
end
section
theorem zI{a:AK}(g:Gd B F K A H C s):Ae B F K A H C s (Ey .Add (.bool a) (.bool b)) (RV (.int (b2i a+b2i b))):=λA2 E k=>bS2 (k (.int (b2i a+b2i b) s.toks) C _ (g.tok _) (Nx.refl ..) ⟨_,rfl⟩)
theorem zJ{a:AK}{b:AX}(g:Gd B F K A H C s):Ae B F K A H C s (Ey .Add (.bool a) (.int b t)) (RV (.int (b2i a+b))):=λA2 E k=>bS3 (k (.int (b2i a+b) s.toks) C _ (g.tok _) (Nx.refl ..) ⟨_,rfl⟩)
theorem zK{a:AX}(g:Gd B F K A H C s):Ae B F K A H C s (Ey .Add (.int a t) (.bool b)) (RV (.int (a+b2i b))):=λA2 E k=>PySem.add_int_bool (k (.int (a+b2i b) s.toks) C _ (g.tok _) (Nx.refl ..) ⟨_,rfl⟩)
theorem zL{a:AK}(g:Gd B F K A H C s):Ae B F K A H C s (Ey .Mult (.bool a) (.bool b)) (RV (.int (b2i a*b2i b))):=λA2 E k=>bS4 (k (.int (b2i a*b2i b) s.toks) C _ (g.tok _) (Nx.refl ..) ⟨_,rfl⟩)
theorem lK{x:Tx}(g:Gd B F K A H C s)(hf:CH (x++y)=M):Ae B F K A H C s (Ey .Add (.str ⟨⟨x⟩⟩ t) (.str ⟨⟨y⟩⟩ t')) (RV (.str (x++y))):=by
 intro A2 E k;have :=Ef hf;refine PySem.P.add_str ?_;have e1:(⟨⟨x⟩⟩:U).length=x.length:=rfl;have e2:(⟨⟨y⟩⟩:U).length=y.length:=rfl;skip;cases x with
 |nil=>exact k _ C _ g (Nx.refl ..) ⟨_,rfl⟩|cons a x=>cases y with
 |nil=>exact k _ C _ g (Nx.refl ..) ⟨t,by simp⟩|cons b y=>
 show(tR _).post A2 s;rw[lH];exact⟨B4 (show _<=100000 from this) (by decide),k _ C _ (g.tok _) (Nx.refl ..) ⟨_,rfl⟩⟩
theorem zM(g:Gd B F K A H C s)(hu:VR s.heap C (.ref i) u)(TP:VR s.heap C (.ref j) u')(hx:AL H.h i=G (.list Y))(hy:AL H.h j=G (.list ys))(hf:CH (Y++ys)=M):Ae B F K A (H.new (.list (Y++ys))).2 C s (Ey .Add u u') (RV (.ref H.n)):=by
 intro A2 E k;refine AC hu ?_;(try clear hu);intro a ha Aw;subst Aw;refine AC TP ?_;(try clear TP);intro b hb B6;subst B6;refine AC (g.obj hx ha) ?_;intro us BJ v;refine xE BJ ?_;(try clear BJ);intro n hl;refine AC (g.obj hy hb) ?_;intro ws BP v';refine xE BP ?_;(try clear BP);intro n' Ii;have Ee:us.size+ws.size<=FA:=by
   have :=Ef hf;have e1:=v.length;have e2:=v'.length;simp at this e1 e2;exact B4 (show _<=100000 by(with_reducible exact Mine.wD (by assumption) (by assumption) (by assumption))) (by decide)
 refine concat_meets ⟨_,hl,rfl⟩ ⟨_,Ii,rfl⟩ bv5 seq_list_add bv6 bv7 (bv8 _ _) (bv9 a b us ws n n' L L #[] #[] Ee) ⟨hl,Ii,?_⟩;have kp:∀b o,s.heap.get? b=G o->(s.heap.push {cls:=.type "list",data:=.seq (us++ws)}).get? b=G o:=λb o e=>C1 _ e;have hn:s.heap.get? s.heap.objs.size=L:=by cases e:s.heap.get? s.heap.objs.size with
 |none=>rfl|some o=>exact absurd (Dh e) (J1 _)
 have hg:=CY s.heap (o:={cls:=.type "list",data:=.seq (us++ws)}) rfl;refine k _ (C++[s.heap.objs.size]) _ (g.new (tk:=s.toks) kp hn ⟨_,hg⟩ (o:=.list (Y++ys)) ⟨us++ws,⟨_,hg⟩,?_⟩) (Nx.add [_] kp λb hb=>by rw[CI.mp hb];exact hn) ⟨_,?_,rfl⟩
 . have :=(v.app v').mono (J:=[s.heap.objs.size]) (Q:=s.heap.push {cls:=.type "list",data:=.seq (us++ws)}) (λb o e _=>kp b o e);simpa using this
 . rw[<-g.len];simp
end
section
noncomputable abbrev Do(v:A4):BK->I A8->A4->Prop:=λ_ _ r=>r=v
theorem zN{a b:AX}(g:Gd B F K A H C s):Ae B F K A H C s (Db .Eq (.int a t) (.int b t')) (Do (.bool (decide (a=b)))):=λ_ _ k=>PySem.P.eq_int (k _ C s g (Nx.refl ..) (by show NZ (a==b)=_;by_cases q:a=b<;>simp[q]))
theorem zO{a b:AX}(g:Gd B F K A H C s):Ae B F K A H C s (Db .NotEq (.int a t) (.int b t')) (Do (.bool (!decide (a=b)))):=λ_ _ k=>PySem.P.ne_int (k _ C s g (Nx.refl ..) (by show NZ (a !=b)=_;by_cases q:a=b<;>simp[q]))
theorem zP{a b:AX}(g:Gd B F K A H C s):Ae B F K A H C s (Db .Lt (.int a t) (.int b t')) (Do (.bool (decide (a<b)))):=λ_ _ k=>bw0 (k _ C s g (Nx.refl ..) rfl)
theorem zQ{a b:AX}(g:Gd B F K A H C s):Ae B F K A H C s (Db .Gt (.int a t) (.int b t')) (Do (.bool (decide (b<a)))):=λ_ _ k=>bw1 (k _ C s g (Nx.refl ..) rfl)
theorem zR{a b:AX}(g:Gd B F K A H C s):Ae B F K A H C s (Db .LtE (.int a t) (.int b t')) (Do (.bool (decide (a<=b)))):=λ_ _ k=>PySem.P.le_int (k _ C s g (Nx.refl ..) rfl)
theorem zS{a b:AX}(g:Gd B F K A H C s):Ae B F K A H C s (Db .GtE (.int a t) (.int b t')) (Do (.bool (decide (b<=a)))):=λ_ _ k=>PySem.P.ge_int (k _ C s g (Nx.refl ..) rfl)
theorem TQ{x:Tx}:(x==y)=CU x y:=by cases h:CU x y with
 |true=>simp[Ec.mp h]|false=>simpa using kU.mp h
theorem zT{x:Tx}(g:Gd B F K A H C s):Ae B F K A H C s (Db .Eq (.str ⟨⟨x⟩⟩ t) (.str ⟨⟨y⟩⟩ t')) (Do (.bool (CU x y))):=λ_ _ k=>bw2 (k _ C s g (Nx.refl ..) (by show NZ (x==y)=_;rw[TQ]))
theorem zU{x:Tx}(g:Gd B F K A H C s):Ae B F K A H C s (Db .NotEq (.str ⟨⟨x⟩⟩ t) (.str ⟨⟨y⟩⟩ t')) (Do (.bool (!CU x y))):=λ_ _ k=>PySem.P.ne_str (k _ C s g (Nx.refl ..) (by show NZ (x !=y)=_;rw[<-TQ];rfl))
theorem TR:∀{x y:Tx},EZ x y=M↔x<y
 |x,[]=>by cases x<;>simp[EZ]|[],_::_=>by simp[EZ]|a::x,b::y=>by
  unfold EZ;cases h:BC a b with
 |true=>
   have :=CD h;clear h;subst this;simp[TR (x:=x) (y:=y)]|false=>
   have Cc:a≠b:=λe=>by subst e;simp at h
   simp[List.cons_lt_cons_iff,Cc,G1];try omega
theorem b4{x:Tx}:decide (x<y)=EZ x y:=by cases h:EZ x y with
 |true=>simpa using TR.mp h|false=>
 have :¬x<y:=λq=>by rw[TR.mpr q]at h;(exfalso;cases h)
 simpa using this
theorem zV{x:Tx}(g:Gd B F K A H C s):Ae B F K A H C s (Db .Lt (.str ⟨⟨x⟩⟩ t) (.str ⟨⟨y⟩⟩ t')) (Do (.bool (EZ x y))):=λ_ _ k=>bw3 (k _ C s g (Nx.refl ..) (by show NZ (decide (x<y))=_;rw[b4]))
end
section
variable[DecidableEq T]{By:KeyKind prog w T}
theorem lL{d:A8}{Az:I (T×A4)}{k:T}{key v:A4}{A2:DM->AR->Prop}(EM:By.is k key=M)(hm:s.heap.DictAt By d Az Az.length)(hQ:∀Q,Q.DictAt By d (FC Az k v) (FC Az k v).length->E4 d s.heap Q->A2 () {s with heap:=Q,toks:=s.toks+1})(Ee:Az.length<=FA):AH (AQ prog w) A (Ri d key v) A2 E s:=by
 refine MA hm ?_;(try clear hm);intro o N ho hc hd hk hp hn;have Ch:N.size=Az.length:=by have :=hp.length;simpa using this
 have OO:(N.findIdx? λe=>By.is k e.key)=Az.findIdx? λkv=>decide (kv.1=k):=by rw[<-hp.findIdx k];obtain⟨l⟩:=N;simp
 unfold Ri;refine C0 (A5 (By.pyHash EM ?_));skip;refine C0 (A5 (tS (s:={s with toks:=s.toks+1}) EM ho hd hk ?_));cases hi:N.findIdx? λe=>By.is k e.key with
 |some i=>
  have HF:=bw4 (OO▸hi);have e1:FC Az k v=Az.map λkv=>if kv.1=k then(kv.1,v)else kv:=by rw[FC,DA HF]
  have hl:(N.toList.findIdx? λe=>By.is k e.key)=G i:=by rw[<-hi];obtain⟨l⟩:=N;simp
  have FI:=hp.modify hn hl v;refine A5 (Gm (A5 (bw5 (s:={s with toks:=s.toks+1}) ho hd (wpAny_point (hQ _ ?_ (Fh ..))))));refine⟨_,_,FS _ ho (YD (gE hd _)),hc.mapDict _,?_,hk.modify i v,?_,?_⟩;. rw[e1,Jo];exact gE hd _
  . rw[e1];obtain⟨l⟩:=N;simpa using FI
  . rw[e1,bw6];exact hn|none=>
  have TS:k∉Az.map (·.1):=bw7 (OO▸hi);have TU:¬(Az.any λkv=>decide (kv.1=k))=M:=λh=>by
    refine AC (IJ.mp h) ?_;intro kv OP he;exact TS (E0.mpr ⟨kv,OP,of_decide_eq_true he⟩)
  have e1:FC Az k v=Az++[(k,v)]:=by rw[FC,CS TU]
  refine A5 (Gm (tU (hz:=by(with_reducible exact Mine.yT (by assumption) (by assumption))) (s:={s with toks:=s.toks+1}) ho hd (hQ _ ?_ (Fh ..))));refine⟨_,_,FS _ ho (YD (Uz hd _)),hc.mapDictKeys _,?_,hk.push EM v,?_,?_⟩;. rw[e1,FD];exact Uz hd _
  . have :=hp.append EM (By.hash k) v;rw[e1];obtain⟨l⟩:=N;simpa using this
  . rw[e1,N_,IE];refine⟨hn,by simp,λa ha b hb e=>?_⟩;simp only[J4,tX,CI]at hb;exact TS (hb▸e▸ha)
end
theorem zW{a b:U}:a.cps.toList=b.cps.toList↔a=b:=⟨λe=>by cases a;cases b;simp only[bs3];exact tB.mp e,λe=>by rw[e]⟩
theorem WR(a b:U):G8 (GW a) (GW b)=G (decide (a=b)):=by
 show G (CU _ _)=_;cases h:CU a.cps.toList b.cps.toList with
 |true=>simp[zW.mp (Ec.mp h)]|false=>
 have :a≠b:=λe=>kU.mp h (by rw[e]);simp[this]
theorem b5(a b:AX):G8 (T5 a) (T5 b)=G (decide (a=b)):=rfl
section
variable[DecidableEq T]{key:T->V}
theorem DR.look(hk:∀a b,G8 (key a) (key b)=G (decide (a=b))){k:T}{l:I (T×A4)}(d:DR key h C N l):(D' N (key k)=L/\Ls l k=L)\/∃v u,D' N (key k)=G v/\Ls l k=G u/\VR h C v u:=DR.ind (P:=λN l=>(D' N (key k)=L/\Ls l k=L)\/∃v u,D' N (key k)=G v/\Ls l k=G u/\VR h C v u) (.inl ⟨rfl,rfl⟩) (λk' v u N r hv _ ih=>by
 unfold D';rw[hk];by_cases z:k'=k
 . rw[Rj z];exact .inr ⟨_,u,rfl,by simp[Ls,bw8,z],hv⟩
 . rw[Rk z];have e2:Ls ((k',u)::r) k=Ls r k:=by simp[Ls,bw8,z]
   rw[e2];exact ih) d
theorem DR.put(hk:∀a b,G8 (key a) (key b)=G (decide (a=b))){k:T}(hv:VR h C v u):∀{N:I (V×V)}{l:I (T×A4)},DR key h C N l->(l.map (·.1)).Nodup->DR key h C (En N (key k) v) (FC l k u):=λ{N l}d=>DR.ind (P:=λN l=>(l.map (·.1)).Nodup->DR key h C (En N (key k) v) (FC l k u)) (λ_=>DR.cons (N:=[]) hv rfl) (λk' v' u' N r Bh hr ih hn=>by
 have OA:k'∉r.map (·.1)/\(r.map (·.1)).Nodup:=EU.mp hn;unfold En;rw[hk];by_cases z:k'=k
 . subst z;rw[Rj rfl];have e2:FC ((k',u')::r) k' u=(k',u)::r:=by
    rw[FC,DA (by simp)];simp only[J4,Kn];rw[map_store_of_not_mem r k' u OA.1]
   rw[e2];exact DR.cons hv hr
 . rw[Rk z];have e2:FC ((k',u')::r) k u=(k',u')::FC r k u:=by
    unfold FC;simp only[sx,Rk z,bw9];split;. simp[z]
    . rfl
   rw[e2];exact DR.cons Bh (ih OA.2)) d
end
section
variable[DecidableEq T]{By:KeyKind prog w T}
theorem zX{d:A8}{Az:I (T×A4)}{k:T}{key v:A4}{A2:DM->AR->Prop}(EM:By.is k key=M)(hm:s.heap.DictAt By d Az Az.length)(hQ:∀Q,Q.DictAt By d (FC Az k v) (FC Az k v).length->E4 d s.heap Q->A2 () {s with heap:=Q,toks:=s.toks+1})(Ee:Az.length<=FA):AH (AQ prog w) A (Rl (.ref d) key v) A2 E s:=by
 have hT:=hm.dictOf.typeIs;skip;refine C0 (A5 (tY hT (by decide) ?_));refine A5 (Lu (name:=Ev "__setitem__") hT bx0 (Gn bx0 hT entry_dict_setitem ?_ (args_dict_setitem _ _ _)));show AH _ _ (bS5 "__setitem__" ⟨[.ref d,key,v],[]⟩>>=_) _ _ s;refine A5 (bx1 hT ?_);show AH _ _ (Ri d key v>>=_) _ _ s;exact A5 (lL EM hm (λQ HG Df=>AW ⟨.none,rfl,AW (hQ Q HG Df)⟩) Ee)
end
section
theorem lM{x:Tx}:(strKind prog w).is ⟨⟨x⟩⟩ (.str ⟨⟨x⟩⟩ t)=M:=strKind_is ..
theorem b6{CL:Type}[DecidableEq T][DecidableEq CL]{By:KeyKind B.prog B.w T}{zY:KeyKind B.prog B.w CL}(m:h.DictAt By a [] 0):h.DictAt zY a [] 0:=by
 refine MA m ?_;intro o BN e1 e2 e3 _ e5 _;have e:BN=#[]:=bx2 e5.length;exact⟨o,#[],e1,e2,e▸e3,λ_ hm=>(nomatch(Array.not_mem_empty _ hm)),.nil,HN⟩
theorem WS(hk:De N k=M)(r:Dn B.prog B.w h C a N)(rk:VR h C k ku){P:Prop}(c:∀{T:Type}[DecidableEq T](By:KeyKind B.prog B.w T)(key:T->V)(x:T)(Az:I (T×A4)),(∀a b,G8 (key a) (key b)=G (decide (a=b)))->(∀{Q:BK}{AT:I A8}{a':A8}{BN:I (V×V)}(b7:I (T×A4)),Q.DictAt By a' b7 b7.length->DR key Q AT BN b7->Dn B.prog B.w Q AT a' BN)->k=key x->By.is x ku=M->h.DictAt By a Az Az.length->DR key h C N Az->P):P:=by
 revert c rk;refine Jw hk (λhk=>?_) λhk=>?_
 . apply Dd hk B0;intro x hk rk c;refine xE rk ?_;intro t q;rw[q]at c;have c:=c (strKind B.prog B.w) GW ⟨⟨x⟩⟩;refine r.elim (λr=>AC r λAz hm hd=>c Az WR (λ_ m d=>.inl ⟨_,m,d⟩) rfl lM hm hd) λr=>AC r λAz hm hd=>?_;cases N with
 |nil=>rw[show Az=[]from hd]at hm;exact c [] WR (λ_ m d=>.inl ⟨_,m,d⟩) rfl lM (b6 hm) rfl|cons e N=>exact Gq hd λk' u r _ e1 _=>by have hk:vStr e.1 A6 (λ_=>M)=M:=hk;rw[e1]at hk;exact(B0 hk).elim
 . apply Cu hk B0;intro x hk rk c;refine xE rk ?_;intro t q;rw[q]at c;have c:=c (intKind B.prog B.w) T5 x;refine r.elim (λr=>AC r λAz hm hd=>?_) λr=>AC r λAz hm hd=>c Az b5 (λ_ m d=>.inr ⟨_,m,d⟩) rfl (intKind_is ..) hm hd;cases N with
 |nil=>rw[show Az=[]from hd]at hm;exact c [] b5 (λ_ m d=>.inr ⟨_,m,d⟩) rfl (intKind_is ..) (b6 hm) rfl|cons e N=>exact Gq hd λk' u r _ e1 _=>by have hk:vInt e.1 A6 (λ_=>M)=M:=hk;rw[e1]at hk;exact(B0 hk).elim
end
section
theorem DictAt.live[DecidableEq T]{By:KeyKind prog w T}{Az:I (T×A4)}(x:h.DictAt By a Az ep):∃o,h.get? a=G o:=let⟨o,_,e,_⟩:=x;⟨o,e⟩
theorem zZ(g:Gd B F K A H C s)(hd:AL H.h i=G (.dict N))(ru:VR s.heap C (.ref i) u)(rk:VR s.heap C k ku)(rv:VR s.heap C v vu)(hk:De N k=M)(hf:CH N=M):Ae B F K A (H.set i (.dict (En N k v))) C s (Rl u ku vu) RU:=by
 intro A2 E kk;refine AC ru ?_;(try clear ru);intro a ha Aw;subst Aw;have r:=g.obj hd ha;have hl:=Ef hf;refine WS hk r rk λBy key x Az ke back q hx hm dr=>?_;rw[q]at kk;refine zX hx hm (λQ HG hs=>?_) (B4 (dr.length▸hl) (show 100000<=FA by decide));refine xA (g.set (Q:=Q) (tk:=s.toks+1) (o':=.dict (En N (key x) v)) ha hd (λ_ _ e=>by(exfalso;cases e)) hs.extBut (DictAt.live HG) λim=>back _ HG (T8 (p:=λJ=>DR key Q J _ _) ((dr.put ke (k:=x) rv (V' hm)).mono (J:=[]) im))) ?_;intro g' x';exact kk () C _ g' x' trivial
end
section
theorem Gd.QT(g:Gd B F K A H C s)(ha:a∈C):(a==NS)=A6:=by
 refine xE g.mods ?_;intro o e;exact Lp.mpr λz=>by have :=g.fresh a ha;rw[z,e]at this;(exfalso;cases this)
theorem WT(g:Gd B F K A H C s)(hd:AL H.h i=G (.dict N))(ru:VR s.heap C (.ref i) u)(rk:VR s.heap C k ku)(hk:De N k=M){P:A4->Prop}(c:∀{T:Type}[DecidableEq T](By:KeyKind B.prog B.w T)(x:T)(f:T->AD A4)(a:A8),a∈C->By.is x ku=M->s.heap.MapOf By a f->(D' N k=L/\f x=L\/∃v w,D' N k=G v/\f x=G w/\VR s.heap C v w)->P (.ref a)):P u:=by
 refine AC ru ?_;intro a ha Aw;rw[Aw];refine AC (g.objs i _ hd) ?_;intro a' Fs r;rw[Bm (Fs.symm.trans ha)]at r;exact WS hk r rk λBy key x Az ke _ q hx hm dr=>c By x _ a (Ew ha) hx hm.dictOf.mapOf (q▸dr.look ke)
theorem WU(g:Gd B F K A H C s)(hd:AL H.h i=G (.dict N))(ru:VR s.heap C (.ref i) u):s.TypeIs u "dict":=AC ru λa ha q=>q▸AC (g.objs i _ hd) λa' Fs r=>Bm (Fs.symm.trans ha)▸r.elim (λr=>AC r λ_ m _=>m.dictOf.mapOf.typeIs) λr=>AC r λ_ m _=>m.dictOf.mapOf.typeIs
theorem lN(g:Gd B F K A H C s)(hd:AL H.h i=G (.dict N))(ru:VR s.heap C (.ref i) u)(rk:VR s.heap C k ku)(hk:De N k=M)(hv:D' N k=G v):Ae B F K A H C s (Pb u ku) (RV v):=WT (P:=λu=>Ae B F K A H C s (Pb u ku) (RV v)) g hd ru rk hk λBy x f a _ hx hm o A2 E kk=>o.elim (λh=>(AF (h.1.symm.trans hv)).elim) λo=>Bv o λv' w h hf r=>wpAny_getItem_of hx hm hf (kk w C _ (g.tok _) (Nx.refl ..) (Bm (h.symm.trans hv)▸r))
theorem lO{v:AD V}{f:AD A4}(o:v=L/\f=L\/∃v' w,v=G v'/\f=G w/\VR h C v' w):f.isSome=v.isSome:=o.elim (λo=>by rw[o.1,o.2];rfl) λo=>Bv o λ_ _ a b _=>by rw[a,b];rfl
theorem lP(g:Gd B F K A H C s)(hd:AL H.h i=G (.dict N))(ru:VR s.heap C (.ref i) u)(rk:VR s.heap C k ku)(hk:De N k=M):Ae B F K A H C s (Db .In ku u) (Do (.bool (D' N k).isSome)):=WT (P:=λu=>Ae B F K A H C s (Db .In ku u) (Do (.bool (D' N k).isSome))) g hd ru rk hk λBy x f a ha hx hm o A2 E kk=>wpAny_in_of hx (g.QT ha) hm (kk _ C _ (g.tok _) (Nx.refl ..) (congrArg NZ (lO o)))
theorem lQ(g:Gd B F K A H C s)(hd:AL H.h i=G (.dict N))(ru:VR s.heap C (.ref i) u)(rk:VR s.heap C k ku)(hk:De N k=M):Ae B F K A H C s (Db .NotIn ku u) (Do (.bool (!(D' N k).isSome))):=WT (P:=λu=>Ae B F K A H C s (Db .NotIn ku u) (Do (.bool (!(D' N k).isSome)))) g hd ru rk hk λBy x f a ha hx hm o A2 E kk=>wpAny_notIn_of hx (g.QT ha) hm (kk _ C _ (g.tok _) (Nx.refl ..) (congrArg (λb=>NZ (!b)) (lO o)))
end
theorem Dn.C2(r:Dn prog w h C a N):∀x,h.get? a=G x->C2 x=A6:=Ca.C2 (o:=.dict N) r (λ_ _ e=>by(exfalso;cases e))
theorem Dn.live(r:Dn prog w h C a N):∃o,h.get? a=G o:=r.elim (λr=>AC r λ_ m _=>DictAt.live m) λr=>AC r λ_ m _=>DictAt.live m
section
theorem lR{Am:I (V×V)}(hk:De Am k=M)(r:Dn B.prog B.w s.heap C D Am)(rk:VR s.heap C k ku)(rv:VR s.heap C v vu)(hf:CH Am=M){A2:DM->AR->Prop}(kk:∀Q,E4 D s.heap Q->Dn B.prog B.w Q C D (En Am k v)->A2 () {s with heap:=Q,toks:=s.toks+1}):AH (AQ B.prog B.w) A (Ri D ku vu) A2 E s:=by
 have hl:=Ef hf;have hc:=r.C2;exact WS hk r rk λBy key x Az ke back q hx hm dr=>lL hx hm (λQ HG hs=>kk Q hs (q▸back _ HG (T8 (p:=λJ=>DR key Q J _ _) ((dr.put ke (k:=x) rv (V' hm)).mono (J:=[]) (Gu hs.extBut hc))))) (B4 (dr.length▸hl) (show 100000<=FA by decide))
theorem compTurn_dict{k v:AA}{it:A4}{d:A8}(ha:g.is_async=0):Uv (.DictComp k v [g] sc pos) 0 it (.ref d) env=(do
 Ki g.iter.pos match<-ES it with
 |none=>pure (.done .next)|some x=>
 Y7 g.target it x
 Ex g.target env x let ok<-forIn g.ifs M λc r=>if r=M then do let ok<-bu0 c env (eval c env);pure (G3 ok)else pure (G3 r)if ok=M then do
 (do
 let kv<-eval k env let vv<-Hg [kv] (eval v env)Ki {k.pos with endLine:=v.pos.endLine,endCol:=v.pos.endCol}Hg [kv,vv] (Ri d kv vv))Kk (.compLoop (.DictComp k v [g] sc pos) 0 it (.ref d) env)else Kk (.compLoop (.DictComp k v [g] sc pos) 0 it (.ref d) env)):=by
 unfold Uv;have e1:([g]:I FP)[0+1]?=L:=rfl;simp only[bx3,ha,YC,Kl,Km,e1];rfl
structure b8(B:Bs)(A3:Mine.Ctx)(n:O):Prop where b9:∀{K:Kx}{k v:AA}{g:FP}{it:It}{i d:O}{H A7:Mine.St}{f:Fl},ev A3 n K (.Sk k v g it i d) H=.ok (.f f) A7->∀{sc:BU}{pos:B9},g.is_async=0->∀{F:Fm}{A:CK}{C BG:I A8}{s:AR}{Af:BK}{AE D:A8}{AS:Dt->AR->Prop},Gd B F K A H C s->C[d]?=G D->Nx F.D F.AZ Af s.heap BG C->Af.get? AE=L->CM B F C s.heap AE->E6 s.heap C it i AE->(∀AT s',Gd B F K A A7 AT s'->Nx F.D F.AZ Af s'.heap BG AT->AT[d]?=G D->AS (.ok .next) s')->D7 (AQ B.prog B.w) A (.compLoop (.DictComp k v [g] sc pos) 0 (.ref AE) (.ref D) F.env) AS s
theorem z_(A9:C5 B A3 n)(SD:b8 B A3 n){k v:AA}(h:step A3 K (ev A3 n) (.Sk k v g it i d) H=.ok (.f f) A7)(ha:g.is_async=0){AS:Dt->AR->Prop}(Bl:Gd B F K A H C s)(hD:C[d]?=G D)(Cq:Nx F.D F.AZ Af s.heap BG C)(hI:Af.get? AE=L)(fr:CM B F C s.heap AE)(r:E6 s.heap C it i AE)(kk:∀AT s',Gd B F K A A7 AT s'->Nx F.D F.AZ Af s'.heap BG AT->AT[d]?=G D->AS (.ok .next) s'):D7 (AQ B.prog B.w) A (.compLoop (.DictComp k v [g] sc pos) 0 (.ref AE) (.ref D) F.env) AS s:=by
 refine A0.Bx h ?_;clear h;intro o AP h;refine fk rfl (λ_ s'=>s'=s) (λn s' e=>?_) 0 rfl;subst e;show AH _ A ((Uv (.DictComp k v [g] sc pos) 0 (.ref AE) (.ref D) F.env).onRaise (λx=>do IF x F.env;fq x)) _ _ _;refine fw ?_;rw[compTurn_dict ha];have pre:∀{AM AZ:I A8}{h Q:BK}{A_ Au:I A8},Nx AM AZ h Q A_ Au->A_[d]?=G D->Au[d]?=G D:=λx e=>by refine AC x.pre ?_;intro J q _;rw[q];exact FY e
 refine A5 (El (A5 (K9 Bl fr r AP (λx hx u Q tk AN DU Eo Aq Hy=>?_) λhx Q tk AN DU=>?_)))
 . clear AP;subst hx;refine A0.Hx h ?_;clear h;intro _ Bc BD h;refine A0.OD h ?_;clear h;intro b GY C3 h;have L9:=Cq.F2 DU hI;refine A5 (QN Aq (A5 (A9.asg BD AN Hy _ _ λ_ Au Ai AU Al _=>?_)));refine A5 (l4 A9 C3 AU _ _ λMZ BS Ax Ap B8 BQ=>?_);clear C3;subst BQ;have xx:=Al.trans B8.FZ;have Ep:=L9.trans xx;have EF:=Eo.nx xx;have Gv:=Aq.nx xx Eo.C Eo.w;have lS:=pre xx hD;cases MZ with
 |false=>exact AW (.inr ⟨rfl,SD.b9 h ha Ap lS Ep hI EF Gv kk⟩)|true=>
   refine A0.Cg h ?_;clear h;intro kv l9 FH h;refine A0.Cg h ?_;clear h;intro vv bO4 Ma h;refine A0.OE h ?_;clear h;intro Am hd h;refine A0.Be h ?_;clear h;intro TV h;simp only[D6]at TV;refine xA TV ?_;(try clear TV);intro TV hf;refine A5 (A5 (A9.e FH Ap _ _ λku Ie EG CA Cz JQ=>A5 (C0 (A9.e Ma CA _ _ λvu QU Eg Cn EL Ij=>A5 (El (C0 ?_))))));have WV:=Cz.trans EL;have WK:=EF.nx WV;have WL:=Gv.nx WV EF.C (by simp);have bA:=pre WV lS;have dr:=Cn.obj hd bA;refine lR TV dr (JQ.nx EL) Ij hf λQ Df lT=>?_;refine xA (Cn.set (Q:=Q) (tk:=Eg.toks+1) (o':=.dict (En Am kv vv)) bA hd (λ_ _ e=>by(exfalso;cases e)) Df.extBut lT.live λim=>lT) ?_;intro Gb GG;exact AW (.inr ⟨rfl,SD.b9 h ha Gb bA (Ep.trans (WV.trans GG).FZ) hI (WK.nx GG) (WL.nx GG WK.C (by simp)) kk⟩)
 . clear AP;subst hx;refine xA (FG h) ?_;intro q Aw;clear h;subst Aw;exact AW (kk C _ AN (Cq.F2 DU hI) hD)
theorem za{k v:AA}{Am:A4}{AS:Dt->AR->Prop}(ha:g.is_async=0)(r:E6 s.heap C it i AE)(h:D7 (AQ B.prog B.w) A (.compLoop (.DictComp k v [g] sc pos) 0 (.ref AE) Am env) AS s):D7 (AQ B.prog B.w) A (.compStart (.DictComp k v [g] sc pos) 0 (.ref AE) Am env) AS s:=by
 refine Rc ?_;show AH _ A ((g7 (.DictComp k v [g] sc pos) 0 (.ref AE) Am env).onRaise (λx=>do IF x env;Ki bu1)) _ _ s;refine bu2 ?_;unfold g7;have e:(clausesOf (.DictComp k v [g] sc pos))[0]?=G g:=rfl;simp only[e,bu3,ha,YC,Kl,Km];refine A5 (Rd (g8 ?_));split;. exact AW (Rf rfl h)
 . exact A5 (Gm (A5 (El (A5 (l5 r (AW (Rf rfl h)))))))
end
theorem lU(e:h.get? a=G {cls:=.type "dict",data:=.dict #[]}):Dn prog w h C a []:=.inl ⟨[],⟨_,#[],e,⟨rfl,rfl,rfl⟩,rfl,λ_ hm=>by simp at hm,by first|exact .nil|exact rfl|(simp[Pairs]),by simp⟩,rfl⟩
section
theorem Gd.zb(AN:Gd B F K A H A_ AJ){A1:A8}(hW:F'.AZ=[A1])(g':Gd B F' K' A' A7 AT s')(TL:AJ.heap.get? A1=L)(x:Nx F.D F'.AZ AJ.heap s'.heap A_ AT)(hs:E4 A1 s'.heap Q)(I0:∀o,s'.heap.get? A1=G o->C2 o=A6):Gd B F K A ⟨H.env,A7.h,A7.n⟩ AT {s' with heap:=Q}/\Nx F.D [] AJ.heap Q A_ AT:=by
 refine G6 (g'.D5 A1 (by rw[hW];simp)) ?_;intro QQ OI _;have k:Ds A1 s'.heap Q:=hs.extBut;have im:=Gu k I0;have ne:∀{b:A8}{o:Bi},AJ.heap.get? b=G o->b≠A1:=λe z=>by rw[z,TL]at e;exact(BE e).elim
 have nW:∀{b:A8}{o:Bi},AJ.heap.get? b=G o->b∉F'.AZ:=λe m=>by rw[hW]at m;exact ne e (CI.mp m)
 have xx:Nx F.D [] AJ.heap Q A_ AT:=by
   refine⟨x.pre,λb o q=>?_,λb o q c=>k b o (ne q) (x.Bw b o q c),λb o q m _=>let⟨sl,z,r⟩:=x.same b o q m (nW q);⟨sl,k b _ (ne q) z,r⟩⟩;. refine xE (x.live b o q) ?_;intro o' q';exact⟨o',k b o' (ne q) q'⟩
 refine⟨AN.back (s':={s' with heap:=Q}) (A7:=⟨H.env,A7.h,A7.n⟩) xx g'.len g'.nodup g'.fresh (λa m=>?_) (λi p e=>?_) (λb p e=>k b p (λz=>by rw[z,QQ]at e;exact(BE e).elim) (g'.base b p e)) g'.os g'.gens (Cf.Gw AN AN.env xx),xx⟩;. refine xE (g'.live a m) ?_;intro p e;exact⟨p,k a p (λz=>OI (z▸m)) e⟩
 . refine AC (g'.objs i p e) ?_;intro b q r;have :=r.mono (J:=[]) im λy=>k b y λz=>OI (z▸Ew q);exact⟨b,q,by simpa using this⟩
theorem zc{k v:AA}:eval (.DictComp k v gens sc pos) env=bu9 (.DictComp k v gens sc pos) sc env (firstIterPos gens pos) newDict (Ux gens) (Uy gens env):=rfl
theorem zd(A9:C5 B A3 n)(SD:b8 B A3 n){k v:AA}{r:V}(h:Fq A3 K (ev A3 n) (.DictComp k v [g] sc pos) H=.ok (.v r) A7)(Bl:Gd B F K A H C s):Ae B F K A A7 C s (eval (.DictComp k v [g] sc pos) F.env) (RV r):=by
 refine A0.Be h ?_;clear h;intro Ih h;refine A0.Cg h ?_;clear h;intro w AB AP h;refine A0.Be h ?_;clear h;intro hs h;refine A0.Bx h ?_;clear h;intro it BD h;refine A0.Hx h ?_;clear h;intro _ Bc C3 h;refine xA (FG h) ?_;intro q Aw;subst Aw;injection q with q;subst q;refine xA (QO Ih) ?_;intro hp ha;intro A2 E kk;refine S8 (Bl.kinds.comp hs (A1:=s.heap.objs.size) rfl λc m z=>by refine H9 (Bl.D1 c m) ?_;intro _ o e;rw[z,GF]at e;exact(BE e).elim) ?_;intro _ hk Mc D2 Md _;rw[zc];have OM:Ux [g]=A6:=by obtain⟨_,_,_,k⟩:=g;show(k !=0)=A6;simp only at ha;rw[ha];rfl
 have ON:Uy [g] F.env=eval g.iter F.env:=by obtain⟨_,_,_,_⟩:=g;rfl
 rw[OM,ON];refine gC (use:=L) (g:=g) (gs:=[]) rfl (λx=>QL hp x) (WN D2) hk Md ?_;refine A9.e AP Bl _ _ λu A_ AJ AN Ab Aq=>?_;refine OF AN Aq BD λAE BD tk AU Al hI KA TC=>?_;refine IG ?_;skip;generalize hH:BD.push {cls:=.type "dict",dict:=L,data:=.dict #[]}=BF;have sz:BF.objs.size=BD.objs.size+1:=by rw[<-hH,II]
 have KJ:∀b o,BD.get? b=G o->BF.get? b=G o:=λb o e=>by rw[<-hH];exact C1 _ e
 have Mf:BD.get? BD.objs.size=L:=KD (DF _);have eD:BF.get? BD.objs.size=G {cls:=.type "dict",dict:=L,data:=.dict #[]}:=by rw[<-hH];exact CY _ rfl
 have Ap:=AU.new (Q:=BF) (tk:=tk) (o:=.dict []) KJ Mf ⟨_,eD⟩ (lU eD);have B8:Nx F.D ([]:I A8) BD BF A_ (A_++[BD.objs.size]):=Nx.add [_] KJ λb hb=>by rw[CI.mp hb];exact Mf
 have EF:=KA.nx B8;have Gv:=TC.nx B8 KA.C (by simp);refine bu7 Mc (λy hy=>by simp at hy) (λFH ns QS=>?_) hk;dsimp only at ns QS ⊢;have TW:BF.get? BF.objs.size=L:=KD (DF _);have OL:∀b o,BF.get? b=G o->FH.get? b=G o:=λb o e=>QS.extBut b o (λz=>by rw[z,TW]at e;exact(BE e).elim) (C1 _ e);have TL:AJ.heap.get? BF.objs.size=L:=HD (Al.trans B8).live TW;have WP:∀c∈F.env.cells,c.2≠BF.objs.size:=λc m z=>by refine H9 (Ap.D1 c m) ?_;intro _ o e;rw[z,TW]at e;exact(BE e).elim
 have CA:=Ap.comp (tk:=tk+([]:I (U×A4)).length) hs TW OL ns;have LA:CM B (I1 F sc BF.objs.size) (A_++[BD.objs.size]) FH AE:=EF.comp Ap hs (λz=>by refine xE EF.live ?_;intro o e;rw[z,TW]at e;exact(BE e).elim) (by refine xE EF.live ?_;intro o e;exact⟨o,OL _ _ e⟩) WP;have Cz:Nx F.D ([]:I A8) BF FH (A_++[BD.objs.size]) (A_++[BD.objs.size]):=Nx.ext OL;have HZ:=Gv.nx Cz EF.C (by simp);have hd:(A_++[BD.objs.size])[AB.n]?=G BD.objs.size:=by rw[<-AN.len];simp
 refine za ha HZ (SD.b9 C3 ha (F:=I1 F sc BF.objs.size) (Af:=AJ.heap) (BG:=A_) CA hd (Al.trans (B8.trans Cz)).FZ hI LA HZ λAT s' g' x' d'=>?_);refine AC ((λx=>x) g'.env) ?_;intro m Ft _;refine⟨m,Ft,λQ Df=>?_⟩;have I0:∀o,s'.heap.get? BF.objs.size=G o->C2 o=A6:=λo e=>by
  refine Gq Ft ?_;(try clear Ft);intro o' N ep e' d _;have e':s'.heap.get? BF.objs.size=G o':=e';rw[e']at e;injection e with e;subst e;unfold C2;rw[d];simp
 refine xA (AN.zb (F':=I1 F sc BF.objs.size) rfl g' TL x' Df I0) ?_;intro gg xx;exact kk _ _ _ gg (Ab.trans xx) ⟨_,d',rfl⟩
end
structure Cx(B:Bs)(A3:Mine.Ctx)(Kf:Gh):Prop where
 AV:Kf.In B.base
 makes:makesIn Kf A3.Dl=M
 init:Go Kf (.ref A3.Dl) "__init__"=G (G (.ref A3.QA))lV:tZ Kf (.ref A3.QA)=G (.type "function")ga:Go Kf (.ref A3.Dl) "__getattribute__"=G (G (.builtin "object.__getattribute__"))lW:Go Kf (.ref A3.Dl) "__getattr__"=G L
 lX:Go Kf (.ref A3.Dl) "__setattr__"=G (G (.builtin "object.__setattr__"))over:plainOver Kf A3.Dl=M
 bB:(clsIn Kf A3.Dl).any (·.hasDict)=M
 attrs:∀a,Su a=M->Go Kf (.ref A3.Dl) a=G L
 meths:∀m a,Ah A3.HW m=G a->Go Kf (.ref A3.Dl) m=G (G (.ref a))/\tZ Kf (.ref a)=G (.type "function")
theorem lY{o:Bi}{N:BW FQ}{m:U->AD A4}(d:o.data=.dict N ep)(k:t_ N)(f:∀name,Na N name=m name)(name:U):gF name o=G (m name):=by
 unfold gF;rw[d];dsimp only;have hf:=f name;unfold Na findBy at hf;rw[<-Array.find?_toList]at hf;cases q:N.toList.find? (λe=>e.key.isStr name)with
 |some e=>rw[q]at hf;rw[<-hf];rfl|none=>
 rw[q]at hf;have :N.toList.any (·.refKey)=A6:=by
  rw[YB];intro e he;refine DB (k e (gG.mp he)) ?_;intro n t hk;simp[bS6,hk]
 dsimp only;rw[this,<-hf];rfl
theorem ze{N:BW FQ}(k:t_ N)(u:ta N){A1:I U}(hL:∀name,Na N name≠L->name∈A1):N.size<=A1.length:=by
 have key:∀(l:I FQ)(A1:I U),(∀e∈l,∃n t,e.key=.str n t)->l.Pairwise (λa b=>∀n,a.key.isStr n=M->b.key.isStr n=M->Bj)->(∀e∈l,∀n t,e.key=.str n t->n∈A1)->l.length<=A1.length:=by
  intro l;induction l with
 |nil=>intro A1 _ _ _;simp|cons e l ih=>
  intro A1 hk hp hm;refine DB (hk e Co) ?_;intro n t he;refine xA (V0.mp hp) ?_;intro h1 h2;have hn:=hm e Co n t he;have :=ih (A1.erase n) (λe' Q=>hk e' (Cp _ Q)) h2 λe' Q n' t' q=>by
   have Cc:n'≠n:=λz=>by
    clear hn;subst z;exact h1 e' Q n' (by rw[he];simp[tb]) (by rw[q];simp[tb])
   exact(List.mem_erase_of_ne Cc).mpr (hm e' (Cp _ Q) n' t' q)
  rw[List.length_erase_of_mem hn]at this;have :0<A1.length:=List.length_pos_of_mem hn;simp only[V1];(with_reducible exact Mine.w9 (by assumption) (by assumption))
 have :=key N.toList A1 (λe he=>k e (gG.mp he)) u λe he n t q=>hL n λz=>by
  unfold Na findBy at z;simp only[Option.map_eq_none_iff,Array.find?_eq_none]at z;have :=z e (gG.mp he);rw[q]at this;simp[tb]at this
 simpa using this
theorem zf{K:Gh}{A3:A8}{od:Bi}{v:A4}(hh:(clsIn K A3).any (·.hasDict)=M)(ha:Go K (.ref A3) name=G L)(hl:gF name od=G (G v)):findObj K A3 (G od) name=G (.value v):=by
 refine AC (any_some hh) ?_;intro cd hc hd;unfold findObj;rw[hc,tc,ha,tc];simp only[tc,ownOf,hd,Kn,hl]
section
theorem Gd.AV(AG:Cx B A3 Kf)(g:Gd B F K A H C s):Kf.In s.heap:=λa o e=>g.base a o (AG.AV a o e)
theorem bD(g:Gd B F K A H C s){c:A8}{N:I (U×V)}(hi:AL H.h i=G (.inst c d))(hd:AL H.h d=G (.EY N))(ru:VR s.heap C (.ref i) u){P:A4->Prop}(k:∀a da od m LC ep,C[d]?=G da->s.heap.get? da=G od->od.data=.dict LC ep->t_ LC->ta LC->(∀name,Na LC name=m name)->s.heap.Ns1 da m->InstAt s.heap a {cls:=.ref c,dict:=G da,data:=.plain} c (G od)->(∀x,match Ah N x with|some v=>∃u,m x=G u/\VR s.heap C v u|none=>m x=L)->P (.ref a)):P u:=by
 refine AC ru ?_;intro a ha q;rw[q];refine AC (g.obj hi ha) ?_;intro da QV ho;refine AC (g.obj hd QV) ?_;intro m ns r;refine iP ((λx=>x) ns) ?_;intro od LC ep e dd kk uu f;exact k a da od m LC ep QV e dd kk uu f ns ⟨ho,rfl,rfl,e⟩ r
theorem zg(AG:Cx B A3 Kf)(g:Gd B F K A H C s){N:I (U×V)}{a:U}(hi:AL H.h i=G (.inst A3.Dl d))(hd:AL H.h d=G (.EY N))(ha:Su a=M)(hv:Ah N a=G v)(lZ:k8 v=M)(ru:VR s.heap C (.ref i) u)(WW:AK):Ae B F K A H C s (V2 u a WW) (RV v):=by
 intro A2 E k;apply bD g hi hd ru;intro x da od m LC ep _ _ dd kk _ f _ AE r;have :=r a;rw[hv]at this;refine AC this ?_;(try clear this);intro w e hw;have hh:handedIn w=M:=by
  cases v<;>first|(first|exact(E5 lZ).elim|cases lZ)|skip
  . cases hw;rfl
  . cases hw;rfl
  . refine xE hw ?_;(try clear hw);intro t BJ;clear e;subst BJ;rfl
  . refine xE hw ?_;(try clear hw);intro t BP;clear e;subst BP;rfl
  . refine Jx hw ?_;(try clear hw);intro _ _ _ _ Bq _;clear e;subst Bq;rfl
  . refine AC hw ?_;(try clear hw);intro _ _ Bg;clear e;subst Bg;rfl
  . refine Jx hw ?_;(try clear hw);intro _ _ _ _ Bu _;clear e;subst Bu;rfl
  . refine EX hw ?_;(try clear hw);intro _ _ C9 _;clear e;subst C9;rfl
  . refine xE hw ?_;(try clear hw);intro t Ck;clear e;subst Ck;rfl
  . refine EX hw ?_;(try clear hw);intro _ t D8 _;clear e;subst D8;rfl
  . refine EX hw ?_;(try clear hw);intro _ t DX _;clear e;subst DX;rfl
  . refine EX hw ?_;(try clear hw);intro _ t Ed _;clear e;subst Ed;rfl
 exact get_value (g.AV AG) AE AG.ga (zf AG.bB (AG.attrs a ha) (by rw[lY dd kk f,e])) hh (k w C _ (g.tok _) (Nx.refl ..) hw)
theorem zh(AG:Cx B A3 Kf)(g:Gd B F K A H C s){N:I (U×V)}{m:U}(hi:AL H.h i=G (.inst A3.Dl d))(hd:AL H.h d=G (.EY N))(hm:Ah N m=L)(ha:Ah A3.HW m=G a)(ru:VR s.heap C (.ref i) u)(pl:Dz AK):Gk (AQ B.prog B.w) s.heap (Jm u m pl) (.ref a,[u]):=by
 apply bD g hi hd ru;intro x da od mm LC ep _ eD dd kk _ f _ AE r;refine xA (AG.meths m a ha) ?_;intro h1 h2;have :=r m;rw[hm]at this;intro A A2 E s' k q;have I':InstAt s'.heap x {cls:=.ref A3.Dl,dict:=G da,data:=.plain} A3.Dl (G od):=⟨k _ _ AE.at_,rfl,rfl,k _ _ eD⟩;exact method_fn (λb o e=>k b o (g.AV AG b o e)) I' AG.ga AG.lW h1 h2 (by show(gF m od).map _=_;rw[lY dd kk f,this];rfl) q
end
theorem zi{K:Gh}{A3:A8}{a:U}(h:Go K (.ref A3) a=G L):takerIn K A3 a=G L:=by unfold takerIn;rw[h];rfl
theorem zj{a:U}{v:J}(N:I (U×J)):(E_ N a v).length<=N.length+1:=by induction N with
 |nil=>exact DF _|cons p N ih=>
 show(bC (Cw p.1 a) ((p.1,v)::N) (p::E_ N a v)).length<=_;cases Cw p.1 a with
 |true=>exact H4 _ _|false=>exact Ln ih
section
theorem zk{N:I (U×V)}{m:U->AD A4}(r:∀x,match Ah N x with|some v=>∃u,m x=G u/\VR h C v u|none=>m x=L)(hn:m name≠L):name∈N.map (·.1):=by
 have :=r name;cases q:Ah N name with
 |none=>rw[q]at this;exact absurd this hn|some v=>exact E0.mpr ⟨_,FF q,rfl⟩
theorem zl(AG:Cx B A3 Kf)(g:Gd B F K A H C s){N:I (U×V)}{a:U}(hi:AL H.h i=G (.inst A3.Dl d))(hd:AL H.h d=G (.EY N))(ha:Su a=M)(hf:CH N=M)(ru:VR s.heap C (.ref i) u)(rv:VR s.heap C v vu):Ae B F K A (H.set d (.EY (E_ N a v))) C s (setAttr u a vu) RU:=by
 intro A2 E k;apply bD g hi hd ru;intro x da od m LC ep QV eD dd kk uu f ns AE r;refine set_plain (g.AV AG) AE AG.lX ?_;refine osa_open (s:={s with toks:=s.toks+1}) (od:=G od) ((g.tok (s.toks+1)).AV AG) AE AG.over (zi (AG.attrs a ha)) λb=>?_;refine AC (any_some AG.bB) ?_;intro cd hc GX;refine A5 (AW (A5 (A5 (bx4 AE.at_ (A5 ((looks_clsIn ((g.tok (s.toks+1)).AV AG) hc).here ?_))))));rw[GX];refine AW (a:=G da) (A5 (AW (A5 ?_)));refine wpAny_nsSet1 (s:={s with toks:=s.toks+1}) ns λQ Ft hs=>A5 ?_;have r':∀x:Dw s.heap Q,∀y,match Ah (E_ N a v) y with|some v=>∃u,(if y=a then G vu else m y)=G u/\VR Q C v u|none=>(if y=a then G vu else m y)=L:=λim y=>by
  rw[QJ];by_cases q:y=a;. clear ha k Ft;subst q;simp only[Kn];exact⟨vu,rfl,rv.Bw im⟩
  . rw[CS (λz=>q z.symm),CS q];have :=r y;cases q:Ah N y with
 |none=>rw[q]at this;exact this|some w=>rw[q]at this;refine AC this ?_;(try clear this);intro u e z;exact⟨u,e,z.Bw im⟩
 refine xA (g.set (Q:=Q) (tk:=s.toks+1+1) (o':=.EY (E_ N a v)) QV hd (λ_ _ e=>by(exfalso;cases e)) hs.extBut (by refine Hq Ft ?_;(try clear Ft);intro o _ _ e _;exact⟨o,e⟩) λim=>⟨_,Ft,r' im⟩) ?_;intro g' x';refine iP ((λx=>x) Ft) ?_;intro o' bO5 zm e' d' k' u' f';refine wpAny_lookBehind e' (by
  rw[d'];refine pastItsLine_dict ?_;have hl:=ze k' u' (A1:=(E_ N a v).map (·.1)) λname hn=>by
    rw[f']at hn;exact zk (h:=Q) (C:=C) (r' x'.Bw) hn
  have hp:=zj (a:=a) (v:=v) N;have :=Ef hf;simp only[Jo]at hl;rw[sizeLine_eq];(with_reducible exact Mine.wU (by assumption) (by assumption) (by assumption))) ?_;exact AW (k () C _ g' x' trivial)
end
section
theorem GA.deep(k:GA K F)(d:O):GA ⟨K.sc,d⟩ F:=⟨k.fn,k.sc,k.kd,k.g3,k.b0,k.cells,k.Ia,k.MT⟩
theorem Gd.swap(g:Gd B F K A H C s)(kd:GA K' F)(fr:A'.frames=G F.outs)(hd:A'.handled=L)(dp:A'.depth+3*K'.d<900)(un:A'.units+10*K'.d<9000):Gd B F K' A' H C s:=⟨kd,g.len,g.nodup,g.fresh,g.live,g.D5,g.D1,g.objs,g.env,g.base,g.os,g.gens,fr,g.DT,g.Cy,g.mods,hd,dp,un⟩
theorem l_{c:A8}{C4:I A4}{kw:I (U×A4)}:(A.under (.builtin "type.__call__" ⟨.ref c::C4,kw⟩)).frames=A.frames/\(A.under (.builtin "type.__call__" ⟨.ref c::C4,kw⟩)).handled=A.handled/\(A.under (.builtin "type.__call__" ⟨.ref c::C4,kw⟩)).depth<=A.depth+1/\(A.under (.builtin "type.__call__" ⟨.ref c::C4,kw⟩)).units<=A.units+5:=by
 have hw:(td "type.__call__" ⟨.ref c::C4,kw⟩).weight=1:=by kernel_rfl
 have he:(td "type.__call__" ⟨.ref c::C4,kw⟩).envs=[]:=by kernel_rfl
 have hu:(td "type.__call__" ⟨.ref c::C4,kw⟩).cUnits=1:=by kernel_rfl
 refine⟨?_,rfl,?_,?_⟩
 . unfold Around.under;simp only[he,pushEnvs]
 . show A.depth+Code.weight _<=_;rw[hw];exact DF _
 . show A.units+Code.cUnits _<=_;rw[hu];(with_reducible exact HL (by decide) _)
theorem zn(AG:Cx B A3 Kf)(A9:C5 B A3 n)(g:Gd B F K A H C s)(rs:Aa s.heap C args us)(hK:K.d=d+1){fn:Fn}{o:Bi}(ok:FnAt B A3.QA fn o fd)(h:JK ⟨K.sc,d⟩ (ev A3 n) fn (.ref (H.n+1)::args) ⟨H.env,(H.n+1,.inst A3.Dl H.n)::(H.n,.EY [])::H.h,H.n+2⟩=.ok (.v .none) A7):Ae B F K A A7 C s (CE (.ref A3.Dl) us) (RV (.ref (H.n+1))):=by
 intro A2 E k;refine HQ ?_;obtain⟨hh,gs,dr,t,os⟩:=s;have AV:=g.AV AG;refine make_core (makes_of AV AG.makes) (Nb AV AG.init) (λself=>bind_fn AV self AG.lV) (.inl rfl) ?_;refine M9 (l_ (A:=A) (c:=A3.Dl) (C4:=us) (kw:=[])) ?_;intro u1 u2 u3 bW4;have kp:∀b o,hh.get? b=G o->((hh.push gH).push (gI A3.Dl hh.objs.size)).get? b=G o:=λb o e=>C1 _ (C1 _ e);generalize hH:(hh.push gH).push (gI A3.Dl hh.objs.size)=BF at kp;have eD:BF.get? hh.objs.size=G gH:=by rw[<-hH];exact C1 _ (CY _ rfl)
 have eX:BF.get? (hh.objs.size+1)=G (gI A3.Dl hh.objs.size):=by
  rw[<-hH];have :=CY (hh.push gH) (o:=gI A3.Dl hh.objs.size) rfl;rwa[II]at this
 have nD:hh.get? hh.objs.size=L:=KD (DF _);have nX:hh.get? (hh.objs.size+1)=L:=KD (PR _);have im:Dw hh BF:=λb o e _=>kp b o e;have hn:∀b∈[hh.objs.size,hh.objs.size+1],hh.get? b=L:=λb hb=>by
  rcases Cj.mp hb with z|z;. rw[z];exact nD
  . rw[CI.mp z];exact nX
 have Ab:Nx F.D ([]:I A8) hh BF C (C++[hh.objs.size,hh.objs.size+1]):=Nx.add _ kp hn;have i0:(C++[hh.objs.size,hh.objs.size+1])[H.n]?=G hh.objs.size:=by rw[<-g.len];simp
 have i1:(C++[hh.objs.size,hh.objs.size+1])[H.n+1]?=G (hh.objs.size+1):=by rw[<-g.len];simp
 have zo:BF.Ns1 hh.objs.size λ_=>L:=⟨_,#[],0,eD,rfl,λ_ hm=>by simp at hm,by unfold ta;simp,λ_=>rfl⟩;have AN:Gd B F K A ⟨H.env,(H.n+1,.inst A3.Dl H.n)::(H.n,.EY [])::H.h,H.n+2⟩ (C++[hh.objs.size,hh.objs.size+1]) ⟨BF,gs,dr,t,os⟩:=by
  refine g.of (Q:=BF) (tk:=t) (Nx.add _ kp hn) (by simp) hn (λb hb=>?_) (by simp[g.len]) (λi o e=>?_) (g.env.ext kp) (λb o e=>kp b o (g.base b o e))
  . rcases Cj.mp hb with z|z;. rw[z];exact⟨_,eD⟩
    . rw[CI.mp z];exact⟨_,eX⟩
  . simp only[AL]at e;cases q:BC (H.n+1) i with
 |true=>
     rw[q]at e;injection e with e;subst e;have :=CD q;clear q;subst this;exact⟨_,i1,_,i0,eX⟩|false=>
     rw[q]at e;cases q':BC H.n i with
 |true=>
      rw[q']at e;injection e with e;subst e;have :=CD q';clear q q';subst this;exact⟨_,i0,_,zo,λx=>rfl⟩|false=>
      rw[q']at e;refine AC (g.objs i o e) ?_;intro b p r;exact⟨b,FY p,r.mono im (kp b)⟩
 have dp:=g.depth;have un:=g.units;have AU:=AN.swap (A':=A.under (.builtin "type.__call__" ⟨.ref A3.Dl::us,[]⟩)) (g.kinds.deep d) (u1.trans g.frames) (u2.trans g.handled) (by show _+3*d<900;rw[hK]at dp;(with_reducible exact Mine.yV (by assumption) (by assumption) (by decide))) (by show _+10*d<9000;rw[hK]at un;(with_reducible exact Mine.yV (by assumption) (by assumption) (by decide)));refine ak A9 ok h AU (us:=.ref (hh.objs.size+1)::us) ⟨_,_,rfl,⟨_,i1,rfl⟩,rs.nx Ab⟩ λu AT s' g' x' r'=>?_;cases r';have gg:=g'.swap (K':=K) (A':=A) g.kinds g.frames g.handled dp un;refine⟨rfl,k _ AT s' gg (Ab.trans x') ⟨_,?_,rfl⟩⟩;refine AC (x'.pre) ?_;intro J e _;rw[e];exact FY i1
end
structure H_(B:Bs)(A3:Mine.Ctx)(Kf:Gh):Prop where
 at_:A3.Bp=135cls:∃oc od cd sl,Kf.lookup A3.Bp=G ⟨oc,od,.cls cd,sl⟩/\cd.hasDel=A6
 call:specialIn Kf (.ref A3.Bp) "__call__"=G (G (.builtin "type.__call__"))typ:instIn Kf (.ref A3.Bp) (.type "type")=G M
 self:YE Kf (.ref A3.Bp) (.ref A3.Bp)=G M
 tup:YE Kf (.ref A3.Bp) (.type "tuple")=G M
 obj:YE Kf (.ref A3.Bp) (.type "object")=G M
 init:Go Kf (.ref A3.Bp) "__init__"=G (G (.builtin "object.__init__"))len:Go Kf (.ref A3.Bp) "__len__"=G (G (.builtin "tuple.__len__"))iter:Go Kf (.ref A3.Bp) "__iter__"=G (G (.builtin "tuple.__iter__"))mro:∀A9,Rm Kf A9 (mroOf (.ref A3.Bp))=G [.ref A3.Bp,.type "tuple",.type "object"]made:∀A9,Rm Kf A9 (Bind.madeBy (.ref A3.Bp))=G L
 lc:∀A9,Rm Kf A9 (isType (.ref A3.Bp))=G M
 here:∀A9,Rm Kf A9 (Bind.madeHere "tuple.__new__" (.ref A3.Bp))=G ()lf:∀A9 T,Rm Kf A9 (gJ "tuple.__new__" ⟨[.ref A3.Bp,.ref T],[]⟩)=G ()reads:readsIn Kf A3.Bp (.type "type")=M
 new:∃p,te Kf (.ref A3.Bp) (.type "type") "__new__"=G (.get (.builtin "staticmethod.__get__") (.ref p) .none (.ref A3.Bp))/\∃C4,recIn Kf p "staticmethod"=G (.ref A3.Sl::C4)
theorem zp:Lv Lw "tuple.__new__"=G EB.«tuple.__new__»:=YF (by kernel_rfl)
section
theorem zq(An:H_ B A3 Kf)(AV:Kf.In B.base)(g:Gd B F K A H C s)(r:VR s.heap C (.tup L Y) u)(hf:CH Y=M):Ae B F K A H C s (CE (.builtin "tuple.__new__") [.ref A3.Bp,u]) (RV (.tup (G A3.Bp) Y)):=by
 intro A2 E k;refine Bv (QM r) ?_;intro T us Aw ht vr;clear r;subst Aw;have Gy:Kf.In s.heap:=λa o e=>g.base a o (AV a o e);refine Jx An.cls ?_;intro oc od cd sl hC lg;have bE:=Gy _ _ hC;have Ee:us.size<=FA:=by
  have e1:=vr.length;have :=Ef hf;simp at e1;exact B4 (show _<=100000 by(with_reducible exact Mine.yS (by assumption) (by assumption))) (by decide)
 refine HQ (codeAny_call_builtin_code (th _ (by decide+kernel)) ((Nc Gy (An.lf _ T)).here (J5 zp ?_)));skip;refine A5 ((Nc Gy (An.lc _)).here ?_);skip;refine A5 ((V3 Gy An.tup).here ?_);skip;refine A5 ((Nc Gy (An.here _)).here ?_);refine A5 ((Nb Gy An.init).here ?_);skip;refine A5 (AW (A5 (AW ?_)));show AH _ _ (YG (.ref T)>>=λl=>(pure l.toArray:Dz (BW A4))>>=λY=>alloc {cls:=.type "dict",data:=.dict #[]}>>=λd=>ti (.ref A3.Bp) (.seq Y) (G d)>>=λr=>ret r) _ _ _;refine Pr ht ?_;(try clear ht);intro o eT cT m dT;refine A5 (wpAny_collect_seq T (.inr rfl) eT cT dT (λQ kp=>A5 (AW (A5 (YH (A5 ?_))))) Ee);have LD:∀b o,s.heap.get? b=G o->(Q.push {cls:=.type "dict",data:=.dict #[]}).get? b=G o:=λb o e=>C1 _ (kp b o e);generalize hH:Q.push {cls:=.type "dict",data:=.dict #[]}=BF at LD;have step:AH (AQ B.prog B.w) (A.under (.builtin "tuple.__new__" ⟨[.ref A3.Bp,.ref T],[]⟩)) (newObjAsIs (.ref A3.Bp) (.seq us.toList.toArray) (G Q.objs.size)) (λr s'=>r=.ref BF.objs.size/\s'={s with heap:=BF.push {cls:=.ref A3.Bp,dict:=G Q.objs.size,data:=.seq us.toList.toArray}}) (λe s'=>E e s') {s with heap:=BF}:=by
  unfold newObjAsIs classHasDel;refine A5 (YH (A5 (A5 (NW (C1 _ (LD _ _ bE)) (AW ?_)))));rw[lg];exact AW ⟨rfl,rfl⟩
 have zr:AH (AQ B.prog B.w) (A.under (.builtin "tuple.__new__" ⟨[.ref A3.Bp,.ref T],[]⟩)) (ti (.ref A3.Bp) (.seq us.toList.toArray) (G Q.objs.size)) (λr s'=>r=.ref BF.objs.size/\s'={s with heap:=BF.push {cls:=.ref A3.Bp,dict:=G Q.objs.size,data:=.seq us.toList.toArray}}) (λe s'=>E e s') {s with heap:=BF}:=by
  unfold ti;simp only[];rw[CS (by simpa using Us.mpr Ee)];exact step
 refine Fg zr (λr s' hr=>?_) λ_ _ e=>e;refine xA hr ?_;(try clear hr);intro B6 BJ;subst B6;subst BJ;refine AW ?_;have bF:∀b o,s.heap.get? b=G o->(BF.push {cls:=.ref A3.Bp,dict:=G Q.objs.size,data:=.seq us.toList.toArray}).get? b=G o:=λb o e=>C1 _ (LD b o e);refine k _ C _ (g.ext (tk:=s.toks) bF) (Nx.ext bF) ⟨_,_,us.toList.toArray,0,rfl,CY _ rfl,⟨by rw[An.at_];rfl,λh=>by(exfalso;cases h)⟩,rfl,rfl,?_⟩;have :=vr.Bw (Q:=BF.push {cls:=.ref A3.Bp,dict:=G Q.objs.size,data:=.seq us.toList.toArray}) (λb o e _=>bF b o e);simpa using this
theorem zs(a b c d:A4):Jp "object.__init__" ⟨[a,b,c,d],[]⟩:=by unfold Jp;kernel_rfl
theorem zt(An:H_ B A3 Kf)(AV:Kf.In B.base)(A9:C5 B A3 n)(g:Gd B F K A H C s){x y z:V}(rs:Aa s.heap C [x,y,z] us)(hK:K.d=d+1){fn:Fn}{o:Bi}(ok:FnAt B A3.Sl fn o fd)(h:JK ⟨K.sc,d⟩ (ev A3 n) fn (.top (.ref A3.Bp)::[x,y,z]) H=.ok (.v (.tup (G A3.Bp) Y)) A7):Ae B F K A A7 C s (CE (.ref A3.Bp) us) (RV (.tup (G A3.Bp) Y)):=by
 intro A2 E k;refine HQ ?_;refine Yw rs ?_;(try clear rs);intro u1 us BP r1 u2 us Bq r2 u3 us Bg r3 zu;subst BP;subst Bq;subst Bg;cases zu;have Gy:Kf.In s.heap:=λa o e=>g.base a o (AV a o e);refine Jx An.cls ?_;intro oc od cd sl hC lg;have bE:=Gy _ _ hC;refine Rc ?_;show AH _ _ (V4 (.ref A3.Bp) _) _ _ _;refine A5 (NW bE ?_);show AH _ _ (bx5 (.ref A3.Bp) _) _ _ _;unfold bx5;refine A5 ((bx6 Gy An.call).here ?_);skip;skip;refine A5 (AW (A5 (AW ?_)));refine AW (a:=Fin.again (.call (.builtin "type.__call__") ⟨[.ref A3.Bp,u1,u2,u3],[]⟩)) (Rf rfl ?_);refine codeAny_call_builtin_at (th _ (by decide+kernel)) entry_typeCall (YI tc_kind tc_split (looks_instIn Gy An.typ) (tc_args _ _ _) ?_);unfold EB.«type.__call__»;refine A5 ((Nc Gy (An.mro _)).here ?_);skip;refine A5 ((Nc Gy (An.made _)).here ?_);refine M9 (l_ (A:=A) (c:=A3.Bp) (C4:=[u1,u2,u3]) (kw:=[])) ?_;intro v1 v2 v3 v4;generalize hA:A.under (.builtin "type.__call__" ⟨[.ref A3.Bp,u1,u2,u3],[]⟩)=A' at v1 v2 v3 v4 ⊢;have dp:=g.depth;have un:=g.units;have AN:=g.swap (A':=A') (g.kinds.deep d) (v1.trans g.frames) (v2.trans g.handled) (by show _+3*d<900;rw[hK]at dp;(with_reducible exact Mine.yV (by assumption) (by assumption) (by decide))) (by show _+10*d<9000;rw[hK]at un;(with_reducible exact Mine.yV (by assumption) (by assumption) (by decide)));refine vT An.new ?_;intro p hf C4 hp;refine A5 (cls_bind Gy An.reads hf (HQ (sm_get (s:={s with toks:=s.toks+1}) Gy hp (handed_on rfl ?_))));refine A5 (C0 (ko A9 ok h (AN.tok (s.toks+1)) (us:=[.ref A3.Bp,u1,u2,u3]) ⟨_,_,rfl,rfl,_,_,rfl,r1,_,_,rfl,r2,_,_,rfl,r3,rfl⟩ _ _ λu Au Ai AU Al BB=>?_));refine Ku BB ?_;(try clear BB);intro T oT zv m Bu eT tk cT dT vr;subst Bu;have TX:Kf.In Ai.heap:=λa o e=>AU.base a o (AV a o e);have tT:Gk (AQ B.prog B.w) Ai.heap (Hh (.ref T)) (.ref A3.Bp):=(Kj (part:=L) eT).andThen (by rw[cT];exact .now);have iT:∀{b:A4}{r:AK},YE Kf (.ref A3.Bp) b=G r->Gk (AQ B.prog B.w) Ai.heap (V5 (.ref T) b) r:=λe=>tT.andThen (V3 TX e);refine A5 ((iT An.self).here ?_);skip;have fin:AH (AQ B.prog B.w) A' (tj (.ref T) "__init__" [u1,u2,u3] []) (λr s'=>r=G .none/\s'=Ai) (λ_ _=>Bj) Ai:=by
  unfold tj Nd;refine A5 (A5 (tT.here ((Nb TX An.init).here ?_)));refine C0 ?_;skip;refine A5 (AW (A5 (HQ ?_)));show D7 _ A' (.call (.builtin "object.__init__") ⟨[.ref T,u1,u2,u3],[]⟩) _ Ai;refine Lx oi_plain entry_oi ?_;refine YI (i:="object.__init__") (owner:="object") (n:="__init__") (self:=.ref T) (rest:=[u1,u2,u3]) (kw:=[]) oi_kind oi_split (iT An.obj) (zs _ _ _ _) ?_;skip;skip;refine A5 (tT.here (A5 ((Nb TX An.init).here ?_)));refine A5 ((Nc TX (An.made _)).here ?_);skip;exact AW (AW ⟨rfl,rfl⟩)
 refine A5 (C0 (Fg fin (λr s' hr=>?_) λ_ _ e=>e.elim));refine xA hr ?_;(try clear hr);intro C9 Ck;subst C9;clear fin iT TX tT;subst Ck;refine AW ?_;have gg:=AU.swap (K':=K) (A':=A) g.kinds g.frames g.handled dp un;exact k _ Au s' gg Al ⟨T,oT,zv,m,rfl,eT,tk,cT,dT,vr⟩
end
noncomputable def Mg(h:BK)(t:A8)(Cb:BW A4):Prop:=∃o n,h.get? t=G o/\o.data=.seq Cb n
theorem Mg.extBut{t b:A8}(x:Mg h t Cb)(k:Ds b h Q)(ne:t≠b):Mg Q t Cb:=let⟨o,n,e,d⟩:=x;⟨o,n,k _ _ ne e,d⟩
theorem zw:Rn "tuple.__iter__"=G .slot:=by decide+kernel
theorem zx:gK "tuple.__iter__"=G ("tuple","__iter__"):=by decide+kernel
theorem zy:YJ "tuple.__iter__"=M:=by decide+kernel
section
theorem zz{it t:A8}{x:A4}{A2:AD A4->AR->Prop}(Bz:s.heap.IsTupleIter it t i)(ht:Mg s.heap t Cb)(hx:Cb[i]?=G x)(hQ:∀Q,Q.IsTupleIter it t (i+1)->E4 it s.heap Q->A2 (G x) {s with heap:=Q}):AH (AQ prog w) A (ES (.ref it)) A2 E s:=by
 refine CZ (id Bz) ?_;intro o ho hc hd;refine EX ht ?_;(try clear ht);intro ol nl OQ bG;unfold ES;refine A5 (Ro (Lu (name:=Ev "__next__") Bz.typeIs YK (Gn YK Bz.typeIs bx7 ?_ (bx8 _))));show AH _ _ (Ko (.ref it) 0>>=_) _ _ s;refine A5 (Gp ho hd (x:=.ref t) rfl ?_);show AH _ _ (if(Jq t==Hi)=M then _ else _) _ _ s;skip;show AH _ _ (Ko (.ref it) 1>>=_) _ _ s;refine A5 (Gp ho hd (x:=.int i 0) rfl ?_);show AH _ _ (Nf (.ref t)>>=_) _ _ s;refine A5 (Ng OQ bG ?_);simp only[gL,hx];refine A5 (Ly ho hd (by simp) (AW ⟨x,rfl,AW (hQ _ ?_ (Fh ..))⟩));exact⟨_,FS _ ho (tl (gM hd _)),(tm ..).trans hc,by rw[gM hd];simp[ET]⟩
theorem aa0{it t:A8}{A2:AD A4->AR->Prop}(hh:A.handled=L)(Bz:s.heap.IsTupleIter it t i)(ht:Mg s.heap t Cb)(hx:Cb[i]?=L)(hQ:∀Q,Ds it s.heap Q->A2 L {s with heap:=Q}):AH (AQ prog w) A (ES (.ref it)) A2 E s:=by
 refine CZ (id Bz) ?_;intro o ho hc hd;refine EX ht ?_;(try clear ht);intro ol nl OQ bG;unfold ES;refine A5 (Ro (Lu (name:=Ev "__next__") Bz.typeIs YK (Gn YK Bz.typeIs bx7 ?_ (bx8 _))));show AH _ _ (Ko (.ref it) 0>>=_) _ _ s;refine A5 (Gp ho hd (x:=.ref t) rfl ?_);show AH _ _ (if(Jq t==Hi)=M then _ else _) _ _ s;skip;show AH _ _ (Ko (.ref it) 1>>=_) _ _ s;refine A5 (Gp ho hd (x:=.int i 0) rfl ?_);show AH _ _ (Nf (.ref t)>>=_) _ _ s;refine A5 (Ng OQ bG ?_);simp only[gL,hx];refine A5 (Gm (A5 (Ly ho hd (by simp) ?_)));show AH _ _ (gN (.type "StopIteration") []>>=_) _ _ _;refine A5 ?_;simp only[gN,YL];refine A5 (IG ?_ (by size_fits));refine A5 (m:=V6 _ _) (NY (a:=Hi) (by first|rfl|(simp only[V6];rfl)) ?_);refine IG ?_ (by size_fits);skip;refine A5 (to ?_);first|rw[show A.in1.handled=L from hh]|rw[hh]
 refine A5 (AW (gO ?_));refine A5 (Lz (T:="StopIteration") (b:=M) ⟨_,CY _ rfl,rfl⟩ gP ?_);exact AW (hQ _ (((Fh ..).extBut.push _).push _))
theorem lh{it t:A8}(Cc:t≠it):∀(n i:O)(s:AR)(A2:I A4->AR->Prop),s.heap.IsTupleIter it t i->Mg s.heap t Cb->i+n<=Cb.size->(∀Q,Q.IsTupleIter it t (i+n)->E4 it s.heap Q->A2 ((Cb.toList.drop i).take n) {s with heap:=Q})->AH (AQ prog w) A (draw (.ref it) n) A2 E s
 |0,i,s,A2,Bz,_,_,hQ=>by
  show AH _ _ (pure []) A2 E s;exact AW (by simpa using hQ s.heap Bz (gD ..))|n+1,i,s,A2,Bz,ht,bH,hQ=>by
  have CF:i<Cb.size:=by omega
  show AH _ _ (ES (.ref it)>>=_) A2 E s;refine A5 (zz Bz ht (x:=Cb[i]) (by simp[CF]) λAP QW Ha=>?_);refine A5 (C0 (lh Cc n (i+1) _ _ QW (ht.extBut Ha.extBut Cc) (by(with_reducible exact Mine.Yz (by assumption))) λBD aa1 QX=>AW ?_));have hd:Cb.toList.drop i=Cb[i]::Cb.toList.drop (i+1):=by simp[YM,CF]
  have :=hQ BD (by rw[show i+(n+1)=i+1+n by omega];exact aa1) (Ha.trans QX);rw[hd,List.take_succ_cons]at this;exact this
end
section
theorem aa2(An:H_ B A3 Kf)(AV:Kf.In s.heap){t:A8}{o:Bi}(e:s.heap.get? t=G o)(hc:o.cls=.ref A3.Bp)(hQ:A2 (.ref s.heap.objs.size) {s with heap:=s.heap.push {cls:=.type "tuple_iterator",data:=.fields #[.ref t,.int 0 0]}}):AH (AQ B.prog B.w) A (PV (.ref t)) A2 E s:=by
 have tT:Gk (AQ B.prog B.w) s.heap (Hh (.ref t)) (.ref A3.Bp):=(Kj (part:=L) e).andThen (by rw[hc];exact .now);have sT:Gk (AQ B.prog B.w) s.heap (Nd (.ref t) "__iter__") (G (.builtin "tuple.__iter__")):=tT.andThen (Nb AV An.iter);have bI:AH (AQ B.prog B.w) A (call (.builtin "tuple.__iter__") [.ref t]) (λv s'=>v=.ref s.heap.objs.size/\s'={s with heap:=s.heap.push {cls:=.type "tuple_iterator",data:=.fields #[.ref t,.int 0 0]}}) E s:=by
  refine HQ (Lx zy F.entry_tuple_iter ?_);refine YI (i:="tuple.__iter__") (owner:="tuple") (n:="__iter__") (self:=.ref t) (rest:=[]) (kw:=[]) zw zx (tT.andThen (V3 AV An.tup)) (F.args_tuple_iter_1 _) ?_;show AH _ _ (do ret (<-newFields "tuple_iterator" [.ref t,ET 0])) _ _ s;exact A5 (IG (AW ⟨rfl,rfl⟩))
 unfold PV;refine A5 (sT.here ?_);show AH _ A (bx9 (.ref t) "__iter__" _>>=_) A2 E s;refine A5 ?_;simp only[bx9,by0];refine C0 (A5 (A5 (sT.here ?_)));skip;have fin:∀{P:AD A4->AR->Prop}{aa3:Dz A4},P (G (.ref s.heap.objs.size)) {s with heap:=s.heap.push {cls:=.type "tuple_iterator",data:=.fields #[.ref t,.int 0 0]}}->AH (AQ B.prog B.w) A (if(by1 "tuple.__iter__"==Hi)=M then(aa3>>=λv=>pure (G v))else(call (.builtin "tuple.__iter__") [.ref t]>>=λv=>pure (G v))) P E s:=λhp=>by
  rw[CS (show¬((by1 "tuple.__iter__"==Hi)=M)from NX)];refine A5 (Fg bI (λv s' hv=>?_) λ_ _ e=>e);refine xA hv ?_;(try clear hv);intro Aw B6;subst Aw;subst B6;exact AW hp
 have aa4:AH (AQ B.prog B.w) A (Nd (.ref s.heap.objs.size) "__next__") (λr s'=>∃f,r=G f/\s'={s with heap:=s.heap.push {cls:=.type "tuple_iterator",data:=.fields #[.ref t,.int 0 0]}}) E {s with heap:=s.heap.push {cls:=.type "tuple_iterator",data:=.fields #[.ref t,.int 0 0]}}:=YN ⟨_,CY _ rfl,rfl⟩ YK.lookup ⟨_,rfl,rfl⟩;have tail:=A5 (f:=λr=>match r with
 |none=>(do YO "iter.non-iterator";raiseError"TypeError"s!"iter() returned non-iterator of type '{<-PySem.typeNameOf (.ref s.heap.objs.size)}'":Dz A4)|some _=>pure (.ref s.heap.objs.size)) (Q:=A2) (Fg aa4 (λr s' hr=>by refine AC hr ?_;(try clear hr);intro f BJ BP;subst BJ;subst BP;exact AW hQ) λ_ _ e=>e);refine A5 (Rd (g8 ?_));split;. exact A5 (AW (AW (fin tail)))
 . exact Pc (A5 (AW (AW (fin tail))))
end
section
theorem aa5(An:H_ B A3 Kf)(AV:Kf.In s.heap)(hh:A.handled=L){t:A8}{o:Bi}(e:s.heap.get? t=G o)(hc:o.cls=.ref A3.Bp)(hd:o.data=.seq Cb m){WX:I (AK×(A4->Dz DM))}{A2:DM->AR->Prop}(hn:WX.length=Cb.size)(aa6:WX.findIdx? (·.1)=L)(h:∀Q,Ds s.heap.objs.size s.heap Q->AH (AQ B.prog B.w) A (NU (WX.map (·.2)) Cb.toList) A2 E {s with heap:=Q}):AH (AQ B.prog B.w) A (unpack (.ref t) WX) A2 E s:=by
 have CF:t≠s.heap.objs.size:=ER (Dh e);have tT:Gk (AQ B.prog B.w) s.heap (Hh (.ref t)) (.ref A3.Bp):=(Kj (part:=L) e).andThen (by rw[hc];exact .now);have sT:Gk (AQ B.prog B.w) s.heap (Nd (.ref t) "__iter__") (G (.builtin "tuple.__iter__")):=tT.andThen (Nb AV An.iter);unfold unpack;rw[hn,aa6];refine A5 (C0 ?_);unfold unpackItems;refine A5 ?_;skip;refine A5 (sT.here ?_);refine AW ?_;skip;refine A5 (C0 (aa2 An AV e hc ?_));have hs:Mg (s.heap.push {cls:=.type "tuple_iterator",data:=.fields #[.ref t,.int 0 0]}) t Cb:=⟨o,m,C1 _ e,hd⟩;refine A5 (C0 (lh CF Cb.size 0 _ _ ⟨_,CY _ rfl,rfl,rfl⟩ hs (by omega) λAP QW Ha=>?_));have OJ:List.take Cb.size (bu4 0 Cb.toList)=Cb.toList:=by rw[YP];exact gQ (by simp)
 rw[OJ,CS (by simp)];have aa7:Mg AP t Cb:=hs.extBut Ha.extBut CF;refine A5 (C0 (aa0 hh QW aa7 (by simp) λBD Ik=>?_));skip;exact AW (h BD λb o hb e=>Ik b o hb (Ha.extBut b o hb (C1 _ e)))
theorem aa8(AG:H_ B A3 Kf)(AV:Kf.In B.base)(A9:C5 B A3 n){c:AD A8}(h:L2 A3 K (ev A3 n) (.Tuple ts kd pos) (.tup c Y) H=.ok (.f f) A7)(g:Gd B F K A H C s)(r:VR s.heap C (.tup c Y) u):CJ B F K A A7 C s (Ex (.Tuple ts kd pos) F.env u) RU:=by cases c with
 |none=>exact yR A9 h g r|some c=>
 refine A0.Be h ?_;clear h;intro hl h;simp only[D6]at hl;refine xA hl ?_;(try clear hl);intro hl hp;have hl:=CD hl;refine Ku r ?_;(try clear r);intro a o us m Aw e tk hc hd rs;subst Aw;have GD:o.cls=.ref A3.Bp:=by
  have :c=135:=by simpa[W2]using tk.1
  rw[AG.at_,<-this];exact hc
 intro A2 E k;have Ch:ts.length=us.size:=by rw[<-hl,rs.length];simp
 have Gy:Kf.In s.heap:=λa o e=>g.base a o (AV a o e);skip;refine A5 (El (aa5 AG Gy g.handled e GD hd (by rw[WC,Ch]) (WD hp) λQ hx=>?_));have kp:∀b o,s.heap.get? b=G o->Q.get? b=G o:=λb o e=>hx b o (ER (Dh e)) e;have Ab:Nx F.D F.AZ s.heap Q C C:=Nx.ext kp;exact A9.MI h (g.ext (tk:=s.toks) kp) (rs.nx Ab) _ _ λ_ Au Ai AU Al _=>k () Au Ai AU (Ab.trans Al) trivial
theorem aa9(AG:Cx B A3 Kf)(A9:C5 B A3 n){o:AA}{a:U}(h:L2 A3 K (ev A3 n) (.Attribute o a pos) v H=.ok (.f f) A7)(g:Gd B F K A H C s)(r:VR s.heap C v vu):CJ B F K A A7 C s (Ex (.Attribute o a pos) F.env vu) RU:=by
 refine A0.Cg h ?_;clear h;intro w AB AP h;revert AP;apply EI h Ac;intro i h;refine A0.Bx h ?_;clear h;intro ob hi h;revert hi;apply jj h Ac;intro c d h hi AP;refine A0.Be h ?_;clear h;intro hc h;refine A0.Bx h ?_;clear h;intro od hd h;revert hd;apply Zo h Ac;intro N h hd;refine A0.Be h ?_;clear h;intro hf h;apply OC h;clear h;have hi:=CD (B1 hc)▸hi;have ha:=Ak hc;intro A2 E k;show AH _ A (do
 let ov<-Hg [vu] (eval o F.env)Ki pos.atName
 Hg [vu,ov] (setAttr ov a vu)release [vu,ov] []) A2 E s;refine A5 (C0 (A9.e AP g _ _ λu A_ AJ AN Ab Aq=>A5 (El (A5 (C0 (zl AG AN hi hd ha hf Aq (r.nx Ab) _ _ λ_ Au Ai AU Al _=>?_))))));exact by2 (k () Au Ai AU (Ab.trans Al).FZ trivial)
end
theorem WY{i:AX}(h:JH i=M):-1000000000<=i/\i<=1000000000:=by
 unfold JH at h;simpa using h
set_option tactic.hygienic true in
theorem bJ{l:I J}{k:AX}{x:J}(h:Q7 l k=G x):∃j,gR k l.length=G j/\l[j]?=G x:=by
 unfold Q7 at h;have lt:∀{j:O},l[j]?=G x->j<l.length:=λe=>(HM.mp e).1;split at h
 . split at h;. exact(BE h).elim
   . rw[HY]at h;refine⟨_,?_,h⟩;have :=lt h;unfold gR;rename_i h1 h2;simp only[h1,Kn];rw[DA (by simp only[D6,PW];(with_reducible exact Mine.iY (by assumption) (by assumption)))]
 . rw[HY]at h;refine⟨_,?_,h⟩;have :=lt h;unfold gR;rename_i h1;simp only[h1,Km];rw[DA (by simp only[D6,PW];(with_reducible exact Mine.iY (by assumption) (by assumption)))]
theorem ab0{i:AX}:Hj n i<=n:=br2.mpr (br0.mpr ⟨fU _,Int.min_le_right _ _⟩)
theorem WZ(l:I J)(lo hi:AD AX):Hv l lo hi=(l.drop (lo.elim 0 (Hj l.length))).take (hi.elim l.length (Hj l.length)-lo.elim 0 (Hj l.length)):=by
 unfold Hv;rw[List.drop_take];cases lo<;>cases hi<;>simp
theorem bK{us:BW A4}(r:Aa h C Y us.toList)(lo hi:AD AX):Aa h C (Hv Y lo hi) (Hk us lo hi L).toList:=by
 have hl:Y.length=us.size:=by rw[r.length];simp
 rw[WZ,by3,hl];simp only[List.toList_toArray];have dr:∀(n:O){a:I V}{b:I A4},Aa h C a b->Aa h C (a.drop n) (b.drop n):=λn=>by induction n with
 |zero=>intro a b x;simpa using x|succ n ih=>
  intro a b x;cases a with
 |nil=>cases x;simp;exact rfl|cons v a=>refine Bv x ?_;(try clear x);intro u us Aw _ y;subst Aw;simpa using ih y
 have tk:∀(n:O){a:I V}{b:I A4},Aa h C a b->Aa h C (a.take n) (b.take n):=λn=>by induction n with
 |zero=>intro a b x;exact rfl|succ n ih=>
  intro a b x;cases a with
 |nil=>cases x;simp;exact rfl|cons v a=>refine Bv x ?_;(try clear x);intro u us B6 z y;subst B6;exact⟨u,_,rfl,z,ih y⟩
 exact tk _ (dr _ r)
theorem ab1(x:Tx)(lo hi:AD (AX×EP)):(gT ⟨⟨x⟩⟩ lo hi L).filterMap ((⟨⟨x⟩⟩:U).cps[·]?)=Hv x (lo.map (·.1)) (hi.map (·.1)):=by
 unfold gT;have e:Rp (lo.map (·.1)) (hi.map (·.1)) 1 x.length=sliceRange (((lo.map (·.1)).elim 0 (Hj x.length):O):AX) (((hi.map (·.1)).elim x.length (Hj x.length):O):AX) 1:=by
  unfold Rp;cases lo<;>cases hi<;>simp[clipAt_cast]
 show(Rp (lo.map (·.1)) (hi.map (·.1)) 1 x.length).filterMap _=_;rw[e,by4,by5,WZ]
set_option tactic.hygienic true in
theorem OR{i:AA}{o w:A4}(h:∀a b p,i≠.Slice a b L p):subscripted i A6 o w=operate [o,w] (Pb o w):=by
 cases i<;>try rfl
 rename_i a b st p;cases st with
 |none=>exact absurd rfl (h _ _ _)|some _=>rfl
section
theorem ab2(x:Tx):(⟨⟨x⟩⟩:U).length=x.length:=rfl
set_option tactic.hygienic true in
theorem ab3{o r:V}{w:A4}(g:Gd B F K A H C s)(ro:VR s.heap C o u)(rk:VR s.heap C k w)(h:aE o k H=.ok (.v r) A7)(hu:∀i N,o=.ref i->AL H.h i≠G (.B3 N))(value i:AA)(hs:∀a b p,i≠.Slice a b L p):Ae B F K A A7 C s (tp value i u w) (RV r):=by
 revert ro;apply O0 h
 . intro x h ro;revert rk;apply Cu h Ac;intro j h rk;refine A0.Be h λhc h=>?_;refine xA (MX h) ?_;intro AP BJ;clear h hu;subst BJ;cases hx:Q7 x j with
 |none=>rw[hx]at AP;exact(AF AP).elim|some y=>
     rw[hx]at AP;apply Br AP;intro A2 E kk;refine AC (bJ hx) ?_;intro m e1 e2;refine xE ro ?_;(try clear ro);intro t BP;subst BP;refine xE rk ?_;(try clear rk);intro t' Bq;subst Bq;have hm:=WY (B1 hc);refine Kp (Pd s _ t) by6.lookup (P.getItem_str (i:=j) (c:=y) (by simp only[by7,gU];omega) ?_ ?_) (OR hs);. rw[ab2,e1];simpa using e2
     . exact kk _ C _ (g.tok _) (Nx.refl ..) ⟨_,rfl⟩
 intro h;apply jc h
 . intro c Y h ro;revert ro;apply GQ h Ac;intro h ro;revert rk;apply Cu h Ac;intro j h rk;refine A0.Be h λhc h=>?_;refine xA (MX h) ?_;intro AP Bg;clear h hu;subst Bg;intro A2 E kk;refine AC (bJ AP) ?_;intro m e1 e2;refine Ku ro ?_;(try clear ro);intro a o us n Bu e tg EK hd vr;subst Bu;refine xE rk ?_;(try clear rk);intro t' C9;subst C9;refine xA (tg.2 rfl) ?_;intro Mh Mi;have ho:o={cls:=.type "tuple",data:=.seq us n}:=by obtain⟨c1,c2,c3,c4⟩:=o;simp only at EK hd Mh Mi;rw[EK,hd,Mh,Mi];rfl
   have hm:=WY (B1 hc);refine AC (vr.get e2) ?_;intro y ey ry;have Ch:Y.length=us.size:=by rw[vr.length];simp
   rw[Ch]at e1;refine Kp ⟨o,e,EK⟩ PySem.F.slot_tuple_getitem.lookup (P.getItem_tuple (n:=n) (by rw[ho]at e;exact e) (by omega) (by omega) e1 (by simpa using ey) ?_) (OR hs);exact kk _ C _ g (Nx.refl ..) ry
 intro h;revert hu;apply EI h Ac;intro i' h hu ro;refine A0.Bx h λob hl h=>?_;revert hl;apply K0 h
 . intro Y h hl;refine AC ro ?_;(try clear ro);intro a ha Ck;subst Ck;refine AC (g.obj hl ha) ?_;intro us hp vr;have Ch:Y.length=us.size:=by rw[vr.length];simp
   revert rk;apply Pz h
   . intro j h rk;refine A0.Be h λhc h=>?_;refine xA (MX h) ?_;intro AP D8;clear h hl hu;subst D8;intro A2 E kk;refine xE rk ?_;(try clear rk);intro t' DX;subst DX;have hm:=WY (B1 hc);refine AC (bJ AP) ?_;intro m e1 e2;refine AC (vr.get e2) ?_;intro y ey ry;have QY:us[m]?=G y:=by simpa using ey
     have CF:m<us.size:=(gV.mp QY).1;have main:AH (AQ B.prog B.w) A (Pb (.ref a) (.int j t')) A2 E s:=by
      unfold gR at e1;by_cases hj:j<0
      . simp only[hj,Kn]at e1;split at e1
        . rename_i hb;simp only[D6,PW]at hb;injection e1 with e1;refine wpAny_getItem_list_neg hp.isList hj (by omega) (by omega) ?_ (kk _ C _ g (Nx.refl ..) ry);rw[<-Ch,e1];exact QY
        . exact(BE e1).elim
      . simp only[hj,Km]at e1;split at e1
        . injection e1 with e1;refine tq hp.isList (by omega) (by omega) ?_ (kk _ C _ g (Nx.refl ..) ry);rw[e1];exact QY
        . exact(BE e1).elim
     exact Kp hp.isList.typeIs Pe.lookup main (OR hs)
   . intro h;apply wx h Ac;intro m h rk;refine A0.Be h λhc h=>?_;apply B5 h;intro A2 E kk;have h1:=B1 hc;have h2:=B1 (Ak hc);have h3:=Ak (Ak hc);refine Bv rk ?_;(try clear rk);intro AG t' Ed x1 x2;subst Ed;have h1:=CD h1;have h2:=Dk h2;have CF:AG.toNat<Y.length:=by(with_reducible exact Mine.vn (by assumption) (by assumption) (by assumption))
     have e2:Y[AG.toNat]?=G Y[AG.toNat]:=Hl CF;refine AC (vr.get e2) ?_;intro y ey ry;have QY:us[AG.toNat]?=G y:=by simpa using ey
     refine Kp hp.isList.typeIs Pe.lookup (tq hp.isList x1 (by omega) QY (kk _ C _ g (Nx.refl ..) ?_)) (OR hs);have hm:=(Bn.mp h3) _ (gW CF);revert ry hm;cases Y[AG.toNat]<;>intro ry hm<;>first|(exact(E5 hm).elim;done)|skip
     refine xE ry ?_;(try clear ry);intro t FE;clear ey QY;subst FE;refine AC (IJ.mp hm) ?_;intro z hz hq;rw[Ec]at hq;exact⟨_,t,rfl,hq▸hz⟩
 intro h;apply Sd h
 . intro N h hl;refine A0.Be h λhc h=>?_;refine xA (MX h) ?_;intro AP GC;clear h hu;subst GC;intro A2 E kk;exact Kp (WU g hl ro) by8.lookup (lN g hl ro rk hc AP _ _ kk) (OR hs)
 intro h;apply Sf h Ac;intro N h hl;exact absurd hl (hu _ _ rfl)
end
theorem DR.mem{key:T->V}{l:I (T×A4)}(d:DR key h C N l):∀p∈N,∃k,p.1=key k/\k∈l.map (·.1):=DR.ind (P:=λN l=>∀p∈N,∃k,p.1=key k/\k∈l.map (·.1)) (λ_ m=>nomatch m) (λk _ _ _ _ _ _ ih p hp=>(Cj.mp hp).elim (λz=>⟨k,congrArg tu z,Co⟩) λz=>AC (ih p z) λk' e' m=>⟨k',e',Cp _ m⟩) d
theorem li{p:V×V}{l:I (V×V)}{x:V}:D' (p::l) x=match G8 p.1 x with|some M=>G p.2|_=>D' l x:=rfl
theorem bL[DecidableEq T]{key:T->V}(hk:∀a b,G8 (key a) (key b)=G (decide (a=b))){k:T}:(∀p∈N,∃k,p.1=key k)->(D' N (key k)=L↔∀p∈N,p.1≠key k):=by induction N with
 |nil=>exactλ_=>⟨λ_ _ m=>(nomatch m),λ_=>rfl⟩|cons e N ih=>
 intro h;have ih:=ih λp m=>h p (Cp _ m);refine xE (h e Co) ?_;intro k' e1;rw[li,e1,hk];by_cases q:k'=k
 . rw[Rj q];exact⟨λz=>(nomatch z),λz=>(z e Co (by rw[e1,q])).elim⟩
 . rw[Rk q];have Cc:key k'≠key k:=λz=>by have :=hk k' k;rw[z,hk,Rj rfl,Rk q]at this;(exfalso;cases this)
   exact ih.trans ⟨λa p m=>(Cj.mp m).elim (λz=>by rw[z,e1];exact Cc) (a p),λa p m=>a p (Cp _ m)⟩
theorem lj[DecidableEq T]{key:T->V}(hk:∀a b,G8 (key a) (key b)=G (decide (a=b))){k:T}:(∀p∈N,∃k,p.1=key k)->D' N (key k)=G v->(key k,v)∈N:=by induction N with
 |nil=>exactλ_ e=>(AF e).elim|cons e N ih=>
 intro h q;refine xE (h e Co) ?_;intro k' e1;rw[li,e1,hk]at q;by_cases z:k'=k
 . rw[Rj z]at q;have q:G e.2=G v:=q;rw[<-z,<-e1,<-Bm q];exact Co
 . rw[Rk z]at q;exact Cp _ (ih (λp m=>h p (Cp _ m)) q)
theorem DR.uniq[DecidableEq T]{key:T->V}(hk:∀a b,G8 (key a) (key b)=G (decide (a=b))){k:T}{l:I (T×A4)}(d:DR key h C N l):(l.map (·.1)).Nodup->(key k,v)∈N->(key k,v')∈N->v=v':=DR.ind (P:=λN l=>(l.map (·.1)).Nodup->(key k,v)∈N->(key k,v')∈N->v=v') (λ_ m=>nomatch m) (λk' _ u N r _ y ih hn m m'=>by
 refine xA (EU.mp hn) ?_;intro h1 h2;have inj:∀{a b:T},key a=key b->a=b:=λ{a b}z=>by have :=hk a b;rw[z,hk]at this;simpa using this
 rcases Cj.mp m with z|z<;>rcases Cj.mp m' with z'|z';. rw[<-z']at z;injection z
 . exfalso;refine AC (DR.mem y _ z') ?_;intro k2 e2 m2;have a1:k2=k:=inj e2.symm;have a2:k'=k:=inj (by9.mp z).1.symm;exact h1 (by rw[a2,<-a1];exact m2)
 . exfalso;refine AC (DR.mem y _ z) ?_;intro k2 e2 m2;have a1:k2=k:=inj e2.symm;have a2:k'=k:=inj (by9.mp z').1.symm;exact h1 (by rw[a2,<-a1];exact m2)
 . exact ih h2 z z') d
theorem lk[DecidableEq T]{key:T->V}(hk:∀a b,G8 (key a) (key b)=G (decide (a=b))){l:I (T×A4)}(r:DR key h C BN l)(hn:(l.map (·.1)).Nodup)(p:BN.Perm N)(k:T):D' N (key k)=D' BN (key k):=by
 have a':∀p∈BN,∃k,p.1=key k:=λq m=>let⟨k,e,_⟩:=r.mem q m;⟨k,e⟩;have a:∀p∈N,∃k,p.1=key k:=λq m=>a' q (p.mem_iff.mpr m);cases q:D' N (key k)with
 |none=>
  have :=(bL hk a).mp q;exact((bL hk a').mpr λx m=>this x (p.mem_iff.mp m)).symm|some v=>
  have m:=lj hk a q;have m':=p.mem_iff.mpr m;cases q':D' BN (key k)with
 |none=>exact absurd rfl ((bL hk a').mp q' _ m')|some v'=>rw[DR.uniq hk r hn m' (lj hk a' q')]
theorem ll(r:Dn prog w h C a BN)(p:BN.Perm N)(hk:De N k=M):De BN k=M:=by cases N with
 |nil=>rw[List.perm_nil.mp p];exact hk|cons e N=>
 have hm:e∈BN:=p.mem_iff.mpr Co;obtain⟨e0,e2⟩:=e;cases BN with
 |nil=>simp at hm|cons d ds=>
 obtain⟨bW5,d2⟩:=d;rcases r with BP|Bq;refine AC BP ?_;(try clear BP);intro Az _ hd;rotate_left;refine AC Bq ?_;(try clear Bq);intro Az _ hd;rotate_left
 . refine AC (hd.mem _ hm) ?_;intro k1 q1 _;refine AC (hd.mem _ Co) ?_;intro k2 q2 _;simp only at q1 q2;subst q1;subst q2;cases k<;>first|exact hk|cases hk
 . refine AC (hd.mem _ hm) ?_;intro k1 q1 _;refine AC (hd.mem _ Co) ?_;intro k2 q2 _;simp only at q1 q2;subst q1;subst q2;cases k<;>first|exact hk|cases hk
section
set_option tactic.hygienic true in
theorem Gd.open(g:Gd B F K A H C s)(h:AL H.h i=G (.B3 N)):∃BN,W6 BN N/\Gd B F K A (H.set i (.dict BN)) C s/\AL (H.set i (.dict BN)).h i=G (.dict BN)/\(∀k,De N k=M->De BN k=M)/\(∀k,De N k=M->D' N k=D' BN k):=by
 refine vV (g.objs i _ h) ?_;intro a ha BN p r;refine⟨BN,p,?_,MP h,λk hk=>ll r p.1 hk,λk hk=>?_⟩
 . have x:Nx F.D F.AZ s.heap s.heap C C:=Nx.refl ..;refine⟨g.kinds,g.len,g.nodup,g.fresh,g.live,g.D5,g.D1,λj o e=>?_,g.env,g.base,g.os,g.gens,g.frames,g.DT,g.Cy,g.mods,g.handled,g.depth,g.units⟩;rcases aO e with Bg|Bu;refine xA Bg ?_;(try clear Bg);intro D8 DX;subst D8;subst DX;rotate_left;refine xA Bu ?_;(try clear Bu);intro _ e;rotate_left;. exact⟨a,ha,r⟩
   . exact g.objs j o e
 . have KI:=ll r p.1 hk;replace p:=p.1;cases BN with
 |nil=>rw[List.nil_perm.mp p]|cons d ds=>
   obtain⟨bW5,d2⟩:=d;rcases r with C9|Ck;refine AC C9 ?_;(try clear C9);intro Az hm hd;rotate_left;refine AC Ck ?_;(try clear Ck);intro Az hm hd;rotate_left
   . refine AC (hd.mem _ Co) ?_;intro k2 q2 _;simp only at q2;subst q2;cases k<;>first|(first|exact(E5 KI).elim|cases KI)|skip
     rename_i x;exact lk WR hd (V' hm) p ⟨⟨x⟩⟩
   . refine AC (hd.mem _ Co) ?_;intro k2 q2 _;simp only at q2;subst q2;cases k<;>first|(first|exact(E5 KI).elim|cases KI)|skip
     rename_i x;exact lk b5 hd (V' hm) p x
theorem Gd.close(h:AL H.h i=G (.B3 N))(p:W6 BN N)(g:Gd B F K A (H.set i (.dict BN)) C s):Gd B F K A H C s:=by
 refine⟨g.kinds,g.len,g.nodup,g.fresh,g.live,g.D5,g.D1,λj o e=>?_,g.env,g.base,g.os,g.gens,g.frames,g.DT,g.Cy,g.mods,g.handled,g.depth,g.units⟩;by_cases q:j=i
 . subst q;rw[h]at e;injection e with e;subst e;refine AC (g.objs j _ (MP h)) ?_;intro a ha r;exact⟨a,ha,BN,p,r⟩
 . exact g.objs j o (by show AL (putN H.h i _) j=_;rw[MQ q];exact e)
theorem ab4(g:Gd B F K A H C s)(hd:AL H.h i=G (.B3 N))(ru:VR s.heap C (.ref i) u)(rk:VR s.heap C k ku)(hk:De N k=M)(hv:D' N k=G v):s.TypeIs u "dict"/\Ae B F K A H C s (Pb u ku) (RV v):=by
 refine S9 (g.open hd) ?_;intro BN p g' Q k' l';have Bh:=(l' k hk)▸hv;refine⟨?_,λA2 E kk=>lN g' Q ru rk (k' k hk) Bh A2 E λw AT s' AU Al BB=>kk w AT s' (Gd.close hd p AU) Al BB⟩;exact WU g' Q ru
theorem ab5(g:Gd B F K A H C s)(hd:AL H.h i=G (.B3 N))(ru:VR s.heap C (.ref i) u)(rk:VR s.heap C k ku)(hk:De N k=M):Ae B F K A H C s (Db .In ku u) (Do (.bool (D' N k).isSome)):=by
 refine S9 (g.open hd) ?_;intro BN p g' Q k' l';rw[l' k hk];exactλA2 E kk=>lP g' Q ru rk (k' k hk) A2 E λw AT s' AU Al BB=>kk w AT s' (Gd.close hd p AU) Al BB
theorem ab6(g:Gd B F K A H C s)(hd:AL H.h i=G (.B3 N))(ru:VR s.heap C (.ref i) u)(rk:VR s.heap C k ku)(hk:De N k=M):Ae B F K A H C s (Db .NotIn ku u) (Do (.bool (!(D' N k).isSome))):=by
 refine S9 (g.open hd) ?_;intro BN p g' Q k' l';rw[l' k hk];exactλA2 E kk=>lQ g' Q ru rk (k' k hk) A2 E λw AT s' AU Al BB=>kk w AT s' (Gd.close hd p AU) Al BB
theorem ab7(A9:C5 B A3 n){o i:AA}{ov:V}(hs:∀a b p,i≠.Slice a b L p)(AP:ev A3 n K (.e o) H=.ok (.v ov) AB)(h:((ev A3 n K (.e i) AB).V λk H=>aE ov k H)=.ok (.v v) A7)(g:Gd B F K A H C s):Ae B F K A A7 C s (eval (.Subscript o i pos) F.env) (RV v):=by
 refine A0.Cg h ?_;clear h;intro kv Bc BD h;intro A2 E kk;refine YQ (A9.e AP g _ _ λu A_ AJ AN Ab Aq=>A9.e BD AN _ _ λw Au Ai AU Al BB=>?_);have ro:=Aq.nx Al;have xx:=Ab.trans Al;by_cases hu:∃j N,ov=.ref j/\AL Bc.h j=G (.B3 N)
 . refine EX hu ?_;(try clear hu);intro j N B6 hj;subst B6;refine A0.Bx (show k6 j kv Bc=_ from h) ?_;intro o' e' h;rw[hj]at e';injection e' with e';subst e';refine A0.Be h ?_;clear h;intro hc h;refine A0.Bx h ?_;clear h;intro c C3 h;refine xA (FG h) ?_;intro q BJ;subst BJ;injection q with q;subst q;refine xA (ab4 AU hj ro BB hc C3) ?_;intro hT d;exact Kp hT by8.lookup (d _ _ λy BS Ax Ap B8 BQ=>kk y BS Ax Ap (xx.trans B8) BQ) (OR hs)
 . exact ab3 AU ro BB h (λj N e z=>hu ⟨j,N,e,z⟩) o i hs _ _ λy BS Ax Ap B8 BQ=>kk y BS Ax Ap (xx.trans B8) BQ
end
section
theorem part_of{a:AD AX}(r:VR h C v u)(e:Ss v=G a):∃p:AD (AX×EP),u=V7 p/\a=p.map (·.1):=by
 revert r;apply Zm e
 . intro e r;cases r;apply Br e;exact⟨L,rfl,rfl⟩
 intro e;apply Cu e AF;intro i e r;refine Ce e AF λ_ e=>?_;refine xE r ?_;(try clear r);intro t Aw;subst Aw;apply Br e;exact⟨G (i,t),rfl,rfl⟩
theorem W_(p:AD (AX×EP)):IsPart (V7 p) (p.map (·.1)):=by cases p with
 |none=>exact .none|some p=>exact .int _ _
set_option tactic.hygienic true in
theorem ab8{o lo hi r:V}{p q:AD (AX×EP)}{sl:A8}(g:Gd B F K A H C s)(ro:VR s.heap C o u)(hl:Ss lo=G (p.map (·.1)))(hh:Ss hi=G (q.map (·.1)))(h:aF o lo hi H=.ok (.v r) A7)(value l:AA)(hs:s.heap.IsSlice sl p q L)(lm:∀{o i:A4},subscripted l A6 o i=operate [i,o] (Pb o i)):Ae B F K A A7 C s (tp value l u (.ref sl)) (RV r):=by
 intro A2 E kk;refine A0.Bx h ?_;clear h;intro a ha h;refine A0.Bx h ?_;clear h;intro b hb h;rw[hl]at ha;injection ha with ha;subst ha;rw[hh]at hb;injection hb with hb;subst hb;have lst:A0.lst H.h o (λ_ Y=>A0.iff (CH Y) (FX (H.new (.list (Hv Y (p.map (·.1)) (q.map (·.1)))))))=.ok (.v r) A7->AH (AQ B.prog B.w) A (tp value l u (.ref sl)) A2 E s:=λh=>by
  revert ro;apply A0.MW h;clear h;intro i Y hx h ro;refine A0.Be h ?_;clear h;intro hf h;refine xA (FG h) ?_;intro z B6;subst B6;injection z with z;subst z;refine AC ro ?_;(try clear ro);intro x JP BJ;subst BJ;refine AC (g.obj hx JP) ?_;intro us hp vr;have Ch:us.size<=100000:=by have :=Ef hf;have e:=vr.length;simp at e;(with_reducible exact Mine.yS (by assumption) (by assumption))
  refine Kp hp.isList.typeIs Pe.lookup (tv hp.isList hs (W_ p) (W_ q) gX (by simp) ?_ (B4 Ch (by decide))) lm;have kp:∀b o,s.heap.get? b=G o->(s.heap.push {cls:=.type "list",data:=.seq (Hk us (p.map (·.1)) (q.map (·.1)) L)}).get? b=G o:=λb o e=>C1 _ e;have hg:=CY s.heap (o:={cls:=.type "list",data:=.seq (Hk us (p.map (·.1)) (q.map (·.1)) L)}) rfl;refine kk _ (C++[s.heap.objs.size]) _ (g.new (tk:=s.toks) kp (GF _) ⟨_,hg⟩ (o:=.list (Hv Y (p.map (·.1)) (q.map (·.1)))) ⟨_,⟨_,hg⟩,?_⟩) (Nx.add [_] kp λb hb=>by rw[CI.mp hb];exact GF _) ⟨_,?_,rfl⟩;. exact(bK vr _ _).mono λb o e _=>kp b o e
  . rw[<-g.len];simp
 cases o with
 |str x=>
  refine A0.Be h ?_;clear h;intro hf h;refine xA (FG h) ?_;intro z BP;subst BP;injection z with z;subst z;refine xE ro ?_;(try clear ro);intro t Bq;subst Bq;refine Kp (Pd s _ t) by6.lookup (wpAny_getItem_str_slice hs rfl ?_) lm;unfold sliceMade;have e:=ab1 x p q;split
  . rename_i hw;simp only[D6,Rh]at hw;have hx:Hv x (p.map (·.1)) (q.map (·.1))=x:=by
     have Eh:(gT ⟨⟨x⟩⟩ p q L).length=x.length:=hw.2;rw[<-e];have h2:=e;skip;have e3:Rp (p.map (·.1)) (q.map (·.1)) 1 x.length=sliceRange (((p.map (·.1)).elim 0 (Hj x.length):O):AX) (((q.map (·.1)).elim x.length (Hj x.length):O):AX) 1:=by
       unfold Rp;cases p<;>cases q<;>simp[clipAt_cast]
     change(Rp (p.map (·.1)) (q.map (·.1)) 1 x.length).length=x.length at Eh;show(Rp (p.map (·.1)) (q.map (·.1)) 1 x.length).filterMap _=_;rw[e3,by4]at Eh ⊢;rw[by5];simp only[Jo,bz0]at Eh;replace Eh:_=Rq x:=Eh;have hb:(q.map (·.1)).elim x.length (Hj x.length)<=x.length:=by cases q<;>first|exact DF _|exact ab0
     have ha:(p.map (·.1)).elim 0 (Hj x.length)=0\/x.length=0:=by
       have e1:=Eh;have e2:=hb;revert e1 e2;generalize(gY (λx=>x.1) p).elim 0 (Hj x.length)=P;generalize(gY (λx=>x.1) q).elim x.length (Hj x.length)=AS;intro e1 e2;have e3:AS-P=x.length:=e1;exact P.eq_zero_or_pos.imp_right λz=>x.length.eq_zero_or_pos.resolve_right λy=>J1 _ (J0 (e3▸Nat.sub_lt (J0 y (e3▸gZ AS P)) z) e2)
     rcases ha with ha|ha;. rw[ha]at Eh ⊢;rw[Eh];simp
     . have :x=[]:=List.length_eq_zero_iff.mp ha;subst this;simp
    show A2 (.str ⟨⟨x⟩⟩ t) s;exact kk _ C _ g (Nx.refl ..) ⟨t,by rw[hx]⟩
  . show(tR ⟨((gT ⟨⟨x⟩⟩ p q L).filterMap ((⟨⟨x⟩⟩:U).cps[·]?)).toArray⟩).post A2 s;rw[e];have bH:(Hv x (p.map (·.1)) (q.map (·.1))).length<=x.length:=by rw[WZ,Pf];exact B4 (su _ _) (by rw[V8];exact gZ _ _)
    have :=Ef hf;exact⟨B4 (show(Hv x (p.map (·.1)) (q.map (·.1))).length<=100000 by(with_reducible exact B4 (by assumption) (by assumption))) (by decide),kk _ C _ (g.tok _) (Nx.refl ..) ⟨_,rfl⟩⟩|_=>exact lst h
theorem ab9(A9:C5 B A3 n){o:AA}{lo hi:AD AA}{sp:B9}{ov:V}(AP:ev A3 n K (.e o) H=.ok (.v ov) AB)(h:((oS lo (A0.ok (.v .none) AB) λx=>ev A3 n K (.e x) AB).V λa H=>(oS hi (A0.ok (.v .none) H) λx=>ev A3 n K (.e x) H).V λb H=>aF ov a b H)=.ok (.v v) A7)(g:Gd B F K A H C s):Ae B F K A A7 C s (eval (.Subscript o (.Slice lo hi L sp) pos) F.env) (RV v):=by
 refine A0.Cg h ?_;clear h;intro bW6 Bc BD h;refine A0.Cg h ?_;clear h;intro bW7 GY C3 h;have Hz:∀{x:AD AA}{H A7:Mine.St}{v:V}{C:I A8}{s:AR},(oS x (A0.ok (.v .none) H) λx=>ev A3 n K (.e x) H)=.ok (.v v) A7->Gd B F K A H C s->Ae B F K A A7 C s (evalPart x F.env) (RV v):=λ{x H A7 v C s}h g=>by cases x with
 |none=>
   refine xA (FG h) ?_;intro q Bg;subst Bg;injection q with q;subst q;exact CJ.pure g rfl|some x=>exact A9.e h g
 intro A2 E kk;refine YQ (A9.e AP g _ _ λu A_ AJ AN Ab Aq=>tw (Hz BD AN _ _ λa Au Ai AU Al BB=>Hz C3 AU _ _ λb BS Ax Ap B8 BQ=>?_));skip;refine AW ?_;have h0:=h;refine A0.Bx h0 ?_;clear h0;intro a' Fs h0;refine A0.Bx h0 ?_;intro b' GZ _;refine AC (part_of (BB.nx B8) Fs) ?_;intro p Bu C9;subst Bu;subst C9;refine AC (part_of BQ GZ) ?_;intro q Ck D8;subst Ck;subst D8;have kp:∀b o,Ax.heap.get? b=G o->(Ax.heap.push {cls:=.type "slice",data:=.fields #[V7 p,V7 q,.none]}).get? b=G o:=λb o e=>C1 _ e;have Cz:Nx F.D ([]:I A8) Ax.heap (Ax.heap.push {cls:=.type "slice",data:=.fields #[V7 p,V7 q,.none]}) BS BS:=Nx.ext kp;have xx:=Ab.trans (Al.trans (B8.trans Cz));refine ab8 (Ap.ext (tk:=Ax.toks) kp) ((Aq.nx (Al.trans B8)).nx Cz) Fs GZ h o _ ⟨_,CY _ rfl,rfl,rfl⟩ rfl _ _ λy QU Eg Cn EL Ij=>kk y QU Eg Cn (xx.trans EL) Ij
end
section
open PySem.SeqAt
theorem ac0{x:Tx}(h:M0 ⟨⟨x⟩⟩ t=M0 ⟨⟨y⟩⟩ t'):x=y:=by injection h with h _;injection h with h;injection h
noncomputable def lp(h:BK)(C:I A8)(f:V->V->AD AK):Prop:=∀{v v':V}{u:A4}{b:AK},VR h C v u->VR h C v' u->f v v'=G b->b=M
theorem ac1{x y:AX}(h:V9 x t=V9 y t'):x=y:=by injection h
theorem lq(h:Q6 v v'=G b){P:V->V->AK->Prop}(i:∀x y,P (.int x) (.int y) (decide (x=y)))(s:∀x y,P (.str x) (.str y) (CU x y)):P v v' b:=by
 apply Pz h;. intro x h;apply Cu h AF;intro y h;exact Br h (i x y)
 . intro h;apply Dd h AF;intro x h;apply Dd h AF;intro y h;exact Br h (s x y)
theorem ac2(h:G8 v v'=G b){P:V->V->AK->Prop}(i:∀x y,P (.int x) (.int y) (decide (x=y)))(s:∀x y,P (.str x) (.str y) (CU x y))(t:∀x y b,K1 Q6 x y=G b->P (.tup L x) (.tup L y) b):P v v' b:=by
 apply Pz h;. intro x h;apply Cu h AF;intro y h;exact Br h (i x y)
 intro h;apply O0 h;. intro x h;apply Dd h AF;intro y h;exact Br h (s x y)
 intro h;apply IR h AF;intro c x h;apply GQ h AF;intro h;apply IR h AF;intro c' y h;apply GQ h AF;intro h;exact t x y b h
theorem lr{f:V->V->AD AK}{P:I V->I V->AK->Prop}(n:P [] [] M)(c:∀x y Y ys p q,f x y=G p->P Y ys q->P (x::Y) (y::ys) (p&&q))(l:∀y ys,P [] (y::ys) A6)(r:∀x Y,P (x::Y) [] A6):∀{ys:I V}{b:AK},K1 f Y ys=G b->P Y ys b:=by induction Y with
 |nil=>intro ys b h;cases ys with
  |nil=>exact Br h n|cons y ys=>exact Br h (l y ys)
 |cons x Y ih=>intro ys b h;cases ys with
 |nil=>exact Br h (r x Y)|cons y ys=>exact BI (x:=f x y) h λp h1 h=>BI h λq h2 h=>Br h (c x y Y ys p q h1 (ih h2))
theorem ac3{f:V->V->AD AK}(hf:lp h C f){v v':I V}{u:I A4}(r:Aa h C v u)(r':Aa h C v' u)(q:K1 f v v'=G b):b=M:=by
 refine lr (P:=λv v' b=>∀u,Aa h C v u->Aa h C v' u->b=M) (λ_ _ _=>rfl) (λx y Y ys p q h1 ih u r r'=>?_) (λy ys u r r'=>Bv r' λ_ _ e _ _=>by rw[show u=[]from r]at e;(exfalso;cases e)) (λy ys u r' r=>Bv r' λ_ _ e _ _=>by rw[show u=[]from r]at e;(exfalso;cases e)) q u r r';refine Bv r ?_;clear r;intro w us e a rs;subst e;refine Bv r' ?_;clear r';intro w' Dy e a' Fu;injection e with e1 e2;subst e1;subst e2;rw[hf a a' h1,ih _ rs Fu];rfl
theorem ac4:lp h C Q6:=λ{v v' u b}r r' q=>lq q (P:=λv v' b=>VR h C v u->VR h C v' u->b=M) (λ_ _ r r'=>xE r λ_ e=>xE r' λ_ e'=>Rj (ac1 (e.symm.trans e'))) (λ_ _ r r'=>xE r λ_ e=>xE r' λ_ e'=>Ec.mpr (ac0 (e.symm.trans e'))) r r'
theorem ls{f:V->V->AD AK}(q:K1 f Y ys=G b):∃e:O->AK,(∀(j:O)(x y:V),Y[j]?=G x->ys[j]?=G y->f x y=G (e j))/\b=((DN (min Y.length ys.length)).all e&&Y.length==ys.length):=by
 refine lr (P:=λY ys b=>∃e:O->AK,(∀(j:O)(x y:V),Y[j]?=G x->ys[j]?=G y->f x y=G (e j))/\b=((DN (min Y.length ys.length)).all e&&Y.length==ys.length)) ⟨λ_=>M,λ_ _ _ h=>(AF h).elim,rfl⟩ (λx y Y ys p q h1 ih=>?_) (λy ys=>⟨λ_=>M,λ_ _ _ h=>(AF h).elim,by simp⟩) (λx Y=>⟨λ_=>M,λ_ _ _ _ h=>(AF h).elim,by simp⟩) q;refine AC ih ?_;clear ih;intro e he hb;refine⟨λj=>match j with|0=>p|j+1=>e j,λj a c ha hc=>?_,?_⟩;. cases j with
 |zero=>exact Br ha (P:=λa=>f a c=G p) (Br hc (P:=λc=>f x c=G p) h1)|succ j=>exact he j a c ha hc
 . rw[hb];simp only[V1,Nat.succ_min_succ,List.range_succ_eq_map,tJ,List.all_map];have :((Y.length+1==ys.length+1):AK)=(Y.length==ys.length):=by simp
   rw[this,Bool.and_assoc];rfl
theorem bM(r:VR s.heap C v u)(r':VR s.heap C v' u')(q:Q6 v v'=G b):Rr A s u u' b:=by
 refine lq q (P:=λv v' b=>VR s.heap C v u->VR s.heap C v' u'->Rr A s u u' b) (λa c r r'=>?_) (λa c r r'=>?_) r r'
 . refine xE r ?_;clear r;intro t q;subst q;refine xE r' ?_;clear r';intro t' q;subst q;exact(tz a c t t').at A s
 . refine xE r ?_;clear r;intro t q;subst q;refine xE r' ?_;clear r';intro t' q;subst q;have e:(a==c)=CU a c:=TQ;rw[<-e];exact(bz1 ⟨⟨a⟩⟩ ⟨⟨c⟩⟩ t t').at A s
theorem lu{f:V->V->AD AK}(hf:∀{v v':V}{u u':A4}{b:AK},VR s.heap C v u->VR s.heap C v' u'->f v v'=G b->Rr A s u u' b){us Dy:BW A4}(rs:Aa s.heap C Y us.toList)(Fu:Aa s.heap C ys Dy.toList){e:O->AK}(he:∀(j:O)(x y:V),Y[j]?=G x->ys[j]?=G y->f x y=G (e j)):∀j(h1:j<us.size)(h2:j<Dy.size),Rr A s us[j] Dy[j] (e j):=λj h1 h2=>by
 have l1:Y.length=us.size:=by rw[rs.length];simp
 have l2:ys.length=Dy.size:=by rw[Fu.length];simp
 have hx:Y[j]?=G Y[j]:=Hl (by(with_reducible exact Mine.yQ (by assumption) (by assumption)));have hy:ys[j]?=G ys[j]:=Hl (by(with_reducible exact Mine.yQ (by assumption) (by assumption)));refine AC (rs.get hx) ?_;intro w ew LF;refine AC (Fu.get hy) ?_;intro w' ew' ac5;have e1:us[j]=w:=by
  have :us[j]?=G w:=by simpa using ew
  rw[Rs h1]at this;injection this
 have e2:Dy[j]=w':=by
  have :Dy[j]?=G w':=by simpa using ew'
  rw[Rs h2]at this;injection this
 rw[e1,e2];exact hf LF ac5 (he j _ _ hx hy)
theorem ac6(hu:A.units+2<IK)(r:VR s.heap C v u)(r':VR s.heap C v' u')(q:G8 v v'=G b):Rr A s u u' b:=by
 refine ac2 q (P:=λv v' b=>VR s.heap C v u->VR s.heap C v' u'->Rr A s u u' b) (λa c r r'=>bM r r' rfl) (λa c r r'=>bM r r' rfl) (λY ys b q r r'=>?_) r r';refine Bv (QM r) ?_;clear r;intro l us C9 ht rs;subst C9;refine Bv (QM r') ?_;clear r';intro l' Dy Ck bN Fu;subst Ck;by_cases hl:l=l'
 . subst hl;have :Dy=us:=by
    refine Pr ht ?_;clear ht;intro o e _ n d;refine Pr bN ?_;clear bN;intro o' e' _ n' d';rw[e]at e';injection e' with e';subst e';rw[d]at d';injection d' with d' _;exact d'.symm
   subst this;rw[ac3 ac4 rs Fu q];exact EqAt.same _
 . refine AC (ls q) ?_;intro e he hb;have l1:Y.length=us.size:=by rw[rs.length];simp
   have l2:ys.length=Dy.size:=by rw[Fu.length];simp
   rw[hb,l1,l2];exact EqAt.of_refs hl (RcAt.tuples (e:=e) ht bN (by(with_reducible exact H3 (H4 _ _) (by assumption))) (lu bM rs Fu he))
theorem lw(hu:A.units+4<IK){us Dy:BW A4}{l l':A8}(hl:s.heap.IsList l us)(Ii:s.heap.IsList l' Dy)(rs:Aa s.heap C Y us.toList)(Fu:Aa s.heap C ys Dy.toList)(q:Zp Y ys=G b)(h:A2 (.bool b) s):AH (AQ prog w) A (Db .Eq (.ref l) (.ref l')) A2 E s:=by
 refine AC (ls q) ?_;intro e he hb;have l1:Y.length=us.size:=by rw[rs.length];simp
 have l2:ys.length=Dy.size:=by rw[Fu.length];simp
 by_cases hz:us.size=Dy.size
 . refine eq_listAt (e:=e) hl Ii hz (by(with_reducible exact H3 (H4 _ _) (by assumption))) (lu (A:=A.in1) (ac6 (by show A.units+1+2<IK;(with_reducible exact Mine.wH (by assumption)))) rs Fu he) ?_;have :b=(DN us.size).all e:=by rw[hb,l1,l2,hz];simp
   rw[<-this];exact h
 . refine eq_list_lengthsAt hl Ii (by simpa using hz) (by(with_reducible exact H3 (H4 _ _) (by assumption))) ?_;have :b=A6:=by rw[hb,l1,l2];simp[hz]
   rw[<-this];exact h
end
section
open PySem.SeqAt
section
theorem Gd.listAt(g:Gd B F K A H C s)(r:VR s.heap C (.ref i) u)(h:AL H.h i=G (.list Y)):∃a us,u=.ref a/\s.heap.PlainList a us/\Aa s.heap C Y us.toList:=by
 refine AC r ?_;(try clear r);intro a e Aw;subst Aw;refine AC (g.obj h e) ?_;intro us p v;exact⟨a,us,rfl,p,v⟩
theorem Gd.lx(g:Gd B F K A H C s){Y:I Sg}(r:VR s.heap C (.ref i) u)(h:AL H.h i=G (.rows m Y)):∃a us,u=.ref a/\s.heap.PlainList a us/\Aa s.heap C (DS Y) us.toList/\(DS Y).length+m<=Dm:=by
 refine AC r ?_;(try clear r);intro a e B6;subst B6;refine CZ (g.obj h e) ?_;intro us p v l;exact⟨a,us,rfl,p,v,l⟩
noncomputable def LG(x:Tx):A4->AK
 |.str z _=>CU z.cps.toList x|_=>A6
theorem ac7{x:Tx}:∀{us:I A4}{r:AK},Aa h C Y us->O3 Y (.str x)=G r->us.any (LG x)=r/\∀y∈us,∃z t,y=.str ⟨⟨z⟩⟩ t:=by induction Y with
 |nil=>intro us r e q;cases e;exact Br q (P:=λr=>[].any (LG x)=r/\∀y∈[],∃z t,y=M0 ⟨⟨z⟩⟩ t) ⟨rfl,λ_ m=>nomatch m⟩|cons y l ih=>
 intro us r e q;refine Aa.Sz e (P:=λus=>us.any (LG x)=r/\∀y∈us,∃z t,y=.str ⟨⟨z⟩⟩ t) ?_;clear e;intro u us ru rs;revert ru;apply Dd (v:=y) q AF;intro z q ru;have q:B' (O3 l (.str x)) (λr=>G (CU z x||r))=G r:=q;refine BI q λr' q' q=>?_;refine xE ru ?_;clear ru;intro t e;subst e;refine xA (ih rs q') ?_;intro a b;refine Br q (P:=λr=>(M0 ⟨⟨z⟩⟩ t::us).any (LG x)=r/\∀y∈M0 ⟨⟨z⟩⟩ t::us,∃z t,y=.str ⟨⟨z⟩⟩ t) ⟨by rw[sx,a];rfl,λy m=>(Cj.mp m).elim (λe=>⟨z,t,e⟩) (b y)⟩
theorem ac8{r:AK}(h:O3 Y v=G r):∃x,v=.str x:=by cases Y with
 |nil=>apply Dd (v:=v) h AF;intro x _;exact⟨x,rfl⟩|cons a l=>apply Dd (v:=a) h AF;intro z h;apply Dd (v:=v) h AF;intro x _;exact⟨x,rfl⟩
theorem ly{x:Tx}{y:A4}(h:∃z t,y=.str ⟨⟨z⟩⟩ t):Rr A s y (.str ⟨⟨x⟩⟩ t) (LG x y):=by
 refine DB h ?_;(try clear h);intro z t' BP;subst BP;have :(z==x)=LG x (.str ⟨⟨z⟩⟩ t'):=TQ;rw[<-this];exact(bz1 ⟨⟨z⟩⟩ ⟨⟨x⟩⟩ t' t).at A s
theorem i2{f:AX->AX->AK}(h:Vl f v v'=G b){P:A4->A4->AK->Prop}(rv:VR s.heap C v u)(C6:VR s.heap C v' u')(k:∀x y t t',P (.int x t) (.int y t') (f x y)):P u u' b:=by
 revert rv C6;apply Cu h AF;intro x h;apply Cu h AF;intro y h rv C6;refine xE rv ?_;(try clear rv);intro t Bq;subst Bq;refine xE C6 ?_;(try clear C6);intro t' Bg;subst Bg;apply Br h;exact k x y t t'
theorem bO{f:Tx->Tx->AK}(h:(vStr v L λx=>vStr v' L λy=>G (f x y))=G b){P:A4->A4->AK->Prop}(rv:VR s.heap C v u)(C6:VR s.heap C v' u')(k:∀x y t t',P (.str ⟨⟨x⟩⟩ t) (.str ⟨⟨y⟩⟩ t') (f x y)):P u u' b:=by
 revert rv C6;apply Dd h AF;intro x h;apply Dd h AF;intro y h rv C6;refine xE rv ?_;(try clear rv);intro t Bu;subst Bu;refine xE C6 ?_;(try clear C6);intro t' C9;subst C9;apply Br h;exact k x y t t'
theorem ac9(g:Gd B F K A H C s)(rv:VR s.heap C v u)(C6:VR s.heap C v' u')(h:js v v' H.h=G b):Ae B F K A H C s (Db .Eq u u') (Do (.bool b)):=by
 refine GP h (λh=>?_) λh=>GP h (λh=>?_) λh=>?_;. exact i2 (P:=λu u' b=>Ae B F K A H C s (Db .Eq u u') (Do (.bool b))) h rv C6 λx y t t'=>zN g
 . exact bO (P:=λu u' b=>Ae B F K A H C s (Db .Eq u u') (Do (.bool b))) h rv C6 λx y t t'=>zT g
 . revert rv C6;apply EI h AF;intro i h;apply EI h AF;intro j h rv C6;refine BI h λo q h=>BI h λo' q' h=>?_;revert q q';apply IU h AF;intro x h;apply IU h AF;intro y h q q';have hu:A.units+4<IK:=by have :=g.units;unfold IK;(with_reducible exact Mine.yU (by assumption) (by decide))
   refine Bv (g.listAt rv q) ?_;intro a us Ck p r;clear rv;subst Ck;refine Bv (g.listAt C6 q') ?_;intro a' Dy D8 p' r';clear C6;subst D8;exactλA2 E k=>lw hu p.isList p'.isList r r' h (k _ C s g (Nx.refl ..) rfl)
theorem lz{f:AK->AK}{a b:V}{r:AK}(h:Si f a b hp=G r){P:V->AK->Prop}(cd:∀j N,AL hp j=G (.dict N)->De N a=M->P (.ref j) (f (D' N a).isSome))(bW8:∀j N,AL hp j=G (.B3 N)->De N a=M->P (.ref j) (f (D' N a).isSome))(cl:∀j Y y,AL hp j=G (.list Y)->O3 Y a=G y->P (.ref j) (f y)):P b r:=by
 apply EI h AF;intro j h;refine BI h λo q h=>?_;revert q;refine GP h (λh=>?_) λh=>GP h (λh=>?_) λh=>?_
 . apply JE h AF;intro N h q;refine Ce h AF λhk h=>?_;apply Br h;exact cd j N q hk
 . apply Sf h AF;intro N h q;refine Ce h AF λhk h=>?_;apply Br h;exact bW8 j N q hk
 . apply IU h AF;intro Y h q;refine BI h λy hk h=>?_;apply Br h;exact cl j Y y q hk
theorem m1{y:AK}(g:Gd B F K A H C s)(rv:VR s.heap C v u)(C6:VR s.heap C (.ref j) u')(q:AL H.h j=G (.list Y))(hk:O3 Y v=G y){P:Prop}(k:∀x t a us,u=.str ⟨⟨x⟩⟩ t->u'=.ref a->s.heap.PlainList a us->us.any (LG x)=y->(∀y∈us.toList,∃z t,y=.str ⟨⟨z⟩⟩ t)->P):P:=by
 refine Bv (g.listAt C6 q) ?_;intro a us DX p r;clear C6;subst DX;refine xE (ac8 hk) ?_;intro x Ed;subst Ed;refine xE rv ?_;(try clear rv);intro t FE;subst FE;refine xA (ac7 r hk) ?_;intro e hm;exact k x t a us rfl rfl p (by rw[<-e,br4]) hm
theorem ad0(g:Gd B F K A H C s)(rv:VR s.heap C v u)(C6:VR s.heap C v' u')(h:Si (λb=>b) v v' H.h=G b):Ae B F K A H C s (Db .In u u') (Do (.bool b)):=by
 revert C6;apply lz h;. intro j N q hk C6;exact lP g q C6 rv hk
 . intro j N q hk C6;exact ab5 g q C6 rv hk
 . intro j Y y q hk C6;refine m1 g rv C6 q hk λx t a us e e' p ha hm=>?_;clear rv;subst e;clear C6;subst e';clear hk;subst ha;exactλA2 E k=>in_listAt (LG x) p.isList (λy m=>ly (hm y (by simpa using m))) (k _ C s g (Nx.refl ..) rfl)
theorem ad1(g:Gd B F K A H C s)(rv:VR s.heap C v u)(C6:VR s.heap C v' u')(h:Si (λb=>!b) v v' H.h=G b):Ae B F K A H C s (Db .NotIn u u') (Do (.bool b)):=by
 revert C6;apply lz h;. intro j N q hk C6;exact lQ g q C6 rv hk
 . intro j N q hk C6;exact ab6 g q C6 rv hk
 . intro j Y y q hk C6;refine m1 g rv C6 q hk λx t a us e e' p ha hm=>?_;clear rv;subst e;clear C6;subst e';clear hk;subst ha;exactλA2 E k=>notIn_listAt (LG x) p.isList (λy m=>ly (hm y (by simpa using m))) (k _ C s g (Nx.refl ..) rfl)
theorem m4{t:AK}(h:Zv t v v'=G b)(rv:VR s.heap C v u)(C6:VR s.heap C v' u'){P:A4->A4->AK->Prop}(k:P .none .none t)(n:∀u,u≠.none->(∀x,u≠.bool x)->P u .none !t):P u u' b:=by
 revert rv C6;apply Q0 h AF;intro h;refine GP h (λh=>?_) λh=>GP h (λh=>?_) λh=>GP h (λh=>?_) λh=>?_
 . apply Q0 h AF;intro h rv C6;cases rv;cases C6;apply Br h;exact k
 . apply Dd h AF;intro x h rv C6;refine xE rv ?_;(try clear rv);intro t' GC;subst GC;cases C6;apply Br h;exact n _ (λz=>VA z) λ_ z=>VA z
 . apply EI h AF;intro x h rv C6;refine AC rv ?_;(try clear rv);intro a _ HE;subst HE;cases C6;apply Br h;exact n _ (λz=>VA z) λ_ z=>VA z
 . apply Cu h AF;intro x h rv C6;refine xE rv ?_;(try clear rv);intro t' Hw;subst Hw;cases C6;apply Br h;exact n _ (λz=>VA z) λ_ z=>VA z
theorem ad2{op:PP}(g:Gd B F K A H C s)(rv:VR s.heap C v u)(C6:VR s.heap C v' u')(h:Vm op v v' H.h=G b):Ae B F K A H C s (Db op u u') (Do (.bool b)):=by cases op with
 |Eq=>exact ac9 g rv C6 h|In=>exact ad0 g rv C6 h|NotIn=>exact ad1 g rv C6 h|Is=>exact m4 (P:=λu u' b=>Ae B F K A H C s (Db .Is u u') (Do (.bool b))) h rv C6 (λA2 E k=>bS7 (k _ C s g (Nx.refl ..) rfl)) λu h0 h1 A2 E k=>bS8 h0 (k _ C s g (Nx.refl ..) rfl)|IsNot=>exact m4 (P:=λu u' b=>Ae B F K A H C s (Db .IsNot u u') (Do (.bool b))) h rv C6 (λA2 E k=>bS9 (k _ C s g (Nx.refl ..) rfl)) λu h0 h1 A2 E k=>bT0 h0 (k _ C s g (Nx.refl ..) rfl)|NotEq=>exact GP h (λh=>i2 (P:=λu u' b=>Ae B F K A H C s (Db .NotEq u u') (Do (.bool b))) h rv C6 λx y t t'=>zO g) λh=>bO (P:=λu u' b=>Ae B F K A H C s (Db .NotEq u u') (Do (.bool b))) h rv C6 λx y t t'=>zU g|Lt=>exact GP h (λh=>i2 (P:=λu u' b=>Ae B F K A H C s (Db .Lt u u') (Do (.bool b))) h rv C6 λx y t t'=>zP g) λh=>bO (P:=λu u' b=>Ae B F K A H C s (Db .Lt u u') (Do (.bool b))) h rv C6 λx y t t'=>zV g|Gt=>exact i2 (P:=λu u' b=>Ae B F K A H C s (Db .Gt u u') (Do (.bool b))) h rv C6 λx y t t'=>zQ g|LtE=>exact i2 (P:=λu u' b=>Ae B F K A H C s (Db .LtE u u') (Do (.bool b))) h rv C6 λx y t t'=>zR g|GtE=>exact i2 (P:=λu u' b=>Ae B F K A H C s (Db .GtE u u') (Do (.bool b))) h rv C6 λx y t t'=>zS g
end
end
section
open PySem.SeqAt
section
theorem OS{l:I V}:∀{t:I Tx},HV l=G t->l=t.map .str:=by induction l with
 |nil=>exactλh=>Bm h▸rfl|cons v l ih=>
 intro t h;apply Dd (show vStr v L (λt=>B' (HV l) λr=>G (t::r))=G t from h) AF;intro x h;exact BI h λr e h=>Bm h▸congrArg (V.str x::·) (ih e)
theorem ad3{t:I Tx}(h:jv v=G t):v=.tup L (t.map .str):=by
 apply IR h AF;intro o l h;apply GQ h AF;intro h;exact congrArg (V.tup L) (OS h)
theorem m5{g:Sg}(h:Vo v=G g):I_ g=[v]:=by
 apply O0 h;. exactλx h=>Bm h▸rfl
 . exactλh=>BI h λl e h=>Bm h▸congrArg (λv=>[v]) (ad3 e).symm
theorem ad4{l:I V}:∀{t:I Sg},QB l=G t->DS t=l:=by induction l with
 |nil=>exactλh=>Bm h▸rfl|cons v l ih=>exactλh=>BI h λa e h=>BI h λr e' h=>Bm h▸(show I_ a++DS r=_ by rw[ih e',m5 e];rfl)
theorem bP{l:I Sg}(h:FW o=G (r,l)){P:Ob->Prop}(a:CH (DS l)=M->r=Dm-(DS l).length->P (.list (DS l)))(b:P (.rows r l)):P o:=by
 apply K0 h
 . intro Y h;refine Ce h AF λhf h=>BI h λl' hl h=>?_;have e:=Bm h;have e2:DS l=Y:=(congrArg (·.2) e:l'=l)▸ad4 hl;exact e2▸a (e2▸hf) (e2▸(congrArg (·.1) e).symm)
 . intro h;apply jl h AF;intro m ys h;have e:=Bm h;exact(congrArg (·.1) e:m=r)▸(congrArg (·.2) e:ys=l)▸b
theorem OU{x y:I Sg}:DS (x++y)=DS x++DS y:=bz2
theorem Wa(g:Gd B F K A H C s){r:O×I Sg}(hu:VR s.heap C (.ref i) u)(ho:AL H.h i=G o)(h:FW o=G r):∃a us,u=.ref a/\s.heap.PlainList a us/\Aa s.heap C (DS r.2) us.toList/\(DS r.2).length+r.1<=Dm:=by
 revert ho;apply bP h
 . intro hf e ho;refine Bv (g.listAt hu ho) λa us q p v=>⟨a,us,q,p,v,?_⟩;rw[e,bz3 (B4 (Ef hf) (by decide))];exact DF _
 . exact g.lx hu
theorem ad5{x y:O×I Sg}(g:Gd B F K A H C s)(hu:VR s.heap C (.ref i) u)(TP:VR s.heap C (.ref j) u')(ho:AL H.h i=G o)(Ic:AL H.h j=G o')(hx:FW o=G x)(hy:FW o'=G y)(hc:EQ Dm (x.1+y.1)=M):Ae B F K A (H.new (.rows (x.1+y.1-Dm) (x.2++y.2))).2 C s (Ey .Add u u') (RV (.ref H.n)):=by
 intro A2 E k;refine HT (Wa g hu ho hx) ?_;intro a us Aw B6 v l;clear hu;subst Aw;refine xE B6 ?_;(try clear B6);intro n hl;refine HT (Wa g TP Ic hy) ?_;intro b ws BJ BP v' l';clear TP;subst BJ;refine xE BP ?_;(try clear BP);intro n' Ii;have hc:=Dk hc;have Ee:us.size+ws.size<=FA:=by
   have e1:=v.length;have e2:=v'.length;simp at e1 e2;exact B4 (show _<=1000000 by unfold Dm at*;(with_reducible exact Mine.wS (by assumption) (by assumption) (by assumption) (by assumption) (by assumption))) (by decide)
 refine concat_meets ⟨_,hl,rfl⟩ ⟨_,Ii,rfl⟩ bv5 seq_list_add bv6 bv7 (bv8 _ _) (bv9 a b us ws n n' L L #[] #[] Ee) ⟨hl,Ii,?_⟩;have kp:∀b o,s.heap.get? b=G o->(s.heap.push {cls:=.type "list",data:=.seq (us++ws)}).get? b=G o:=λb o e=>C1 _ e;have hn:s.heap.get? s.heap.objs.size=L:=by cases e:s.heap.get? s.heap.objs.size with
 |none=>rfl|some o=>exact absurd (Dh e) (J1 _)
 have hg:=CY s.heap (o:={cls:=.type "list",data:=.seq (us++ws)}) rfl;refine k _ (C++[s.heap.objs.size]) _ (g.new (tk:=s.toks) kp hn ⟨_,hg⟩ (o:=.rows (x.1+y.1-Dm) (x.2++y.2)) ⟨us++ws,⟨_,hg⟩,?_,?_⟩) (Nx.add [_] kp λb hb=>by rw[CI.mp hb];exact hn) ⟨_,?_,rfl⟩
 . have :=(v.app v').mono (J:=[s.heap.objs.size]) (Q:=s.heap.push {cls:=.type "list",data:=.seq (us++ws)}) (λb o e _=>kp b o e);rw[OU];simpa using this
 . rw[OU,FD];unfold Dm at*;(with_reducible exact Mine.iX (by assumption) (by assumption) (by assumption))
 . rw[<-g.len];simp
set_option tactic.hygienic true in
theorem ad6{c:O}{n:AX}(g:Gd B F K A H C s)(hn:Zr n=M):Ae B F K A H C s (Ey .Mult (.str ⟨⟨[c]⟩⟩ t) (.int n t')) (RV (.str (Y4 n.toNat c))):=by
 intro A2 E k;unfold Zr at hn;simp only[D6,PW]at hn;refine xA hn ?_;(try clear hn);intro h0 h1;have e1:(⟨⟨[c]⟩⟩:U).length=1:=rfl;refine SB.mul ⟨?_,?_,?_⟩ λHB m=>k _ C _ (g.tok _) (Nx.refl ..) ⟨HB,?_⟩;. simp only[by7,gU];constructor<;>omega
 . intro hz _;rw[e1];intro hc;have h2:(2^63-1)/n>=1:=by
     have :n*1<=2^63-1:=by omega
     exact(Int.le_ediv_iff_mul_le (by omega)).mpr (by omega)
   omega
 . intro _ _;rw[e1];unfold bT1 FA;have :n.toNat<=1000:=by(with_reducible exact Mine.wY (by assumption))
   simp;omega
 . congr 1;unfold Txt.mul;split
   . have :n.toNat=0:=by omega
     rw[this];rfl
   . split
     . rename_i h2 h3;simp only[e1,u0,Rh]at h3;have :n.toNat=1:=by omega
       rw[this];rfl
     . congr 1;have :∀(m:O)(Am:I UInt32),True:=λ_ _=>trivial;have key:∀(m:O)(Am:BW _),(Y4 m (#[c])).foldl (·++·) Am=Am++(Y4 m c).toArray:=by
        intro m;induction m with
  |zero=>intro Am;simp|succ m ih=>
        intro Am;rw[bz4,u4,ih,bz4];apply tB.mp;simp
       have :=key n.toNat #[];simpa using this
theorem ad7{AG:AX}{b:O}(hb:0<b)(hm:m%b=0)(hr:r<m)(h:AG%(m:AX)=r):AG/(b:AX)%((m/b:O):AX)=((r/b:O):AX)/\AG%(b:AX)=((r%b:O):AX):=by
 refine xE (bz5 hm) ?_;intro c Bq;clear hm;subst Bq;have e:AG=(b:AX)*((c:AX)*(AG/((b*c:O):AX)))+r:=by
   have :=Int.mul_ediv_add_emod AG ((b*c:O):AX);rw[h]at this;rw[<-Int.mul_assoc,<-Int.natCast_mul];exact this.symm
 generalize AG/((b*c:O):AX)=q at e;have hc:b*c/b=c:=Nat.mul_div_cancel_left c hb;rw[hc];have GZ:(b:AX)≠0:=by omega
 constructor
 . rw[e,bz6,Int.add_mul_ediv_left _ _ GZ,bz7];have CF:r/b<c:=g_ hr;rw[<-Int.natCast_ediv];exact Int.emod_eq_of_lt (fU _) (fW.mpr CF)
 . rw[e,bz6,bz7];exact(Int.natCast_emod r b).symm
theorem ad8{r:V}(g:Gd B F K A H C s)(hv:VR s.heap C v u)(Bh:VR s.heap C v' u')(h:jn v v'=G r):Ae B F K A H C s (Ey .Add u u') (RV r):=by
 revert hv Bh;refine GP h (λh=>?_) λh=>GP h (λh=>?_) λh=>?_
 . apply Cu h AF;intro a h;refine GP h (λh=>?_) λh=>?_
   . apply Cu h AF;intro b h hv Bh;refine xE hv ?_;(try clear hv);intro t Bg;subst Bg;refine xE Bh ?_;(try clear Bh);intro t' Bu;subst Bu;apply Br h;exact zG g
   . apply S_ h AF;intro b h hv Bh;refine xE hv ?_;(try clear hv);intro t C9;subst C9;cases Bh;apply Br h;exact zK g
 . apply S_ h AF;intro a h;refine GP h (λh=>?_) λh=>?_
   . apply Cu h AF;intro b h hv Bh;refine xE Bh ?_;(try clear Bh);intro t Ck;subst Ck;cases hv;apply Br h;exact zJ g
   . apply S_ h AF;intro b h hv Bh;cases hv;cases Bh;apply Br h;exact zI g
 . apply Dd h AF;intro a h;apply Dd h AF;intro b h hv Bh;refine xE hv ?_;(try clear hv);intro t D8;subst D8;refine xE Bh ?_;(try clear Bh);intro t' DX;subst DX;refine Ce h AF λhf h=>?_;apply Br h;exact lK g hf
theorem ad9{r:V}(g:Gd B F K A H C s)(hv:VR s.heap C v u)(Bh:VR s.heap C v' u')(h:jr v v'=G r):Ae B F K A H C s (Ey .Mult u u') (RV r):=by
 revert hv Bh;refine GP h (λh=>?_) λh=>?_
 . apply S_ h AF;intro a h;apply S_ h AF;intro b h hv Bh;cases hv;cases Bh;apply Br h;exact zL g
 . apply Dd h AF;intro a h;apply Cs h AF;intro c h;apply Cu h AF;intro n h hv Bh;refine xE hv ?_;(try clear hv);intro t Ed;subst Ed;refine xE Bh ?_;(try clear Bh);intro t' FE;subst FE;refine Ce h AF λhf h=>?_;apply Br h;exact ad6 g hf
theorem ae0{r:V}(g:Gd B F K A H C s)(hv:VR s.heap C v u)(Bh:VR s.heap C v' u')(h:Zt v v'=G r):Ae B F K A H C s (Ey .Sub u u') (RV r):=by
 revert hv Bh;apply Cu h AF;intro a h;apply Cu h AF;intro n h hv Bh;refine xE hv ?_;(try clear hv);intro t GC;subst GC;refine xE Bh ?_;(try clear Bh);intro t' HE;subst HE;apply Br h;exact zH g
theorem m6{b:AX}(h:Zs b=M):0<b/\b<=1000000000:=⟨of_decide_eq_true (B1 h),of_decide_eq_true (Ak h)⟩
theorem m7{AG b:AX}(h:Vk m r b=M)(hb:0<b)(hX:AG%(m:AX)=r):AG/b%((m/b.toNat:O):AX)=((r/b.toNat:O):AX)/\AG%b=((r%b.toNat:O):AX):=by
 have h4:r<m:=gb (Dk (Ak h));have e:((b.toNat:O):AX)=b:=u5 (fX hb);have d:=ad7 (b:=b.toNat) (by omega) (CD (B1 h)) h4 hX;rw[e]at d;exact d
theorem ae1{r:V}(g:Gd B F K A H C s)(hv:VR s.heap C v u)(Bh:VR s.heap C v' u')(h:jp v v'=G r):Ae B F K A H C s (Ey .FloorDiv u u') (RV r):=by
 revert hv Bh;apply Cu h AF;intro b h;refine Ce h AF λhb h=>?_;have hb:=m6 hb;refine GP h (λh=>?_) λh=>?_
 . apply Cu h AF;intro a h hv Bh;refine xE hv ?_;(try clear hv);intro t Hw;subst Hw;refine xE Bh ?_;(try clear Bh);intro t' L5;subst L5;apply Br h;exact lJ g hb
 . apply jf h AF;intro m r' h hv Bh;refine Ce h AF λhc h=>?_;refine EX hv ?_;(try clear hv);intro AG t L6 hX;subst L6;refine xE Bh ?_;(try clear Bh);intro t' TY;subst TY;apply Br h;intro A2 E k;refine lJ g hb A2 E λu AT s' g' x' r=>?_;refine xE r ?_;(try clear r);intro t TZ;subst TZ;exact k _ AT s' g' x' ⟨_,t,rfl,by rw[Int.fdiv_eq_ediv_of_nonneg _ (fX hb.1)];exact(m7 hc hb.1 hX).1⟩
theorem ae2{r:V}(g:Gd B F K A H C s)(hv:VR s.heap C v u)(Bh:VR s.heap C v' u')(h:jq v v'=G r):Ae B F K A H C s (Ey .Mod u u') (RV r):=by
 revert hv Bh;apply Cu h AF;intro b h;refine Ce h AF λhb h=>?_;have hb:=(m6 hb).1;refine GP h (λh=>?_) λh=>?_
 . apply Cu h AF;intro a h hv Bh;refine xE hv ?_;(try clear hv);intro t T_;subst T_;refine xE Bh ?_;(try clear Bh);intro t' bQ;subst bQ;apply Br h;exact lI g hb
 . apply jf h AF;intro m r' h hv Bh;refine EX hv ?_;(try clear hv);intro AG t QZ hX;subst QZ;refine xE Bh ?_;(try clear Bh);intro t' Ta;subst Ta;apply Br h;intro A2 E k;refine lI g hb A2 E λu AT s' g' x' r=>k _ AT s' g' x' ?_;refine xE r ?_;(try clear r);intro t Tb;subst Tb;rw[Int.fmod_eq_emod_of_nonneg _ (fX hb)];cases hc:Vk m r' b with
 |true=>exact⟨t,by rw[(m7 hc hb hX).2];rfl⟩|false=>exact⟨_,t,rfl,bz8 _ (by(with_reducible exact bv2 (by assumption))),by have :=bz9 AG hb;(with_reducible exact Mine.wJ (by assumption))⟩
theorem ae3{r:V}(g:Gd B F K A H C s)(hv:VR s.heap C (.ref i) u)(Bh:VR s.heap C (.ref j) u')(h:Sv i j H=.ok (.v r) A7):Ae B F K A A7 C s (Ey .Add u u') (RV r):=by
 refine A0.Bx h λo q h=>A0.Bx h λo' q' h=>?_;have AS:(A0.of (FW o) λx=>A0.of (FW o') λy=>A0.iff (EQ Dm (x.1+y.1)) (FX (H.new (.rows (x.1+y.1-Dm) (x.2++y.2)))))=.ok (.v r) A7->Ae B F K A A7 C s (Ey .Add u u') (RV r):=λh=>A0.Bx h λx hx h=>A0.Bx h λy hy h=>A0.Be h λhc h=>B5 h (P:=λr A7=>Ae B F K A A7 C s (Ey .Add u u') (RV r)) (ad5 g hv Bh q q' hx hy hc);revert q;apply K0 h (e:=λh _=>AS h);intro x h;revert q';apply K0 h (e:=λh _ _=>AS h);intro y h q' q;refine A0.Be h λhf h=>?_;apply B5 h;exact zM g hv Bh q q' hf
theorem ae4{r:V}(g:Gd B F K A H C s)(hv:VR s.heap C v u)(Bh:VR s.heap C v' u')(h:Vw op v v' H=.ok (.v r) A7):Ae B F K A A7 C s (Ey op u u') (RV r):=by
 have fin:∀{op:Jk}{x:AD V},Fo x H=.ok (.v r) A7->(x=G r->Ae B F K A H C s (Ey op u u') (RV r))->Ae B F K A A7 C s (Ey op u u') (RV r):=λh k=>by refine xA (MX h) ?_;intro e bR;clear g h;subst bR;exact k e
 refine Fi h (λe h=>?_) λh=>Fi h (λe h=>?_) λh=>Fi h (λe h=>?_) λh=>Fi h (λe h=>?_) λh=>Fi h (λe h=>?_) λh=>(Ac h).elim
 . subst e;revert hv;apply Vh h (e:=λh hv=>fin h (ad8 g hv Bh));intro i h hv;revert Bh;apply EI h Ac;intro j h Bh;exact ae3 g hv Bh h
 . subst e;exact fin h (ae0 g hv Bh)
 . subst e;exact fin h (ae1 g hv Bh)
 . subst e;exact fin h (ae2 g hv Bh)
 . subst e;exact fin h (ad9 g hv Bh)
theorem OV:Lf B:=⟨zE,ad2,zF,ae4⟩
end
end
section
open Sem(wp)
section
namespace Bd
theorem ae5:Pg (.type "set") "__contains__"=pure (G (.builtin "set.__contains__")):=by rw[J6,J7];kernel_rfl
theorem ae6:Pg (.type "dict") "get"=pure (G (.builtin "dict.get")):=by rw[J6,J7];kernel_rfl
theorem ty_set:Hh (.builtin "set.__contains__")=pure (.type "method_descriptor"):=by kernel_rfl
theorem ty_dict:Hh (.builtin "dict.get")=pure (.type "method_descriptor"):=by kernel_rfl
theorem Q_:M1 "method_descriptor" "__get__" "method_descriptor.__get__":=.of (owner:="method_descriptor") (n:="__get__") (by rw[J6,J7];kernel_rfl) (by decide+kernel) (by decide+kernel) (by decide+kernel) (by first|exact .inl (by decide+kernel)|exact .inr (by decide+kernel)) (by rw[J8];kernel_rfl)
theorem m8:Lv Lw "method_descriptor.__get__"=G EB.«method_descriptor.__get__»:=YF (by kernel_rfl)
theorem m9(a b c:A4):Jp "method_descriptor.__get__" ⟨[a,b,c],[]⟩:=by unfold Jp;kernel_rfl
theorem mA:Pg (.type "method_descriptor") "__set__"=pure L:=by rw[J6,J7];kernel_rfl
theorem mB:Pg (.type "method_descriptor") "__delete__"=pure L:=by rw[J6,J7];kernel_rfl
theorem ae7:(".".intercalate ("set.__contains__".cutAt '.').dropLast)="set":=by
 have e0:"set.__contains__".cutAt '.'=["set","__contains__"]:=by first|rfl|decide+kernel
 rw[e0];decide+kernel
theorem ae8:(".".intercalate ("dict.get".cutAt '.').dropLast)="dict":=by
 have e0:"dict.get".cutAt '.'=["dict","get"]:=by first|rfl|decide+kernel
 rw[e0];decide+kernel
theorem ae9:Rt (.type "set") (.type (".".intercalate ("set.__contains__".cutAt '.').dropLast))=pure M:=by rw[ae7,J8];kernel_rfl
theorem af0:Rt (.type "dict") (.type (".".intercalate ("dict.get".cutAt '.').dropLast))=pure M:=by rw[ae8,J8];kernel_rfl
end Bd
section
variable{g:BW fa}{d:Drawn}{t:O}{os:H5}
theorem af1{AS:Dt->AR->Prop}(hx:h.get? a=G {cls:=.type "set",dict:=L,data:=.set ez n sf,slots:=sl})(hq:AS (.ok (.ret (.ref h.objs.size))) ⟨h.push {cls:=.type "builtin_function_or_method",data:=.fields #[.builtin "set.__contains__",.ref a]},g,d,t,os⟩):D7 (AQ prog w) A (.call (.builtin "method_descriptor.__get__") ⟨[.builtin "set.__contains__",.ref a,.type "set"],[]⟩) AS ⟨h,g,d,t,os⟩:=by
 have hT:(⟨h,g,d,t,os⟩:AR).TypeIs (.ref a) "set":=⟨_,hx,rfl⟩;have Tc:(⟨h,g,d,t,os⟩:AR).TypeIs (.builtin "set.__contains__") "method_descriptor":=Bd.ty_set;have f8:=Bd.ae9;refine Lx Bd.Q_.plain Bd.m8 (Bd.Q_.check _ _ _ _ _ _ _ _ Tc (Bd.m9 _ _ _) ?_);repeat(any_goals(first|with_reducible assumption|wp_step|assumption))
theorem af2{tk:EP}{A2:Fin->AR->Prop}(hx:h.get? a=G {cls:=.type "set",dict:=L,data:=.set ez n sf,slots:=sl})(hq:A2 (.done (.ret (.ref h.objs.size))) ⟨h.push {cls:=.type "builtin_function_or_method",data:=.fields #[.builtin "set.__contains__",.ref a]},g,d,t,os⟩):AH (AQ prog w) A (EB.«object.__getattribute__» ⟨[.ref a,.str "__contains__" tk],[]⟩) A2 E ⟨h,g,d,t,os⟩:=by
 have hT:(⟨h,g,d,t,os⟩:AR).TypeIs (.ref a) "set":=⟨_,hx,rfl⟩;have Tc:(⟨h,g,d,t,os⟩:AR).TypeIs (.builtin "set.__contains__") "method_descriptor":=Bd.ty_set;have bW9:=Bd.ae5;have bX0:=Bd.ty_set;have bX1:=Bd.Q_.lookup;have bX2:=Bd.mA;have f8:=Bd.mB;repeat(any_goals(first|with_reducible assumption|wp_step|assumption))
 refine af1 hx ?_;repeat(any_goals(first|with_reducible assumption|wp_step|assumption))
theorem af3{tk:EP}{AS:Dt->AR->Prop}(hx:h.get? a=G {cls:=.type "set",dict:=L,data:=.set ez n sf,slots:=sl})(hq:AS (.ok (.ret (.ref h.objs.size))) ⟨h.push {cls:=.type "builtin_function_or_method",data:=.fields #[.builtin "set.__contains__",.ref a]},g,d,t,os⟩):D7 (AQ prog w) A (.call (.builtin "set.__getattribute__") ⟨[.ref a,.str "__contains__" tk],[]⟩) AS ⟨h,g,d,t,os⟩:=Lx gc.plain F.entry_set_ga (gc.check _ _ _ _ _ _ _ _ (show(⟨h,g,d,t,os⟩:AR).TypeIs (.ref a) "set"from⟨_,hx,rfl⟩) (F.args_set_getattribute_2 _ _) (af2 hx hq))
theorem af4{tk:EP}{fill:AK}(hx:h.get? a=G {cls:=.type "set",dict:=L,data:=.set ez n sf,slots:=sl})(hq:A2 (.ref h.objs.size) ⟨h.push {cls:=.type "builtin_function_or_method",data:=.fields #[.builtin "set.__contains__",.ref a]},g,d,t,os⟩):AH (AQ prog w) A (gd (.ref a) (.str "__contains__" tk) fill ex) A2 E ⟨h,g,d,t,os⟩:=by
 have hT:(⟨h,g,d,t,os⟩:AR).TypeIs (.ref a) "set":=⟨_,hx,rfl⟩;have f2:=gc.lookup;have bX3:=gc.bind (.ref a);have e1:(ex&&onTheHeap (.builtin "set.__getattribute__"))=A6:=by cases ex<;>rfl
 unfold gd;refine C0 (A5 (Ru hT (A5 (NY f2 ?_))));show AH _ _ (ge _ _ _ _ _ _) _ _ _;unfold ge bA0;rw[e1];repeat(any_goals(first|with_reducible assumption|wp_step|assumption))
 refine af3 hx ?_;repeat(any_goals(first|with_reducible assumption|wp_step|assumption))
theorem af5(hx:h.get? a=G {cls:=.type "set",dict:=L,data:=.set ez n sf,slots:=sl})(hq:A2 (.ref h.objs.size) ⟨h.push {cls:=.type "builtin_function_or_method",data:=.fields #[.builtin "set.__contains__",.ref a]},g,d,t+1,os⟩):AH (AQ prog w) A (V2 (.ref a) "__contains__" ex) A2 E ⟨h,g,d,t,os⟩:=by
 unfold V2;refine A5 (u6 ?_);exact af4 hx hq
theorem af6{AS:Dt->AR->Prop}(hx:h.get? a=G {cls:=.type "dict",dict:=L,data:=.dict ez n,slots:=sl})(hq:AS (.ok (.ret (.ref h.objs.size))) ⟨h.push {cls:=.type "builtin_function_or_method",data:=.fields #[.builtin "dict.get",.ref a]},g,d,t,os⟩):D7 (AQ prog w) A (.call (.builtin "method_descriptor.__get__") ⟨[.builtin "dict.get",.ref a,.type "dict"],[]⟩) AS ⟨h,g,d,t,os⟩:=by
 have hT:(⟨h,g,d,t,os⟩:AR).TypeIs (.ref a) "dict":=⟨_,hx,rfl⟩;have Tc:(⟨h,g,d,t,os⟩:AR).TypeIs (.builtin "dict.get") "method_descriptor":=Bd.ty_dict;have f8:=Bd.af0;refine Lx Bd.Q_.plain Bd.m8 (Bd.Q_.check _ _ _ _ _ _ _ _ Tc (Bd.m9 _ _ _) ?_);repeat(any_goals(first|with_reducible assumption|wp_step|assumption))
theorem af7{tk:EP}{A2:Fin->AR->Prop}(hx:h.get? a=G {cls:=.type "dict",dict:=L,data:=.dict ez n,slots:=sl})(hq:A2 (.done (.ret (.ref h.objs.size))) ⟨h.push {cls:=.type "builtin_function_or_method",data:=.fields #[.builtin "dict.get",.ref a]},g,d,t,os⟩):AH (AQ prog w) A (EB.«object.__getattribute__» ⟨[.ref a,.str "get" tk],[]⟩) A2 E ⟨h,g,d,t,os⟩:=by
 have hT:(⟨h,g,d,t,os⟩:AR).TypeIs (.ref a) "dict":=⟨_,hx,rfl⟩;have Tc:(⟨h,g,d,t,os⟩:AR).TypeIs (.builtin "dict.get") "method_descriptor":=Bd.ty_dict;have bW9:=Bd.ae6;have bX0:=Bd.ty_dict;have bX1:=Bd.Q_.lookup;have bX2:=Bd.mA;have f8:=Bd.mB;repeat(any_goals(first|with_reducible assumption|wp_step|assumption))
 refine af6 hx ?_;repeat(any_goals(first|with_reducible assumption|wp_step|assumption))
theorem af8{tk:EP}{AS:Dt->AR->Prop}(hx:h.get? a=G {cls:=.type "dict",dict:=L,data:=.dict ez n,slots:=sl})(hq:AS (.ok (.ret (.ref h.objs.size))) ⟨h.push {cls:=.type "builtin_function_or_method",data:=.fields #[.builtin "dict.get",.ref a]},g,d,t,os⟩):D7 (AQ prog w) A (.call (.builtin "dict.__getattribute__") ⟨[.ref a,.str "get" tk],[]⟩) AS ⟨h,g,d,t,os⟩:=Lx gf.plain F.entry_dict_ga (gf.check _ _ _ _ _ _ _ _ (show(⟨h,g,d,t,os⟩:AR).TypeIs (.ref a) "dict"from⟨_,hx,rfl⟩) (F.args_dict_getattribute_2 _ _) (af7 hx hq))
theorem af9{tk:EP}{fill:AK}(hx:h.get? a=G {cls:=.type "dict",dict:=L,data:=.dict ez n,slots:=sl})(hq:A2 (.ref h.objs.size) ⟨h.push {cls:=.type "builtin_function_or_method",data:=.fields #[.builtin "dict.get",.ref a]},g,d,t,os⟩):AH (AQ prog w) A (gd (.ref a) (.str "get" tk) fill ex) A2 E ⟨h,g,d,t,os⟩:=by
 have hT:(⟨h,g,d,t,os⟩:AR).TypeIs (.ref a) "dict":=⟨_,hx,rfl⟩;have f2:=gf.lookup;have bX3:=gf.bind (.ref a);have e1:(ex&&onTheHeap (.builtin "dict.__getattribute__"))=A6:=by cases ex<;>rfl
 unfold gd;refine C0 (A5 (Ru hT (A5 (NY f2 ?_))));show AH _ _ (ge _ _ _ _ _ _) _ _ _;unfold ge bA0;rw[e1];repeat(any_goals(first|with_reducible assumption|wp_step|assumption))
 refine af8 hx ?_;repeat(any_goals(first|with_reducible assumption|wp_step|assumption))
theorem ag7(hx:h.get? a=G {cls:=.type "dict",dict:=L,data:=.dict ez n,slots:=sl})(hq:A2 (.ref h.objs.size) ⟨h.push {cls:=.type "builtin_function_or_method",data:=.fields #[.builtin "dict.get",.ref a]},g,d,t+1,os⟩):AH (AQ prog w) A (V2 (.ref a) "get" ex) A2 E ⟨h,g,d,t,os⟩:=by
 unfold V2;refine A5 (u6 ?_);exact af9 hx hq
end
end
end
section
open Sem(wp)
section
theorem mC{q d:A8}{id T:D9}{o:Bi}{mD:Manifest.Signature}{Bt:EB}(hq:s.heap.get? q=G {cls:=.type "builtin_function_or_method",data:=.fields #[.builtin id,.ref d]})(hd:s.heap.get? d=G o)(hT:o.cls=.type T)(hn:∀c,o.data≠.cls c)(bS:gh id=G mD)(hk:Rn id=G .method)(hm:Rt (.type T) (.type "module")=pure A6)(hv:u7.contains id=A6)(hc:u8 id {mD with full:=s!"{VB T}.{VB id}"} ⟨.ref d::us,[]⟩=pure ())(hp:YJ id=M)(he:Lv Lw id=G Bt)(h:AH (AQ prog w) A.in1 (Bt ⟨.ref d::us,[]⟩) (λfin s'=>∃v,fin=.done (.ret v)/\A2 v s') E s):AH (AQ prog w) A (call (.ref q) us) A2 E s:=by
 refine HQ (Rc ?_);show AH _ A.in1 (V4 (.ref q) ⟨us,[]⟩) _ _ _;unfold V4;refine A5 (NW hq ?_);have Wb:s.TypeIs (.ref d) T:=⟨_,hd,hT⟩;have hL:∀{A2:AK->AR->Prop},A2 A6 s->AH (AQ prog w) A.in1 (isType (.ref d)) A2 E s:=by
  intro A2 q;show AH _ _ (do return match(<-loadHead d).data with|.cls _=>M|_=>A6) _ _ _;refine A5 (bx4 hd (AW ?_));cases o with|mk c dd bX4 sl=>cases bX4<;>first|exact q|exact absurd rfl (hn _)
 show AH _ _ (do bA1 id ⟨.ref d::us,[]⟩;Kk (.builtin id ⟨.ref d::us,[]⟩)) _ _ _;refine A5 ?_;unfold bA1;simp only[bS,hk];refine A5 (Lz Wb hm ?_);rw[hv];skip;refine A5 (hL ?_);skip;refine A5 (Ru Wb ?_);skip;refine NY hc (AW ⟨plainId_quiet hp _,J5 he ?_⟩);rw[bA2 hp _];refine Fg h (λfin s' Q=>?_) λ_ _ Q=>Q;refine AC Q ?_;(try clear Q);intro v Aw hv;subst Aw;exact hv
theorem ag8:gh "set.__contains__"=G ⟨.oneArg,"set.__contains__","__contains__",.self,[⟨"object",.posOnly,M⟩]⟩:=by kernel_rfl
theorem ag9:gh "dict.get"=G ⟨.positional,"dict.get","get",.self,[⟨"key",.posOnly,M⟩,⟨"default",.posOnly,A6⟩]⟩:=by kernel_rfl
theorem ah0:Rn "set.__contains__"=G .method:=by decide+kernel
theorem ah1:Rn "dict.get"=G .method:=by decide+kernel
theorem ah2:Rt (.type "set") (.type "module")=pure A6:=by rw[J8];kernel_rfl
theorem ah3:Rt (.type "dict") (.type "module")=pure A6:=by rw[J8];kernel_rfl
theorem ah4:u7.contains "set.__contains__"=A6:=by decide+kernel
theorem ah5:u7.contains "dict.get"=A6:=by decide+kernel
theorem ah6:s!"{VB "set"}.{VB "set.__contains__"}"="set.__contains__":=by decide+kernel
theorem ah7:s!"{VB "dict"}.{VB "dict.get"}"="dict.get":=by decide+kernel
theorem ah8{d x:A4}:u8 "set.__contains__" ⟨.oneArg,"set.__contains__","__contains__",.self,[⟨"object",.posOnly,M⟩]⟩ ⟨[d,x],[]⟩=pure ():=by kernel_rfl
theorem ah9{d x y:A4}:u8 "dict.get" ⟨.positional,"dict.get","get",.self,[⟨"key",.posOnly,M⟩,⟨"default",.posOnly,A6⟩]⟩ ⟨[d,x,y],[]⟩=pure ():=by kernel_rfl
theorem ai0{By:KeyKind prog w U}{k:U}{key:A4}(EM:By.is k key=M)(TF:key.scannable=M)(hS:s.heap.get? a=G {cls:=.type "set",dict:=L,data:=.set #[] 0 (.fresh 0 0 led)})(h:A2 (.bool A6) {s with toks:=s.toks+1}):AH (AQ prog w) A (EB.«frozenset.__contains__» ⟨[.ref a,key],[]⟩) (λfin s'=>∃v,fin=.done (.ret v)/\A2 v s') E s:=by
 have hS:s.heap.SetOf By a (λ_=>A6) 0:=⟨_,#[],0,_,hS,⟨rfl,rfl,rfl⟩,rfl,λe he=>by simp at he,λk=>by simp,by decide,by rfl,rfl⟩;unfold EB.«frozenset.__contains__»bT2;simp only[bA3,bind_assoc];skip;refine A5 (AW ?_);try dsimp only
 refine A5 (AW ?_);try dsimp only
 refine A5 (Pc ?_);refine C0 ?_;refine A5 (By.pyHash EM ?_);refine A5 (wpAny_setFind_of (s:={s with toks:=s.toks+1}) EM TF hS λr hr=>?_);refine AW ?_;show AH _ _ (ret (NZ r.isSome)) _ _ _;rw[hr];exact AW ⟨_,rfl,h⟩
theorem ai1[DecidableEq T]{By:KeyKind prog w T}{d:A8}{k:T}{key dflt:A4}{f:T->AD A4}(EM:By.is k key=M)(hd:(d==NS)=A6)(hm:s.heap.MapOf By d f)(h:A2 ((f k).getD dflt) {s with toks:=s.toks+1}):AH (AQ prog w) A (EB.«dict.get» ⟨[.ref d,key,dflt],[]⟩) (λfin s'=>∃v,fin=.done (.ret v)/\A2 v s') E s:=by
 show AH _ _ (dictGet d key>>=_) _ _ s;refine A5 (wpAny_dictGet_of EM hm ?_);cases hf:f k with
 |some v=>
  rw[hf]at h;exact AW ⟨v,rfl,h⟩|none=>
  rw[hf]at h;show AH _ _ (bT3 d key>>=_) _ _ _;exact A5 (wpAny_missed_other hd (AW ⟨dflt,rfl,h⟩))
end
section
theorem ai2{x:Tx}(g:Gd B F K A H C s)(hf:VR s.heap C (.B' 0 i) fu)(hs:Aa s.heap C [.str x] us)(h:AL H.h i=G .HU):Ae B F K A H C s (CE fu us) (RV (.bool A6)):=by
 intro A2 E k;refine Bv hf ?_;(try clear hf);intro q d B6 hd hq;subst B6;refine Bv hs ?_;(try clear hs);intro u us BJ BP e;subst BJ;refine xE BP ?_;(try clear BP);intro t Hw;subst Hw;cases e;refine xE (g.obj h hd) ?_;intro led ho;have hq:s.heap.get? q=G {cls:=.type "builtin_function_or_method",data:=.fields #[.builtin "set.__contains__",.ref d]}:=hq;refine mC (T:="set") hq ho rfl (λ_ z=>by(exfalso;cases z)) ag8 ah0 ah2 ah4 (by rw[ah6];exact ah8) PySem.F.slot_set_contains.plain entry_set_contains ?_;exact ai0 (By:=strKind B.prog B.w) (k:=⟨⟨x⟩⟩) (by simp[strKind,YR]) rfl ho (k _ C _ (g.tok _) (Nx.refl ..) rfl)
theorem Wc[DecidableEq T]{By:KeyKind B.prog B.w T}{Az:I (T×A4)}(m:h.DictAt By a Az n):∃o,h.get? a=G o/\o.cls=.type "dict"/\∀c,o.data≠.cls c:=by
 refine HT m ?_;intro o N e hc hd _;exact⟨o,e,hc.1,λc z=>by rw[hd]at z;(exfalso;cases z)⟩
theorem mE{d:V}(g:Gd B F K A H C s)(hd:AL H.h i=G (.dict N))(ru:VR s.heap C (.ref i) u)(rk:VR s.heap C k ku)(rd:VR s.heap C d du)(hk:De N k=M)(kk:∀w s',Gd B F K A H C s'->Nx F.D [] s.heap s'.heap C C->VR s'.heap C ((D' N k).getD d) w->A2 w s'):AH (AQ B.prog B.w) A' (EB.«dict.get» ⟨[u,ku,du],[]⟩) (λfin s'=>∃v,fin=.done (.ret v)/\A2 v s') E s:=by
 revert kk;refine WT (P:=λu=>_->AH (AQ B.prog B.w) A' (EB.«dict.get» ⟨[u,ku,du],[]⟩) (λfin s'=>∃v,fin=.done (.ret v)/\A2 v s') E s) g hd ru rk hk λBy x f a ha hx hm o kk=>?_;refine ai1 hx (g.QT ha) hm (kk _ _ (g.tok _) (Nx.refl ..) ?_);refine o.elim (λo=>?_) λo=>Bv o λv' w h hf r=>?_;. rw[o.1,o.2];exact rd
 . rw[h,hf];exact r
theorem ai3(h:O8 i N .get args H=.ok (.v v) A7):∃k d,args=[k,d]/\De N k=M/\v=(D' N k).getD d/\A7=H:=by
 apply Ho h Ac;intro k d h;refine A0.Be h λhk h=>?_;apply B5 h;exact⟨k,d,rfl,hk,rfl,rfl⟩
theorem ai4(g:Gd B F K A H C s)(hf:VR s.heap C (.B' 1 i) fu)(hs:Aa s.heap C args us)(h:A0.F1 H.h (.ref i) (λi N=>O8 i N .get args H)=.ok (.v v) A7):Ae B F K A A7 C s (CE fu us) (RV v):=by
 intro A2 E k;refine A0.OE h ?_;clear h;intro N hl h;refine HT (ai3 h) ?_;intro x d Bg hk Bu C9;subst Bg;subst Bu;subst C9;refine Bv hf ?_;(try clear hf);intro q a Ck hd hq;subst Ck;have hq:s.heap.get? q=G {cls:=.type "builtin_function_or_method",data:=.fields #[.builtin "dict.get",.ref a]}:=hq;refine SA hs ?_;(try clear hs);intro ku us D8 rk du Dy DX rd e;subst D8;subst DX;cases e;have r:=g.obj hl hd;have ho:∃o,s.heap.get? a=G o/\o.cls=.type "dict"/\∀c,o.data≠.cls c:=r.elim (λr=>AC r λ_ m _=>Wc m) λr=>AC r λ_ m _=>Wc m;refine CZ ho ?_;(try clear ho);intro o ho hc hn;refine mC (T:="dict") hq ho hc hn ag9 ah1 ah3 ah5 (by rw[ah7];exact ah9) u9.plain bA4 ?_;exact mE g hl ⟨a,hd,rfl⟩ rk rd hk λw s' g' x' r'=>k w C s' g' x' r'
end
end
structure Gl(B:Bs)(A3:Mine.Ctx):Prop where ns:∃mg mb,B.base.Ns 3 mg/\B.base.Ns 0 mb/\∀x v,Ah A3.glob x=G v->∃w,v=.top w/\(mg x=G w\/(mg x=L/\mb x=G w))
section
theorem mF(h:QD sc=M)(hl:Di sc x=M):(x==("__debug__":U))=A6:=by
 refine AC (W8 (P:=λ_=>PT) hl λ_ _=>trivial) ?_;intro k q _;have :=(Bn.mp h) _ (FF q);simp only[D6,PU,L4]at this;exact Lp.mpr this.1
theorem bU(Bl:Gl B A3)(h:Fq A3 K (ev A3 n) (.Name id pos) H=.ok (.v v) A7)(g:Gd B F K A H C s):Ae B F K A A7 C s (eval (.Name id pos) F.env) (RV v):=by
 refine No (x:=Fo (Ah H.env id) H) (y:=bC (Di K.sc id) (Fo (Ah A3.glob id) H) .bad) h (λhl h=>?_) λh=>No h (λhg h=>?_) λh=>(Ac h).elim
 . refine xA (MX h) ?_;intro e Aw;subst Aw;exact aV g hl e
 . refine xA (MX h) ?_;intro e B6;subst B6;refine Bv Bl.ns ?_;intro mg mb n3 n0 hh;refine AC (hh id v e) ?_;intro w BJ hw;subst BJ;have st:∀b o,B.base.get? b=G o->s.heap.get? b=G o:=g.base;have m3:s.heap.Ns F.env.globals mg:=by rw[g.kinds.g3];refine Hq n3 ?_;(try clear n3);intro o N ep e r;exact⟨o,N,ep,st _ _ e,r⟩
   have m0:s.heap.Ns F.env.builtins mb:=by rw[g.kinds.b0];refine Hq n0 ?_;(try clear n0);intro o N ep e r;exact⟨o,N,ep,st _ _ e,r⟩
   intro A2 E k;refine bA5 g.kinds.fn (g.kinds.glob id hg) ?_ (mF g.kinds.sc hg);rcases hw with hw|Ck;rotate_left;refine xA Ck ?_;(try clear Ck);intro hm hw;rotate_left;. exact loadGlobal_global m3 hw (k w C s g (Nx.refl ..) rfl)
   . exact bA6 m3 hm m0 hw (k w C s g (Nx.refl ..) rfl)
theorem ai5(A9:C5 B A3 n)(Lo:Lf B){op:UnaryOp}{x:AA}(h:Fq A3 K (ev A3 n) (.UnaryOp op x pos) H=.ok (.v v) A7)(g:Gd B F K A H C s):Ae B F K A A7 C s (eval (.UnaryOp op x pos) F.env) (RV v):=by
 intro A2 E k;cases op<;>first|exact(Ac h).elim|skip
 . refine A0.Cg h ?_;clear h;intro a AB AP h;refine A0.Bx h ?_;clear h;intro b C3 h;(first|(revert k;(first|apply BX h|apply B5 h|apply BY h|apply BZ h|apply B_ h);intro k)|apply BX h|apply B5 h|apply BY h|apply BZ h|apply B_ h);refine bA7 (A9.e AP g _ _ λu A_ AJ AN Ab Aq=>bT4 (Lo.truthy AN Aq C3 _ _ λy BS Ax Ap B8 BQ=>?_));subst BQ;exact k _ BS Ax Ap (Ab.trans B8) rfl
 . refine A0.Cg h ?_;clear h;intro a AB AP h;revert AP;apply Cu h Ac;intro i h AP;(first|(revert k;(first|apply BX h|apply B5 h|apply BY h|apply BZ h|apply B_ h);intro k)|apply BX h|apply B5 h|apply BY h|apply BZ h|apply B_ h);refine bA7 (A9.e AP g _ _ λu A_ AJ AN Ab Aq=>?_);refine xE Aq ?_;(try clear Aq);intro t Bg;subst Bg;exact PySem.P.neg_int (k (.int _ AJ.toks) A_ _ (AN.tok _) Ab ⟨_,rfl⟩)
theorem Gd.push(g:Gd B F K A H C s)(o:Bi)(tk:O):Gd B F K A H C {s with heap:=s.heap.push o,toks:=tk}/\Nx F.D [] s.heap (s.heap.push o) C C:=have kp:∀b o',s.heap.get? b=G o'->(s.heap.push o).get? b=G o':=λb o e=>C1 _ e;⟨g.ext kp,Nx.ext kp⟩
theorem ai6(AG:Cx B A3 Kf)(g:Gd B F K A H C s){o:V}{a:U}(h:k9 A3 o a H=.ok (.v v) A7)(r:VR s.heap C o u)(WW:AK):Ae B F K A A7 C s (V2 u a WW) (RV v):=by
 revert r;apply EI h Ac;intro i h r;refine A0.Bx h λob hi h=>?_;revert hi;apply ji h
 . intro c d h hi;refine A0.Be h λhc h=>A0.Bx h λob hd h=>?_;revert hd;apply Zo h Ac;intro N h hd;refine A0.Bx h λw hv h=>A0.Be h λhn h=>?_;apply B5 h;exact zg AG g (CD (B1 hc)▸hi) hd (Ak hc) hv hn r WW
 intro h;apply jh h
 . intro h hi;refine A0.Be h λhc h=>?_;apply B5 h;apply aN hc;refine AC r ?_;(try clear r);intro d hd Bu;subst Bu;refine xE (g.obj hi hd) ?_;intro led ho;intro A2 E k;obtain⟨hh,gg,dd,tt,bX5⟩:=s;have gp:=g.push {cls:=.type "builtin_function_or_method",data:=.fields #[.builtin "set.__contains__",.ref d]} (tt+1);exact af5 ho (k _ C _ gp.1 gp.2 ⟨_,d,rfl,hd,CY _ rfl⟩)
 intro h;apply JE h Ac;intro N h hi;refine A0.Be h λhc h=>?_;apply B5 h;apply aN hc;refine AC r ?_;(try clear r);intro d hd C9;subst C9;have ro:=g.obj hi hd;have ho:∃N ep,s.heap.get? d=G {cls:=.type "dict",dict:=L,data:=.dict N ep,slots:=#[]}:=by
  (rcases ro with D8|DX;refine AC D8 ?_;(try clear D8);intro Az Ed _;obtain⟨⟨_,_,_,_⟩,BN,e,⟨hc,hn,hs⟩,hd,_⟩:=Ed;rotate_left;refine AC DX ?_;(try clear DX);intro Az FE _;obtain⟨⟨_,_,_,_⟩,BN,e,⟨hc,hn,hs⟩,hd,_⟩:=FE;rotate_left)<;>. simp only at hc hn hs hd;subst hc hn hs hd;exact⟨_,_,e⟩
 refine DB ho ?_;(try clear ho);intro BN ep ho;intro A2 E k;obtain⟨hh,gg,dd,tt,bX5⟩:=s;have gp:=g.push {cls:=.type "builtin_function_or_method",data:=.fields #[.builtin "dict.get",.ref d]} (tt+1);exact ag7 ho (k _ C _ gp.1 gp.2 ⟨_,d,rfl,hd,CY _ rfl⟩)
theorem ai7(AG:Cx B A3 Kf)(A9:C5 B A3 n){o:AA}{a:U}(h:Fq A3 K (ev A3 n) (.Attribute o a pos) H=.ok (.v v) A7)(g:Gd B F K A H C s):Ae B F K A A7 C s (eval (.Attribute o a pos) F.env) (RV v):=by
 refine A0.Be h ?_;clear h;intro hs h;refine A0.Cg h ?_;clear h;intro w AB AP h;intro A2 E k;rw[PySem.arm_eval_Attribute,am hs];refine A5 (A9.e AP g _ _ λu A_ AJ AN Ab Aq=>A5 (El (A5 (C0 (ai6 AG AN h Aq M _ _ λy Au Ai AU Al BB=>?_)))));exact A5 (bA8 (AW (k y Au Ai AU (Ab.trans Al) BB)))
end
theorem ai8{l:A8}{k:AX}{v:A4}{A2:DM->AR->Prop}(hl:s.heap.PlainList l Cb)(h0:0<=k)(mG:k<2^63)(hn:k<Cb.size)(hQ:∀Q,Q.PlainList l (Cb.setIfInBounds k.toNat v)->E4 l s.heap Q->A2 () {s with heap:=Q}):AH (AQ prog w) A (Rl (.ref l) (.int k t) v) A2 E s:=by
 refine xE (id hl) ?_;intro n ho;have hL:=hl.isList;unfold Rl;try with_reducible refine C0 ?_
 first|refine A5 (AW ?_)|skip
 refine A5 (tY hL.typeIs (by decide) ?_);refine A5 (Lu (name:=Ev "__setitem__") hL.typeIs bA9 (Gn bA9 hL.typeIs entry_list_setitem ?_ (args_list_setitem _ _ _)));show AH _ _ (bB0 (.int k t)>>=_) _ _ s;refine A5 (bB1 (fitsIndex_of h0 mG) ?_);clear mG;refine xE (Int.eq_ofNat_of_zero_le h0) ?_;intro j Aw;clear h0;subst Aw;have hj:j<Cb.size:=by omega
 have JP:Cb[j]?=G Cb[j]:=Rs hj;show AH _ _ ((seqItemAt l j>>=λr=>pure (r.map (j,·)))>>=_) _ _ s;refine A5 (A5 (bB2 ho rfl (AW ?_)));rw[JP];show AH _ _ (setSeqItemAt l j v>>=_) _ _ s;have mH:(s.heap.update l (GN (·.setIfInBounds j v))).PlainList l (Cb.setIfInBounds j v):=⟨_,FS _ ho rfl⟩;refine A5 (wpAny_setSeqItemAt ho rfl ?_);first
 |exact A5 (AW (AW ⟨.none,rfl,AW (hQ _ mH (Fh ..))⟩))|exact AW ⟨.none,rfl,AW (hQ _ mH (Fh ..))⟩
theorem Aa.set{v:I V}{u:I A4}{x:V}{y:A4}(r:Aa h C v u)(q:VR h C x y):Aa h C (v.set i x) (u.set i y):=Aa.ind (P:=λv u=>∀i,Aa h C (v.set i x) (u.set i y)) (λ_=>rfl) (λ_ _ _ _ a b ih i=>by cases i with|zero=>exact .cons q b|succ i=>exact .cons a (ih i)) r i
section
theorem ai9{k:AX}(g:Gd B F K A H C s)(hd:AL H.h i=G (.list Y))(ru:VR s.heap C (.ref i) u)(rk:VR s.heap C (.int k) ku)(rv:VR s.heap C v vu)(h0:0<=k)(h1:JH k=M)(h2:k<Y.length):Ae B F K A (H.set i (.list (Y.set k.toNat v))) C s (Rl u ku vu) RU:=by
 intro A2 E kk;refine AC ru ?_;(try clear ru);intro a ha B6;subst B6;refine xE rk ?_;(try clear rk);intro t BJ;subst BJ;refine AC (g.obj hd ha) ?_;intro us p r;have hl:Y.length=us.size:=by rw[r.length];simp
 have hm:=WY h1;refine ai8 p h0 (by omega) (by omega) λQ hp hs=>?_;refine xA (g.set (Q:=Q) (tk:=s.toks) (o':=.list (Y.set k.toNat v)) ha hd (λ_ _ e=>by(exfalso;cases e)) hs.extBut (by refine xE hp ?_;(try clear hp);intro n e;exact⟨_,e⟩) λim=>⟨_,hp,by
 have :=r.set (i:=k.toNat) rv;rw[Array.toList_setIfInBounds];exact this.Bw im⟩) ?_;intro g' x';exact kk () C _ g' x' trivial
theorem aj0(A9:C5 B A3 n){o i:AA}(h:L2 A3 K (ev A3 n) (.Subscript o i pos) v H=.ok (.f f) A7)(g:Gd B F K A H C s)(r:VR s.heap C v vu):CJ B F K A A7 C s (Ex (.Subscript o i pos) F.env vu) RU:=by
 refine A0.Cg h ?_;clear h;intro w AB AP h;refine A0.Cg h ?_;clear h;intro k Bc BD h;intro A2 E kk;skip;refine A5 (C0 (A9.e AP g _ _ λu A_ AJ AN Ab Aq=>A5 (C0 (A9.e BD AN _ _ λku Au Ai AU Al BB=>A5 (El (A5 (C0 ?_)))))));have fin:∀{GY:Mine.St}{l:I A4},Ae B F K A GY Au Ai (Rl u ku vu) RU->A7=GY->AH (AQ B.prog B.w) A (Rl u ku vu) (λ_ s'=>AH (AQ B.prog B.w) A (release l []) A2 E s') E Ai:=by
   intro GY l d e;subst e;exact d _ _ λ_ BS Ax Ap B8 _=>by2 (kk () BS Ax Ap (Ab.trans (Al.trans B8)).FZ trivial)
 have ra:=Aq.nx Al;have rb:=(r.nx Ab).nx Al;revert AP Aq ra;apply EI h Ac;intro a h AP Aq ra;refine A0.Bx h ?_;clear h;intro ob hi h;revert hi;apply K0 h
 . intro Y h hi;revert rb BB BD;apply Cu h Ac;intro k h BD BB rb;refine A0.Be h ?_;clear h;intro hc h;simp only[D6,PW]at hc;exact fin (ai9 AU hi ra BB rb hc.1.2 hc.1.1 hc.2) (FG h).2.symm
 . intro h;apply JE h Ac;intro N h hi;refine A0.Be h ?_;clear h;intro hc h;exact fin (zZ AU hi ra BB rb (B1 hc) (Ak hc)) (FG h).2.symm
end
set_option tactic.hygienic true in
theorem aj1:∀{n:O}{e:AA},MO n e=M->∀m,n<=m->YS m e=A6:=by
 intro n;induction n with
 |zero=>
  intro e h m _;cases e<;>first|(exact(E5 h).elim;done)|(cases m<;>rfl)|skip
  have h:(!Cw _ ⟨⟨[95,95,100,101,98,117,103,95,95]⟩⟩)=M:=h;have h:=L4.mp (by simpa using h);have :=Lp.mpr h;cases m<;>exact this|succ n ih=>
  intro e h m hm;cases m with
 |zero=>omega|succ m=>
  have hm:=sr hm;cases e<;>first|(exact(E5 h).elim;done)|rfl|skip
  case BinOp l op r p=>
   have h:(MO n l||MO n r)=M:=h;show(YS m l&&YS m r)=A6;rcases(u0 _ _).mp h with h|h;. rw[ih h m hm];rfl
   . rw[ih h m hm];simp
  case UnaryOp op x p=>exact ih (e:=x) h m hm
  case Name id p=>
   have h:(!Cw id ⟨⟨[95,95,100,101,98,117,103,95,95]⟩⟩)=M:=h;have h:=L4.mp (by simpa using h);exact Lp.mpr h
  case Subscript v i p=>
   show(YS m v&&YS m i)=A6;rw[ih (e:=v) h m hm];rfl
noncomputable def Qa(env:Gi)(ln:O):AA->AD U:=λ|.Name id pos=>if env.kindOf id==G .local&&pos.line==ln then G id else L|_=>L
theorem Wd:∀{Bf:I U},Sy ts=G Bf->ts.length=Bf.length/\ts.all CP=M/\∀(env:Gi)(l:O),(ts.filterMap (Qa env l)).length=ts.length->ts.filterMap (Qa env l)=Bf:=by induction ts with
 |nil=>intro Bf h;exact Br h (P:=λBf=>[].length=Bf.length/\[].all CP=M/\∀(env:Gi)(l:O),([].filterMap (Qa env l)).length=[].length->[].filterMap (Qa env l)=Bf) ⟨rfl,rfl,λ_ _ _=>rfl⟩|cons t ts ih=>
 intro Bf h;apply EV (e:=t) h AF;intro id p h;refine BI h λl e h=>?_;obtain rfl:=Bm h;refine G6 (ih e) ?_;intro h1 h2 h3;refine⟨congrArg (·+1) h1,h2,λenv ln hl=>?_⟩;have bH:=bB3 (Qa env ln) ts;cases q:Qa env ln (.Name id p)with
 |none=>rw[List.filterMap_cons_none q,V1]at hl;exact absurd bH (by omega)|some x=>
 rw[bB4 q]at hl ⊢;rw[h3 env ln (YT hl)];have q:(if env.kindOf id==G .local&&p.line==ln then G id else L)=G x:=q;split at q;. rw[Bm q]
 . exact(BE q).elim
set_option tactic.hygienic true in
theorem aj2{Bf:I U}(h:Vz ts e=G Bf):∃LH k p,ts=[.Tuple LH k p]/\Sy LH=G Bf/\JL e=A6/\(g0 ts e env=pure L\/g0 ts e env=pure (G Bf)):=by
 apply Cs h AF;intro t h;apply S2 h AF;intro LH k p h;apply S2 h AF;intro vs k' p' h;refine Ce h AF λhn h=>?_;refine G6 (Wd h) ?_;intro h1 h2 h3;refine⟨LH,k,p,rfl,h,rfl,?_⟩;unfold g0;dsimp only;split;. exact .inl rfl
 split;. exact .inl rfl
 split;. exact .inl rfl
 rename_i hl;split;. exact .inl rfl
 split
 . rename_i hc;refine AC (IJ.mp hn) ?_;intro v hv Bh;have :=(Bn.mp hc) v hv;rw[aj1 Bh 8 (by decide)]at this;exact(E5 this).elim
 . refine .inr ?_;have hl:=(gi.mp λz=>hl ((u0 _ _).mpr z)).1;have :=h3 env ((LH.head?.map λx:AA=>x.pos.line).getD 0) (bB5 λz=>hl (bne_iff_ne.mpr z));exact congrArg (λz=>pure (G z)) this
theorem bV:∀{l:I U},QG l=M->l.Nodup
 |[],_=>HN|x::l,h=>by
  simp only[QG,D6,PU]at h;refine EU.mpr ⟨λm=>?_,bV h.2⟩;have :=YB.mp h.1 x m;exact this (E2.mpr rfl)
theorem We:∀{Bf:I U}{vs:I V}{env:I (U×V)},x∉Bf->Ah (putAll env Bf vs) x=Ah env x
 |[],_,_,_=>rfl|_::_,[],_,_=>rfl|y::Bf,v::vs,env,h=>by
  show Ah (putAll (E_ env y v) Bf vs) x=_;rw[We (λm=>h (Cp _ m)),QJ,CS];exactλz=>h (z▸Co)
theorem bW:∀{Bf:I U}{vs:I V}{env:I (U×V)},Bf.Nodup->(x,v)∈Bf.zip vs->Ah (putAll env Bf vs) x=G v
 |[],_,_,_,h=>by simp at h|_::_,[],_,_,h=>by simp at h|y::Bf,u::vs,env,hn,h=>by
  refine xA (EU.mp hn) ?_;(try clear hn);intro hy hn;show Ah (putAll (E_ env y u) Bf vs) x=_;rw[bB6]at h;rcases Cj.mp h with h|h
  . injection h with h1 h2;subst h1;subst h2;rw[We hy,QJ,DA rfl]
  . exact bW hn h
theorem aj3{Bf:I U}{env:I (U×V)}(hl:Bf.length=vs.length)(hn:Bf.Nodup)(x:U):Ah (putAll env Bf.reverse vs.reverse) x=Ah (putAll env Bf vs) x:=by
 by_cases hx:x∈Bf
 . obtain⟨i,hi,e⟩:=bB7.mp hx;have hm:(x,vs[i])∈Bf.zip vs:=by
    refine bB7.mpr ⟨i,by simp;(with_reducible exact Mine.wE (by assumption) (by assumption)),?_⟩;simp[e]
   rw[bW hn hm,bW (v:=vs[i]) (List.pairwise_reverse.mpr (hn.imp λh z=>h z.symm))];have hz:∀{Bf:I U}{vs:I V},Bf.length=vs.length->(Bf.reverse.zip vs.reverse)=(Bf.zip vs).reverse:=by
    intro Bf;induction Bf with
 |nil=>intro vs h;simp|cons a Bf ih=>
    intro vs h;cases vs with
 |nil=>(exfalso;cases h)|cons b vs=>
    have h:Bf.length=vs.length:=by simpa using h
    rw[YU,YU,bB6,YU,<-ih h,List.zip_append (by simp[h])];rfl
   rw[hz hl];exact List.mem_reverse.mpr hm
 . rw[We hx,We (by simpa using hx)]
section
theorem Gd.aj4{env:I (U×V)}{h:I (O×Ob)}(g:Gd B F K A ⟨env,h,m⟩ C s)(e:∀x,Ah CV x=Ah env x):Gd B F K A ⟨CV,h,m⟩ C s:=⟨g.kinds,g.len,g.nodup,g.fresh,g.live,g.D5,g.D1,g.objs,by
 refine CZ g.env ?_;intro m ns ce r;exact⟨m,ns,ce,λx v q=>r x v ((e x).symm.trans q)⟩,g.base,g.os,g.gens,g.frames,g.DT,g.Cy,g.mods,g.handled,g.depth,g.units⟩
theorem mI(hi:G9 K.sc id=M)(g:Gd B F K A H C s)(r:VR s.heap C v u):CJ B F K A ⟨E_ H.env id v,H.h,H.n⟩ C s (fh F.env id u) RU:=aY (A3:=⟨[],λ_=>L,0,0,0,0,0,0,M,[],λ_ _ _=>L⟩) (n:=0) (id:=id) (pos:=⟨0,0,0,0⟩) (f:=.next) (congrArg (A0.iff · _) hi) g r
theorem aj5:∀{Bf:I U}{us:I A4}{H:Mine.St}{C:I A8}{s:AR},Bf.all (G9 K.sc)=M->Bf.length=vs.length->Gd B F K A H C s->Aa s.heap C vs us->CJ B F K A ⟨putAll H.env Bf vs,H.h,H.n⟩ C s (NU (Bf.map λn=>gj F.env n) us) RU:=by induction vs with
 |nil=>intro Bf us H C s _ hl g e;cases Bf with
  |nil=>cases e;exactλA2 E k=>AW (k () C s g (Nx.refl ..) trivial)|cons id Bf=>exact(nomatch hl)
 |cons v vs ih=>intro Bf us H C s ho hl g e;cases Bf with
 |nil=>exact(nomatch hl)|cons id Bf=>
  revert e;intro e A2 E k;refine Bv e ?_;clear e;intro u us e r rs;subst e;show AH _ A (do Hg us (gj F.env id u);NU (Bf.map λn=>gj F.env n) us) A2 E s;refine A5 (C0 (wpAny_bindName (mI (B1 ho) g r _ _ λ_ A_ AJ AN Ab _=>?_)));exact ih (Ak ho) (YT hl) AN (rs.nx Ab) _ _ λ_ Au Ai AU Al _=>k () Au Ai AU (Ab.trans Al) trivial
theorem aj6:∀{ts:I AA}{Bf:I U}{us:I A4}{H:Mine.St}{C:I A8}{s:AR},Sy ts=G Bf->Bf.all (G9 K.sc)=M->Bf.length=vs.length->Gd B F K A H C s->Aa s.heap C vs us->CJ B F K A ⟨putAll H.env Bf vs,H.h,H.n⟩ C s (NU ((GK ts F.env).map (·.2)) us) RU:=by induction vs with
 |nil=>intro ts Bf us H C s hm _ hl g e;cases Bf with
  |nil=>cases ts with
   |nil=>cases e;exactλA2 E k=>AW (k () C s g (Nx.refl ..) trivial)|cons t ts=>exact(bB8 (Wd hm).1)
  |cons id Bf=>exact(nomatch hl)
 |cons v vs ih=>intro ts Bf us H C s hm ho hl g e;cases Bf with
 |nil=>exact(nomatch hl)|cons id Bf=>cases ts with
 |nil=>exact(bB8 (Wd hm).1)|cons t ts=>
   apply EV (e:=t) hm AF;intro Td p hm;refine BI hm λl e2 q=>?_;refine Bv e ?_;clear e;intro u us e r rs;subst e;injection Bm q with q1 q2;subst q1;subst q2;intro A2 E k;show AH _ A (do Hg us (Ex (.Name Td p) F.env u);NU ((GK ts F.env).map (·.2)) us) A2 E s;refine A5 (C0 (bt4 (mI (B1 ho) g r _ _ λ_ A_ AJ AN Ab _=>?_)));exact ih e2 (Ak ho) (YT hl) AN (rs.nx Ab) _ _ λ_ Au Ai AU Al _=>k () Au Ai AU (Ab.trans Al) trivial
theorem Aa.reverse{v:I V}{u:I A4}(r:Aa h C v u):Aa h C v.reverse u.reverse:=Aa.ind (P:=λv u=>Aa h C v.reverse u.reverse) rfl (λ_ _ _ _ a _ ih=>by rw[YU,YU];exact ih.app (.cons a (vs:=[]) rfl)) r
theorem aj7(A9:C5 B A3 n)(h:(A0.of (Vz ts e) λBf=>(ev A3 n K (.e e) H).V λv H=>FU v .bad λo vs=>oN o .bad (A0.iff (BC Bf.length vs.length&&Bf.all (G9 K.sc)&&QG Bf) (.ok (.f .next) ⟨putAll H.env Bf vs,H.h,H.n⟩)))=.ok (.f f) A7)(g:Gd B F K A H C s):CJ B F K A A7 C s (exec (.Assign ts e pos) F.env) (FR f):=by
 refine A0.Bx h ?_;clear h;intro Bf hs h;refine A0.Cg h ?_;clear h;intro v AB AP h;revert AP;apply IR h Ac;intro o vs h;apply GQ h Ac;intro h AP;refine A0.Be h ?_;clear h;intro hc h;(first|(revert k;(first|apply BX h|apply B5 h|apply BY h|apply BZ h|apply B_ h);intro k)|apply BX h|apply B5 h|apply BY h|apply BZ h|apply B_ h);simp only[D6]at hc;refine xA hc ?_;(try clear hc);intro Bq hn;refine xA Bq ?_;(try clear Bq);intro hl ho;have hl:=CD hl;have hn:=bV hn;refine JB (aj2 (env:=F.env) hs) ?_;intro LH k' p' Bg hm aj8 hw;subst Bg;intro A2 E k;skip;refine A5 (El ?_);have az:bB9 [.Tuple LH k' p'] e pos.line F.env=pure A6:=by
   show YA e (G (.Tuple LH k' p')) pos.line F.env=pure A6;exact TD aj8
 rw[az];refine A5 (AW ?_);skip;refine A5 (A9.eW AP g _ _ λu A_ AJ AN Ab Aq=>?_);refine Bv (QM Aq) ?_;intro a us Bu ht rs;subst Bu;have Ch:Bf.length=us.size:=by rw[hl,rs.length];simp
 have kp:∀Q,Ds AJ.heap.objs.size AJ.heap Q->∀b o,AJ.heap.get? b=G o->Q.get? b=G o:=λQ hx b o e=>hx b o (ER (Dh e)) e;rcases hw with hw|hw
 . rw[hw];refine A5 (AW ?_);show AH _ A (do Ex (.Tuple LH k' p') F.env (.ref a);pure .next) A2 E AJ;refine G6 (Wd hm) ?_;intro h1 h2 _;refine A5 (bs8 AN.handled ht (by rw[WC,h1,Ch]) (WD h2) λQ hx=>?_);have Al:Nx F.D F.AZ AJ.heap Q A_ A_:=Nx.ext (kp Q hx);exact aj6 hm ho hl (AN.ext (tk:=AJ.toks) (kp Q hx)) (rs.nx Al) _ _ λ_ BS Ax Ap B8 _=>AW (k _ BS Ax Ap (Ab.trans (Al.trans B8)) rfl)
 . rw[hw];refine A5 (AW ?_);show AH _ A (do YO "assign.swapped-stores";let Cb<-unpackItems (.ref a) Bf.length L;NU (Bf.reverse.map λn=>gj F.env n) Cb.reverse;pure .next) A2 E AJ;refine A5 (Gm ?_);rw[Ch];refine A5 (wpAny_unpackItems_tuple AN.handled ht λQ hx=>?_);have Al:Nx F.D F.AZ AJ.heap Q A_ A_:=Nx.ext (kp Q hx);refine A5 (aj5 (Bf:=Bf.reverse) (vs:=vs.reverse) (by rw[List.all_reverse];exact ho) (by simp[hl]) (AN.ext (tk:=AJ.toks) (kp Q hx)) (rs.nx Al).reverse _ _ λ_ BS Ax Ap B8 _=>AW (k _ BS Ax (Ap.aj4 ?_) (Ab.trans (Al.trans B8)) rfl));exactλx=>(aj3 hl hn x).symm
end
section
theorem aj9{e it:A8}{c:O}{GH:A4}{A2:AD A4->AR->Prop}(he:M2 s.heap e it i GH)(Bz:s.heap.IsStrIter it "str_ascii_iterator" x t i)(hx:x.cps[i]?=G c)(Cc:e≠it)(hQ:∀AP Q a tk Mj Ei y,Ds it s.heap AP->Ds e AP Q->gk Q e it ((i:AX)+1) y a->Q.IsStrIter it "str_ascii_iterator" x t (i+1)->Q.get? a=G {cls:=.type "tuple",data:=.seq #[.int i Mj,.str ⟨#[c]⟩ Ei]}->A2 (G (.ref a)) {s with heap:=Q,toks:=tk}):AH (AQ prog w) A (ES (.ref e)) A2 E s:=by
 have hT:s.TypeIs (.ref e) "enumerate":=⟨_,he,rfl⟩;unfold ES;refine A5 (Ro (Lu (name:=Ev "__next__") hT gl (Gn gl hT bC0 ?_ (bC1 _))));obtain⟨hp,g,d,tk,os⟩:=s;show AH _ _ (Ko (.ref e) 2>>=_) _ _ _;refine A5 (Gp he rfl (x:=.ref it) rfl ?_);refine A5 (wpAny_nextOf_ascii_item Bz hx λAP QW Ha=>?_);replace Ha:E4 it hp AP:=Ha;have Qb:M2 AP e it i GH:=(Ha.2 e Cc).trans he;show AH _ _ (Ko (.ref e) 3>>=_) _ _ ⟨AP,g,d,tk+1,os⟩;refine A5 (Gp Qb rfl (x:=ET i) rfl ?_);show AH _ _ (Ko (.ref e) 4>>=_) _ _ ⟨AP,g,d,tk+1,os⟩;refine A5 (Gp Qb rfl (x:=.none) rfl ?_);show AH _ _ (mkInt i>>=_) _ _ ⟨AP,g,d,tk+1,os⟩;refine A5 (wpAny_mkInt ?_);show AH _ _ (uA (.ref e) 3 (ET ((i:AX)+1))>>=_) _ _ ⟨AP,g,d,tk+1+1,os⟩;refine A5 (YV Qb (by simp) λBD Ik QX=>?_);replace QX:E4 e AP BD:=QX;replace Ik:M2 BD e it ((i:AX)+1) GH:=Ik;show AH _ _ (uA (.ref e) 4 .none>>=_) _ _ ⟨BD,g,d,tk+1+1,os⟩;refine A5 (YV Ik (by simp) λC3 JR Wf=>?_);replace Wf:E4 e BD C3:=Wf;replace JR:M2 C3 e it ((i:AX)+1) GH:=JR;show AH _ _ (YL [.int i (tk+1),.str ⟨#[c]⟩ tk]>>=_) _ _ ⟨C3,g,d,tk+1+1,os⟩;refine A5 (gm ?_);have Wg:M2 (C3.push {cls:=.type "tuple",data:=.seq #[.int i (tk+1),.str ⟨#[c]⟩ tk]}) e it ((i:AX)+1) GH:=C1 _ JR;have bX:=CY C3 (o:={cls:=.type "tuple",data:=.seq #[.int i (tk+1),.str ⟨#[c]⟩ tk]}) rfl;have Qc:Ds e AP (C3.push {cls:=.type "tuple",data:=.seq #[.int i (tk+1),.str ⟨#[c]⟩ tk]}):=λb o mJ hb=>C1 _ (Wf.extBut b o mJ (QX.extBut b o mJ hb));have bY:(C3.push {cls:=.type "tuple",data:=.seq #[.int i (tk+1),.str ⟨#[c]⟩ tk]}).IsStrIter it "str_ascii_iterator" x t (i+1):=by refine AC QW ?_;(try clear QW);intro o ho r;exact⟨o,Qc _ _ (CX Cc) ho,r⟩
 have mK:C3.objs.size≠e:=PY (Dh JR);show AH _ _ (bT5 (.ref e)>>=_) _ _ ⟨C3.push {cls:=.type "tuple",data:=.seq #[.int i (tk+1),.str ⟨#[c]⟩ tk]},g,d,tk+1+1,os⟩;generalize C3.push {cls:=.type "tuple",data:=.seq #[.int i (tk+1),.str ⟨#[c]⟩ tk]}=FH at Wg bX Qc bY;generalize C3.objs.size=a at bX mK;clear JR Wf Ik QX;refine A5 ?_;skip;refine A5 (Gp Wg rfl (x:=.none) rfl (AW ?_));skip;refine A5 (Gm ?_);refine A5 (Gp Wg rfl (x:=GH) rfl ?_);refine A5 (YV Wg (by simp) λMa bZ b_=>?_);replace b_:E4 e FH Ma:=b_;replace bZ:M2 Ma e it ((i:AX)+1) (.str ⟨#[c]⟩ tk):=bZ;show AH _ _ (bT6 (.ref e) (.ref a)>>=_) _ _ ⟨Ma,g,d,tk+1+1,os⟩;refine A5 ?_;skip;refine A5 (YV bZ (by simp) λTJ ba bb=>?_);replace bb:E4 e Ma TJ:=bb;replace ba:gk TJ e it ((i:AX)+1) (.str ⟨#[c]⟩ tk) a:=ba;refine YV ba (by simp) λWh bc be=>?_;replace be:E4 e TJ Wh:=be;replace bc:gk Wh e it ((i:AX)+1) (.str ⟨#[c]⟩ tk) a:=bc;have k7:Ds e FH Wh:=λb o hb z=>be.extBut b o hb (bb.extBut b o hb (b_.extBut b o hb z));refine A5 (Ph (AW ⟨_,rfl,AW (hQ AP Wh a _ _ _ _ Ha.extBut (λb o hb z=>k7 b o hb (Qc b o hb z)) bc ?_ (k7 _ _ mK bX))⟩));refine AC bY ?_;(try clear bY);intro o ho r;exact⟨o,k7 _ _ (CX Cc) ho,r⟩
theorem ak0{e it:A8}{GH:A4}{A2:AD A4->AR->Prop}(hh:A.handled=L)(he:M2 s.heap e it i GH)(Bz:s.heap.IsStrIter it "str_ascii_iterator" x t i)(hx:x.cps[i]?=L)(hQ:∀Q,Ds it s.heap Q->A2 L {s with heap:=Q}):AH (AQ prog w) A (ES (.ref e)) A2 E s:=by
 have hT:s.TypeIs (.ref e) "enumerate":=⟨_,he,rfl⟩;unfold ES;refine A5 (Ro (Lu (name:=Ev "__next__") hT gl (Gn gl hT bC0 ?_ (bC1 _))));show AH _ _ (Ko (.ref e) 2>>=_) _ _ _;refine A5 (Gp he rfl (x:=.ref it) rfl ?_);refine A5 (wpAny_nextOf_ascii_end hh Bz hx λQ x he' JP=>?_);refine AC JP ?_;(try clear JP);intro o ho hc;refine A5 (Lz (T:="StopIteration") (b:=M) ⟨o,ho,hc⟩ gP ?_);exact AW (hQ _ he')
end
noncomputable def Qd(h:BK)(x:Tx)(i:O)(AE E1:A8):Prop:=AE≠E1/\(∃GH,M2 h AE E1 (i:O) GH)/\∃t,h.IsStrIter E1 "str_ascii_iterator" ⟨⟨x⟩⟩ t i
section
theorem Qd.nx{x:Tx}(r:Qd h x i AE E1)(y:Nx AM AZ h Q C AT)(hI:AE∉C)(hw:AE∉AZ)(hJ:E1∉C)(hw':E1∉AZ):Qd Q x i AE E1:=by
 refine vX r ?_;(try clear r);intro ne Aw t o e' c d;refine xE Aw ?_;(try clear Aw);intro GH e;exact⟨ne,⟨GH,y.keep AE _ e hI hw (λ_=>rfl)⟩,t,o,y.keep E1 o e' hJ hw' (λ_=>by unfold HC;rw[d]),c,d⟩
noncomputable def bf(B:Bs)(A3:Mine.Ctx)(n:O):Prop:=∀{K:Kx}{ts:I AA}{kd:O}{p:B9}{x:Tx}{i:O}{b:I As}{H A7:Mine.St}{f:Fl},ev A3 n K (.loop (.Tuple ts kd p) (.K3 x) i b) H=.ok (.f f) A7->∀{F:Fm}{A:CK}{C BG:I A8}{s:AR}{Af:BK}{AE E1:A8}{AS:Dt->AR->Prop},Gd B F K A H C s->Nx F.D F.AZ Af s.heap BG C->Af.get? AE=L->Af.get? E1=L->CM B F C s.heap AE->CM B F C s.heap E1->Qd s.heap x i AE E1->(∀u AT s',Gd B F K A A7 AT s'->Nx F.D F.AZ Af s'.heap BG AT->FR f s'.heap AT u->AS (.ok u) s')->D7 (AQ B.prog B.w) A (.forLoop (.Tuple ts kd p) (.ref AE) b [] F.env) AS s
theorem ak1(A9:C5 B A3 n)(Se:bf B A3 n){x:Tx}{b:I As}(h:step A3 K (ev A3 n) (.loop (.Tuple ts kd p) (.K3 x) i b) H=.ok (.f f) A7){AS:Dt->AR->Prop}(g:Gd B F K A H C s)(Cq:Nx F.D F.AZ Af s.heap BG C)(hI:Af.get? AE=L)(hJ:Af.get? E1=L)(fI:CM B F C s.heap AE)(fJ:CM B F C s.heap E1)(r:Qd s.heap x i AE E1)(k:∀u AT s',Gd B F K A A7 AT s'->Nx F.D F.AZ Af s'.heap BG AT->FR f s'.heap AT u->AS (.ok u) s'):D7 (AQ B.prog B.w) A (.forLoop (.Tuple ts kd p) (.ref AE) b [] F.env) AS s:=by
 have h:A0.of (IV (.K3 x) i H.h) _=_:=h;refine A0.Bx h ?_;clear h;intro o AP h;injection AP with AP;rw[HY]at AP;refine IN r ?_;(try clear r);intro ne B6 t Bz;refine xE B6 ?_;(try clear B6);intro GH he;have bX6:∀{h:BK}{e it:A8}{i:AX}{GH:A4},M2 h e it i GH->∀o,h.get? e=G o->C2 o=A6:=λe o q=>by rw[e]at q;injection q with q;subst q;rfl
 have bX7:∀{h:BK}{e it a:A8}{i:AX}{y:A4},gk h e it i y a->∀o,h.get? e=G o->C2 o=A6:=λe o q=>by rw[e]at q;injection q with q;subst q;rfl
 have cJ:∀{h:BK}{it:A8}{x:U}{t:EP}{i:O},h.IsStrIter it "str_ascii_iterator" x t i->∀o,h.get? it=G o->C2 o=A6:=λe o q=>by
  refine CZ e ?_;(try clear e);intro o' e' c _;rw[e']at q;injection q with q;subst q;unfold C2;rw[c];rfl
 refine MY ?_;cases hx:x[i]? with
 |none=>
  rw[hx]at AP;subst AP;(first|(revert k;(first|apply BX h|apply B5 h|apply BY h|apply BZ h|apply B_ h);intro k)|apply BX h|apply B5 h|apply BY h|apply BZ h|apply B_ h);exact ak0 g.handled he Bz (by simpa using hx) λQ kx=>k _ C _ (g.move (tk:=s.toks) fJ kx (cJ Bz)) (Cq.F2 kx hJ) rfl|some c=>
  rw[hx]at AP;subst AP;refine A0.Hx h ?_;clear h;intro _ Bc BD h;refine A0.Hx h ?_;clear h;intro d GY C3 h;refine aj9 he Bz (c:=c) (by simpa using hx) ne λhA hB a tk Mj Ei y kA kB eo ei et=>?_;have mL:M2 hA AE E1 i GH:=kA _ _ ne he;have bX8:=g.move (tk:=tk) fJ kA (cJ Bz);have fIA:CM B F C hA AE:=fI.at ⟨_,mL⟩;have bX9:=Gd.move (s:={s with heap:=hA,toks:=tk}) (tk:=tk) bX8 fIA kB (bX6 mL);have fIB:CM B F C hB AE:=fI.at ⟨_,eo⟩;have fJB:CM B F C hB E1:=fJ.at (by refine AC ei ?_;(try clear ei);intro o e _;exact⟨o,e⟩);have bY0:Nx F.D F.AZ Af hB BG C:=(Cq.F2 kA hJ).F2 kB hI;refine wpAny_letOwnedTupleGo_enum eo λhC eC sC=>?_;replace sC:E4 AE hB hC:=sC;have bY1:=Gd.move (s:={s with heap:=hB,toks:=tk}) (tk:=tk) bX9 fIB sC.extBut (bX7 eo);have bg:CM B F C hC AE:=fI.at ⟨_,eC⟩;have bh:hC.IsStrIter E1 "str_ascii_iterator" ⟨⟨x⟩⟩ t (i+1):=by refine AC ei ?_;(try clear ei);intro o e r;exact⟨o,sC.extBut _ _ (CX ne) e,r⟩
  have bj:CM B F C hC E1:=fJ.at (by refine AC bh ?_;(try clear bh);intro o e _;exact⟨o,e⟩);have yC:Nx F.D F.AZ Af hC BG C:=bY0.F2 sC.extBut hI;have ne':a≠AE:=λz=>by rw[z,eo]at et;injection et with et;have :=congrArg Obj.cls et;injection this with this;exact absurd this (by decide)
  have etC:hC.get? a=G {cls:=.type "tuple",data:=.seq #[.int i Mj,.str ⟨#[c]⟩ Ei]}:=sC.extBut _ _ ne' et;have bY2:Qd hC x (i+1) AE E1:=⟨ne,⟨_,eC⟩,t,bh⟩;refine A9.asg BD bY1 (u:=.ref a) ⟨a,_,_,_,rfl,etC,⟨rfl,λ_=>⟨rfl,rfl⟩⟩,rfl,rfl,_,_,rfl,⟨Mj,rfl⟩,_,_,rfl,⟨Ei,rfl⟩,rfl⟩ _ _ λ_ Au Ai AU Al _=>A9.ss C3 AU _ _ λMZ BS Ax Ap B8 BQ=>?_;have xx:=Al.trans B8;have Ep:=yC.trans xx;have mM:=bg.nx xx;have mN:=bj.nx xx;have mO:=bY2.nx xx bg.C bg.w bj.C bj.w;cases d with
 |next=>cases BQ;exact Se h Ap Ep hI hJ mM mN mO k|cont=>cases BQ;exact Se h Ap Ep hI hJ mM mN mO k|brk=>
   cases BQ;(first|(revert k;(first|apply BX h|apply B5 h|apply BY h|apply BZ h|apply B_ h);intro k)|apply BX h|apply B5 h|apply BY h|apply BZ h|apply B_ h);exact k _ BS Ax Ap Ep rfl|ret v=>
   refine AC BQ ?_;(try clear BQ);intro y Bq BQ;subst Bq;(first|(revert k;(first|apply BX h|apply B5 h|apply BY h|apply BZ h|apply B_ h);intro k)|apply BX h|apply B5 h|apply BY h|apply BZ h|apply B_ h);exact k _ BS Ax Ap Ep ⟨y,rfl,BQ⟩
end
noncomputable def Wi:U:=⟨⟨[101,110,117,109,101,114,97,116,101]⟩⟩
section
theorem ak2(A9:C5 B A3 n){body:I As}{Af:RS}{hs:I RS}(h:ev A3 n K (.ss body) H=.ok (.f f) A7)(g:Gd B F K A H C s):CJ B F K A A7 C s (exec (.Try body (Af::hs) [] [] pos) F.env) (FR f):=by
 intro A2 E k;refine bC2 (A9.ss h g _ _ λu A_ AJ AN Ab Aq=>?_);cases f with
 |next=>cases Aq;exact G2 (k .next A_ AJ AN Ab rfl)|brk=>cases Aq;exact k _ A_ AJ AN Ab rfl|cont=>cases Aq;exact k _ A_ AJ AN Ab rfl|ret v=>refine AC Aq ?_;(try clear Aq);intro y Aw Aq;subst Aw;exact k _ A_ AJ AN Ab ⟨y,rfl,Aq⟩
theorem Wj{x:AA}(hp:CP x=M)(d:Ae B F K A A7 C s (eval x F.env) (RV v))(pos:B9):Ae B F K A A7 C s (Lq (F9 pos (E' [x] F.env))) (OB [v]):=by
 intro A2 E k;refine Lr (d _ _ λu A_ AJ AN Ab Aq=>Ur (k [u] A_ AJ AN Ab ⟨u,[],rfl,Aq,rfl⟩)) (K8 hp)
theorem ak3(hg:Di sc id=M):D0 sc id=A6:=AC (W8 (P:=λk=>isIn [.local,.cell,.free] (G k)=A6) hg (all_cons rfl EE)) λk e c=>(congrArg (isIn [.local,.cell,.free]) e).trans c
theorem mP{w:A4}(hg:Di K.sc id=M)(hw:Ah A3.glob id=G (.top w)):Fq A3 K (ev A3 0) (.Name id p) H=.ok (.v (.top w)) H:=by
 show bC (D0 K.sc id) _ (bC (Di K.sc id) (Fo (Ah A3.glob id) H) _)=_;rw[ak3 hg,hg,hw];rfl
theorem Wk{Bl:Gl B A3}{args:I AA}{w:A4}(hg:Di K.sc id=M)(hw:Ah A3.glob id=G (.top w))(hp:args.all CP=M)(g:Gd B F K A H C s)(h:∀A_ AJ,Gd B F K A H A_ AJ->Nx F.D [] s.heap AJ.heap C A_->AH (AQ B.prog B.w) A (Lq (F9 pos (E' args F.env))) (λus s'=>CW (AQ B.prog B.w) s'.heap w/\AH (AQ B.prog B.w) A (CE w us) A2 E s') E AJ):AH (AQ B.prog B.w) A (eval (.Call (.Name id p) args [] pos) F.env) A2 E s:=by
 rw[show eval (.Call (.Name id p) args [] pos) F.env=(do PZ pos (<-eval (.Name id p) F.env) [] (F9 pos (E' args F.env)) [])from rfl];refine A5 (bU Bl (mP hg hw) g _ _ λu A_ AJ AN Ab Aq=>?_);cases Aq;refine g6 (P:=λh=>CW (AQ B.prog B.w) h w) (by rw[WH hp];rfl) (λh c=>c) ?_;have this:=h A_ AJ AN Ab;cases args with
 |nil=>exact al this|cons x l=>rw[K8 (B1 hp)]at this ⊢;exact tM this
theorem bk{Bl:Gl B A3}{args:I AA}{w:A4}(hg:Di K.sc id=M)(hw:Ah A3.glob id=G (.top w))(hc:∀h,CW (AQ B.prog B.w) h w)(hp:args.all CP=M)(g:Gd B F K A H C s)(h:∀BG EN p,Gd B F K A H BG EN->Nx F.D [] s.heap EN.heap C BG->Ae B F K A AB BG EN (Lq (F9 p (E' args F.env))) (OB vs))(hk:∀us A_ AJ,Gd B F K A AB A_ AJ->Nx F.D [] s.heap AJ.heap C A_->Aa AJ.heap A_ vs us->AH (AQ B.prog B.w) A (CE w us) A2 E AJ):AH (AQ B.prog B.w) A (eval (.Call (.Name id p) args [] pos) F.env) A2 E s:=Wk (Bl:=Bl) hg hw hp g λA_ AJ AN Ab=>h A_ AJ pos AN Ab _ E λus Au Ai AU Al BB=>⟨hc _,hk us Au Ai AU (Ab.trans Al) BB⟩
theorem Qe{f:AA}{m:D9}(h:O5 f m=M){P:AA->Prop}(k:∀p,P (.Name (Ev m) p)):P f:=by
 apply EV h B0;intro id p h;rw[E2.mp h];exact k p
theorem ak4{it x:AA}(h:Sm it=G x):∃p pos,it=.Call (.Name Wi p) [x] [] pos:=by
 apply M6 h AF;intro f a k pos h;apply Cs h AF;intro y h;apply EW h AF;intro h;refine Ce h AF λq h=>?_;apply Qe q;intro p;apply Br h.symm;exact⟨p,pos,rfl⟩
theorem ak5(Bl:Gl B A3)(hen:Ah A3.glob Wi=G (.top (.type "enumerate")))(A9:C5 B A3 n)(Se:bf B A3 n){t it x:AA}{b:I As}(he:Sm it=G x)(h:IX K (ev A3 n) (.For t it b [] pos) H=.ok (.f f) A7)(g:Gd B F K A H C s):CJ B F K A A7 C s (exec (.For t it b [] pos) F.env) (FR f):=by
 refine M7 h (λx' e q=>?_) λe _=>by rw[he]at e;exact(AF e.symm).elim
 clear h;revert q;intro h;rw[he]at e;injection e with e;subst e;apply S2 h Ac;intro ts kd p h;refine A0.Be h ?_;clear h;intro hg h;simp only[D6]at hg;refine A0.Cg h ?_;clear h;intro v AB AP h;revert AP;apply Dd h Ac;intro tx h AP;refine A0.Be h ?_;clear h;intro ha h;refine DB (ak4 he) ?_;intro bY3 bY4 BP;clear he;subst BP;intro A2 E k;refine Y9 (bk (Bl:=Bl) (vs:=[.str tx]) hg.1 hen (λ_=>CW.type) (by simp[hg.2]) g (λBG EN p Fa Cq=>Wj hg.2 (A9.e AP Fa) p) λus A_ AJ AN Ab Aq=>?_) (λ_=>rfl);refine Bv Aq ?_;(try clear Aq);intro u us Bq Bg e;subst Bq;refine xE Bg ?_;(try clear Bg);intro tk Bu;subst Bu;cases e;refine call_enumerate_str λQ he Bz Ee kp=>?_;have hJ:AJ.heap.get? AJ.heap.objs.size=L:=GF AJ.heap;have hI:AJ.heap.get? (AJ.heap.objs.size+1)=L:=by cases e:AJ.heap.get? (AJ.heap.objs.size+1)with
 |none=>rfl|some o=>exact absurd (Dh e) (Us.mpr (PR _))
 have ty:strIterType ⟨⟨tx⟩⟩="str_ascii_iterator":=by
  unfold strIterType;rw[DA];rw[Bn]at ha;show(YW tx).all _=M;rw[<-Array.all_toList,Bn];intro c hc;have :=ha c hc;have :c<128:=gb (Dk this);simpa using this
 rw[ty]at Bz;refine wpAny_pyIter_enum he ?_;have x':Nx F.D F.AZ AJ.heap Q A_ A_:=Nx.ext kp;exact Se h (AN.ext (tk:=AJ.toks) kp) x' hI hJ (AN.freeOf hI ⟨_,he⟩) (AN.freeOf hJ (by refine AC Bz ?_;(try clear Bz);intro o e _;exact⟨o,e⟩)) ⟨uB _,⟨_,he⟩,tk,Bz⟩ λu BS Ax Ap B8 BQ=>k u BS Ax Ap (Ab.FZ.trans B8) BQ
end
theorem ak6{x y:Ob}:(H.set i x).set i y=H.set i y:=by show Mine.St.mk _ (putN (putN H.h i x) i y) _=_;rw[xl];rfl
theorem ak7{x y:Ob}:(H.new x).2.set H.n y=(H.new y).2:=by
 show Mine.St.mk _ (putN ((H.n,x)::H.h) H.n y) _=_;unfold putN;simp only[J2];rfl
noncomputable def Qf(h:BK)(C:I A8):I (V×V)->I (A4×A4)->Prop
 |[],l=>l=[]|p::ps,l=>∃k v r,l=(k,v)::r/\VR h C p.1 k/\VR h C p.2 v/\Qf h C ps r
theorem Qf.nx(x:Nx AM AZ h Q C AT):∀{l:I (A4×A4)},Qf h C ps l->Qf Q AT ps l:=by induction ps with
 |nil=>exact id|cons p ps ih=>exactλe=>JB e λk v r e a b c=>⟨k,v,r,e,a.nx x,b.nx x,ih c⟩
theorem ak8{d:A8}{x:A4×A4}{vs:I (A4×A4)}:YX d (x::vs)=(Ri d x.1 x.2>>=λ_=>YX d vs):=by
 unfold YX;rw[Rg,bind_assoc];rfl
section
theorem mQ(g:Gd B F K A H C s)(hd:AL H.h i=G (.dict N))(ha:C[i]?=G a)(rk:VR s.heap C k ku)(rv:VR s.heap C v vu)(hk:De N k=M)(hf:CH N=M):Ae B F K A (H.set i (.dict (En N k v))) C s (Ri a ku vu) RU:=by
 intro A2 E kk;have r:=g.obj hd ha;exact lR hk r rk rv hf λQ hs d=>xA (g.set (Q:=Q) (tk:=s.toks+1) (o':=.dict (En N k v)) ha hd (λ_ _ e=>by(exfalso;cases e)) hs.extBut d.live λ_=>d) λg' x'=>kk () C _ g' x' trivial
theorem ak9:∀{vs:I (A4×A4)}{H:Mine.St}{C:I A8}{s:AR}{Am N:I (V×V)},Gd B F K A H C s->Qf s.heap C ps vs->Kz ps Am=G N->AL H.h i=G (.dict Am)->C[i]?=G a->Ae B F K A (H.set i (.dict N)) C s (YX a vs) RU:=by induction ps with
 |nil=>
  intro vs H C s Am N g e hf hd ha;cases e;refine Br hf (P:=λN=>Ae B F K A (H.set i (.dict N)) C s (YX a []) RU) ?_;rw[show H.set i (.dict Am)=H from congrArg (λh=>Mine.St.mk H.env h H.n) (xm hd)];exactλA2 E k=>AW (k () C s g (Nx.refl ..) trivial)|cons p ps ih=>
  intro vs H C s Am N g e hf hd ha;refine JB e ?_;clear e;intro ku vu r q rk rv rr;subst q;have hf:bC (De Am p.1&&CH Am) (Kz ps (En Am p.1 p.2)) L=G N:=hf;refine Eb hf (λhc hf=>?_) λ_ e=>(AF e).elim
  . replace hc:=Rf (B1 hc) (Ak hc);intro A2 E k;rw[ak8];refine A5 (mQ g hd ha rk rv hc.1 hc.2 _ _ λ_ A_ AJ AN Ab _=>?_);have :=ih AN (rr.nx Ab) hf (MP hd) (by refine AC Ab.pre ?_;intro J e _;rw[e];exact FY ha);rw[ak6]at this;exact this _ _ λ_ Au Ai AU Al _=>k () Au Ai AU (Ab.trans Al) trivial
theorem mR{k:AD AA}{ks:I (AD AA)}{vs:I AA}(h:MM (k::ks) vs=G ps){P:AD AA->I AA->I (V×V)->Prop}(d:∀c KN LI c' JS Il OW kv vv l,O4 c=G kv->O4 c'=G vv->MM ks OW=G l->P (G (.Constant c KN LI)) (.Constant c' JS Il::OW) ((kv,vv)::l)):P k vs ps:=by
 apply Np h AF;intro x h;apply J9 h AF;intro c KN LI h;apply FT h AF;intro y OW h;apply J9 h AF;intro c' JS Il h;refine BI h λkv h1 h=>?_;refine BI h λvv h2 h=>?_;refine BI h λl h3 h=>?_;apply Br h;exact d _ _ _ _ _ _ _ _ _ _ h1 h2 h3
theorem mS:∀{ks:I (AD AA)}{vs:I AA}{ps:I (V×V)}{C:I A8}{s:AR}{pos:B9},MM ks vs=G ps->Gd B F K A H C s->Ae B F K A H C s (uC (pairTrees ks vs F.env pos)) (λh C l=>Qf h C ps l)
 |[],vs,ps,C,s,pos,h,g=>by
  apply EW h AF;intro h;apply Br h;exactλA2 E k=>AW (k [] C s g (Nx.refl ..) rfl)|k::ks,vs,ps,C,s,pos,h,g=>by
  apply mR h;intro c KN LI c' JS Il OW kv vv l h1 h2 h3 A2 E k;show AH _ A (do
 let kv<-eval (.Constant c KN LI) F.env let vv<-Hg [kv] (do let x<-eval (.Constant c' JS Il) F.env;Ki pos;pure x)return(kv,vv)::(<-Hg [kv,vv] (uC (pairTrees ks OW F.env pos)))) A2 E s;refine A5 (WB g h1 _ _ λu A_ AJ AN Ab Aq=>A5 (C0 (A5 (WB AN h2 _ _ λu' Au Ai AU Al BB=>A5 (El (AW ?_))))));refine A5 (C0 (mS h3 AU _ _ λl' BS Ax Ap B8 BQ=>AW ?_));exact k _ BS Ax Ap (Ab.trans (Al.trans B8)) ⟨u,u',l',rfl,(Aq.nx Al).nx B8,BB.nx B8,BQ⟩
theorem mT:∀{ks:I (AD AA)}{vs:I AA}{ps:I (V×V)},MM ks vs=G ps->ks.all (·.isSome)=M/\ks.length=vs.length/\ks.length=ps.length
 |[],vs,ps,h=>by
  apply EW h AF;intro h;apply Br h;exact⟨rfl,rfl,rfl⟩|k::ks,vs,ps,h=>by
  apply mR h;intro c KN LI c' JS Il OW kv vv l h1 h2 h3;refine G6 (mT h3) ?_;intro a b c;exact⟨by simpa using a,by simp[b],by simp[c]⟩
theorem Gd.newDict(g:Gd B F K A H C s)(tk:O):Gd B F K A (H.new (.dict [])).2 (C++[s.heap.objs.size]) {s with heap:=s.heap.push {cls:=.type "dict",data:=.dict #[]},toks:=tk}/\Nx F.D [] s.heap (s.heap.push {cls:=.type "dict",data:=.dict #[]}) C (C++[s.heap.objs.size]):=by
 have kp:∀b o,s.heap.get? b=G o->(s.heap.push {cls:=.type "dict",data:=.dict #[]}).get? b=G o:=λb o e=>C1 _ e;have hn:=GF s.heap;have hg:=CY s.heap (o:={cls:=.type "dict",data:=.dict #[]}) rfl;exact⟨g.new kp hn ⟨_,hg⟩ (o:=.dict []) (lU hg),Nx.add [_] kp λb hb=>by rw[CI.mp hb];exact hn⟩
theorem Gd.LJ(g:Gd B F K A H C s):(C++[a])[H.n]?=G a:=by rw[<-g.len];simp
theorem al0:AL (H.new o).2.h H.n=G o:=by simp[Mine.St.new,AL,iK]
theorem al1:YY []=newDict:=by
 unfold YY;simp
theorem mU{ks:I (AD AA)}{vs:I AA}(h1:MM ks vs=G ps)(h2:EQ ps.length 15=M)(h3:Kz ps []=G N)(g:Gd B F K A H C s):Ae B F K A (H.new (.dict N)).2 C s (eval (.Dict ks vs pos) F.env) (RV (.ref H.n)):=by
 refine G6 (mT h1) ?_;intro ha hl hp;have gp:=g.newDict (s.toks);intro A2 E k;cases ks with
 |nil=>
  cases vs<;>first|((exfalso;cases hl);done)|skip
  injection h1 with h1;clear h2 hp;subst h1;injection h3 with h3;subst h3;skip;refine A5 (El ?_);show AH _ A (YY []) A2 E s;rw[al1];exact IG (k _ _ _ gp.1 gp.2 ⟨_,g.LJ,rfl⟩)|cons L7 ks=>
  refine wpAny_Dict_any ha hl (by simp) (by rw[hp];exact Dk h2) ?_;refine mS h1 gp.1 _ _ λl A_ AJ AN Ab Aq=>?_;have Dj:A_[H.n]?=G s.heap.objs.size:=by refine AC Ab.pre ?_;intro J e _;rw[e];exact FY g.LJ
  have :=ak9 AN Aq h3 al0 Dj;rw[ak7]at this;exact this _ _ λ_ Au Ai AU Al _=>k _ Au Ai AU (gp.2.trans (Ab.trans Al)) ⟨_,by refine AC Al.pre ?_;intro J e _;rw[e];exact FY Dj,rfl⟩
end
section
variable[DecidableEq T]{By:KeyKind prog w T}
theorem al2{d:A8}{Az:I (T×A4)}{k:T}{key v:A4}{A2:DM->AR->Prop}(EM:By.is k key=M)(hm:s.heap.DictAt By d Az Az.length)(hQ:∀Q,Q.DictAt By d (FC Az k v) (FC Az k v).length->E4 d s.heap Q->A2 () {s with heap:=Q})(Ee:Az.length<=FA):AH (AQ prog w) A (uD d (By.hash k) key v) A2 E s:=by
 refine MA hm ?_;(try clear hm);intro o N ho hc hd hk hp hn;have Ch:N.size=Az.length:=by have :=hp.length;simpa using this
 have OO:(N.findIdx? λe=>By.is k e.key)=Az.findIdx? λkv=>decide (kv.1=k):=by rw[<-hp.findIdx k];obtain⟨l⟩:=N;simp
 unfold uD;refine A5 (tS EM ho hd hk ?_);cases hi:N.findIdx? λe=>By.is k e.key with
 |some i=>
  have HF:=bw4 (OO▸hi);have e1:FC Az k v=Az.map λkv=>if kv.1=k then(kv.1,v)else kv:=by rw[FC,DA HF]
  have hl:(N.toList.findIdx? λe=>By.is k e.key)=G i:=by rw[<-hi];obtain⟨l⟩:=N;simp
  have FI:=hp.modify hn hl v;refine bw5 ho hd (hQ _ ?_ (Fh ..));refine⟨_,_,FS _ ho (YD (gE hd _)),hc.mapDict _,?_,hk.modify i v,?_,?_⟩;. rw[e1,Jo];exact gE hd _
  . rw[e1];obtain⟨l⟩:=N;simpa using FI
  . rw[e1,bw6];exact hn|none=>
  have TS:k∉Az.map (·.1):=bw7 (OO▸hi);have TU:¬(Az.any λkv=>decide (kv.1=k))=M:=λh=>by
    refine AC (IJ.mp h) ?_;intro kv OP he;exact TS (E0.mpr ⟨kv,OP,of_decide_eq_true he⟩)
  have e1:FC Az k v=Az++[(k,v)]:=by rw[FC,CS TU]
  refine tU (hz:=by(with_reducible exact Mine.yT (by assumption) (by assumption))) ho hd (hQ _ ?_ (Fh ..));refine⟨_,_,FS _ ho (YD (Uz hd _)),hc.mapDictKeys _,?_,hk.push EM v,?_,?_⟩;. rw[e1,FD];exact Uz hd _
  . have :=hp.append EM (By.hash k) v;rw[e1];obtain⟨l⟩:=N;simpa using this
  . rw[e1,N_,IE];refine⟨hn,by simp,λa ha b hb e=>?_⟩;simp only[J4,tX,CI]at hb;exact TS (hb▸e▸ha)
end
section
open Builtin Builtin.Str
theorem al3{i:AX}(h0:0<=i)(h1:i<100){u:EP}:VC («str.format» ⟨[.str ⟨#[123,125]⟩ t,.int i u],[]⟩) (λ_ AS s=>∀t' k,AS (.ok (.ret (.str (M3 (toString i)) t'))) {s with toks:=k}):=by kfm_run
theorem al4{i j:AX}(h0:0<=i)(h1:i<100)(h2:0<=j)(h3:j<100){u v:EP}:VC («str.format» ⟨[.str ⟨#[123,125,44,123,125]⟩ t,.int i u,.int j v],[]⟩) (λ_ AS s=>∀t' k,AS (.ok (.ret (.str ((M3 (toString i)++M3 ",")++M3 (toString j)) t'))) {s with toks:=k}):=by kfm_run
theorem al5:∀n:Fin 100,M3 (toString ((n.val:O):AX))=⟨⟨Q8 n.val⟩⟩:=by decide+kernel
theorem Te{i:AX}(h:O2 i=M):0<=i/\i<100:=by simpa[O2]using h
theorem Wl{i:AX}(h:O2 i=M):M3 (toString i)=⟨⟨JG i⟩⟩:=by
 refine xA (Te h) ?_;intro h0 h1;have :=al5 ⟨i.toNat,by(with_reducible exact Mine.wL (by assumption) (by assumption))⟩;simp only at this;rw[show((i.toNat:O):AX)=i by(with_reducible exact u5 (by assumption))]at this;exact this
theorem mV:∀{p s:Tx},K2 p s=M↔p<+:s
 |[],s=>by simp[K2]|a::p,[]=>by simp[K2]|a::p,b::s=>by
  unfold K2;cases q:BC a b with
 |true=>
   have :=CD q;clear q;subst this;rw[bC3];simp only[true_and];exact mV|false=>
   have :a≠b:=λz=>by subst z;simp at q
   simp[bC3,this]
theorem al6{s p:Tx}:bC4 ⟨⟨s⟩⟩ ⟨⟨p⟩⟩=K2 p s:=by
 rw[Bool.eq_iff_iff,mV];unfold bC4 subAt;simp only[Up,D6,PW,Rh];have e:(YW s).extract 0 p.length=⟨s.take p.length⟩:=by simp
 show p.length<=s.length/\(YW s).extract 0 p.length=⟨p⟩↔_;rw[e,List.prefix_iff_eq_take];constructor;. rintro⟨_,h⟩;injection h with h;exact h.symm
 . intro h;exact⟨by have :=congrArg Rq h;simp at this;(with_reducible exact Mine.wO (by assumption)),by rw[<-h]⟩
noncomputable def mW:SK->D9|.sw=>"str.startswith"|.ew=>"str.endswith"|.split=>"str.split"|.rfind=>"str.rfind"|.rstrip=>"str.rstrip"|.fmt=>"str.format"|.join=>"str.join"
theorem al7{m:U}{k:SK}(h:Sr m=G k):"str."++m.toString=mW k:=H6.mp (show Vr.map (λp=>"str."++p.1.toString)=Vr.map (λp=>mW p.2)by decide+kernel) _ (FF h)
section
theorem al8{c:O}{u:EP}(hx:x.length<=100000)(k:∀l tk,l.map (·.1)=Y5 x ⟨⟨[c]⟩⟩->A2 (.ref s.heap.objs.size) {s with heap:=s.heap.push {cls:=.type "list",data:=.seq (VD l).toArray},toks:=tk}):AH (AQ prog w) A (CE (.builtin "str.split") [.str x t,.str ⟨⟨[c]⟩⟩ u]) A2 E s:=by
 have hy:((⟨⟨[c]⟩⟩:U).length==0)=A6:=rfl;have Wm:(100002:O)<=FA:=by decide
 cases Qg:(decide (x.length<(⟨⟨[c]⟩⟩:U).length)||decide (strKind x<strKind ⟨⟨[c]⟩⟩))with
 |true=>
  refine uE gn (Pd _ _ _) uF (uG _ _) (meets_str_split_cannot_occur x _ t u Qg) ?_;exact k [(x,t)] _ (by unfold Y5;rw[DA Qg];rfl)|false=>cases hf:(occurrences x ⟨⟨[c]⟩⟩ 0 x.length (x.length+1)).isEmpty with
 |true=>
   refine uE gn (Pd _ _ _) uF (uG _ _) (meets_str_split_not_found x _ t u Qg hy hf) ?_;exact k [(x,t)] _ (by unfold Y5;rw[CS (by rw[Qg];simp),DA hf];rfl)|false=>
   have hn:(partsBetween x (occurrences x ⟨⟨[c]⟩⟩ 0 x.length (x.length+1)) (⟨⟨[c]⟩⟩:U).length).length<=FA:=by
    unfold partsBetween;simp only[Jo,List.length_zip,V1,FD,List.length_nil];have :=StrLaws.occ_length_le_len x ⟨⟨[c]⟩⟩ 0 x.length (x.length+1);refine B4 (Y1 _ _) ?_;(with_reducible exact Mine.vh (by assumption) (by assumption) (by assumption))
   refine uE gn (Pd _ _ _) uF (uG _ _) (meets_str_split_sep x _ t u Qg hy hf (by(with_reducible exact B4 (by assumption) (by decide))) hn) ?_;rw[strsFrom_eq];exact k _ _ (by rw[numbered_texts];unfold Y5;rw[CS (by rw[Qg];simp),CS (by rw[hf];simp)])
end
theorem mX:∀(l:I (U×EP)),Aa h C ((l.map (·.1)).map λx=>.str x.cps.toList) (VD l)
 |[]=>rfl|p::l=>⟨_,_,rfl,⟨p.2,rfl⟩,mX l⟩
theorem al9:∀{us:I A4},Aa h C (l.map .str) us->∃lt:I (U×EP),us=VD lt/\lt.map (·.1)=l.map λx=>⟨⟨x⟩⟩:=by induction l with
 |nil=>exactλe=>⟨[],e,rfl⟩|cons x l ih=>intro us r;refine Aa.Sz (vs:=l.map .str) r (P:=λus=>∃lt:I (U×EP),us=VD lt/\lt.map (·.1)=(x::l).map λx=>⟨⟨x⟩⟩) ?_;intro u us a b;exact xE a λt a=>AC (ih b) λlt q h2=>⟨(⟨⟨x⟩⟩,t)::lt,by rw[a,q];rfl,congrArg (_::·) h2⟩
section
theorem Gd.am0(g:Gd B F K A H C s){us:BW A4}(r:Aa s.heap C Y us.toList)(tk:O):Gd B F K A (H.new (.list Y)).2 (C++[s.heap.objs.size]) {s with heap:=s.heap.push {cls:=.type "list",data:=.seq us},toks:=tk}/\Nx F.D [] s.heap (s.heap.push {cls:=.type "list",data:=.seq us}) C (C++[s.heap.objs.size]):=by
 have kp:∀b o,s.heap.get? b=G o->(s.heap.push {cls:=.type "list",data:=.seq us}).get? b=G o:=λb o e=>C1 _ e;have hn:=GF s.heap;have hg:=CY s.heap (o:={cls:=.type "list",data:=.seq us}) rfl;exact⟨g.new kp hn ⟨_,hg⟩ (o:=.list Y) ⟨us,⟨_,hg⟩,r.mono (λb o e _=>kp b o e)⟩,Nx.add [_] kp λb hb=>by rw[CI.mp hb];exact hn⟩
theorem am1{k:SK}{m:U}{tx:Tx}(g:Gd B F K A H C s)(hk:Sr m=G k)(ro:VR s.heap C (.str tx) u)(rs:Aa s.heap C args us)(h:k3 tx k args H=.ok (.v v) A7):Ae B F K A A7 C s (CE (.builtin ("str."++m.toString)) (u::us)) (RV v):=by
 rw[al7 hk];refine A0.Be h λhf h=>?_;have hl:=Ef hf;have Ee:(⟨⟨tx⟩⟩:U).length<=FA:=B4 (show tx.length<=100000 from hl) (by decide);refine xE ro ?_;(try clear ro);intro t B6;subst B6;clear hk;revert rs;cases k with
 |sw=>
  apply Cs h Ac;intro p h;apply Dd h Ac;intro p h rs;apply B5 h;apply QI rs;intro t' A2 E kk;exact SC.startswith (by rw[al6];exact kk _ C _ g (Nx.refl ..) rfl)|ew=>
  apply Cs h Ac;intro p h;apply Dd h Ac;intro p h rs;apply B5 h;apply QI rs;intro t' A2 E kk;exact SC.endswith (kk _ C _ g (Nx.refl ..) rfl)|split=>
  apply Cs h Ac;intro p h;apply Dd h Ac;intro p h;apply Cs h Ac;intro c h rs;apply B5 h;apply QI rs;intro t' A2 E kk;refine al8 hl λl tk CF=>?_;have :=mX (h:=s.heap) (C:=C) l;rw[CF]at this;refine xA (g.am0 (us:=(VD l).toArray) (by simpa using this) tk) ?_;intro g' x';exact kk _ _ _ g' x' ⟨_,g.LJ,rfl⟩|rfind=>
  apply Cs h Ac;intro p h;apply Dd h Ac;intro p h rs;apply B5 h;apply QI rs;intro t' A2 E kk;exact SC.rfind (kk _ C _ (g.tok _) (Nx.refl ..) ⟨_,rfl⟩)|rstrip=>
  apply Cs h Ac;intro p h;apply Dd h Ac;intro p h rs;apply B5 h;apply QI rs;intro t' A2 E kk;exact SC.rstripChars (λHB tk=>kk _ C _ (g.tok _) (Nx.refl ..) ⟨_,rfl⟩) Ee|fmt=>
  apply iJ h Ac
  . intro i h;apply Cu h Ac;intro i h rs;refine A0.Be h λhc h=>?_;apply B5 h;apply aK rs;intro t' A2 E kk;have :=Ec.mp (B1 hc);clear hf hl Ee;subst this;refine xA (Te (Ak hc)) ?_;intro h0 h1;refine bC5 rfl (KFm.args_2 _ _) (al3 h0 h1) λHB tk=>kk _ C _ (g.tok _) (Nx.refl ..) ⟨HB,?_⟩;rw[Wl (Ak hc)]
  . intro i j h;apply Cu h Ac;intro i h;apply Cu h Ac;intro j h rs;refine A0.Be h λhc h=>?_;apply B5 h;apply kO rs;intro t' t2 A2 E kk;have :=Ec.mp (B1 hc);clear hf hl Ee;subst this;refine xA (Te (B1 (Ak hc))) ?_;intro h0 h1;refine xA (Te (Ak (Ak hc))) ?_;intro h2 h3;refine bC5 rfl (KFm.args_3 _ _ _) (al4 h0 h1 h2 h3) λHB tk=>kk _ C _ (g.tok _) (Nx.refl ..) ⟨HB,?_⟩;rw[Wl (B1 (Ak hc)),Wl (Ak (Ak hc))];have :(uH ⟨JG i⟩++M3 ",")++uH ⟨JG j⟩=⟨⟨JG i++44::JG j⟩⟩:=by
     show uH ((YW (JG i)++(M3 ",").cps)++YW (JG j))=_;have :(M3 ",").cps=⟨[44]⟩:=by decide+kernel
     rw[this];simp
    rw[this]|join=>
  apply Cs h Ac;intro v' h;apply A0.MW h;intro i Y hi h rs;refine A0.Bx h λl Ii h=>A0.Be h λLB h=>?_;apply B5 h;apply MR rs;intro u r A2 E kk;refine Bv (g.listAt r hi) ?_;intro a us BJ BP vr;clear r;subst BJ;refine xE BP ?_;(try clear BP);intro _ p;rw[OS Ii]at vr;refine AC (al9 vr) ?_;intro lt e1 e2;have bl:us=(VD lt).toArray:=by rw[<-e1]
  exact SC.join (D:=a) (l:=lt) ⟨_,p,rfl,_,by rw[bl]⟩ e2 LB λHB tk=>kk _ C _ (g.tok _) (Nx.refl ..) ⟨HB,rfl⟩
end
end
section
theorem am2{id:D9}(g:Gd B F K A H C s)(rs:Aa s.heap C args us)(h:aB id args H=.ok (.v v) A7):Ae B F K A A7 C s (CE (.type id) us) (RV v):=by
 revert rs;refine Fi h (λe h=>?_) λh=>?_
 . subst e;apply Cs h Ac;intro v h;apply Dd h Ac;intro x h rs;apply B5 h;apply QI rs;intro t;exactλA2 E kk=>call_type_of (Pd _ _ _) (by decide) (kk _ C _ g (Nx.refl ..) rfl)
 refine Fi h (λe h=>?_) λh=>?_
 . subst e;apply iJ h Ac
   . intro n h;apply Cu h Ac;intro n h rs;apply B5 h;apply aK rs;intro t' A2 E kk;obtain⟨g',x'⟩:=g.push {cls:=.type "range",data:=.fields #[.int 0 s.toks,.int _ t',.int 1 (s.toks+1)]} (s.toks+1+1);exact call_range_1 (kk _ C _ g' x' ⟨_,_,_,_,rfl,CY _ rfl⟩)
   . intro a b h;apply Cu h Ac;intro a h;apply Cu h Ac;intro b h rs;apply B5 h;apply kO rs;intro t' t2 A2 E kk;obtain⟨g',x'⟩:=g.push {cls:=.type "range",data:=.fields #[.int _ t',.int _ t2,.int 1 s.toks]} (s.toks+1);exact call_range_2 (kk _ C _ g' x' ⟨_,_,_,_,rfl,CY _ rfl⟩)
 refine Fi h (λe h=>?_) λh=>?_
 . subst e;apply EW h Ac;intro h rs;apply B5 h;apply aJ rs;intro A2 E kk;refine call_set_0 λled=>?_;have kp:∀b o,s.heap.get? b=G o->(s.heap.push {cls:=.type "set",dict:=L,data:=.set #[] 0 (.fresh 0 0 led)}).get? b=G o:=λb o e=>C1 _ e;have hn:=GF s.heap;have hg:=CY s.heap (o:={cls:=.type "set",dict:=L,data:=.set #[] 0 (.fresh 0 0 led)}) rfl;exact kk _ _ _ (g.new (tk:=s.toks) kp hn ⟨_,hg⟩ (o:=.HU) ⟨led,hg⟩) (Nx.add [_] kp λb hb=>by rw[CI.mp hb];exact hn) ⟨_,g.LJ,rfl⟩
 refine Fi h (λe h=>?_) λh=>(Ac h).elim;subst e;apply Cs h Ac;intro v h;apply Cu h Ac;intro i h rs;refine A0.Be h λhc h=>?_;apply B5 h;apply aK rs;intro t' A2 E kk;refine xA (Te hc) ?_;intro h0 h1;refine PySem.P.str_of_int (a:=i) ?_ (kk _ C _ (g.tok _) (Nx.refl ..) ⟨s.toks,?_⟩)
 . have :i.natAbs<2^1920:=J0 (show i.natAbs<100 by(with_reducible exact Mine.wR (by assumption) (by assumption))) (by decide);by_cases z:i.natAbs=0;. rw[z];decide
   . exact(bv4 z).mpr this
 . show M0 (M3 (toString i)) _=_;rw[Wl hc]
theorem am3{id:D9}(slot:M1 "str" name id)(ty:Hh (.builtin id)=pure (.type "method_descriptor")):Gk Av h (Jm (.str x t) name pl) (.builtin id,[.str x t]):=λ_ _ _ _ _ q=>by with_reducible exact GM.of _ (Pd _ _ _) slot ty GM.noRef q
theorem am4{l r:AA}{c z:Tx}(h:Sx l op r=G (c,id,y,z)){P:AA->Jk->AA->Prop}(k:∀KN LI Il Fp JS Tf KJ Tg pos,(Fp:B9).endLine=(pos:B9).line->P (.Constant (.str ⟨⟨c⟩⟩) KN LI) .Add (.Call (.Attribute (.Name id Il) "replace" Fp) [.Constant (.str ⟨⟨y⟩⟩) JS Tf,.Constant (.str ⟨⟨z⟩⟩) KJ Tg] [] pos)):P l op r:=by
 apply J9 h AF;intro c' KN LI h;apply Ys h AF;intro c' h;apply M6 h AF;intro f a kw pos h;apply S3 h AF;intro o m Fp h;apply EV h AF;intro Td Il h;apply FT h AF;intro y' a h;apply Cs h AF;intro z' h;apply J9 h AF;intro y' JS Tf h;apply Ys h AF;intro y' h;apply J9 h AF;intro z' KJ Tg h;apply Ys h AF;intro z' h;apply EW h AF;intro h;refine Ce h AF λq h=>?_;apply IM (B1 q);rw[E2.mp (B1 (Ak q))];revert k;apply vS h;intro k;exact k _ _ _ _ _ _ _ _ _ (CD (Ak (Ak q)))
theorem am5{l r:AA}{c z:Tx}(hr:Sx l op r=G (c,id,y,z))(h:Fq A3 K (ev A3 n) (.BinOp l op r pos) H=.ok (.v v) A7)(g:Gd B F K A H C s):Ae B F K A A7 C s (eval (.BinOp l op r pos) F.env) (RV v):=by
 refine M7 h (λx' e h=>?_) λe _=>by rw[hr]at e;exact(AF e.symm).elim
 rw[hr]at e;injection e with e;subst e;refine A0.Be h ?_;clear h;intro hc h;simp only[D6]at hc;apply am4 hr;intro KN LI Il Fp JS Tf KJ Tg Mk OG;refine A0.Bx h λw hx h=>?_;revert hx;apply Dd h Ac
 . intro x h hx;refine A0.Be h ?_;clear h;intro hd h;simp only[D6,PU]at hd;refine xA hd ?_;(try clear hd);intro Aw hfc;refine xA Aw ?_;(try clear Aw);intro BP hz;obtain⟨hf,mY⟩:=BP;(first|(revert k;(first|apply BX h|apply B5 h|apply BY h|apply BZ h|apply B_ h);intro k)|apply BX h|apply B5 h|apply BY h|apply BZ h|apply B_ h);have hl:=Ef hf;have EK:=Ef hc.2;have hz:=Dk hz;have hb:(⟨⟨x⟩⟩:U).length+((⟨⟨x⟩⟩:U).length+1)*(⟨⟨z⟩⟩:U).length<=16777216:=by
    show x.length+(x.length+1)*z.length<=16777216;have :(x.length+1)*z.length<=(x.length+1)*100:=sj _ hz;(with_reducible exact Mine.w6 (by assumption) (by assumption))
   have am6:((⟨⟨y⟩⟩:U)==⟨⟨z⟩⟩)=A6:=by
    rw[Lp];intro q;injection q with q;injection q with q;rw[Ec.mpr q]at mY;(exfalso;cases mY)
   intro A2 E kk;refine tF (ff ?_);have AN:=g.tok (s.toks+1);skip;refine A5 (wpAny_with_toks (n:=1) (fR _ _) (aV AN hc.1 hx _ _ λu Au Ai AU Al BB hn=>A5 (El ?_)));refine xE BB ?_;(try clear BB);intro Ei BJ;subst BJ;show AH _ A (P_ (.Name id Il) "replace" Fp Mk F.env (.str ⟨⟨x⟩⟩ Ei) (2+0) (F9 Mk (E' [.Constant (.str ⟨⟨y⟩⟩) JS Tf,.Constant (.str ⟨⟨z⟩⟩) KJ Tg] F.env)) (Ut Mk (Uu [] F.env))) _ E Ai;unfold P_;skip;refine A5 (C0 ?_);show AH _ A (Jm (.str ⟨⟨x⟩⟩ Ei) "replace" _) _ E Ai;with_reducible refine(am3 PySem.F.slot_str_replace PySem.F.type_str_replace).here ?_
   show AH _ A (Jn M (.Name id Il) F.env Fp Mk>>=λp=>PZ p (.builtin "str.replace") [.str ⟨⟨x⟩⟩ Ei] (F9 Mk (E' [.Constant (.str ⟨⟨y⟩⟩) JS Tf,.Constant (.str ⟨⟨z⟩⟩) KJ Tg] F.env)) []) _ E Ai;have hp:Jn M (.Name id Il) F.env Fp Mk=pure Mk:=by
    unfold Jn;have :(Fp.endLine==Mk.line)=M:=by simpa using OG
    rw[this];rfl
   rw[hp];refine A5 (AW ?_);refine g6 (P:=λh=>CW (AQ B.prog B.w) h (.builtin "str.replace")) rfl (λh x=>x) ?_;refine tM ?_;refine Lr (ff (Lr (ff (Ur ⟨CW.builtin,?_⟩)) rfl)) rfl;have h0:Ai.toks≠0:=PY hn;refine SC.replace h0 (Nat.succ_ne_zero _) (ER (PS _)) am6 hb λt' tk=>?_;exact lK (s:={Ai with toks:=tk}) (AU.tok tk) hfc A2 E λw BS Ax Ap B8 BQ=>kk w BS Ax Ap ((show Nx F.D [] s.heap Ai.heap C Au from Al).trans B8) BQ
end
section
theorem am7:YJ "issubclass.nested"=M:=by decide+kernel
theorem am8:Rn "issubclass.nested"=L:=by decide+kernel
theorem sub_tuple_self:Rt (.type "tuple") (.type "tuple")=pure M:=by rw[J8];kernel_rfl
theorem am9{AS:Dt->AR->Prop}(h:AS (.ok (.ret (.bool M))) s):D7 (AQ prog w) A (.call (.builtin "issubclass.nested") ⟨[.type "str",.type "str",.int 1 t],[]⟩) AS s:=by
 refine Lx am7 PySem.F.entry_issubclass_nested ?_;simp only[gJ,am8];have hs:=PySem.F.sub_str_str;have bS:gh "issubclass.nested"=L:=by kernel_rfl
 rw[bS];refine AW ?_;repeat(any_goals(first|assumption|(rw[hs])|wp_step))
theorem an0(ha:s.heap.get? a=G {cls:=.type "tuple",data:=.seq #[.type "str",.type "bytes"] m})(h:∀tk,A2 (.bool M) {s with toks:=tk}):AH (AQ prog w) A (call (.builtin "issubclass") [.type "str",.ref a]) A2 E s:=by
 refine bC6 PySem.F.kind_issubclass PySem.F.plain_issubclass PySem.F.entry_issubclass (PySem.F.args_issubclass_2 _ _) ?_;refine bT7 ?_;have hT:s.TypeIs (.ref a) "tuple":=⟨_,ha,rfl⟩;have LL:=sub_tuple_self;repeat(any_goals(first|assumption|wp_step))
 refine am9 ?_;have hh:=h s.toks;repeat(any_goals(first|assumption|wp_step))
end
section
theorem an1{r:V}(hn:JJ v=A6)(g:Gd B F K A H C s)(ru:VR s.heap C v u)(h:jw v H=.ok (.v r) A7):Ae B F K A A7 C s (CE (.builtin "len") [u]) (RV r):=by
 intro A2 E kk;have Wm:(100000:AX)<2^63:=by decide
 refine Eb h (λq _=>Un (q.symm.trans hn)) λ_ h=>?_;revert ru;apply O0 h
 . intro x h;refine A0.Be h ?_;clear h;intro hf h ru;revert kk;apply B5 h;intro kk;refine xE ru ?_;intro t q;rw[q];have hl:(⟨⟨x⟩⟩:U).length<=100000:=Ef hf;exact PySem.P.len_str (Int.not_le.mpr (bC7 (sv.mpr hl) Wm)) (kk _ C _ (g.tok _) (Nx.refl ..) ⟨_,rfl⟩)
 intro h;apply A0.MW h;intro i Y hi h;refine A0.Be h ?_;clear h;intro hf h ru;revert kk;apply B5 h;intro kk;refine Bv (g.listAt ru hi) ?_;intro a us q p vr;rw[q];have Ch:Y.length=us.size:=vr.length;rw[Ch]at kk;exact call_len_list p.isList (bC7 (sv.mpr (Ch▸Ef hf)) Wm) (kk _ C _ (g.tok _) (Nx.refl ..) ⟨_,rfl⟩)
theorem an2{a b:AX}{w:A4}(g:Gd B F K A H C s)(ru:VR s.heap C (.int a) u)(LF:VR s.heap C (.int b) w):Ae B F K A H C s (CE (.builtin "min") [u,w]) (RV (.int (if b<a then b else a))):=by
 intro A2 E kk;refine xE ru ?_;(try clear ru);intro t Bg;subst Bg;refine xE LF ?_;(try clear LF);intro t' Bu;subst Bu;refine min_two_ints g.handled λQ tk k=>kk _ C _ (g.ext k) (Nx.ext k) ?_;by_cases c:b<a;. rw[DA c,DA c];exact⟨_,rfl⟩
 . rw[CS c,CS c];exact⟨_,rfl⟩
theorem an3(e:Vq v=M)(r:VR h C v u):∃x tk,u=.str x tk:=by cases v<;>first|exact(B0 e).elim|exact xE r λt q=>⟨_,t,q⟩
theorem an4{r:V}{t:D9}(g:Gd B F K A H C s)(ru:VR s.heap C v u)(h:jz v t H=.ok (.v r) A7):Ae B F K A A7 C s (CE (.builtin "isinstance") [u,.type t]) (RV r):=by
 intro A2 E kk;refine A0.Be h ?_;clear h;intro ht h;revert ru;apply Vh h
 . intro i h;refine A0.Bx h λo hl h=>A0.Be h λq h ru=>?_;revert kk;apply B5 h;intro kk;refine AC ru λa ha e=>?_;rw[e,eq_of_beq (Ak q)];have fin:∀{BN:I (V×V)},Dn B.prog B.w s.heap C a BN->∃o,s.heap.get? a=G o/\o.cls=.type "dict"/\∀c,o.data≠.cls c:=λr=>r.elim (λr=>AC r λ_ m _=>Wc m) λr=>AC r λ_ m _=>Wc m;have ho:∃o,s.heap.get? a=G o/\o.cls=.type "dict"/\∀c,o.data≠.cls c:=by
    revert hl;apply Sd (B1 q);. exactλN _ hl=>fin (g.obj hl ha)
    . intro h;apply Sf h B0;exactλN _ hl=>AC (g.obj hl ha) λBN _ r=>fin r
   exact CZ ho λo ho hc _=>bT8 ho hc (kk _ C _ (g.tok _) (Nx.refl ..) rfl)
 . intro h;refine A0.Be h λq h ru=>?_;revert kk;apply B5 h;intro kk;refine DB (an3 q ru) ?_;intro x tk e;rw[e];refine Jw ht (λq=>?_) λq=>?_;. rw[eq_of_beq q]at kk ⊢;exact bT9 (kk _ C _ g (Nx.refl ..) rfl)
   . rw[eq_of_beq q]at kk ⊢;exact bU0 (kk _ C _ (g.tok _) (Nx.refl ..) rfl)
theorem an5(g:Gd B F K A H C s)(rs:Aa s.heap C [.top (.type "str"),.tup L [.top (.type "str"),.top (.type "bytes")]] us):Ae B F K A H C s (CE (.builtin "issubclass") us) (RV (.bool M)):=by
 intro A2 E kk;refine SA rs ?_;(try clear rs);intro _ _ GC HE _ _ Hw bY5 e;subst GC;subst HE;subst Hw;cases e;refine Ku bY5 ?_;intro a o us n L5 e tg EK hd vs;subst L5;refine SA vs ?_;intro _ _ h1 L6 _ _ TY TZ T_;subst L6;subst TY;subst TZ;subst T_;refine xA (tg.2 rfl) ?_;intro Mh Mi;have :us=#[.type "str",.type "bytes"]:=by rw[<-h1]
 subst this;have ho:o={cls:=.type "tuple",data:=.seq #[.type "str",.type "bytes"] n}:=by obtain⟨c1,c2,c3,c4⟩:=o;simp only at EK hd Mh Mi;rw[EK,hd,Mh,Mi];rfl
 subst ho;exact an0 e λtk=>kk _ C _ (g.tok _) (Nx.refl ..) rfl
end
section
variable[DecidableEq T]{By:KeyKind prog w T}
theorem an6{d:A8}{Az:I (T×A4)}{k:T}{key v:A4}(EM:By.is k key=M)(hm:s.heap.DictAt By d Az Az.length)(Th:k∉Az.map (·.1))(hQ:∀Q,Q.DictAt By d (Az++[(k,v)]) (Az++[(k,v)]).length->E4 d s.heap Q->A2 v {s with heap:=Q,toks:=s.toks+1})(Ee:Az.length<=FA):AH (AQ prog w) A (uI d key v) A2 E s:=by
 refine MA hm ?_;(try clear hm);intro o N ho hc hd hk hp hn;have Ch:N.size=Az.length:=by have :=hp.length;simpa using this
 have OO:(N.findIdx? λe=>By.is k e.key)=Az.findIdx? λkv=>decide (kv.1=k):=by rw[<-hp.findIdx k];obtain⟨l⟩:=N;simp
 unfold uI;refine C0 (A5 (By.pyHash EM ?_));refine A5 (tS (s:={s with toks:=s.toks+1}) EM ho hd hk ?_);have hi:(N.findIdx? λe=>By.is k e.key)=L:=by
   rw[OO,bC8];intro kv OP;simp only[gU];intro z;exact Th (E0.mpr ⟨kv,OP,z⟩)
 rw[hi];refine A5 (Gm (A5 (tU (hz:=by(with_reducible exact Mine.yT (by assumption) (by assumption))) (s:={s with toks:=s.toks+1}) ho hd (AW (hQ _ ?_ (Fh ..))))));refine⟨_,_,FS _ ho (YD (Uz hd _)),hc.mapDictKeys _,?_,hk.push EM v,?_,?_⟩;. rw[FD];exact Uz hd _
 . have :=hp.append EM (By.hash k) v;obtain⟨l⟩:=N;simpa using this
 . rw[N_,IE];refine⟨hn,by simp,λa ha b hb e=>?_⟩;simp only[J4,tX,CI]at hb;exact Th (hb▸e▸ha)
end
section
theorem an7{w:A4}(g:Gd B F K A H C s)(hi:AL H.h i=G (.list Y))(ru:VR s.heap C (.ref i) u)(rv:VR s.heap C v w)(hf:CH Y=M):Ae B F K A (H.set i (.list (Y++[v]))) C s (CE (.builtin "list.append") [u,w]) (RV .none):=by
 intro A2 E kk;have hl:=Ef hf;refine AC ru ?_;(try clear ru);intro a ha Aw;subst Aw;refine AC (g.obj hi ha) ?_;intro us B6 vr;refine xE B6 ?_;(try clear B6);intro m ho;have Ch:Y.length=us.size:=by rw[vr.length];simp
 refine bC9 ho (λQ hs Ic=>?_) (B4 (show us.size<=100000 by(with_reducible exact Mine.yS (by assumption) (by assumption))) (by decide));refine xA (g.set (Q:=Q) (tk:=s.toks) (o':=.list (Y++[v])) ha hi (λ_ _ e=>by(exfalso;cases e)) hs.extBut ⟨_,Ic⟩ λim=>⟨us.push w,⟨_,Ic⟩,by rw[VE];exact(vr.Bw im).app ⟨_,_,rfl,rv.Bw im,rfl⟩⟩) ?_;intro g' x';exact kk _ C _ g' x' rfl
theorem an8{Y:I Sg}{l:Sg}{w:A4}(g:Gd B F K A H C s)(hi:AL H.h i=G (.rows (r+1) Y))(ru:VR s.heap C (.ref i) u)(rv:VR s.heap C v w)(hl:I_ l=[v]):Ae B F K A (H.set i (.rows r (Y++[l]))) C s (CE (.builtin "list.append") [u,w]) (RV .none):=by
 intro A2 E kk;refine AC ru ?_;(try clear ru);intro a ha BJ;subst BJ;refine CZ (g.obj hi ha) ?_;intro us BP vr an9;refine xE BP ?_;(try clear BP);intro m ho;have Ch:(DS Y).length=us.size:=by rw[vr.length];simp
 have e:DS (Y++[l])=DS Y++[v]:=by rw[OU];simp[DS,hl]
 refine bC9 ho (λQ hs Ic=>?_) (B4 (show us.size<=1000000 by unfold Dm at an9;(with_reducible exact Mine.wM (by assumption) (by assumption))) (by decide));refine xA (g.set (Q:=Q) (tk:=s.toks) (o':=.rows r (Y++[l])) ha hi (λ_ _ e=>by(exfalso;cases e)) hs.extBut ⟨_,Ic⟩ λim=>⟨us.push w,⟨_,Ic⟩,by rw[VE,e];exact(vr.Bw im).app ⟨_,_,rfl,rv.Bw im,rfl⟩,by rw[e,FD,uJ];(with_reducible exact Mine.Yz (by assumption))⟩) ?_;intro g' x';exact kk _ C _ g' x' rfl
theorem ao0{x:V}(r:Aa h C Y us):Y.getLast?=G x->∃u,us.getLast?=G u/\VR h C x u/\Aa h C Y.dropLast us.dropLast:=by
 refine Aa.ind (P:=λY us=>Y.getLast?=G x->∃u,us.getLast?=G u/\VR h C x u/\Aa h C Y.dropLast us.dropLast) (λe=>(AF e).elim) (λv u Y us a b ih q=>?_) r;cases Y with
 |nil=>cases b;exact Br q (P:=λx=>∃u',G u=G u'/\VR h C x u'/\Aa h C [] []) ⟨u,rfl,a,rfl⟩|cons z l=>
 refine Aa.Sz b (P:=λus=>(∃u,us.getLast?=G u/\VR h C x u/\Aa h C (z::l).dropLast us.dropLast)->∃u',(u::us).getLast?=G u'/\VR h C x u'/\Aa h C (v::(z::l).dropLast) (u::us).dropLast) ?_ (ih q);exactλ_ _ _ _ r=>CZ r λu' e1 e2 e3=>⟨u',e1,e2,.cons a e3⟩
theorem ao1(g:Gd B F K A H C s)(hi:AL H.h i=G (.list Y))(ru:VR s.heap C (.ref i) u)(hf:CH Y=M)(hv:Y.getLast?=G v):Ae B F K A (H.set i (.list Y.dropLast)) C s (CE (.builtin "list.pop") [u]) (RV v):=by
 intro A2 E kk;have hl:=Ef hf;refine AC ru ?_;(try clear ru);intro a ha Bg;subst Bg;refine AC (g.obj hi ha) ?_;intro us Bu vr;refine xE Bu ?_;(try clear Bu);intro m ho;have Ch:Y.length=us.size:=by rw[vr.length];simp
 refine CZ (ao0 vr hv) ?_;intro w e1 LF Qh;have hy:us[us.size-1]?=G w:=by
  have :us.toList[us.toList.length-1]?=G w:=by rw[<-List.getLast?_eq_getElem?];exact e1
  simpa using this
 refine bU1 ho hy (λQ hs Ic=>?_) (B4 (show us.size<=100000 by(with_reducible exact Mine.yS (by assumption) (by assumption))) (by decide));have ao2:Dw s.heap Q:=Gu hs.extBut λo e=>by rw[ho]at e;injection e with e;subst e;rfl
 refine xA (g.set (Q:=Q) (tk:=s.toks) (o':=.list Y.dropLast) ha hi (λ_ _ e=>by(exfalso;cases e)) hs.extBut ⟨_,Ic⟩ λim=>⟨us.pop,⟨_,Ic⟩,by rw[Array.toList_pop];exact Qh.Bw im⟩) ?_;intro g' x';exact kk _ C _ g' x' (LF.Bw ao2)
theorem ao3[DecidableEq T]{Az:I (T×A4)}{k:T}{v:A4}(h:k∉Az.map (·.1)):FC Az k v=Az++[(k,v)]:=by
 have TU:¬(Az.any λkv=>decide (kv.1=k))=M:=λq=>by
  refine AC (IJ.mp q) ?_;intro kv OP he;exact h (E0.mpr ⟨kv,OP,of_decide_eq_true he⟩)
 rw[FC,CS TU]
theorem DR.ao4[DecidableEq T]{key:T->V}(hk:∀a b,G8 (key a) (key b)=G (decide (a=b))){k:T}{l:I (T×A4)}(d:DR key h C N l):D' N (key k)=L->k∉l.map (·.1):=DR.ind (P:=λN l=>D' N (key k)=L->k∉l.map (·.1)) (λ_ m=>nomatch m) (λk' v u N r _ _ ih hl=>by
 rw[show D' ((key k',v)::N) (key k)=match G8 (key k') (key k)with|some M=>G v|_=>D' N (key k)from rfl,hk]at hl;by_cases z:k'=k;. simp[z]at hl
 . simp only[z,decide_false]at hl;simp only[J4,Cj,gi];exact⟨λq=>z q.symm,ih hl⟩) d
theorem ao5{d:V}(g:Gd B F K A H C s)(hd:AL H.h i=G (.dict N))(ru:VR s.heap C (.ref i) u)(rk:VR s.heap C k ku)(rd:VR s.heap C d du)(h:O8 i N .Sq [k,d] H=.ok (.v v) A7):Ae B F K A A7 C s (CE (.builtin "dict.setdefault") [u,ku,du]) (RV v):=by
 refine A0.Be h ?_;clear h;intro hc h;simp only[D6]at hc;refine xA hc ?_;(try clear hc);intro hk hf;have hl:=Ef hf;intro A2 E kk;refine AC ru ?_;(try clear ru);intro a ha C9;subst C9;have hT:=WU g hd ⟨a,ha,rfl⟩;refine Gn bD0 hT PySem.F.entry_dict_setdefault ?_ (PySem.F.args_dict_setdefault_3 _ _ _);skip;refine A5 ?_;skip;refine A5 (bx1 hT ?_);show AH _ _ (pure (a,ku,G du)) _ _ s;refine AW ?_;show AH _ _ (if(a==NS)=M then _ else(uI a ku du>>=_)) _ _ s;rw[CS (by rw[g.QT (Ew ha)];exact NX)];refine AC (g.objs i _ hd) ?_;intro a' Fs r;rw[Bm (Fs.symm.trans ha)]at r;revert kk;refine WS hk r rk λBy key x Az ke back q hx hm dr=>?_;cases hv:D' N k with
 |some v'=>
  rw[hv]at h;apply B5 h;intro kk;have hz:s.heap.DictLe a FA:=λo BN ep ho bm=>by
   refine MA hm ?_;intro o' bO6 e hc GX KI hp _;rw[Bm (e.symm.trans ho)]at GX;injection GX.symm.trans bm with bm;exact B4 (bm▸Ek (hp.length.trans dr.length)) (B4 hl (by decide))
  refine(q▸dr.look ke:D' N k=L/\Ls Az x=L\/∃v u,D' N k=G v/\Ls Az x=G u/\VR s.heap C v u).elim (λh=>(AF (h.1.symm.trans hv)).elim) λo=>Bv o λv2 w q2 FJ r=>?_;exact A5 (wpAny_dictSetDefault_of (hz:=hz) hx hm.dictOf.mapOf (λv Bh=>AW ⟨v,rfl,kk _ C _ (g.tok _) (Nx.refl ..) (Bm (FJ.symm.trans Bh)▸Bm (q2.symm.trans hv)▸r)⟩) λhn=>(AF (hn.symm.trans FJ)).elim)|none=>
  rw[hv]at h;apply B5 h;intro kk;have Th:=dr.ao4 ke (q▸hv);refine A5 (an6 hx hm Th (λQ HG hs=>?_) (B4 (dr.length▸hl) (show 100000<=FA by decide)));refine xA (g.set (Q:=Q) (tk:=s.toks+1) (o':=.dict (En N k d)) ha hd (λ_ _ e=>by(exfalso;cases e)) hs.extBut (DictAt.live HG) λim=>back _ HG (q▸ao3 Th▸T8 (p:=λJ=>DR key Q J _ _) ((dr.put ke (k:=x) rd (V' hm)).mono (J:=[]) im))) ?_;intro g' x';exact AW ⟨_,rfl,kk _ C _ g' x' (rd.Bw (Gu hs.extBut (Dn.C2 r)))⟩
theorem ao6{d:V}(g:Gd B F K A H C s)(hd:AL H.h i=G (.dict N))(ru:VR s.heap C (.ref i) u)(rk:VR s.heap C k ku)(rd:VR s.heap C d du)(h:O8 i N .get [k,d] H=.ok (.v v) A7):Ae B F K A A7 C s (CE (.builtin "dict.get") [u,ku,du]) (RV v):=by
 refine A0.Be h ?_;clear h;intro hk h;refine xA (FG h) ?_;intro e DX;subst DX;injection e with e;subst e;intro A2 E kk;exact Gn u9 (WU g hd ru) bA4 (mE g hd ru rk rd hk λw s' g' x' r'=>kk w C s' g' x' r') (PySem.F.args_dict_get_3 _ _ _)
end
open PyProof.Rows(IntsAre)
noncomputable def PI:I (A4×A4)->I AX->I AX->Prop
 |[],m,n=>m=[]/\n=[]|p::r,m,n=>∃a t c u m' n',p=(.int a t,.int c u)/\m=a::m'/\n=c::n'/\PI r m' n'
theorem mZ{vs ws:I A4}{ms ns:I AX}(hv:Pj vs ms):Pj ws ns->vs.length=ws.length->PI (vs.zip ws) ms ns:=by induction hv generalizing ws ns with
 |nil=>intro hw h;cases hw with
  |nil=>exact⟨rfl,rfl⟩|cons=>(exfalso;cases h)
 |cons a t hv ih=>intro hw h;cases hw with
 |nil=>(exfalso;cases h)|cons c u hw=>exact⟨a,t,c,u,_,_,rfl,rfl,rfl,ih hw (YT h)⟩
theorem m_{a b:AX}{x y:I AX}:JF (a::x) (b::y)=if a=b then JF x y else decide (a<b):=rfl
section
theorem ao7(l b:A8)(c1 c2:A4)(d1 d2:AD A8)(LM Ti:BW (AD A4))(Cb OX:BW A4)(n n2:O)(ms ns:I AX)(hm:Pj Cb.toList ms)(hn:Pj OX.toList ns)(hs:Cb.size=OX.size):VC (EB.«tuple.__lt__» ⟨[.ref l,.ref b],[]⟩) (λA AS s=>s.heap.get? l=G ⟨c1,d1,.seq Cb n,LM⟩/\s.heap.get? b=G ⟨c2,d2,.seq OX n2,Ti⟩/\(∀(prog:Hf)(w:EC)(A':CK)(A2:AK->AR->Prop)(E:A4->AR->Prop),A2 M s->AH (AQ prog w) A' (V5 (.ref b) (.type "tuple")) A2 E s)/\AS (.ok (.ret (.bool (JF ms ns)))) s):=.of_wp λprog w A AS s h=>by
 obtain⟨FI,g,d,tk,os⟩:=s;refine M9 h ?_;(try clear h);intro hl hb hi h;wp_walk using hi _ _ _ _ _,YZ hl,YZ hb,gq _ (λC4 b s'=>b.1=L/\s'=⟨FI,g,d,tk,os⟩/\∃LN Ft,PI C4 LN Ft/\AS (.ok (.ret (.bool (JF LN Ft)))) ⟨FI,g,d,tk,os⟩) _;case turn=>
  rintro⟨y,x⟩C4 b s'⟨GZ,rfl,LN,Ft,hp,hR⟩;refine iQ hp ?_;clear hp;intro a t c u m n q1 q2 q3 hp;injection q1 with q1 q4;subst q1;subst q4;subst q2;subst q3;rw[m_]at hR;refine A5 ((tz a c t u).at A.in1 _ prog w _ _ ?_);by_cases OY:a=c
  . subst OY;simp only[g9,Kn]at hR ⊢;wp_walk;exact⟨rfl,rfl,_,_,hp,hR⟩
  . have I2:(a==c)=A6:=by simpa using OY
    rw[CS OY]at hR;rw[I2];refine A5 (Gm (A5 ?_));show AH (AQ prog w) A.in1 (Db .Lt (.int a t) (.int c u)) _ _ _;refine bw0 ?_;wp_walk;exact⟨_,rfl,hR⟩
 case fin=>
  rintro⟨b1,b2⟩s'⟨GZ,rfl,LN,Ft,hp,hR⟩;have GZ:b1=L:=GZ;subst GZ;refine xA hp ?_;clear hp;intro q1 q2;subst q1;subst q2;have hR:AS (.ok (.ret (.bool A6))) ⟨FI,g,d,tk,os⟩:=hR;wp_walk;refine⟨_,rfl,?_⟩;simpa[bD1,hs]using hR
 case h=>exact⟨rfl,rfl,_,_,mZ hm hn (by simpa using hs),h⟩
theorem ao8(l b:A8)(c1 c2:A4)(d1 d2:AD A8)(LM Ti:BW (AD A4))(Cb OX:BW A4)(n n2:O)(ms ns:I AX)(hm:Pj Cb.toList ms)(hn:Pj OX.toList ns)(hs:Cb.size=OX.size):VC (EB.«tuple.__gt__» ⟨[.ref l,.ref b],[]⟩) (λA AS s=>s.heap.get? l=G ⟨c1,d1,.seq Cb n,LM⟩/\s.heap.get? b=G ⟨c2,d2,.seq OX n2,Ti⟩/\(∀(prog:Hf)(w:EC)(A':CK)(A2:AK->AR->Prop)(E:A4->AR->Prop),A2 M s->AH (AQ prog w) A' (V5 (.ref b) (.type "tuple")) A2 E s)/\AS (.ok (.ret (.bool (JF ns ms)))) s):=.of_wp λprog w A AS s h=>by
 obtain⟨FI,g,d,tk,os⟩:=s;refine M9 h ?_;(try clear h);intro hl hb hi h;wp_walk using hi _ _ _ _ _,YZ hl,YZ hb,gq _ (λC4 b s'=>b.1=L/\s'=⟨FI,g,d,tk,os⟩/\∃LN Ft,PI C4 LN Ft/\AS (.ok (.ret (.bool (JF Ft LN)))) ⟨FI,g,d,tk,os⟩) _;case turn=>
  rintro⟨y,x⟩C4 b s'⟨GZ,rfl,LN,Ft,hp,hR⟩;refine iQ hp ?_;clear hp;intro a t c u m n q1 q2 q3 hp;injection q1 with q1 q4;subst q1;subst q4;subst q2;subst q3;rw[m_]at hR;refine A5 ((tz a c t u).at A.in1 _ prog w _ _ ?_);by_cases OY:a=c
  . subst OY;simp only[g9,Kn]at hR ⊢;wp_walk;exact⟨rfl,rfl,_,_,hp,hR⟩
  . have I2:(a==c)=A6:=by simpa using OY
    rw[CS (λz=>OY z.symm)]at hR;rw[I2];refine A5 (Gm (A5 ?_));show AH (AQ prog w) A.in1 (Db .Gt (.int a t) (.int c u)) _ _ _;refine bw1 ?_;wp_walk;exact⟨_,rfl,hR⟩
 case fin=>
  rintro⟨b1,b2⟩s'⟨GZ,rfl,LN,Ft,hp,hR⟩;have GZ:b1=L:=GZ;subst GZ;refine xA hp ?_;clear hp;intro q1 q2;subst q1;subst q2;have hR:AS (.ok (.ret (.bool A6))) ⟨FI,g,d,tk,os⟩:=hR;wp_walk;refine⟨_,rfl,?_⟩;simpa[bD1,hs]using hR
 case h=>exact⟨rfl,rfl,_,_,mZ hm hn (by simpa using hs),h⟩
end
theorem ma(hv:O7 v=M)(r:VR h C v u):∃x y z l us n,v=.tup L [.int x,.int y,.int z]/\u=.ref l/\h.get? l=G {cls:=.type "tuple",data:=.seq us n}/\Pj us.toList [x,y,z]/\us.size=3:=by
 revert r;apply IR hv B0;intro o l hv;apply GQ hv B0;intro hv;apply FT hv B0;intro a l hv;apply FT hv B0;intro b l hv;apply Cs hv B0;intro c hv;apply Cu hv B0;intro x hv;apply Cu hv B0;intro y hv;apply Cu hv B0;intro z _ r;refine Ku r ?_;(try clear r);intro a o us n Bq e tg EK hd vr;subst Bq;refine xA (tg.2 rfl) ?_;intro Mh Mi;have ho:o={cls:=.type "tuple",data:=.seq us n}:=by obtain⟨c1,c2,c3,c4⟩:=o;simp only at EK hd Mh Mi;rw[EK,hd,Mh,Mi];rfl
 subst ho;refine Yw vr ?_;(try clear vr);intro _ _ h1 Bg _ _ Bu C9 _ _ Ck D8 DX;refine xE Bg ?_;(try clear Bg);intro t1 QZ;subst QZ;subst Bu;refine xE C9 ?_;(try clear C9);intro t2 Ta;subst Ta;subst Ck;refine xE D8 ?_;(try clear D8);intro bY6 Tb;subst Tb;subst DX;refine⟨x,y,z,a,us,n,rfl,rfl,e,?_,?_⟩;. rw[h1];exact .cons _ _ (.cons _ _ (.cons _ _ .nil))
 . have :=congrArg Rq h1;simpa using this
theorem mc{x y z x' y' z':AX}{c c':AD A8}:Sh (.tup c [.int x,.int y,.int z]) (.tup c' [.int x',.int y',.int z'])=G (JF [x,y,z] [x',y',z']):=rfl
section
theorem ao9(hv:O7 v=M)(Bh:O7 v'=M)(r:VR h C v u)(r':VR h C v' u')(q:Sh v' v=G b)(k:∀c o,h.get? c=G o->C2 o=M->s.heap.get? c=G o)(hu:A.units<IK)(hq:A2 (.bool b) s):AH (AQ prog w) A (uK .Gt u u') A2 E s:=by
 refine iS (ma hv r) ?_;intro x y z l us n Ed FE e i1 s1;subst Ed;subst FE;refine iS (ma Bh r') ?_;intro x' y' z' l' Dy n' GC HE e' i2 s2;subst GC;subst HE;rw[mc]at q;injection q with q;subst q;have e:=k _ _ e rfl;have e':=k _ _ e' rfl;refine richCompare_meets_room (op:=.Gt) ⟨_,e,rfl⟩ ⟨_,e',rfl⟩ PySem.F.slot_tuple_gt PySem.F.entry_tuple_gt (PySem.F.args_tuple_gt_2 _ _) (ao8 l l' _ _ _ _ _ _ us Dy n n' _ _ i1 i2 (s1.trans s2.symm)) ⟨e,e',?_,?_⟩ hu
 . intro prog w A' A2 E hq;exact Lz (T:="tuple") ⟨_,e',rfl⟩ AutoSeq1.sub_tuple_tuple hq
 . show NZ _≠Value.notImplemented/\A2 _ s;exact⟨(λx=>nomatch x),hq⟩
theorem ap0{A9:A8}{us:BW A4}(hh:A.handled=L)(hu:A.units+10<IK)(hp:Af.PlainList a us)(hI:Af.get? AE=L)(hS:Af.get? A9=L)(LO:AE≠A9){AS:Dt->AR->Prop}(C4:I V):∀(i:O)(x m:V)(vb:A4)(s:AR)(c:O),O7 x=M->C4.all O7=M->Zq x C4=G m->Aa Af C C4 (us.toList.drop i)->VR Af C x vb->(∀b o,Af.get? b=G o->s.heap.get? b=G o)->s.heap.IsListIter AE a i->s.heap.get? A9=G {cls:=.type "list",data:=.seq #[vb,vb] c}->(∀u Q tk,VR Af C m u->(∀b o,Af.get? b=G o->Q.get? b=G o)->AS (.ok (.ret u)) {s with heap:=Q,toks:=tk})->D7 (AQ prog w) A (.builtin "max.loop" ⟨[.ref AE,.none,.ref A9],[]⟩) AS s:=by induction C4 with
 |nil=>
  intro i x m vb s c hx hr hm vr rx kp Bz Tj hR;injection hm with hm;subst hm;have bo:(toString "max"++toString ".loop":D9)="max.loop":=by decide
  refine J5 uL ?_;skip;show AH _ A.in1 (Nf (.ref A9)>>=_) _ _ s;refine A5 (Ng Tj rfl ?_);show AH _ A.in1 (tryCatch (ES (.ref AE)) _>>=_) _ _ s;have ap1:us[i]?=L:=by
   have :us.toList.drop i=[]:=vr;have h1:=congrArg Rq this;simp at h1;rw[Array.getElem?_eq_none_iff];(with_reducible exact bD2 (by assumption))
  have FI:s.heap.PlainList a us:=let⟨n,e⟩:=hp;⟨n,kp _ _ e⟩;refine A5 (Pc (bt1 (by simp[hh]) Bz FI.isList ap1 λQ Df=>?_));have Fb:=Df A9 _ (CX LO) Tj;skip;refine A5 ?_;refine Nh Fb rfl (A5 (Ph (AW ?_)));have ne:∀{b:A8}{o:Bi},Af.get? b=G o->b≠AE/\b≠A9:=λe=>⟨λz=>by(rw[z,hI]at e;exact(BE e).elim),λz=>by(rw[z,hS]at e;exact(BE e).elim)⟩;exact hR vb _ _ rx λb o e=>(GO _ _ (CX (ne e).2)).trans (Df b o (ne e).1 (kp b o e))|cons y C4 ih=>
  intro i x m vb s c hx hr hm vr rx kp Bz Tj hR;have bo:(toString "max"++toString ".loop":D9)="max.loop":=by decide
  simp only[tJ,D6]at hr;have ne:∀{b:A8}{o:Bi},Af.get? b=G o->b≠AE/\b≠A9:=λe=>⟨λz=>by(rw[z,hI]at e;exact(BE e).elim),λz=>by(rw[z,hS]at e;exact(BE e).elim)⟩;refine Bv vr ?_;(try clear vr);intro v vs hd ry Qh;have hi:us[i]?=G v:=by
   have :(us.toList.drop i)[0]?=G v:=by rw[hd];rfl
   rw[uM]at this;simpa using this
  have GX:us.toList.drop (i+1)=vs:=by rw[<-bu5,hd];rfl
  refine J5 uL ?_;skip;show AH _ A.in1 (Nf (.ref A9)>>=_) _ _ s;refine A5 (Ng Tj rfl ?_);show AH _ A.in1 (tryCatch (ES (.ref AE)) _>>=_) _ _ s;have FI:s.heap.PlainList a us:=let⟨n,e⟩:=hp;⟨n,kp _ _ e⟩;refine A5 (Pc (tL Bz FI.isList hi λQ Qi Df=>?_));have Fb:=Df.extBut A9 _ (CX LO) Tj;have Tk:∀b o,Af.get? b=G o->Q.get? b=G o:=λb o e=>Df.extBut b o (ne e).1 (kp b o e);show AH _ A.in1 (tryCatch (Hg [v,v] (uK .Gt v vb>>=_)) _>>=_) _ _ _;apply BI hm;intro bY7 hb hm;refine A5 (Pc (C0 (A5 (ao9 hr.1 hx ry rx hb (λc o e _=>Tk c o e) (by show A.units+1<IK;(with_reducible exact Mine.wP (by assumption))) ?_))));refine A5 (C0 (NV ?_));refine A5 (Ph (AW ?_));cases bY7 with
 |true=>
   simp only[Kn];refine A5 ?_;refine Nh Fb rfl (A5 (Ph ?_));skip;refine AW ⟨plainId_quiet gr _,ih (i+1) y m v _ _ hr.1 hr.2 hm (by rw[GX];exact Qh) ry (λb o e=>(GO _ _ (CX (ne e).2)).trans (Tk b o e)) ?_ (FS _ Fb rfl) λu Wn tk ru OZ=>hR u Wn tk ru OZ⟩;refine AC Qi ?_;(try clear Qi);intro o e r;exact⟨o,(GO _ _ (CX LO)).trans e,r⟩|false=>
   simp only[Kl,Km];refine A5 (Ph ?_);skip;exact AW ⟨plainId_quiet gr _,ih (i+1) x m vb _ _ hx hr.2 hm (by rw[GX];exact Qh) rx Tk Qi Fb λu Wn tk ru OZ=>hR u Wn tk ru OZ⟩
end
section
theorem ap2{r:V}(g:Gd B F K A H C s)(ru:VR s.heap C v u)(h:jx v H=.ok (.v r) A7):Ae B F K A A7 C s (CE (.builtin "max") [u]) (RV r):=by
 intro A2 E kk;revert ru;apply A0.MW h;clear h;intro i Y hi h ru;cases Y with
 |nil=>exact(Ac h).elim|cons x C4=>
 refine A0.Be h ?_;clear h;intro hc h;simp only[D6]at hc;refine xA (MX h) ?_;intro hm L5;subst L5;refine Bv (g.listAt ru hi) ?_;intro a us L6 p vr;subst L6;refine Bv vr ?_;(try clear vr);intro v vs hd rx Qh;have bo:(toString "max"++toString ".loop":D9)="max.loop":=by decide
 have Wo:=g.units;refine bC6 PySem.F.kind_max PySem.F.plain_max PySem.F.entry_max (PySem.F.args_max1 _) ?_;show AH _ A.in1 (bD3 "max" ["key","default"] 0 ⟨[],[]⟩>>=_) _ _ s;refine A5 (NY (show bD3 "max" ["key","default"] 0 ⟨[],[]⟩=pure [L,L]from rfl) ?_);refine A5 (AW ?_);refine A5 (fy p.isList ?_);refine A5 (IG ?_);rw[bo];have hI:s.heap.get? s.heap.objs.size=L:=GF s.heap;generalize hH:s.heap.push {cls:=.type "list_iterator",data:=.fields #[.ref a,.int 0 0]}=BF;have kH:∀b o,s.heap.get? b=G o->BF.get? b=G o:=λb o e=>by rw[<-hH];exact C1 _ e
 have me:BF.objs.size=s.heap.objs.size+1:=by rw[<-hH];exact II ..
 have bY8:BF.get? s.heap.objs.size=G {cls:=.type "list_iterator",data:=.fields #[.ref a,.int 0 0]}:=by rw[<-hH];exact CY _ rfl
 have hS:s.heap.get? BF.objs.size=L:=KD (by rw[me];exact PR _);have LO:s.heap.objs.size≠BF.objs.size:=by rw[me];exact ER (PS _)
 dsimp only;generalize hG:BF.push {cls:=.type "list",dict:=L,data:=.seq ([]:I A4).toArray}=Bl;have gS:Bl.get? BF.objs.size=G {cls:=.type "list",dict:=L,data:=.seq #[]}:=by rw[<-hG];exact CY _ rfl
 have kG:∀b o,BF.get? b=G o->Bl.get? b=G o:=λb o e=>by rw[<-hG];exact C1 _ e
 have ne:∀{b:A8}{o:Bi},s.heap.get? b=G o->b≠s.heap.objs.size/\b≠BF.objs.size:=λe=>⟨λz=>by(rw[z,hI]at e;exact(BE e).elim),λz=>by(rw[z,hS]at e;exact(BE e).elim)⟩;refine AW ⟨plainId_quiet gr _,J5 uL ?_⟩;skip;show AH _ A.in1 (Nf (.ref BF.objs.size)>>=_) _ _ _;refine A5 (Ng gS rfl ?_);show AH _ A.in1 (tryCatch (ES (.ref s.heap.objs.size)) _>>=_) _ _ _;have Bz:Bl.IsListIter s.heap.objs.size a 0:=⟨_,kG _ _ bY8,rfl,rfl⟩;have bY9:Bl.PlainList a us:=let⟨n,e⟩:=p;⟨n,kG _ _ (kH _ _ e)⟩;have h0:us[0]?=G v:=by
   have :us.toList[0]?=G v:=by rw[hd];rfl
   simpa using this
 refine A5 (Pc (tL Bz bY9.isList h0 λQ Qi Df=>?_));have Fb:=Df.extBut BF.objs.size _ (CX LO) gS;show AH _ A.in1 (Rv BF.objs.size (λ_=>#[v,v])>>=_) _ _ _;refine A5 ?_;refine Nh Fb rfl ?_;skip;refine AW ⟨plainId_quiet gr _,ap0 (C:=C) (Af:=s.heap) g.handled (by unfold IK;(with_reducible exact Mine.yU (by assumption) (by decide))) p hI hS LO C4 1 x r v _ _ hc.1.1 hc.1.2 hm ?_ rx (λb o e=>(GO _ _ (CX (ne e).2)).trans (Df.extBut b o (ne e).1 (kG _ _ (kH _ _ e)))) ?_ (FS _ Fb rfl) λu Wn tk ru OZ=>?_⟩
 . have :us.toList.drop 1=vs:=by rw[hd];rfl
   rw[this];exact Qh
 . refine AC Qi ?_;(try clear Qi);intro o e r;exact⟨o,(GO _ _ (CX LO)).trans e,r⟩
 . exact kk u C _ (g.ext OZ) (Nx.ext OZ) (ru.Bw λb o e _=>OZ b o e)
end
section
set_option tactic.hygienic true in
theorem bp{k:U}{v:A4}(h:(strKind prog w).is k v=M):∃t,v=.str k t:=by
 cases v<;>first|(simp[strKind,YR]at h;done)|skip
 rename_i y t;have :y=k:=by simpa[strKind,YR]using h
 exact⟨t,by rw[this]⟩
noncomputable def FK(B:Bs)(h:BK)(C:I A8):I (V×V)->I FQ->Prop
 |[],l=>l=[]|p::ps,l=>∃x ku vu r,l=⟨(strKind B.prog B.w).hash x,ku,vu⟩::r/\p.1=GW x/\(strKind B.prog B.w).is x ku=M/\VR h C p.2 vu/\FK B h C ps r
theorem FK.cons{r:I FQ}(b:(strKind B.prog B.w).is x ku=M)(c:VR h C v vu)(d:FK B h C ps r):FK B h C ((GW x,v)::ps) (⟨(strKind B.prog B.w).hash x,ku,vu⟩::r):=⟨x,ku,vu,r,rfl,rfl,b,c,d⟩
theorem FK.ind{P:I (V×V)->I FQ->Prop}(n:P [] [])(c:∀x ku vu v ps r,(strKind B.prog B.w).is x ku=M->VR h C v vu->FK B h C ps r->P ps r->P ((GW x,v)::ps) (⟨(strKind B.prog B.w).hash x,ku,vu⟩::r)):∀{l:I FQ},FK B h C ps l->P ps l:=by induction ps with
 |nil=>intro l e;cases e;exact n|cons p ps ih=>
 intro l e;refine VU e ?_;clear e;intro x ku vu r q e1 a b d;subst q;rw[show p=(GW x,p.2)from NR e1 rfl];exact c x ku vu p.2 ps r a b d (ih d)
theorem ap3{Az:I (U×A4)}{l:I FQ}(d:DR GW h C N Az):Pairs (strKind B.prog B.w) l Az->(∀e∈l,∃k,(strKind B.prog B.w).is k e.key=M/\e.hash=(strKind B.prog B.w).hash k)->FK B h C N l:=by
 revert l;refine DR.ind (P:=λN Az=>∀{l},Pairs (strKind B.prog B.w) l Az->(∀e∈l,∃k,(strKind B.prog B.w).is k e.key=M/\e.hash=(strKind B.prog B.w).hash k)->FK B h C N l) (λp _=>by cases p;rfl) (λk v u N r rv _ ih l p hk=>?_) d;cases p with|@cons en _ l' _ h1 h2 h3=>
 refine AC (hk en Co) ?_;intro k' q1 q2;obtain⟨bZ0,ek,ev⟩:=en;have :k'=k:=(strKind B.prog B.w).inj ek k' k q1 h1;subst this;have q2:bZ0=_:=q2;have h2:ev=u:=h2;rw[q2,h2];exact .cons h1 rv (ih h3 λe m=>hk e (Cp _ m))
theorem bq(h:Sw N=M){hp:BK}(r:Dn B.prog B.w hp C a N):∃Az,hp.DictAt (strKind B.prog B.w) a Az Az.length/\DR GW hp C N Az:=by
 refine r.elim id λr=>AC r λAz hm dr=>?_;cases N with
 |nil=>exact⟨[],b6 (B:=B) (by rw[show Az=[]from dr]at hm;exact hm),rfl⟩|cons p N=>
 refine Gq dr λk u r _ e1 _=>?_;have h1:=Bn.mp h p Co;rw[e1]at h1;exact(E5 h1).elim
theorem FK.drop{l:I FQ}(k:O)(r:FK B h C ps l):FK B h C (ps.drop k) (l.drop k):=FK.ind (P:=λps l=>∀k,FK B h C (ps.drop k) (l.drop k)) (λk=>by cases k<;>rfl) (λ_ _ _ _ _ _ b c d ih k=>by cases k with|zero=>exact .cons b c d|succ k=>exact ih k) r k
theorem FK.ap4{l:I FQ}(r:FK B h C ps l):∀e∈l,∃x t,e.key=.str x t:=FK.ind (P:=λ_ l=>∀e∈l,∃x t,e.key=.str x t) (λ_ m=>nomatch m) (λx _ _ _ _ _ b _ _ ih q m=>(Cj.mp m).elim (λe=>xE (bp b) λt z=>⟨x,t,e▸z⟩) (ih q)) r
theorem FK.length{l:I FQ}(r:FK B h C ps l):ps.length=l.length:=FK.ind (P:=λps l=>ps.length=l.length) rfl (λ_ _ _ _ _ _ _ _ _ ih=>congrArg (·+1) ih) r
set_option tactic.hygienic true in
theorem mf{Am Ig:I (V×V)}{w:A4}(g:Gd B F K A H C s)(hd:AL H.h i=G (.dict Am))(ha:C[i]?=G a)(hj:AL H.h j=G (.dict N))(LF:VR s.heap C (.ref j) w)(Qj:i≠j)(hf:Vx N Am=G Ig):Ae B F K A (H.set i (.dict Ig)) C s (mergeMapping a w A6) RU:=by
 intro A2 E kk;unfold Vx at hf;split at hf;case h_2=>exact(BE hf).elim
 rename_i Tl;simp only[D6]at Tl;refine AC LF ?_;(try clear LF);intro b hb Aw;subst Aw;have r:=g.obj hj hb;refine AC (bq Tl.1 r) ?_;intro Az B6 dr;refine MA B6 ?_;(try clear B6);intro o l ho hc O_ ap5 ap6 _;have er:FK B s.heap C N l.toList:=ap3 dr ap6 λe m=>ap5 e (by simpa using m);have Gc:a≠b:=λz=>by
   clear ho r;subst z;exact Qj ((RY (HM.mp ha).1 g.nodup).mp (ha.trans hb.symm))
 have hT:s.TypeIs (.ref b) "dict":=⟨o,ho,hc.1⟩;have ra:=g.obj hd ha;refine AC (bq Tl.2 ra) ?_;intro kva br dra;have Wp:∃oa la mh,s.heap.get? a=G oa/\oa.data=.dict la mh:=by refine HT br ?_;(try clear br);intro o' BN e hc hd _;exact⟨o',BN,_,e,hd⟩
 refine Hq Wp ?_;(try clear Wp);intro oa la mh Wp QV;have Ch:=er.length;unfold mergeMapping;refine A5 (Lz hT isSubtype_dict_dict ?_);skip;refine A5 (YN hT PySem.F.slot_dict_iter.lookup (A5 (AW ?_)));simp only[g9];rw[g.QT (Ew hb)];skip;have mj:∀(AS:PUnit->AR->Prop)(E:A4->AR->Prop)(f:O->PUnit->Dz (tN PUnit)),(∀i u,f i u=(do
 let G e:=(<-dictEntries b)[i]?|unsupported "dict.changed-during-merge"
 Hg [e.key,e.val] (uD a e.hash e.key e.val)if(<-dictEpoch b)!=Az.length then R_ "dict.changed-during-merge"
 pure (.yield ⟨⟩)))->(∀AP Fv,E4 a s.heap AP->AP.DictAt (strKind B.prog B.w) a Fv Fv.length->DR GW s.heap C Ig Fv->AS ⟨⟩ {s with heap:=AP})->AH (AQ B.prog B.w) A (forIn (DN l.size) PUnit.unit f) AS E s:=by
   intro AS E f hfe hR;refine gq _ (λC4 _ s'=>∃k AP Fv Wq,C4=(DN l.size).drop k/\s'={s with heap:=AP}/\E4 a s.heap AP/\AP.DictAt (strKind B.prog B.w) a Fv Fv.length/\DR GW s.heap C Wq Fv/\Kz (N.drop k) Wq=G Ig) _ ?turn ?fin _ _ ?h;case h=>exact⟨0,s.heap,kva,Am,rfl,rfl,gD _ _,br,dra,hf⟩
   case fin=>
    rintro⟨⟩s'⟨k,AP,Fv,Wq,hr,rfl,hs,hm,d1,FJ⟩;have :(DN l.size).length<=k:=by
     rcases bD4 k (DN l.size).length with h|h;. have :=congrArg Rq hr;simp at this h;omega
     . exact h
    simp at this Ch;rw[bD5 (by(with_reducible exact Mine.yT (by assumption) (by assumption)))]at FJ;injection FJ with FJ;clear hf kk;subst FJ;exact hR AP Fv hs hm d1
   case turn=>
    rintro x C4⟨⟩s'⟨k,AP,Fv,Wq,hr,rfl,hs,hm,d1,FJ⟩;have hk:k<l.size:=by
     rcases bD4 k l.size with h|h;. exact h
     . rw[bD5 (by simpa using h)]at hr;(exfalso;cases hr)
    rw[YM (by simpa using hk)]at hr;injection hr with ml hr2;simp only[List.getElem_range]at ml;subst ml;have bs:=er.drop x;have hkl:x<N.length:=by rw[Ch];simpa using hk
    rw[YM hkl]at bs FJ;refine VU bs ?_;(try clear bs);intro xx ku vu r' he e1 e2 e3 _;have bt:l[x]?=G ⟨(strKind B.prog B.w).hash xx,ku,vu⟩:=by
     have :(l.toList.drop x)[0]?=G ⟨(strKind B.prog B.w).hash xx,ku,vu⟩:=by rw[he];rfl
     skip;simpa using this
    have Oa:AP.get? b=G o:=(hs.2 b (CX Gc)).trans ho;unfold Kz at FJ;refine Eb FJ (λWr FJ=>?_) λ_ e=>(AF e).elim;replace Wr:=Rf (B1 Wr) (Ak Wr);have hl:=Ef Wr.2;rw[hfe];refine A5 (Y_ (s:={s with heap:=AP}) Oa O_ ?_);rw[bt];dsimp only;refine A5 (C0 (al2 (By:=strKind B.prog B.w) (k:=xx) (s:={s with heap:=AP}) e2 hm (λQ HG Df=>?_) (by have :=d1.length;exact B4 (show _<=100000 by(with_reducible exact Mine.yT (by assumption) (by assumption))) (by decide))));have ap7:Q.get? b=G o:=(Df.2 b (CX Gc)).trans Oa;refine A5 (uN (s:={s with heap:=Q}) ap7 O_ ?_);simp only[YC,Kl,Km];refine AW ⟨x+1,Q,_,_,hr2,rfl,hs.trans Df,HG,?_,FJ⟩;rw[e1];exact d1.put WR (k:=xx) e3 (V' hm)
 have C4:∀(_:DM->AR->Prop),(∀AP Fv,E4 a s.heap AP->AP.DictAt (strKind B.prog B.w) a Fv Fv.length->DR GW s.heap C Ig Fv->A2 () {s with heap:=AP}):=λAS AP Fv hs hm d1=>by
   refine xA (g.set (Q:=AP) (tk:=s.toks) (o':=.dict Ig) ha hd (λ_ _ e=>by(exfalso;cases e)) hs.extBut (DictAt.live hm) λim=>.inl ⟨_,hm,T8 (p:=λJ=>DR GW AP J _ _) (d1.mono (J:=[]) im)⟩) ?_;intro g' x';exact kk () C _ g' x' trivial
 refine A5 (Y_ Wp QV ?_);refine Pa (λ_=>?_) (λ_=>?_)
 . refine A5 (Y_ ho O_ ?_);rw[<-uO];refine A5 (gq _ (λC4 _ s'=>s'=s/\∀e∈C4,∃x t,e.key=.str x t) _ ?turn ?fin _ _ ⟨rfl,er.ap4⟩);case turn=>
    rintro e C4⟨⟩s'⟨rfl,hk⟩;refine DB (hk e Co) ?_;intro x t e1;rw[e1];exact AW ⟨rfl,λe m=>hk e (Cp _ m)⟩
   case fin=>
    rintro⟨⟩s'⟨rfl,_⟩;refine A5 (Y_ ho O_ ?_);refine A5 (uN ho O_ ?_);refine A5 (mj _ _ _ ?_ λAP Fv hs hm d1=>AW (C4 A2 AP Fv hs hm d1));intro i u;rfl
 . refine A5 (Y_ ho O_ ?_);refine A5 (uN ho O_ ?_);refine A5 (mj _ _ _ ?_ λAP Fv hs hm d1=>AW (C4 A2 AP Fv hs hm d1));intro i u;rfl
theorem JT{J:I A8}(x:Nx AM AZ h Q C J)(e:C[i]?=G a):J[i]?=G a:=by refine AC x.pre ?_;intro EH q _;rw[q];exact FY e
theorem ap8(A9:C5 B A3 n){k v0 v:AA}{r:V}(h:Fq A3 K (ev A3 n) (.Dict [L,G k] [v0,v] pos) H=.ok (.v r) A7)(g:Gd B F K A H C s):Ae B F K A A7 C s (eval (.Dict [L,G k] [v0,v] pos) F.env) (RV r):=by
 refine A0.Cg h ?_;clear h;intro w AB AP h;revert AP;apply A0.xu h;clear h;intro wi N mn h AP;refine A0.Be h ?_;clear h;intro Cc h;refine A0.OE h ?_;clear h;intro Am Oc h;refine A0.Bx h ?_;clear h;intro Ig hm h;refine A0.Cg h ?_;clear h;intro kv Bc BD h;refine A0.Cg h ?_;clear h;intro vv GY C3 h;refine A0.OE h ?_;clear h;intro sub LL h;refine A0.Be h ?_;clear h;intro hc h;simp only[D6]at hc;refine A0.OE h ?_;clear h;intro ap9 aq0 h;refine A0.Bx h ?_;clear h;intro bO7 hm3 h;apply B5 h;clear h;have Cc:wi≠H.n:=λz=>by clear mn AP;subst z;simp at Cc
 intro A2 E kk;skip;refine A5 (El ?_);show AH _ A (YY [(L,do let x<-eval v0 F.env;Ki pos;pure x),(G (eval k F.env),do let x<-eval v F.env;Ki pos;pure x)]) A2 E s;unfold YY;simp only[Rg,gt,bA3,Kn,pure_bind,bind_assoc,uP,List.isEmpty_cons,uJ];refine A5 (YH ?_);refine xA (g.newDict s.toks) ?_;intro Fa Cq;have hD:(C++[s.heap.objs.size])[H.n]?=G s.heap.objs.size:=g.LJ;refine A5 (C0 (A5 (A9.e AP Fa _ _ λu A_ AJ AN Ab Aq=>A5 (El (AW ?_)))));have TM:=JT Ab hD;refine A5 (Y8 (Pc (Y8 (C0 (mf AN Oc TM mn Aq (λz=>Cc z.symm) hm _ _ λ_ Au Ai AU Al _=>?_)))));have Mf:=JT Al TM;skip;refine A5 (AW ?_);refine A5 (AW ?_);refine A5 (A5 (C0 ?_));unfold subDict;refine xA (AU.newDict Ai.toks) ?_;intro Ap B8;have Tm:(AB.set H.n (.dict Ig)).n=AB.n:=rfl;have hS:(Au++[Ai.heap.objs.size])[AB.n]?=G Ai.heap.objs.size:=AU.LJ;refine A5 (YH (A5 (C0 ?_)));dsimp only;skip;simp only[uC];refine A5 (A5 (A9.e BD Ap _ _ λku Ie EG CA Cz JQ=>A5 (C0 (A5 (A9.e C3 CA _ _ λvu QU Eg Cn EL Ij=>A5 (El (AW ?_)))))));have mq:=JT EL (JT Cz hS);have mr:=JT EL (JT Cz (JT B8 Mf));refine A5 (C0 (AW (AW ?_)));refine C0 ?_;simp only[Rg,gt];refine A5 (A5 (A5 (mQ Cn LL mq (JQ.nx EL) Ij hc.1 hc.2 _ _ λ_ WM TK Gb GG _=>AW (AW (AW (AW ?_))))));have CF:H.n<AB.n:=by
  have h1:(C++[s.heap.objs.size]).length<=A_.length:=by refine AC Ab.pre ?_;intro J e _;rw[e];simp
  have h2:=AN.len;have h3:=g.len;simp at h1;omega
 have hb:AL (GY.set AB.n (.dict (En sub kv vv))).h H.n=G (.dict ap9):=by
  show AL (putN GY.h AB.n _) H.n=_;rw[MQ (ER CF)];exact aq0
 have hs2:AL (GY.set AB.n (.dict (En sub kv vv))).h AB.n=G (.dict (En sub kv vv)):=MP LL;refine A5 (Y8 (C0 (mf Gb hb (JT GG mr) hs2 ⟨_,JT GG mq,rfl⟩ (ER CF) hm3 _ _ λ_ bu bv Tn Qk _=>?_)));refine AW (AW ?_);exact kk _ _ _ Tn (Cq.trans (Ab.trans (Al.trans (B8.trans (Cz.trans (EL.trans (GG.trans Qk))))))) ⟨_,JT Qk (JT GG mr),rfl⟩
end
open PyProof.Rows(StrsAre sortedS risingS)
theorem bw(x:Tx):∀l:I Tx,(QE x l).Perm (x::l)
 |[]=>.rfl|y::l=>by
  unfold QE;cases EZ x y with
 |true=>exact .rfl|false=>exact((bw x l).cons y).trans (.swap x y l)
theorem Ws:∀l:I Tx,(Ea l).Perm l
 |[]=>.rfl|x::l=>(bw x _).trans ((Ws l).cons x)
theorem aq1{x:Tx}(h:EZ y x=A6):x<=y:=bD6.mp λz=>by rw[TR.mpr z]at h;(exfalso;cases h)
theorem mu(x:Tx):∀{l:I Tx},l.Pairwise (·<=·)->(QE x l).Pairwise (·<=·)
 |[],_=>gu _ _|y::l,h=>by
  refine xA (V0.mp h) ?_;intro h1 h2;unfold QE;cases q:EZ x y with
 |true=>
   have xy:x<=y:=List.le_of_lt (TR.mp q);refine V0.mpr ⟨λz hz=>?_,h⟩;rcases Cj.mp hz with rfl|hz;. exact xy
   . exact bD7 xy (h1 z hz)|false=>
   have bZ1:y<=x:=aq1 q;refine V0.mpr ⟨λz hz=>?_,mu x h2⟩;rcases Cj.mp ((bw x l).mem_iff.mp hz)with rfl|hz;. exact bZ1
   . exact h1 z hz
theorem Wt:∀l:I Tx,(Ea l).Pairwise (·<=·)
 |[]=>.nil|x::l=>mu x (Wt l)
noncomputable def tx(x:U):Tx:=x.cps.toList
theorem mw:∀(p:U)(l:I U),risingS p l=M->((p::l).map tx).Pairwise (·<=·)
 |p,[],_=>gu _ _|p,x::r,h=>by
  simp only[risingS,D6,PU]at h;have ih:=mw x r h.2;have px:tx p<=tx x:=bD6.mp λz=>by have :=h.1;rw[bU2,gU]at this;exact this z
  skip;refine xA (V0.mp ih) ?_;intro h1 h2;refine V0.mpr ⟨λz hz=>?_,ih⟩;rcases Cj.mp hz with rfl|hz;. exact px
  . exact bD7 px (h1 z hz)
theorem aq2{l:I U}(h:sortedS l=M):(l.map tx).Pairwise (·<=·):=by cases l with
 |nil=>exact .nil|cons x r=>exact mw x r h
theorem mx{Od:I U}(hs:sortedS Od=M)(hp:(Od.map tx).Perm l):Od.map tx=Ea l:=bD8 (le:=(·<=·)) (λa b _ _ h1 h2=>bD9 h1 h2) (aq2 hs) (Wt l) (hp.trans (Ws l).symm)
theorem bx:∀{vs:I A4}{ss:I U},M4 vs ss->∀{h:BK}{C:I A8},Aa h C ((ss.map tx).map .str) vs
 |_,_,.nil,_,_=>rfl|_,_,.cons y t r,_,_=>⟨_,_,rfl,⟨t,rfl⟩,bx r⟩
theorem my:∀{us:I A4},Aa h C (l.map .str) us->M4 us (l.map λx=>⟨⟨x⟩⟩):=by induction l with
 |nil=>exactλe=>e▸.nil|cons x l ih=>intro us r;refine Aa.Sz (vs:=l.map .str) r (P:=λus=>M4 us ((x::l).map λx=>⟨⟨x⟩⟩)) ?_;intro u us a b;refine xE a ?_;intro t a;subst a;exact .cons _ t (ih b)
section
theorem mz{x:A4}(hl:l.length<60)(hc:∀(AS:I A4->AR->Prop)(E:A4->AR->Prop),(∀vs ss Q tk,M4 vs ss->(ss.map tx).Perm l->(∀b o,s.heap.get? b=G o->Q.get? b=G o)->AS vs {s with heap:=Q,toks:=tk})->AH (AQ prog w) A.in1 (YG x) AS E s)(hQ:∀(D:A8)(us:BW A4)(Q:BK)(tk e:O),s.heap.get? D=L->Q.get? D=G {cls:=.type "list",data:=.seq us e}->(∀b o,s.heap.get? b=G o->Q.get? b=G o)->(∀h C,Aa h C ((Ea l).map .str) us.toList)->A2 (.ref D) {s with heap:=Q,toks:=tk}):AH (AQ prog w) A (call (.builtin "sorted") [x]) A2 E s:=by
 refine bE0 bE1 bE2 bE3 (bE4 _) ?_;skip;refine A5 (m:=checkCount "sorted" 1 1 _) (AW ?_);refine A5 (hc _ _ λvs ss Q tk hS hp kp=>?_);have Ch:vs.length=l.length:=by
   have h1:=hp.length_eq;have h2:vs.length=ss.length:=by clear hp h1;induction hS with|nil=>rfl|cons _ _ _ ih=>simp[ih]
   simp at h1;(with_reducible exact uQ (by assumption) (by assumption))
 have hn:s.heap.get? Q.objs.size=L:=by cases e:s.heap.get? Q.objs.size with
 |none=>rfl|some o=>exact absurd (Dh (kp _ _ e)) (J1 _)
 refine A5 (uR ?_ (by rw[Ch];exact B4 (show l.length<=60 by(with_reducible exact Gj (by assumption))) (by decide)));have KG:(Q.push {cls:=.type "list",data:=.seq vs.toArray}).get? Q.objs.size=G (uS "list" vs.toArray 0):=CY _ rfl;refine A5 (C0 (Gn uT ⟨_,KG,rfl⟩ uU (bE5 bE6 KG hS.keysOf (λHy aq3 C4 e=>bE7 (by rw[<-e];exact hS)) (by(with_reducible exact Mine.wW (by assumption) (by assumption))) λbz a1 a2=>⟨_,rfl,?_⟩) (uV _)));refine CZ (bE8 hS a1 a2) ?_;intro Od h1 h2 h3;have key:Od.map tx=Ea l:=mx h3 ((h2.map tx).trans hp);refine xE (uW (vs:=vs) (out:=(bE9 bz).map (·.2)) KG) ?_;intro e he;refine AW ⟨_,rfl,hQ Q.objs.size _ _ tk e hn he (λb o q=>?_) λh C=>?_⟩
 . have lt:=Dh (kp _ _ q);rw[uX (ER lt) (by rw[II];exact fS lt)];exact C1 _ (kp _ _ q)
 . rw[<-key];exact bx h1
end
section
theorem Gd.newList(g:Gd B F K A H C s){us:BW A4}{e:O}(hn:s.heap.get? D=L)(hd:Q.get? D=G {cls:=.type "list",data:=.seq us e})(kp:∀b o,s.heap.get? b=G o->Q.get? b=G o)(hv:∀h C,Aa h C Y us.toList):Gd B F K A (H.new (.list Y)).2 (C++[D]) {s with heap:=Q,toks:=tk}/\Nx F.D [] s.heap Q C (C++[D]):=⟨g.new kp hn ⟨_,hd⟩ (o:=.list Y) ⟨us,⟨e,hd⟩,hv _ _⟩,Nx.add [_] kp λb hb=>by rw[CI.mp hb];exact hn⟩
theorem n4{r:V}(g:Gd B F K A H C s)(hi:AL H.h i=G (.list Y))(ru:VR s.heap C (.ref i) u)(h:O6 Y H=.ok (.v r) A7):Ae B F K A A7 C s (CE (.builtin "sorted") [u]) (RV r):=by
 refine A0.Bx h ?_;clear h;intro l hl h;refine A0.Be h ?_;clear h;intro hc h;(first|(revert k;(first|apply BX h|apply B5 h|apply BY h|apply BZ h|apply B_ h);intro k)|apply BX h|apply B5 h|apply BY h|apply BZ h|apply B_ h);have CF:l.length<60:=Dk hc;intro A2 E kk;refine Bv (g.listAt ru hi) ?_;intro a us B6 p vr;clear ru;subst B6;rw[OS hl]at vr;refine mz CF (λAS E k=>?_) λD Dy Q tk e hn hd kp hv=>?_
 . have Ii:s.heap.IsList a us.toList.toArray:=by simpa using p.isList
   have Ch:us.toList.length=l.length:=by rw[<-vr.length];simp
   refine bU3 Ii ?_ (by rw[Ch];exact B4 (show l.length<=60 by(with_reducible exact Gj (by assumption))) (by decide));have kp:∀b o,s.heap.get? b=G o->((s.heap.push (uS "list" #[] 0)).update s.heap.objs.size (GN (·++us.toList.toArray))).get? b=G o:=λb o e=>(GO _ _ (λz=>by rw[<-z]at e;exact absurd (Dh e) (J1 _))).trans (C1 _ e);exact k _ _ _ s.toks (my vr) (by rw[Hm];have :(tx ∘λx=>(⟨⟨x⟩⟩:U))=id:=rfl;rw[this,bF0]) kp
 . refine xA (g.newList (tk:=tk) hn hd kp hv) ?_;intro g' x';exact kk _ _ _ g' x' ⟨_,g.LJ,rfl⟩
theorem DR.aq4{Az:I (U×A4)}(d:DR GW h C N Az):N.map (·.1)=(Az.map λp=>tx p.1).map .str:=DR.ind (P:=λN Az=>N.map (·.1)=(Az.map λp=>tx p.1).map .str) rfl (λk _ _ _ _ _ _ ih=>congrArg (GW k::·) ih) d
theorem aq5:∀(Az:I (U×A4))(Am:I A4),Am.length=Az.length->(∀(j:O)(v:A4),Am[j]?=G v->∃k x,Az[j]?=G (k,x)/\(strKind prog w).is k v=M)->M4 Am (Az.map (·.1)):=by
 intro Az;induction Az with
 |nil=>
  intro Am hl _;have :Am=[]:=by simpa using hl
  clear hl;subst this;exact .nil|cons p Az ih=>
  intro Am hl h;cases Am with
 |nil=>simp at hl|cons v Am=>
  refine EX (h 0 v rfl) ?_;intro k x e hk;simp only[bx3,bU4]at e;subst e;refine xE (bp hk) ?_;intro t BJ;clear hk;subst BJ;exact .cons k t (ih Am (by simpa using hl) λj u hu=>by have :=h (j+1) u (by simpa using hu);simpa using this)
theorem aq6(g:Gd B F K A H C s)(ha:a∈C)(r:Dn B.prog B.w s.heap C a BN)(hp:BN.Perm N)(hl:HV (N.map (·.1))=G l)(CF:l.length<60):Ae B F K A (H.new (.list ((Ea l).map .str))).2 C s (CE (.builtin "sorted") [.ref a]) (RV (.ref H.n)):=by
 intro A2 E kk;have hk:=OS hl;have Tl:Sw BN=M:=by
   rw[Sw,Bn];intro p hm;have :p.1∈N.map (·.1):=E0.mpr ⟨p,hp.mem_iff.mp hm,rfl⟩;rw[hk]at this;refine AC (E0.mp this) ?_;intro x _ e;rw[<-e]
 refine AC (bq Tl r) ?_;intro Az hm dr;have F_:(Az.map λp=>tx p.1).Perm l:=by
   have h1:=dr.aq4;have h2:(BN.map (·.1)).Perm (N.map (·.1)):=hp.map _;rw[h1,hk]at h2;have :=h2.map (λv=>match v with|.str s=>s|_=>[]);simpa[Hm,Function.comp_def]using this
 have Ch:Az.length=l.length:=by have :=F_.length_eq;simpa using this
 refine mz CF (λAS E k=>?_) λD Dy Q tk e hn hd kp hv=>?_
 . refine kdu_collect (kdl_dict (knd:=strKind B.prog B.w) (kvs:=Az) (ep:=Az.length) (g.QT ha)) (by simp[g.handled]) hm (by rw[Ch];exact B4 (show l.length<=60 by(with_reducible exact Gj (by assumption))) (by decide)) λQ tk Am kp Oc=>?_;refine k _ (Az.map (·.1)) _ tk (aq5 (prog:=B.prog) (w:=B.w) _ _ (by rw[VF];exact Oc.1) λj v e=>Oc.2 j v (by rw[<-Rw];exact e)) ?_ kp;rw[Hm];exact F_
 . refine xA (g.newList (tk:=tk) hn hd kp hv) ?_;intro g' x';exact kk _ _ _ g' x' ⟨_,g.LJ,rfl⟩
theorem aq7{r:V}(g:Gd B F K A H C s)(ru:VR s.heap C (.ref i) u)(h:jy i H=.ok (.v r) A7):Ae B F K A A7 C s (CE (.builtin "sorted") [u]) (RV r):=by
 refine A0.Bx h λo hi h=>?_;have F1:∀{N BN:I (V×V)}{a:A8},C[i]?=G a->u=.ref a->Dn B.prog B.w s.heap C a BN->BN.Perm N\/BN=N->O6 (N.map (·.1)) H=.ok (.v r) A7->Ae B F K A A7 C s (CE (.builtin "sorted") [u]) (RV r):=λ{N BN a}ha hu dr hp h=>by
  refine A0.Bx h λl hl h=>A0.Be h λhc h=>?_;apply B5 h;clear ru;subst hu;exact aq6 g (Ew ha) dr (hp.elim (λp=>p) λe=>by rw[e]) hl (Dk hc)
 revert hi;apply K0 h;. exactλY h hi=>n4 g hi ru h
 intro h;apply Sd h;. exactλN h hi=>AC ru λa ha e=>F1 ha e (g.obj hi ha) (.inr rfl) h
 intro h;apply Sf h Ac;exactλN h hi=>AC ru λa ha e=>AC (g.obj hi ha) λBN hu dr=>F1 ha e dr (.inl hu.1) h
end
structure Wu(Kf:Gh):Prop where
 n5:∀A9,Rm Kf A9 (opaqueClassAbove (.type "tuple"))=G L
 typ:∀A9,Rm Kf A9 (Hh (.type "tuple"))=G (.type "type")c5:Go Kf (.type "type") "__getattribute__"=G (G (.builtin "type.__getattribute__"))sub:YE Kf (.type "type") (.type "type")=G M
 new:te Kf (.type "tuple") (.type "type") "__new__"=G (.val (.builtin "tuple.__new__"))
structure To(B:Bs)(A3:Mine.Ctx):Prop where
 fn:∀a fn,A3.fn a=G fn->∃o fd,FnAt B a fn o fd
 Gs:∃o fd,B.base.get? A3.Gs=G o/\o.data=.func fd
noncomputable def n6:LK->D9|.append=>"list.append"|.pop=>"list.pop"|.sort=>"list.sort"
theorem aq8{m:U}{k:LK}(h:Vt m=G k):"list."++m.toString=n6 k:=H6.mp (show Vs.map (λp=>"list."++p.1.toString)=Vs.map (λp=>n6 p.2)by decide+kernel) _ (FF h)
noncomputable def n7:DK->D9|.Sq=>"dict.setdefault"|.get=>"dict.get"
theorem aq9{m:U}{k:DK}(h:Vv m=G k):"dict."++m.toString=n7 k:=H6.mp (show Vu.map (λp=>"dict."++p.1.toString)=Vu.map (λp=>n7 p.2)by decide+kernel) _ (FF h)
section
noncomputable def MS(T p:D9)(m:U):Prop:=M1 T m (p++m.toString)/\Hh (.builtin (p++m.toString))=pure (.type "method_descriptor")
theorem ms{T p n id:D9}{m:U}(e:(m,p++m.toString)=(Ev n,id))(a:M1 T n id)(b:Hh (.builtin id)=pure (.type "method_descriptor")):MS T p m:=by injection e with e1 e2;unfold MS;rw[e2];exact⟨e1▸a,b⟩
theorem ar0:∀x∈Vr,MS "str" "str." x.1:=all_cons (ms (by decide+kernel) PySem.F.slot_str_startswith PySem.F.type_str_startswith)<|all_cons (ms (by decide+kernel) PySem.F.slot_str_endswith PySem.F.type_str_endswith)<|all_cons (ms (by decide+kernel) gn PySem.F.type_str_split)<|all_cons (ms (by decide+kernel) PySem.F.slot_str_rfind PySem.F.type_str_rfind)<|all_cons (ms (by decide+kernel) PySem.F.slot_str_rstrip PySem.F.type_str_rstrip)<|all_cons (ms (by decide+kernel) PySem.F.slot_str_format_m PySem.F.type_str_format_m)<|all_cons (ms (by decide+kernel) PySem.F.slot_str_join PySem.F.type_str_join) EE
theorem ar2:∀x∈Vs,MS "list" "list." x.1:=all_cons (ms (by decide+kernel) bF1 bF2)<|all_cons (ms (by decide+kernel) PySem.F.slot_list_pop PySem.F.type_list_pop)<|all_cons (ms (by decide+kernel) PySem.F.slot_list_sort PySem.F.type_list_sort) EE
theorem ar3:∀x∈Vu,MS "dict" "dict." x.1:=all_cons (ms (by decide+kernel) bD0 PySem.F.type_dict_setdefault)<|all_cons (ms (by decide+kernel) u9 PySem.F.type_dict_get) EE
theorem ar4{m:U}{k:SK}(hk:Sr m=G k){A2:A4×I A4->AR->Prop}(h:A2 (.builtin ("str."++m.toString),[.str x t]) s):AH Av A (Jm (.str x t) m pl) A2 E s:=have z:=ar0 _ (FF hk);gv (Pd _ _ _) PySem.F.plainAttrs_str z.1 z.2 (λ_ e=>nomatch e) h
theorem n8{us:BW A4}{m:U}{k:LK}(hk:Vt m=G k)(hp:s.heap.PlainList a us){A2:A4×I A4->AR->Prop}(h:A2 (.builtin ("list."++m.toString),[.ref a]) s):AH Av A (Jm (.ref a) m pl) A2 E s:=have z:=ar2 _ (FF hk);xE hp λ_ ho=>gv ⟨_,ho,rfl⟩ bF3 z.1 z.2 (λ_ e=>⟨_,bF4 e▸ho,rfl⟩) h
theorem ar5{o:Bi}{m:U}{k:DK}(hk:Vv m=G k)(ho:s.heap.get? a=G o)(hc:o.cls=.type "dict")(hn:o.dict=L){A2:A4×I A4->AR->Prop}(h:A2 (.builtin ("dict."++m.toString),[.ref a]) s):AH Av A (Jm (.ref a) m pl) A2 E s:=have z:=ar3 _ (FF hk);gv ⟨_,ho,hc⟩ PySem.F.plainAttrs_dict z.1 z.2 (λ_ e=>⟨_,bF4 e▸ho,hn⟩) h
theorem ar6(T:Wu Kf)(AG:Kf.In s.heap){A2:A4×I A4->AR->Prop}(h:∀tk,A2 (.builtin "tuple.__new__",[]) {s with toks:=tk}):AH (AQ prog w) A (Jm (.type "tuple") "__new__" pl) A2 E s:=by
 unfold Jm;with_reducible refine A5 ((show Gk _ _ (Nd (.type "tuple") "__getattribute__") (G (.builtin "type.__getattribute__"))from(Nc AG (T.typ _)).andThen (Nb AG T.c5)).here ?_)
 dsimp only;skip;refine A5 ?_;with_reducible refine cls_open (hook:=L) AG (Nc AG (T.n5 _)) (Nc AG (T.typ _)) T.c5 (looks_hook AG (by rw[CS (by decide+kernel)])) T.sub T.new ?_
 exact AW (by show AH _ _ (handedOut (.builtin "tuple.__new__")) _ _ _;rw[handedOut_of rfl];exact AW (AW (h _)))
theorem ar7(r:Dn B.prog B.w h C a N):∃o,h.get? a=G o/\o.cls=.type "dict"/\o.dict=L:=by(rcases r with n9|nA;refine AC n9 ?_;(try clear n9);intro Az ar8 _;obtain⟨o,BN,e,⟨hc,hn,_⟩,_⟩:=ar8;rotate_left;refine AC nA ?_;(try clear nA);intro Az ar9 _;obtain⟨o,BN,e,⟨hc,hn,_⟩,_⟩:=ar9;rotate_left)<;>exact⟨o,e,hc,hn⟩
theorem nB(AG:Cx B A3 Kf)(T:Wu Kf):kr B A3:=λ{F K A H C s v u m kd}g r h pl A2 E k=>by
 have fin:∀{b:AK}{x:MK}{P:Prop},bT b L (G x)=G kd->(b=M->x=kd->P)->P:=λh c=>Ce h AF λq h=>c q (Bm h);have sk:∀{J:Type}{o:AD J}{P:Prop},o.isSome=M->(∀x,o=G x->P)->P:=λ{J o P}h c=>by cases o with
 |none=>exact(B0 h).elim|some x=>exact c x rfl
 revert r;apply O0 h
 . intro x h r;refine fin h λq e=>sk q λk' hk=>?_;subst e;refine xE r ?_;(try clear r);intro t Aw;subst Aw;exact ar4 hk (k _ _ s g (Nx.refl ..) ⟨rfl,rfl⟩)
 intro h;apply Zl h
 . intro w h r;cases r;apply Sb h AF;intro t h;refine fin h λq e=>?_;subst e;apply IM (B1 q);apply aN (Ak q);exact ar6 T (g.AV AG) λtk=>k _ _ _ (g.tok tk) (Nx.refl ..) ⟨rfl,rfl⟩
 intro h;apply EI h AF;intro i h r;refine BI h λo hi h=>?_;revert hi;apply K0 h
 . intro Y h hi;refine fin h λq e=>sk q λk' hk=>?_;subst e;refine Bv (g.listAt r hi) ?_;intro a us B6 p _;subst B6;exact n8 hk p (k _ _ s g (Nx.refl ..) ⟨rfl,rfl⟩)
 intro h;apply jk h
 . intro n Y h hi;refine fin h λq e=>sk q λk' hk=>?_;subst e;refine Bv (g.lx r hi) ?_;intro a us BJ p _;subst BJ;exact n8 hk p (k _ _ s g (Nx.refl ..) ⟨rfl,rfl⟩)
 intro h;apply Sd h
 . intro N h hi;refine fin h λq e=>sk q λk' hk=>?_;subst e;refine AC r ?_;(try clear r);intro a ha BP;subst BP;have ro:=g.obj hi ha;refine CZ (ar7 ro) ?_;intro o ho hc hn;exact ar5 hk ho hc hn (k _ _ s g (Nx.refl ..) ⟨rfl,rfl⟩)
 intro h;apply jj h AF;intro c d h hi;refine Ce h AF λhc h=>BI h λo hd h=>?_;revert hd;apply Zo h AF;intro N h hd;cases hm:Ah N m with
 |some _=>rw[hm]at h;exact(AF h).elim|none=>
   rw[hm]at h;refine BI h λa ha h=>?_;injection h with h;subst h;exact(zh AG g (CD hc▸hi) hd hm ha r pl).here (k _ _ s g (Nx.refl ..) ⟨rfl,rfl⟩)
theorem CW.B'{vs:BW A4}(e:h.get? a=G {cls:=.type "builtin_function_or_method",data:=.fields vs}):CW Av h (.ref a):=⟨.machine,.inr (.inl rfl),(Kj (part:=L) e).andThen .now⟩
theorem CW.cls{oc:A4}{od:AD A8}{cd:ClassData}{sl:BW (AD A4)}(e:h.get? a=G ⟨oc,od,.cls cd,sl⟩)(c:Gk Av h (Nd (.ref a) "__call__") (G (.builtin "type.__call__"))):CW Av h (.ref a):=⟨.machine,.inr (.inl rfl),(Kj (part:=L) e).andThen (c.andThen .now)⟩
open PyProof.Rows(IntsAre)in
theorem Wv(hv:JJ v=M)(r:VR h C v u):∃x y z l us n o,v=.tup (G 135) [.int x,.int y,.int z]/\u=.ref l/\h.get? l=G o/\C2 o=M/\o.cls=.ref 135/\o.data=.seq us n/\Pj us.toList [x,y,z]/\us.size=3:=by
 revert r;apply IR hv B0;intro o l hv;apply Np hv B0;intro c hv;apply FT hv B0;intro a l hv;apply FT hv B0;intro b l hv;apply Cs hv B0;intro d hv;apply Cu hv B0;intro x hv;apply Cu hv B0;intro y hv;apply Cu hv B0;intro z _ r;refine Ku r ?_;(try clear r);intro a o us n Bq e tg EK hd vr;subst Bq;have hc:c=135:=by simpa[W2]using tg.1
 subst hc;refine Yw vr ?_;(try clear vr);intro _ _ h1 Bg _ _ Bu C9 _ _ Ck D8 DX;refine xE Bg ?_;(try clear Bg);intro t1 as0;subst as0;subst Bu;refine xE C9 ?_;(try clear C9);intro t2 as1;subst as1;subst Ck;refine xE D8 ?_;(try clear D8);intro bY6 as2;subst as2;subst DX;refine⟨x,y,z,a,us,n,o,rfl,rfl,e,by unfold C2;rw[EK,hd];rfl,EK,hd,?_,?_⟩;. rw[h1];exact .cons _ _ (.cons _ _ (.cons _ _ .nil))
 . have :=congrArg Rq h1;simpa using this
theorem as3:Rn "tuple.__len__"=G .slot:=by decide+kernel
theorem as4:gK "tuple.__len__"=G ("tuple","__len__"):=by decide+kernel
theorem as5:YJ "tuple.__len__"=M:=by decide+kernel
theorem as6(l:A8)(c1:A4)(d1:AD A8)(LM:BW (AD A4))(Cb:BW A4)(n:O):VC (EB.«tuple.__len__» ⟨[.ref l],[]⟩) (λ_ AS s=>s.heap.get? l=G ⟨c1,d1,.seq Cb n,LM⟩/\AS (.ok (.ret (V9 (Cb.size:AX) s.toks))) {s with heap:=s.heap,toks:=s.toks+1}):=.of_wp λprog w A AS s h=>by obtain⟨hp,g,d,tk,os⟩:=s;refine xA h ?_;(try clear h);intro hl h;wp_walk using YZ hl;exact⟨_,rfl,h⟩
theorem as7(An:H_ B A3 Kf)(AV:Kf.In s.heap)(hv:JJ v=M)(g:Gd B F K A H C s)(ru:VR s.heap C v u):Ae B F K A H C s (CE (.builtin "len") [u]) (RV (.int 3)):=by
 intro A2 E kk;refine VV (Wv hv ru) ?_;intro x y z l us n o Ed FE e io hc hd i1 s1;subst Ed;subst FE;rw[<-An.at_]at hc;have tT:Gk (AQ B.prog B.w) s.heap (Hh (.ref l)) (.ref A3.Bp):=(Kj (part:=L) e).andThen (by rw[hc];exact .now);have sT:Gk (AQ B.prog B.w) s.heap (Nd (.ref l) "__len__") (G (.builtin "tuple.__len__")):=tT.andThen (Nb AV An.len);obtain⟨c1,d1,da1,LM⟩:=o;simp only at hd hc;subst hd;have Wm:((3:O):AX)<2^63:=by decide
 refine call_function_entry kind_len plain_len entry_len (args_len1 _) ?_;unfold EB.«len»;refine A5 (m:=oneArg "len" _) (AW ?_);refine A5 (m:=tj (.ref l) (Ev "__len__")) ?_;skip;refine A5 (sT.here ?_);skip;refine C0 (A5 (AW (A5 (Fg (Q:=λr s'=>r=.int 3 s.toks/\s'={s with toks:=s.toks+1}) ?_ (λr s' q=>?_) λ_ _ e=>e))))
 . refine HQ (Lx as5 PySem.F.entry_tuple_len ?_);refine YI (i:="tuple.__len__") (owner:="tuple") (n:="__len__") (self:=.ref l) (rest:=[]) (kw:=[]) as3 as4 (tT.andThen (V3 AV An.tup)) (PySem.F.args_tuple_len_1 _) ?_;refine as6 l c1 d1 LM us n B.prog B.w _ (Ya (λv s'=>v=.int 3 s.toks/\s'={s with toks:=s.toks+1}) E) s ⟨e,?_,rfl⟩;rw[s1];rfl
 . refine xA q ?_;(try clear q);intro GC HE;subst GC;subst HE;refine AW ?_;show AH _ _ _ _ _ {s with toks:=s.toks+1};refine A5 (C0 (AW ?_));refine A5 (Ph ?_);show AH _ _ (if((3:O):AX)<0 then _ else _) _ _ _;rw[CS (by omega)];show AH _ _ (if((3:O):AX)>=2^63 then _ else _) _ _ _;skip;exact A5 (wpAny_mkInt (AW ⟨_,rfl,kk _ C _ (g.tok _) (Nx.refl ..) ⟨_,rfl⟩⟩))
theorem as8(An:H_ B A3 Kf)(AV:Kf.In s.heap){id:D9}(g:Gd B F K A H C s)(rs:Aa s.heap C args us)(h:aA id args H=.ok (.v v) A7):Ae B F K A A7 C s (CE (.builtin id) us) (RV v):=by
 revert rs;refine Fi h (λe h=>?_) λh=>?_
 . subst e;apply Cs h Ac;intro v' h rs;apply MR rs;intro u r;by_cases hm:JJ v'=M
   . refine Eb h (λ_ h=>?_) λq _=>Un (hm.symm.trans q);apply B5 h;exact as7 An AV hm g r
   . exact an1 (by simpa using hm) g r h
 refine Fi h (λe h=>?_) λh=>?_
 . subst e;apply FT h Ac;intro a l h;apply Cs h Ac;intro b h;apply Cu h Ac;intro a h;apply Cu h Ac;intro b h rs;apply B5 h;apply T4 rs;intro u u' r r';exact an2 g r r'
 refine Fi h (λe h=>?_) λh=>?_
 . subst e;apply Cs h Ac;intro v' h rs;apply MR rs;intro u r;exact ap2 g r h
 refine Fi h (λe h=>?_) λh=>?_
 . subst e;apply Cs h Ac;intro v' h;apply EI h Ac;intro i h rs;apply MR rs;intro u r;exact aq7 g r h
 refine Fi h (λe h=>?_) λh=>?_
 . subst e;apply FT h Ac;intro v' l h;apply Cs h Ac;intro b h;apply O1 h Ac;intro b h;apply Sb h Ac;intro t h rs;apply T4 rs;intro u u' r r';cases r';exact an4 g r h
 refine Fi h (λe h=>?_) λh=>(Ac h).elim;subst e;apply FT h Ac;intro t l h;apply Cs h Ac;intro p h;apply O1 h Ac;intro t h;apply Sb h Ac;intro t h;apply IR h Ac;intro o l h;apply GQ h Ac;intro h;apply FT h Ac;intro a l h;apply Cs h Ac;intro b h;apply O1 h Ac;intro a h;apply Sb h Ac;intro a h;apply O1 h Ac;intro b h;apply Sb h Ac;intro b h rs;refine Ce h Ac λq h=>?_;apply B5 h;revert rs;apply IM (B1 q);apply IM (B1 (Ak q));apply IM (Ak (Ak q));intro rs;exact an5 g rs
inductive LP(A3:Mine.Ctx)(K:Kx)(n:O)(f:V)(args:I V)(H:Mine.St)(o:A0):Prop where|c6(id:D9):f=.top (.builtin id)->aA id args H=o->LP A3 K n f args H o|typ(t:D9):f=.top (.type t)->aB t args H=o->LP A3 K n f args H o|c7(i:O)(x:Tx):f=.B' 0 i->args=[.str x]->AL H.h i=G .HU->o=.ok (.v (.bool A6)) H->LP A3 K n f args H o|get(i:O):f=.B' 1 i->A0.F1 H.h (.ref i) (λi N=>O8 i N .get args H)=o->LP A3 K n f args H o|sm(d:O)(fn:Fn)(AB:Mine.St):f=.top (.ref A3.Dl)->K.d=d+1->A3.fn A3.QA=G fn->JK ⟨K.sc,d⟩ (ev A3 n) fn (.ref (H.n+1)::args) ⟨H.env,(H.n+1,.inst A3.Dl H.n)::(H.n,.EY [])::H.h,H.n+2⟩=.ok (.v .none) AB->o=.ok (.v (.ref (H.n+1))) AB->LP A3 K n f args H o|Gs(x y:V)(i j:O)(Y ys:I V)(tx ty:I Tx):A3.Vn=M->(!BC i j&&CH Y&&CH ys&&G1 0 K.d)=M->f=.top (.ref A3.Gs)->args=[x,y]->x=.ref i->y=.ref j->AL H.h i=G (.list Y)->AL H.h j=G (.list ys)->HV Y=G tx->HV ys=G ty->o=.ok (.v (.tup L [.ref H.n,.ref (H.n+1)])) ((H.new (.list ((D4 (tx.length+ty.length) tx ty).1.map V.str))).2.new (.list ((D4 (tx.length+ty.length) tx ty).2.map V.str))).2->LP A3 K n f args H o|c8(d:O)(fn:Fn)(AB:Mine.St)(a b c:V)(Y:I V):f=.top (.ref A3.Bp)->K.d=d+1->A3.fn A3.Sl=G fn->args=[a,b,c]->JK ⟨K.sc,d⟩ (ev A3 n) fn (.top (.ref A3.Bp)::args) H=.ok (.v (.tup (G A3.Bp) Y)) AB->o=.ok (.v (.tup (G A3.Bp) Y)) AB->LP A3 K n f args H o|fn(a:A8)(fn:Fn):f=.top (.ref a)->A3.fn a=G fn->JK K (ev A3 n) fn args H=o->LP A3 K n f args H o
theorem nC{f:V}{r:AS}(h:kE A3 K (ev A3 n) f args H=.ok r A7):LP A3 K n f args H (.ok r A7):=by
 apply Zl h
 . intro w h;apply xH h;. intro id h;exact .c6 _ rfl h
   intro h;apply jg h;. intro t h;exact .typ _ rfl h
   intro h;apply Q1 h Ac;intro a h;refine No h (λha h=>?_) λh=>No h (λha h=>?_) λh=>No h (λha h=>?_) λh=>?_
   . revert h;have :=CD ha;subst this;intro h;refine Yv h Ac λd hd h=>A0.Cg h λv AB AP h=>?_;revert AP;apply Q0 h Ac;intro h AP;refine A0.Bx AP ?_;clear AP;intro fn hf AP;exact .sm d fn AB rfl hd hf AP h.symm
   . revert h;have :=CD (B1 ha);subst this;intro h;apply Ho h Ac;intro x y h;apply A0.MW h;intro i Y hi h;apply A0.MW h;intro j ys hj h;refine A0.Be h λCc h=>A0.Bx h λtx Ql h=>A0.Bx h λty Tq h=>?_;exact .Gs _ _ i j Y ys tx ty (Ak ha) Cc rfl rfl rfl rfl hi hj Ql Tq h.symm
   . revert h;have :=CD ha;subst this;intro h;refine Yv h Ac λd hd h=>A0.Cg h λv AB AP h=>?_;refine A0.Bx AP ?_;clear AP;intro fn hf AP;have BD:=AP;revert BD;apply IR h Ac;intro o Y h;cases o with
 |none=>exact(Ac h).elim|some c=>
     have q:∃a b e,args=[a,b,e]/\A0.iff (BC c A3.Bp) (.ok (.v (.tup (G c) Y)) AB)=.ok r A7:=by
      apply FT h Ac;intro a l h;apply Ho h Ac;intro b e h;exact⟨a,b,e,rfl,h⟩
     intro BD;refine Hq q ?_;(try clear q);intro a b e as9 h;refine A0.Be h λhc h=>?_;revert h;have :=CD hc;subst this;intro h;exact .c8 d fn AB _ _ _ Y rfl hd hf as9 BD h.symm
   . refine A0.Bx h ?_;clear h;intro fn hf h;exact .fn a fn rfl hf h
 intro h;apply xB h Ac;intro k i h;refine Fi h (λe h=>?_) λh=>Fi h (λe h=>?_) λh=>(Ac h).elim
 . revert h;subst e;intro h;have q:∃x,args=[.str x]/\A0.of (AL H.h i) (λo=>Q2 o .bad (.ok (.v (.bool A6)) H))=.ok r A7:=by
     apply Cs h Ac;intro v h;apply Dd h Ac;intro x h;exact⟨x,rfl,h⟩
   refine AC q ?_;(try clear q);intro x ha h;refine A0.Bx h λo hi h=>?_;revert hi;apply xL h Ac;intro h hi;exact .c7 i x rfl ha hi h.symm
 . revert h;subst e;intro h;exact .get _ rfl h
noncomputable def Ts(B:Bs)(A3:Mine.Ctx):Prop:=A3.Vn=M->∀{F:Fm}{K:Kx}{A:CK}{H:Mine.St}{C:I A8}{s:AR}{i j:O}{tx ty:I Tx}{u u':A4},Gd B F K A H C s->i≠j->CH tx=M->CH ty=M->0<K.d->AL H.h i=G (.list (tx.map .str))->AL H.h j=G (.list (ty.map .str))->VR s.heap C (.ref i) u->VR s.heap C (.ref j) u'->Ae B F K A ((H.new (.list ((D4 (tx.length+ty.length) tx ty).1.map V.str))).2.new (.list ((D4 (tx.length+ty.length) tx ty).2.map V.str))).2 C s (CE (.ref A3.Gs) [u,u']) (RV (.tup L [.ref H.n,.ref (H.n+1)]))
theorem at0(AG:Cx B A3 Kf)(An:H_ B A3 Kf)(Cv:To B A3){f:V}(h:step A3 K (ev A3 n) (.call f args) H=.ok (.v v) A7)(g:Gd B F K A H C s)(r:VR s.heap C f fu):CW (AQ B.prog B.w) s.heap fu:=by
 have AV:=g.AV AG;have nE:∀{a o fd},B.base.get? a=G o->o.data=.func fd->CW (AQ B.prog B.w) s.heap (.ref a):=λe d=>CW.func (g.base _ _ e) d;cases nC h with
 |c6 id e=>subst e;cases r;exact CW.builtin|typ t e=>subst e;cases r;exact CW.type|c7 i x e=>subst e;refine Bv r ?_;(try clear r);intro a d Hw _ e;subst Hw;exact CW.B' e|get i e=>subst e;refine Bv r ?_;(try clear r);intro a d L5 _ e;subst L5;exact CW.B' e|sm d fn AB e=>
  subst e;cases r;have mk:=makes_of (M:=AQ B.prog B.w) AV AG.makes;refine Jx mk.obj ?_;intro oc od cd sl e _;exact CW.cls e mk.call|Gs x y i j Y ys tx ty _ _ e=>subst e;cases r;refine EX Cv.Gs ?_;intro o fd e d;exact nE e d|c8 d fn AB a b c Y e=>
  subst e;cases r;refine Jx An.cls ?_;intro oc od cd sl hC _;exact CW.cls (AV _ _ hC) (bx6 AV An.call)|fn a fn e hf=>subst e;cases r;refine DB (Cv.fn a fn hf) ?_;intro o fd ok;exact nE ok.get ok.data
theorem at1(AG:Cx B A3 Kf)(An:H_ B A3 Kf)(Cv:To B A3)(AM:Ts B A3)(A9:C5 B A3 n){f:V}(h:step A3 K (ev A3 n) (.call f args) H=.ok (.v v) A7)(g:Gd B F K A H C s)(r:VR s.heap C f fu)(rs:Aa s.heap C args us):Ae B F K A A7 C s (CE fu us) (RV v):=by cases nC h with
 |c6 id e h2=>subst e;cases r;exact as8 An (g.AV AG) g rs h2|typ t e h2=>subst e;cases r;exact am2 g rs h2|c7 i x e ea hi h2=>subst e;subst ea;refine xA (FG h2) ?_;intro q L6;subst L6;injection q with q;subst q;exact ai2 g r rs hi|get i e h2=>subst e;exact ai4 g r rs h2|sm d fn AB e hd hf AP h2=>
  subst e;cases r;refine xA (FG h2) ?_;intro q TY;subst TY;injection q with q;subst q;refine DB (Cv.fn _ _ hf) ?_;intro o fd ok;exact zn AG A9 g rs hd ok AP|Gs x y i j Y ys tx ty hon Cc e ea ex ey hi hj Ql Tq h2=>
  subst e;subst ea;subst ex;subst ey;cases r;refine xA (FG h2) ?_;intro q TZ;subst TZ;injection q with q;subst q;refine SA rs ?_;(try clear rs);intro u _ T_ r u' _ bQ r' e;subst T_;subst bQ;cases e;simp only[D6,PU]at Cc;refine xA Cc ?_;(try clear Cc);intro QZ h3;refine xA QZ ?_;(try clear QZ);intro at2 h2;obtain⟨Cc,h1⟩:=at2;rw[OS Ql]at hi h1;rw[OS Tq]at hj h2;unfold CH at h1 h2;rw[Jo]at h1 h2;exact AM hon g (λz=>by rw[z,J2]at Cc;(exfalso;cases Cc)) h1 h2 (Dk h3) hi hj r r'|c8 d fn AB a b c Y e hd hf ea AP h2=>
  subst e;subst ea;cases r;refine xA (FG h2) ?_;intro q Ta;subst Ta;injection q with q;subst q;refine DB (Cv.fn _ _ hf) ?_;intro o fd ok;exact zt An AG.AV A9 g rs hd ok AP|fn a fn e hf h2=>subst e;cases r;refine DB (Cv.fn a fn hf) ?_;intro o fd ok;exact ko A9 ok h2 g rs
noncomputable def nF(B:Bs)(A3:Mine.Ctx):Prop:=∀{F:Fm}{K:Kx}{A:CK}{H:Mine.St}{C:I A8}{s:AR}{i:O}{Y l:I V}{u:A4},Gd B F K A H C s->AL H.h i=G (.list Y)->VR s.heap C (.ref i) u->Y.all JJ=M->aD Y=G l->Ae B F K A (H.set i (.list l)) C s (CE (.builtin "list.sort") [u]) (RV .none)
theorem at3(Cv:To B A3)(Sc:TG B A3 n){kd:MK}{o:V}{m:U}(h:step A3 K (ev A3 n) (.HW kd o m args) H=.ok (.v v) A7)(g:Gd B F K A H C s)(mv:MV kd m u fv first):CW (AQ B.prog B.w) s.heap fv:=by cases kd with
 |str=>rw[mv.1];exact CW.builtin|lst=>rw[mv.1];exact CW.builtin|F1=>rw[mv.1];exact CW.builtin|tup=>rw[mv.1];exact CW.builtin|fn a=>rw[mv.1];exact Sc.M_ (f:=.top (.ref a)) h g rfl
theorem at4(An:H_ B A3 Kf)(AV:Kf.In B.base)(AM:nF B A3)(A9:C5 B A3 n){kd:MK}{o:V}{m:U}(h:step A3 K (ev A3 n) (.HW kd o m args) H=.ok (.v v) A7)(g:Gd B F K A H C s)(mv:MV kd m u fv first)(r:VR s.heap C o u)(rs:Aa s.heap C args us):Ae B F K A A7 C s (CE fv (first++us)) (RV v):=by
 change kF A3 K (ev A3 n) kd o m args H=.ok (.v v) A7 at h;revert r rs;cases kd with
 |str=>
  refine xA mv ?_;(try clear mv);intro Tb bR;subst Tb;subst bR;apply Dd h Ac;intro x h r rs;refine A0.Bx h λk hk h=>?_;exact am1 g hk r rs h|lst=>
  refine xA mv ?_;(try clear mv);intro at5 at6;subst at5;subst at6;apply EI h Ac;intro i h r;refine A0.Bx h λob hi h=>A0.Bx h λk hk h=>?_;rw[aq8 hk];revert hi;apply K0 h
  . intro Y h hi;clear hk;cases k with
 |append=>
     apply Cs h Ac;intro v h rs;refine A0.Be h λhf h=>?_;apply B5 h;apply MR rs;intro u r';exact an7 g hi r r' hf|pop=>
     apply EW h Ac;intro h rs;refine A0.Be h λhf h=>A0.Bx h λx hx h=>?_;apply B5 h;apply aJ rs;exact ao1 g hi r hf hx|sort=>
     apply EW h Ac;intro h rs;refine A0.Be h λhf h=>A0.Bx h λl hl h=>?_;apply B5 h;apply aJ rs;exact AM g hi r hf hl
  intro h;apply jl h Ac;intro n' Y h hi;clear hk;cases k with
  |append=>
    apply Cs h Ac;intro v h rs;refine Yv h Ac λn e h=>A0.Bx h λl hl h=>?_;revert h;subst e;intro h;apply B5 h;apply MR rs;intro u r';exact an8 g hi r r' (m5 hl)|pop=>exact(Ac h).elim|sort=>exact(Ac h).elim
 |F1=>
  refine xA mv ?_;(try clear mv);intro at7 at8;subst at7;subst at8;apply EI h Ac;intro i h r;refine A0.Bx h λk hk h=>?_;refine A0.OE h ?_;clear h;intro N hi h;rw[aq9 hk];clear hk;have q:∃a b,args=[a,b]:=by apply Ho h Ac;intro a b _;exact⟨a,b,rfl⟩
  refine DB q ?_;(try clear q);intro a b at9;subst at9;intro rs;apply T4 rs;intro u' u'' r' nG;cases k with
  |Sq=>exact ao5 g hi r r' nG h|get=>exact ao6 g hi r r' nG h
 |fn a=>
  refine xA mv ?_;(try clear mv);intro au0 au1;subst au0;subst au1;intro r rs;exact A9.call (f:=.top (.ref a)) h g rfl ⟨_,_,rfl,r,rs⟩|tup=>
  refine xA mv ?_;(try clear mv);intro au2 au3;subst au2;subst au3;apply Ho h Ac;intro a b h;apply O1 h Ac;intro w h;apply Q1 h Ac;intro c h;apply IR h Ac;intro o' Y h;cases o' with
 |some _=>exact(Ac h).elim|none=>
  refine A0.Be h λhc h=>?_;have :=CD (B1 hc);subst this;apply B5 h;intro r rs;apply T4 rs;intro u' u'' q r';cases q;exact zq An AV g r' (Ak hc)
end
section
open PyProof.Rows
noncomputable def c9(prog:Hf)(w:EC)(A:CK)(s:AR)(x y:A4)(b:AK):Prop:=∀(E:A4->AR->Prop)(AS:AK->AR->Prop),AS b s->AH (AQ prog w) A (oneLt' M x y) AS E s
theorem au4{lt:O->O->AD AK}{cmp:O->O->(AK->AR->Prop)->AR->Prop}(hc:∀i j b,lt i j=G b->∀A3:AK->AR->Prop,A3 b s->cmp i j A3 s){A2:J->AR->Prop}{t:KasT J}{a:J}:aC lt t=G a->A2 a s->t.kasWp cmp A2 s:=by induction t with
 |ret x=>intro h q;exact Bm h▸q|ask i j k ih=>exactλh q=>AC (bF5.mp h) λb e h=>hc i j b e _ (ih b h q)
noncomputable abbrev st(l:I A4):Yb:=bF6 oneType' (l.toArray.zip l.toArray) #[] 7 L
noncomputable def Ww(out:I A4)(b:Yb):Prop:=(arrOf b).map (·.2)=out.toArray/\failedOf b=L
theorem au5{vs:I A4}{lt:O->O->AD AK}{p:BW O}(h2:2<=vs.length)(JU:vs.length<64)(e:aC lt (kas_sort vs.length)=G p)(hc:∀i j b,lt i j=G b->c9 prog w A s (vs.getD i .none) (vs.getD j .none) b){A2:DM×Yb->AR->Prop}(h:∀b,Ww (p.toList.map λi=>vs.getD i .none) b->A2 ((),b) s):AH (AQ prog w) A ((uY).run (st vs)) A2 E s:=kat_run (Q:=λb s'=>A2 ((),b) s') (G:=λq s'=>p=q/\s'=s) (ks:=vs) rfl h2 JU (λq b s' _ ha hf g=>by refine xA g ?_;intro g1 g2;subst g1;subst g2;exact h b ⟨kat_snds rfl ha,hf⟩) (au4 (λi j b e A3 hC=>hc i j b e _ A3 hC) e ⟨rfl,rfl⟩)
theorem au6{c:Prop}[si c]{x y:Dz J}{f:J->Dz EH}{AS:J->Prop}{A2:EH->AR->Prop}(h1:c->∀Q':J->AR->Prop,(∀a,AS a->Q' a s)->AH Av A x Q' E s)(h2:¬c->∀Q':J->AR->Prop,(∀a,AS a->Q' a s)->AH Av A y Q' E s)(k:∀a,AS a->AH Av A (f a) A2 E s):AH Av A (if c then x>>=f else y>>=f) A2 E s:=if h:c then(DA h).symm▸A5 (h1 h _ k)else(CS h).symm▸A5 (h2 h _ k)
noncomputable def Tt(h:BK)(a:A8)(vs:I A4):BK:=((h.update a (GN λ_=>#[])).push (Yc "tuple" vs.toArray 0)).push (Yc "list" #[] 0)
theorem au7{vs out:I A4}{P:Fin->AR->Prop}(ho:s.heap.get? a=G (Yc "list" vs.toArray n))(JU:vs.length<64)(cA:out.length<64)(cB:vs.length<2->out=vs)(hr:∀s':AR,(∀b o,b≠a->s.heap.get? b=G o->s'.heap.get? b=G o)->2<=vs.length->(∀(E:A4->AR->Prop)(A2:SortKind->AR->Prop),A2 oneType' s'->AH (AQ prog w) A (keyKind' vs.toArray) A2 E s')/\∀(E:A4->AR->Prop)(A2:DM×Yb->AR->Prop),(∀b,Ww out b->A2 ((),b) s')->AH (AQ prog w) A ((uY).run (st vs)) A2 E s')(h:P (.done (.ret .none)) {s with heap:=sortedHeap s.heap a vs out.toArray}):AH (AQ prog w) A (EB.«list.sort» ⟨[.ref a],[]⟩) P E s:=by
 rw[list_sort_plain];have ha:a<s.heap.objs.size:=Dh ho;have hz:out.length<=FA:=B4 (Gj cA) (by decide);refine xE (show∃e1,(s.heap.update a (GN λ_=>#[])).get? a=G (Yc "list" #[] e1)from⟨_,get?_update_seq ho (λ_=>#[])⟩) ?_;intro e1 Tu;have nH:(Tt s.heap a vs).get? a=G (Yc "list" #[] e1):=C1 _ (C1 _ Tu);have hv:vs.toArray.size<=FA:=B4 (Gj JU) (show 64<=FA by decide);refine A5 (listItems_at ho rfl (A5 (bF7 ho rfl (A5 (seqEpoch_at Tu rfl (A5 (gm (A5 (uR (C0 ?_) (Ni _))) hv)))) hv (Ni _))));have kp:=hr {s with heap:=Tt s.heap a vs} λb o hb e=>C1 _ (C1 _ ((GO _ _ (CX hb)).trans e));refine au6 (s:={s with heap:=Tt s.heap a vs}) (AS:=λkind=>∀A2:DM×Yb->AR->Prop,(∀b,Ww out b->A2 ((),b) {s with heap:=Tt s.heap a vs})->AH (AQ prog w) A ((if vs.toArray.size<2 then pure ()else uY).run (bF6 kind (vs.toArray.zip vs.toArray) #[] 7 L)) A2 E {s with heap:=Tt s.heap a vs}) (λh2 Q' k=>?_) (λh2 Q' k=>?_) (λkind q=>A5 (q _ λb hb=>?_))
 . rw[DA h2]at k;exact AW (k _ λA2 k=>AW (k _ ⟨by rw[cB h2];exact Array.map_snd_zip (DF _),rfl⟩))
 . rw[CS h2]at k;have k2:=kp (fQ h2);exact k2.1 _ _ (k _ (k2.2 _))
 . refine A5 (seqEpoch_at nH rfl (A5 (bF7 nH rfl ?_ (Ni _) (by rw[hb.1];exact gw hz))));rw[hb.1,hb.2,YC];exact AW h
end
theorem un1{u k:O}(h:u+10*k<9000):u+1<IK:=by unfold IK;(with_reducible exact Mine.yU (by assumption) (by decide))
theorem au8:Rn "tuple.__lt__"=G .slot:=by decide+kernel
theorem au9:gK "tuple.__lt__"=G ("tuple","__lt__"):=by decide+kernel
theorem av0:YJ "tuple.__lt__"=M:=by decide+kernel
open PyProof.Rows(IntsAre oneLt' oneLt'_eq keyKind' keyKind'_eq oneTypeOnly'_eq firstOfTuple' oneType' seqObj)
section
theorem av1(An:H_ B A3 Kf)(CF:Go Kf (.ref A3.Bp) "__lt__"=G (G (.builtin "tuple.__lt__")))(AV:Kf.In s.heap)(hu:A.units<IK)(hv:JJ v=M)(Bh:JJ v'=M)(r:VR h C v u)(r':VR h C v' u')(q:Sh v v'=G b)(k:∀c o,h.get? c=G o->C2 o=M->s.heap.get? c=G o):c9 B.prog B.w A s u u' b:=by
 refine VV (Wv hv r) ?_;intro x y z l us n o Aw B6 e io hc hd i1 s1;subst Aw;subst B6;refine VV (Wv Bh r') ?_;intro x' y' z' l' Dy n' o' BJ BP e' io' GD GX i2 s2;subst BJ;subst BP;rw[mc]at q;injection q with q;subst q;have e:=k _ _ e io;have e':=k _ _ e' io';rw[<-An.at_]at hc GD;have tT:Gk (AQ B.prog B.w) s.heap (Hh (.ref l)) (.ref A3.Bp):=(Kj (part:=L) e).andThen (by rw[hc];exact .now);have tT':Gk (AQ B.prog B.w) s.heap (Hh (.ref l')) (.ref A3.Bp):=(Kj (part:=L) e').andThen (by rw[GD];exact .now);have sT:Gk (AQ B.prog B.w) s.heap (Nd (.ref l) "__lt__") (G (.builtin "tuple.__lt__")):=tT.andThen (Nb AV CF);intro E AS hR;have bI:AH (AQ B.prog B.w) A (call (.builtin "tuple.__lt__") [.ref l,.ref l']) (λv s'=>v=.bool (JF [x,y,z] [x',y',z'])/\s'=s) E s:=by
  refine HQ (Lx av0 PySem.F.entry_tuple_lt ?_);refine YI (i:="tuple.__lt__") (owner:="tuple") (n:="__lt__") (self:=.ref l) (rest:=[.ref l']) (kw:=[]) au8 au9 (tT.andThen (V3 AV An.tup)) (PySem.F.args_tuple_lt_2 _ _) ?_;obtain⟨c1,d1,da1,LM⟩:=o;obtain⟨c2,d2,da2,Ti⟩:=o';simp only at hd GX hc GD;subst hd GX;refine ao7 l l' c1 c2 d1 d2 LM Ti us Dy n n' _ _ i1 i2 (s1.trans s2.symm) B.prog B.w A (Ya (λv s'=>v=.bool (JF [x,y,z] [x',y',z'])/\s'=s) E) s ⟨e,e',?_,⟨rfl,rfl⟩⟩;intro prog w A' A2 E hq;have bO8:=AV;have t2:Gk (AQ prog w) s.heap (Hh (.ref l')) (.ref A3.Bp):=(Kj (part:=L) e').andThen (by rw[GD];exact .now);exact(show Gk (AQ prog w) s.heap (V5 (.ref l') (.type "tuple")) M from t2.andThen (V3 AV An.tup)).here hq
 rw[oneLt'_eq];skip;refine A5 (wpAny_cRoomFor hu ?_);refine A5 ?_;simp only[callSpecialIfBound?,by0];refine C0 (A5 (A5 (sT.here ?_)));skip;have fin:AH (AQ B.prog B.w) A (call (.builtin "tuple.__lt__") ([.ref l]++[.ref l'])>>=λv=>pure (G v)) (λa s'=>AH (AQ B.prog B.w) A (match a with|some .notImplemented|none=>(YO "list.sort.lt-declined">>=λ_=>uK .Lt (.ref l) (.ref l')>>=λr=>bF8 r:Dz AK)|some r=>bF8 r) AS E s') E s:=by
  refine A5 (Fg bI (λv s' hv=>?_) λ_ _ e=>e);refine xA hv ?_;(try clear hv);intro Bq Bg;subst Bq;subst Bg;exact AW (NV hR)
 refine A5 (Rd (g8 ?_));split;. exact A5 (AW (AW fin))
 . exact Pc (A5 (AW (AW fin)))
theorem Aa.at(r:Aa h C Y us):∀i,VR h C (Y.getD i .none) (us.getD i .none):=Aa.ind (P:=λY us=>∀i,VR h C (Y.getD i .none) (us.getD i .none)) (λ_=>rfl) (λ_ _ _ _ a _ ih i=>RT a (λn _=>ih n) i) r
theorem Aa.av2{f:O->V}{g:O->A4}(k:∀i,VR h C (f i) (g i)){l:I O}:Aa h C (l.map f) (l.map g):=by induction l with
 |nil=>exact rfl|cons i l ih=>exact .cons (k i) ih
theorem av3{l:I V}(hs:aD Y=G l)(r:Aa h C Y us):∃out:I A4,Aa h C l out/\out.length<64/\us.length<64/\(us.length<2->out=us)/\∀(prog:Hf)(w:EC)(A:CK)(s':AR),(∀i j b,k5 Y i j=G b->c9 prog w A s' (us.getD i .none) (us.getD j .none) b)->2<=us.length->∀(E:A4->AR->Prop)(A2:DM×bU5->AR->Prop),(∀b,Ww out b->A2 ((),b) s')->AH (AQ prog w) A ((bU6).run (st us)) A2 E s':=by
 apply Ce hs AF;intro JU hs;rw[r.length]at JU hs;apply Eb hs
 . intro h2 e;exact Bm e▸⟨us,r,Rx.mp JU,Rx.mp JU,λ_=>rfl,λ_ _ _ _ _ z=>absurd (Rx.mp h2) (Us.mpr z)⟩
 . intro h2 hs;apply BI hs;intro p e hs;apply Ce hs AF;intro hp e';exact Bm e'▸⟨p.toList.map λi=>us.getD i .none,.av2 r.at,by rw[Jo];exact Rx.mp hp,Rx.mp JU,λz=>absurd (Rx.mpr z) (h2▸nofun),λ_ _ _ _ c h2 _ _ k=>au5 h2 (Rx.mp JU) e c k⟩
theorem av4(r:Aa h C Y us):u∈us->∃v∈Y,VR h C v u:=Aa.ind (P:=λY us=>u∈us->∃v∈Y,VR h C v u) (λm=>nomatch m) (λv _ _ _ a _ ih m=>(Cj.mp m).elim (λe=>⟨v,Co,e▸a⟩) λm=>AC (ih m) λv' m' r'=>⟨v',Cp _ m',r'⟩) r
theorem av5(AG:Cx B A3 Kf)(An:H_ B A3 Kf)(CF:Go Kf (.ref A3.Bp) "__lt__"=G (G (.builtin "tuple.__lt__"))):nF B A3:=λ{F K A H C s i Y l u}g hi r OJ hs A2 E kk=>by
 refine AC r ?_;(try clear r);intro a ha FE;subst FE;refine AC (g.obj hi ha) ?_;intro us GC vr;refine xE GC ?_;(try clear GC);intro m ho;have AV:=g.AV AG;refine S9 (av3 hs vr) ?_;intro out vro cA JU cB srt;refine Gn uT ⟨_,ho,rfl⟩ uU (au7 (vs:=us.toList) ho JU cA cB (λs' ks h2=>?_) ⟨.none,rfl,?_⟩) (uV _)
 . have nI:∀b o,s.heap.get? b=G o->C2 o=M->s'.heap.get? b=G o:=λb o e io=>ks _ _ (λq=>by subst q;rw[ho]at e;injection e with e;subst e;exact(E5 io).elim) e;refine⟨λE A2 hq=>kas_kind (T:=.ref A3.Bp) h2 (λu hu=>?_) rfl (by simp) hq,srt _ _ _ _ (λi j b e=>?_) h2⟩
   . refine AC (av4 vr hu) ?_;intro v hv rv;refine VV (Wv (Bn.mp OJ v hv) rv) ?_;intro x y z l us n o HE Hw e io hc hd i1 s1;subst Hw;rw[<-An.at_]at hc;exact(Kj (part:=L) (nI _ _ e io)).andThen (by rw[hc];exact .now)
   . apply Ce e AF;intro hm e;have Wo:A.in1.units<IK:=un1 g.units;exact av1 An CF (λb o e=>ks _ _ (λq=>by subst q;have :=AG.AV _ _ e;rw[g.fresh _ (Ew ha)]at this;exact(BE this).elim) (AV _ _ e)) Wo (B1 hm) (Ak hm) (vr.at i) (vr.at j) e nI
 . refine xE (uW (vs:=us.toList) (out:=out.toArray) ho) ?_;intro e nJ;have eb:Ds a s.heap (bU7 s.heap a us.toList out.toArray):=λb o hb e=>by rw[uX hb (Dh e)];exact e
   refine xA (g.set (tk:=s.toks) (o':=.list l) ha hi (λ_ _ e=>by(exfalso;cases e)) eb ⟨_,nJ⟩ λim=>⟨_,⟨_,nJ⟩,by
     show Aa _ _ _ out;exact vro.Bw im⟩) ?_;intro g' x';exact kk _ C _ g' x' rfl
end
structure Ml(B:Bs)(A3:Mine.Ctx):Prop where
 only:∀{K:Kx}{c:Cd}{H:Mine.St}{o:A0},A3.CR K c H=G o->(∃f args,c=.call f args)\/(∃x,c=.e x/\JL x=A6)\/(∃x,c=.s x)M_:∀{K:Kx}{f:V}{args:I V}{H A7:Mine.St}{v:V},A3.CR K (.call f args) H=G (.ok (.v v) A7)->∀{F:Fm}{A:CK}{C:I A8}{s:AR}{fu:A4},Gd B F K A H C s->VR s.heap C f fu->CW (AQ B.prog B.w) s.heap fu
 call:∀{K:Kx}{f:V}{args:I V}{H A7:Mine.St}{v:V},A3.CR K (.call f args) H=G (.ok (.v v) A7)->∀{F:Fm}{A:CK}{C:I A8}{s:AR}{fu:A4}{us:I A4},Gd B F K A H C s->VR s.heap C f fu->Aa s.heap C args us->Ae B F K A A7 C s (CE fu us) (RV v)e:∀{K:Kx}{x:AA}{H A7:Mine.St}{v:V},A3.CR K (.e x) H=G (.ok (.v v) A7)->∀{F:Fm}{A:CK}{C:I A8}{s:AR},Gd B F K A H C s->Ae B F K A A7 C s (eval x F.env) (RV v)s:∀{K:Kx}{x:As}{H A7:Mine.St}{f:Fl},A3.CR K (.s x) H=G (.ok (.f f) A7)->∀{F:Fm}{A:CK}{C:I A8}{s:AR},Gd B F K A H C s->CJ B F K A A7 C s (exec x F.env) (FR f)
noncomputable def cC(B:Bs)(A3:Mine.Ctx):Prop:=∀{n:O},C5 B A3 n->∀{K:Kx}{f x:AA}{args:I AA}{pos:B9}{v:V}{F:Fm}{A:CK}{H A7:Mine.St}{C:I A8}{s:AR},args.all CP=M->(∀o m p,f≠.Attribute o m p)->a5 f args=G x->(A0.iff (Di K.sc QC&&Di K.sc Zx&&CP x)<|(ev A3 n K (.e x) H).V λv H=>A0.lst H.h v λ_ Y=>A0.of (HV Y) λl=>A0.iff (G1 l.length 60) (FX (H.new (.list ((Ea (Hu l)).map .str)))))=.ok (.v v) A7->Gd B F K A H C s->Ae B F K A A7 C s (eval (.Call f args [] pos) F.env) (RV v)
noncomputable def cD(B:Bs)(A3:Mine.Ctx):Prop:=∀{n:O},C5 B A3 n->TG B A3 n->∀{K:Kx}{f x:AA}{args:I AA}{pos:B9}{v:V}{F:Fm}{A:CK}{H A7:Mine.St}{C:I A8}{s:AR},args.all CP=M->(∀o m p,f≠.Attribute o m p)->a6 f args=G x->(A0.iff (Di K.sc Zy&&Di K.sc Zz&&Di K.sc Sn&&CP x)<|(ev A3 n K (.e x) H).V λv H=>A0.lst H.h v λi Y=>A0.iff (CH Y)<|match K.d with
 |d+1=>(Vy A3 ⟨K.sc,d⟩ (ev A3 n) i 60 0 [] H).A1 λl H=>FX (H.new (.list l))|0=>.bad)=.ok (.v v) A7->Gd B F K A H C s->Ae B F K A A7 C s (eval (.Call f args [] pos) F.env) (RV v)
structure Ok(B:Bs)(A3:Mine.Ctx)(Kf:Gh):Prop where
 x:Cx B A3 Kf
 y:H_ B A3 Kf
 t:Wu Kf
 fns:To B A3
 g:Gl B A3
 en:Ah A3.glob Wi=G (.top (.type "enumerate"))lt:Go Kf (.ref A3.Bp) "__lt__"=G (G (.builtin "tuple.__lt__"))Gs:Ts B A3
 sset:cC B A3
 lmap:cD B A3
 sm:Ml B A3
structure All(B:Bs)(A3:Mine.Ctx)(n:O):Prop where
 s:C5 B A3 n
 c:TG B A3 n
 l:OH B A3 n
 d:b8 B A3 n
 e:bf B A3 n
section
theorem Qm{c:Cd}{o:A0}(h:ev A3 (n+1) K c H=o):A3.CR K c H=G o\/(A3.CR K c H=L/\step A3 K (ev A3 n) c H=o):=by exact M7 (o:=A3.CR K c H) (d:=step A3 K (ev A3 n) c H) (k:=λo=>o) h (λx e h=>.inl (e.trans (congrArg G h))) λe h=>.inr ⟨e,h⟩
theorem Ml.step(Av:Ml B A3){c:Cd}{o:A0}(h:ev A3 (n+1) K c H=o)(h1:∀f args,c≠.call f args)(h2:∀x,c≠.e x)(h3:∀x,c≠.s x):step A3 K (ev A3 n) c H=o:=by
 rcases Qm h with h|h
 . rcases Av.only h with BJ|BP|Bq;refine DB BJ ?_;(try clear BJ);intro f a e;rotate_left;refine AC BP ?_;(try clear BP);intro x e _;rotate_left;refine xE Bq ?_;(try clear Bq);intro x e;rotate_left;. exact absurd e (h1 f a)
   . exact absurd e (h2 x)
   . exact absurd e (h3 x)
 . exact h.2
theorem av6(BL:Ok B A3 Kf)(AE:All B A3 n){x:AA}(h:Fq A3 K (ev A3 n) x H=.ok (.v v) A7)(g:Gd B F K A H C s):Ae B F K A A7 C s (eval x F.env) (RV v):=by cases x with
 |Constant k a b=>
  refine A0.Bx h ?_;clear h;intro w hw h;refine xA (FG h) ?_;intro q Aw;subst Aw;injection q with q;subst q;exact WB g hw|Name id pos=>exact bU BL.g h g|BinOp l op r pos=>cases hr:Sx l op r with
  |none=>exact y3 AE.s OV hr h g|some p=>obtain⟨c,id,y,z⟩:=p;exact am5 hr h g
 |UnaryOp op x pos=>exact ai5 AE.s OV h g|IfExp t a b pos=>exact xz AE.s h g|Tuple Y k pos=>exact y6 AE.s h g|List Y pos=>exact y7 AE.s h g|Dict ks vs pos=>
  have cst:∀{ks vs},(A0.of (MM ks vs) λps=>A0.iff (EQ ps.length 15) (A0.of (Kz ps []) λN=>FX (H.new (.dict N))))=.ok (.v v) A7->Ae B F K A A7 C s (eval (.Dict ks vs pos) F.env) (RV v):=by
    intro ks vs h;refine A0.Bx h ?_;clear h;intro ps h1 h;refine A0.Be h ?_;clear h;intro h2 h;refine A0.Bx h ?_;clear h;intro N h3 h;refine xA (FG h) ?_;intro q B6;subst B6;injection q with q;subst q;exact mU h1 h2 h3 g
  refine No h (λhc h=>?_) λh=>M7 h (λp hp h=>?_) λ_ h=>cst h
  . have e1:=Yd.mp (B1 hc);have e2:=Yd.mp (Ak hc);subst e1;subst e2;apply B5 h;exact mU (ps:=[]) rfl rfl rfl g
  . revert h;apply Ho hp AF;intro a b hp;apply GQ hp AF;intro hp;apply Np hp AF;intro k hp;apply Ho hp AF;intro v0 v hp;apply Br hp;intro h;exact ap8 AE.s h g|BoolOp op Y pos=>
  refine Ce h Ac λq h=>?_;apply IM q;apply Ho h Ac;intro a b h;exact y5 AE.s OV h g|Compare l CN rs pos=>match CN,rs,h with
  |[op],[r],h=>exact y4 AE.s OV h g|[],_,h=>exact(Ac h).elim|[_],[],h=>exact(Ac h).elim|[_],_::_::_,h=>exact(Ac h).elim|_::_::_,_,h=>exact(Ac h).elim
 |Attribute o a pos=>exact ai7 BL.x AE.s h g|Subscript o i pos=>
  refine A0.Cg h ?_;clear h;intro w AB AP h;apply vP h
  . intro a b st p h;apply GQ h Ac;intro h;exact ab9 AE.s AP h g
  . intro q h;exact ab7 AE.s (λa b p e=>q (by rw[e];rfl)) AP h g|Call f args kws pos=>match kws,h with
  |[],h=>
    refine A0.Be h λhp h0=>?_;revert h;apply iI h0
    . intro o m p _ h;exact ym AE.s AE.c (nB BL.x BL.t) h g
    intro hf h _;have FJ:∀o m p,f≠.Attribute o m p:=λo m p e=>hf (by rw[e];rfl);refine M7 h (λx hx h=>BL.sset AE.s hp FJ hx h g) λ_ h=>M7 h (λx hx h=>BL.lmap AE.s AE.c hp FJ hx h g) λ_ h=>yp AE.s AE.c FJ hp h g|_::_,h=>exact(Ac h).elim
 |ListComp C_ gens sc pos=>match gens,h with
  |[],h=>exact(Ac h).elim|g'::gens,h=>exact lF AE.s AE.l h g
 |DictComp k v' gens sc pos=>match gens,h with
  |[],h=>exact(Ac h).elim|[g'],h=>exact zd AE.s AE.d h g|_::_::_,h=>exact(Ac h).elim
 |_=>exact(Ac h).elim
theorem av7(BL:Ok B A3 Kf)(AE:All B A3 n){t:AA}(h:L2 A3 K (ev A3 n) t v H=.ok (.f f) A7)(g:Gd B F K A H C s)(r:VR s.heap C v u):CJ B F K A A7 C s (Ex t F.env u) RU:=by
 apply i9 h;. exactλ_ _ h=>yf (A3:=A3) (n:=n) h g r
 intro h;apply iA h
 . intro ts k p h;revert r;apply IR h Ac;intro c vs h r;exact aa8 (A3:=A3) (K:=K) (n:=n) (kd:=k) (pos:=p) (c:=c) (Y:=vs) (H:=H) BL.y BL.x.AV AE.s h g r
 intro h;apply iI h;. exactλo a p h=>aa9 (A3:=A3) (K:=K) (n:=n) (o:=o) (a:=a) (pos:=p) (v:=v) (H:=H) BL.x AE.s h g r
 intro _ h;apply Nk h Ac;exactλo i p h=>aj0 (A3:=A3) (K:=K) (n:=n) (o:=o) (i:=i) (pos:=p) (v:=v) (H:=H) AE.s h g r
set_option tactic.hygienic true in
theorem av8(BL:Ok B A3 Kf)(AE:All B A3 n)(E1:∀m,n=m+1->All B A3 m){x:As}(h:IX K (ev A3 n) x H=.ok (.f f) A7)(g:Gd B F K A H C s):CJ B F K A A7 C s (exec x F.env) (FR f):=by cases x with
 |Expr e pos=>exact ye AE.s h g|Pass pos=>exact yL h g|Break pos=>exact yM h g|Continue pos=>exact yN h g|Return e pos=>cases e with
  |none=>exact yE h g|some e=>exact yB AE.s h g
 |Assign ts e pos=>
  have h:bC (MN ts e) _ _=_:=h;revert h;cases ht:MN ts e<;>intro h
  . refine A0.Be h ?_;clear h;intro hc h;have fin:∀{f'},f'=Fl.next->CJ B F K A A7 C s (exec (.Assign ts e pos) F.env) (FR .next)->CJ B F K A A7 C s (exec (.Assign ts e pos) F.env) (FR f'):=λe d=>e▸d;refine H9 (A0.xt h) ?_;clear h;intro nK f' h;cases cE:JL e with
 |false=>exact fin nK (yh AE.s cE ht h g)|true=>
    simp only[cE,bF9,bw9]at hc;clear cE ht;revert fin h;apply Cs hc B0;intro t hc;apply EV hc B0;intro id p hc;apply Yo hc B0;intro C_ gens sc KL _ fin h;. cases n with
 |zero=>refine A0.Cg h ?_;clear h;intro _ _ h _;exact(Ac h).elim|succ m=>
    refine A0.Cg h ?_;intro v AB AP BD;have E1:=E1 m rfl;rcases Qm AP with q|Bg;rotate_left;refine xA Bg ?_;(try clear Bg);intro _ q;rotate_left
    . (rcases BL.sm.only q with Bu|C9|Ck;refine DB Bu ?_;(try clear Bu);intro _ _ z;rotate_left;refine AC C9 ?_;(try clear C9);intro _ z z';rotate_left;refine xE Ck ?_;(try clear Ck);intro _ z;rotate_left)<;>(first|(exfalso;cases z)|cases z);(exfalso;cases z')
    . cases gens with
 |nil=>exact(Ac q).elim|cons g' gens=>
      refine fin nK (zD (f:=f') E1.s E1.l AE.s ?_ g);rw[show Fq A3 K (ev A3 m) (.ListComp C_ (g'::gens) sc KL) H=.ok (.v v) AB from q];exact BD
  . have h:A0.of (Vz ts e) _=_:=h;exact aj7 AE.s h g|AugAssign t op e pos=>
  cases t<;>first|(exact(Ac h).elim;done)|skip
  rename_i id p;exact yg AE.s OV h g|If t a b pos=>exact yA AE.s h g|While t b o pos=>match o,h with
  |[],h=>exact yZ AE.s h g|_::_,h=>exact(Ac h).elim
 |For t it b o pos=>match o,h with
  |[],h=>cases he:Sm it with
   |none=>exact yd AE.s he h g|some x=>exact ak5 BL.g BL.en AE.s AE.e he h g
  |_::_,h=>exact(Ac h).elim
 |Try body hs o fin pos=>match hs,o,fin,h with
  |_::_,[],[],h=>exact ak2 AE.s h g|[],_,_,h=>exact(Ac h).elim|_::_,_::_,_,h=>exact(Ac h).elim|_::_,[],_::_,h=>exact(Ac h).elim
 |_=>exact(Ac h).elim
theorem av9:All B A3 0:=⟨⟨λh=>(by exact(Ac h).elim),λh=>(by exact(Ac h).elim),λh=>(by exact(Ac h).elim),λh=>(by exact(Ac h).elim),λh=>(by exact(Ac h).elim),λh=>(by exact(Ac h).elim),λh=>(by exact(Ac h).elim),λh=>(by exact(Ac h).elim),λh=>(by exact(Ac h).elim),λh=>(by exact(Ac h).elim),λh=>(by exact(Ac h).elim),λh=>(by exact(Ac h).elim),λh=>(by exact(Ac h).elim),λh=>(by exact(Ac h).elim)⟩,⟨λh=>(by exact(Ac h).elim),λh=>(by exact(Ac h).elim),λh=>(by exact(Ac h).elim)⟩,⟨λh=>(by exact(Ac h).elim)⟩,⟨λh=>(by exact(Ac h).elim)⟩,λh=>(by exact(Ac h).elim)⟩
theorem aw0(BL:Ok B A3 Kf)(AE:All B A3 n)(E1:∀m,n=m+1->All B A3 m):All B A3 (n+1):=by
 have st:∀{K:Kx}{H:Mine.St}{c:Cd}{o:A0},ev A3 (n+1) K c H=o->(∀f args,c≠.call f args)->(∀x,c≠.e x)->(∀x,c≠.s x)->step A3 K (ev A3 n) c H=o:=λh=>BL.sm.step h;refine⟨⟨?_,?_,?_,?_,?_,?_,?_,?_,?_,?_,?_,?_,?_,?_⟩,⟨?_,?_,?_⟩,⟨?_⟩,⟨?_⟩,?_⟩
 . intro K x H A7 v h F A C s g;rcases Qm h with q|D8;rotate_left;refine xA D8 ?_;(try clear D8);intro _ q;rotate_left;. exact BL.sm.e q g
   . exact av6 BL AE q g
 . intro K l H A7 v h F A C s pos g;exact y0 AE.s (st h (λ_ _ e=>by(exfalso;cases e)) (λ_ e=>by(exfalso;cases e)) (λ_ e=>by(exfalso;cases e))) pos g
 . intro K x H A7 v h F A C s g;exact y9 AE.s OV (st h (λ_ _ e=>by(exfalso;cases e)) (λ_ e=>by(exfalso;cases e)) (λ_ e=>by(exfalso;cases e))) g
 . intro K a l H A7 v h F A C s g;exact y8 AE.s (st h (λ_ _ e=>by(exfalso;cases e)) (λ_ e=>by(exfalso;cases e)) (λ_ e=>by(exfalso;cases e))) g
 . intro K x H A7 f h F A C s g;rcases Qm h with q|DX;rotate_left;refine xA DX ?_;(try clear DX);intro _ q;rotate_left;. exact BL.sm.s q g
   . exact av8 BL AE E1 q g
 . intro K l H A7 f h F A C s g;exact y1 AE.s (st h (λ_ _ e=>by(exfalso;cases e)) (λ_ e=>by(exfalso;cases e)) (λ_ e=>by(exfalso;cases e))) g
 . intro K t v H A7 f h F A C s u g r;exact av7 BL AE (st h (λ_ _ e=>by(exfalso;cases e)) (λ_ e=>by(exfalso;cases e)) (λ_ e=>by(exfalso;cases e))) g r
 . intro K ts vs H A7 f h F A C s us g r;exact yO AE.s (st h (λ_ _ e=>by(exfalso;cases e)) (λ_ e=>by(exfalso;cases e)) (λ_ e=>by(exfalso;cases e))) g r
 . intro K ts v H A7 f h F A C s u g r;exact yP AE.s (st h (λ_ _ e=>by(exfalso;cases e)) (λ_ e=>by(exfalso;cases e)) (λ_ e=>by(exfalso;cases e))) g r
 . intro K v H A7 r h;have :=st h (λ_ _ e=>by(exfalso;cases e)) (λ_ e=>by(exfalso;cases e)) (λ_ e=>by(exfalso;cases e));exact(FG this).2.symm
 . intro K id pos v H A7 f h F A C s u g r;have q:L2 A3 K (ev A3 n) (.Name id pos) v H=.ok (.f f) A7:=st h (λ_ _ e=>by(exfalso;cases e)) (λ_ e=>by(exfalso;cases e)) (λ_ e=>by(exfalso;cases e));exact aY q g r
 . intro K f args H A7 v h F A C s fu us g r rs;rcases Qm h with q|Ed;rotate_left;refine xA Ed ?_;(try clear Ed);intro _ q;rotate_left;. exact BL.sm.call q g r rs
   . exact at1 BL.x BL.y BL.fns BL.Gs AE.s q g r rs
 . intro K t b H A7 f h F A C s AS g k;exact yY AE.s (st h (λ_ _ e=>by(exfalso;cases e)) (λ_ e=>by(exfalso;cases e)) (λ_ e=>by(exfalso;cases e))) g k
 . intro K t it i b H A7 f h F A C BG s Af I' AS g Cq hI fr r k;exact yc AE.s (st h (λ_ _ e=>by(exfalso;cases e)) (λ_ e=>by(exfalso;cases e)) (λ_ e=>by(exfalso;cases e))) g Cq hI fr r k
 . intro K f args H A7 v h F A C s fu g r;rcases Qm h with q|FE;rotate_left;refine xA FE ?_;(try clear FE);intro _ q;rotate_left;. exact BL.sm.M_ q g r
   . exact at0 BL.x BL.y BL.fns q g r
 . intro K kd o m args H A7 v h F A C s u fv first g mv;exact at3 BL.fns AE.c (st h (λ_ _ e=>by(exfalso;cases e)) (λ_ e=>by(exfalso;cases e)) (λ_ e=>by(exfalso;cases e))) g mv
 . intro K kd o m args H A7 v h F A C s u fv first us g mv r rs;exact at4 BL.y BL.x.AV (av5 BL.x BL.y BL.lt) AE.s (st h (λ_ _ e=>by(exfalso;cases e)) (λ_ e=>by(exfalso;cases e)) (λ_ e=>by(exfalso;cases e))) g mv r rs
 . intro K C_ g gens it i Am l H A7 h G_ sc pos depth hd ha F A C BG s Af I' D AS Bl Cq hI fr r ac ne k;exact yr AE.s AE.l (st h (λ_ _ e=>by(exfalso;cases e)) (λ_ e=>by(exfalso;cases e)) (λ_ e=>by(exfalso;cases e))) hd ha Bl Cq hI fr r ac ne k
 . intro K kk v g it i d H A7 f h sc pos ha F A C BG s Af I' D AS Bl hD Cq hI fr r k;exact z_ AE.s AE.d (st h (λ_ _ e=>by(exfalso;cases e)) (λ_ e=>by(exfalso;cases e)) (λ_ e=>by(exfalso;cases e))) ha Bl hD Cq hI fr r k
 . intro K ts kd p x i b H A7 f h F A C BG s Af I' bZ2 AS g Cq hI hJ fI fJ r k;exact ak1 AE.s AE.e (st h (λ_ _ e=>by(exfalso;cases e)) (λ_ e=>by(exfalso;cases e)) (λ_ e=>by(exfalso;cases e))) g Cq hI hJ fI fJ r k
theorem Wx(BL:Ok B A3 Kf):∀n,∀m,m<=n->All B A3 m
 |0=>λm h=>by
  obtain rfl:m=0:=by(with_reducible exact Nat.eq_zero_of_le_zero (by assumption))
  exact av9|n+1=>λm h=>by
  by_cases e:m<=n;. exact Wx BL n m e
  . obtain rfl:m=n+1:=by(with_reducible exact Mine.yG (by assumption) (by assumption))
    exact aw0 BL (Wx BL n n (DF _)) λm e=>Wx BL n m (by omega)
theorem Wy(BL:Ok B A3 Kf)(n:O):All B A3 n:=Wx BL n n (DF _)
end
theorem aw1{a b:U}:(a==b)=M↔a=b:=by simp
theorem Wz{p:U×J}{l:I (U×J)}(h:(x==p.1)=A6):(p::l).lookup x=l.lookup x:=(congrArg (λb=>match b with|true=>G p.2|false=>l.lookup x) h:(match x==p.1 with|true=>G p.2|false=>l.lookup x)=_)
theorem X'{a b:U}(h:a≠b):(a==b)=A6:=tA.mpr λe=>h (aw1.mp e)
theorem cF(nd:names.Nodup):∀{us:I J}{k:O},names[k]?=G x->(names.zip us).lookup x=us[k]?:=by induction names with
 |nil=>exactλh=>nomatch h|cons n names ih=>
 intro us k h;cases us with
 |nil=>exact uZ.symm|cons u us=>cases k with
 |zero=>exact Bm h▸bG0|succ k=>exact(Wz (p:=(n,u)) (X' λe:x=n=>(EU.mp nd).1 (e▸Ew h))).trans (ih (EU.mp nd).2 h)
theorem aw2{l:I (U×J)}:∀{A9:I (U×J)},(l.map (·.1)).Nodup->l.foldl (λA9 p=>if(A9.lookup p.1).isNone then A9++[p]else A9) A9=A9++l.filter λp=>(A9.lookup p.1).isNone:=by induction l with
 |nil=>intro A9 _;exact(HO A9).symm|cons p l ih=>
 intro A9 nd;have n2:=EU.mp nd;rw[u4,ih n2.2,Ye];by_cases h:(A9.lookup p.1).isNone=M
 . rw[DA h,DA h,Uq];refine congrArg (A9++p::·) (List.filter_congr λq hq=>congrArg Option.isNone ?_);rw[bG1,Wz (p:=p) (X' λe:q.1=p.1=>n2.1 (show p.1∈_ from e▸gx hq))];exact Option.or_none
 . rw[CS h,CS h]
theorem aw3{g:U->AD J}:∀{full:I J},(∀(k:O)(x:U),names[k]?=G x->g x=full[k]?)->names.filterMap (λn=>(g n).map (n,·))=names.zip full:=by induction names with
 |nil=>intro full _;rfl|cons n names ih=>
 intro full h;rw[RX,h 0 n rfl];cases full with
 |nil=>exact(ih (full:=[]) λk x e=>(h (k+1) x e).trans (uZ.trans uZ.symm)).trans u_|cons u full=>exact congrArg ((n,u)::·) (ih λk x e=>h (k+1) x e)
theorem aw4{f:U->AK}(hx:f x=M){l:I (U×J)}:(l.filter λp=>f p.1).lookup x=l.lookup x:=by induction l with
 |nil=>rfl|cons p l ih=>
 rw[Ye];cases h:f p.1 with
 |true=>rw[DA rfl];exact congrArg (λo=>match x==p.1 with|true=>G p.2|false=>o) ih|false=>rw[CS NX,ih];exact(Wz (p:=p) (X' λe=>by rw[e,h]at hx;exact(E5 hx).elim)).symm
noncomputable def Oe(n:O)(us ds:I J):I J:=us.take n++ds.drop (ds.length-(n-us.length))
theorem ar1{u k:O}(hd:d<=n)(hg:n-d<=u)(hu:u<=k)(hk:k<n):d-(n-u)+(k-u)=k-(n-d):=by rw[bG2 _ hd,bG2 _ (B4 hu (Gj hk)),Lm k d,<-Nat.sub_add_comm (Nat.sub_le_iff_le_add'.mp hg),<-sn hu,Y3,bq5]
theorem nL{l:I J}{k:O}{x:J}(h:l[k]?=G x):k<l.length:=(HM.mp h).1
theorem aw5{us ds:I J}(nd:names.Nodup)(hd:ds.length<=names.length)(hg:names.length-ds.length<=us.length):names.filterMap (λn=>((((names.drop (names.length-ds.length)).zip ds).foldl (λA9 p=>if(A9.lookup p.1).isNone then A9++[p]else A9) (names.zip us)).lookup n).map (n,·))=names.zip (Oe names.length us ds):=by
 rw[aw2 (by rw[bG3 (by rw[V8,ua hd];exact DF _)];exact nd.drop)];refine aw3 λk x hx=>?_;have hk:=nL hx;have hz:=cF (us:=us) nd hx;rw[bG1,hz];by_cases hu:k<us.length
 . rw[Hl hu];exact(Hl hu).symm.trans ((bG4 hk).symm.trans (Y6 (by rw[Pf];exact bq9.mpr ⟨hk,hu⟩)).symm)
 . have hu:=Us.mp hu;have Wo:=B4 hu (Gj hk);have hn:=VG (l:=us) hu;rw[hn,Option.none_or,aw4 (f:=λx=>((names.zip us).lookup x).isNone) (by rw[hz,hn];rfl),cF (k:=k-(names.length-ds.length)) nd.drop (by rw[uM,bz3 (B4 hg hu)];exact hx),Oe,gQ Wo,VH hu,uM,ar1 hd hg hu hk]
theorem aw6{us:I J}(nd:names.Nodup){f:O}(hg:f<=us.length):((names.take f).filter λn=>((names.zip us).lookup n).isNone)=[]:=by
 refine List.filter_eq_nil_iff.mpr λx hx=>?_;refine xE (List.mem_iff_getElem?.mp hx) ?_;intro k e;have hk:=J0 (nL e) (B4 (Ek Pf) (Y1 ..));rw[cF nd ((bG4 hk).symm.trans e),Hl (J0 hk hg)];exact NX
theorem aw7{l:I (U×A4)}:∀{A9:I (U×A4)},(forIn l A9 λx A9=>if(gA x.1 A9).isNone=M then pure (G3 (A9++[(x.1,x.2)]))else pure (G3 A9):Dz (I (U×A4)))=pure (l.foldl (λA9 p=>if(A9.lookup p.1).isNone then A9++[p]else A9) A9):=by induction l with
 |nil=>intro A9;rfl|cons p l ih=>
 intro A9;rw[Rg,u4];by_cases h:(A9.lookup p.1).isNone=M;. rw[DA h,DA h,pure_bind];exact ih
 . rw[CS h,CS h,pure_bind];exact ih
noncomputable def aw8(va:AD Arg)(us:I A4)(l:I (U×A4)):Dz (I (U×A4)):=match va with
 |some a=>YL us>>=λv=>pure (l++[(a.arg,v)])|none=>pure l
theorem aw9(h1:fd.params.posonlyargs=[])(h2:fd.params.kwonlyargs=[])(h3:fd.params.kwarg=L)(hN:fd.params.args.map (·.arg)=names){AS:Prop}(k:∀(AG An:AD (BW A4)->Dz (I (U×A4)))(AM:I (U×A4)->Dz (I (U×A4))),g5 fd ⟨us,[]⟩=(Nf fd.defaults>>=λY=>if(decide (us.length>names.length)&&fd.params.vararg.isNone)=M then AG Y else if(!((names.take (names.length-((Y.getD #[]).toList.drop ((Y.getD #[]).toList.length-names.length)).length)).filter λn=>((names.zip us).lookup n).isNone).isEmpty)=M then An Y else(forIn ((names.drop (names.length-((Y.getD #[]).toList.drop ((Y.getD #[]).toList.length-names.length)).length)).zip ((Y.getD #[]).toList.drop ((Y.getD #[]).toList.length-names.length))) (names.zip us) λx A9=>if(gA x.1 A9).isNone=M then pure (G3 (A9++[(x.1,x.2)]))else pure (G3 A9))>>=AM)->(∀A9,AM A9=aw8 fd.params.vararg (us.drop names.length) ((names++[]).filterMap (λn=>(A9.lookup n).map (n,·))))->AS):AS:=by
 subst hN;obtain⟨n,q,⟨bZ3,bZ4,va,bZ5,kw,kwa,dfs⟩,b,sc,g,cl,df,kd,d,m,an,co,ct,bZ6⟩:=fd;dsimp only at h1 h2 h3;subst h1;subst h2;subst h3;exact k _ _ _ rfl λA9=>by cases va<;>rfl
theorem ax0{ds:I A4}{c:AK}{AG An:Dz (I (U×A4))}{k:I (U×A4)->Dz (I (U×A4))}(nd:names.Nodup)(hd:ds.length<=names.length)(hg:names.length-ds.length<=us.length)(hc:c=A6):(if c=M then AG else if(!((names.take (names.length-(ds.drop (ds.length-names.length)).length)).filter λn=>((names.zip us).lookup n).isNone).isEmpty)=M then An else(forIn ((names.drop (names.length-(ds.drop (ds.length-names.length)).length)).zip (ds.drop (ds.length-names.length))) (names.zip us) λx A9=>if(gA x.1 A9).isNone=M then pure (G3 (A9++[(x.1,x.2)]))else pure (G3 A9))>>=λA9=>k ((names++[]).filterMap (λn=>(A9.lookup n).map (n,·))))=k (names.zip (Oe names.length us ds)):=by
 rw[hc,CS NX,show ds.length-names.length=0 from Nat.sub_eq_zero_of_le hd,YP,aw6 nd hg];exact(congrArg (·>>=_) aw7).trans (congrArg k ((congrArg (λl=>List.filterMap _ l) (HO names)).trans (aw5 nd hd hg)))
section
theorem ax1{ds:I A4}{A2:I (U×A4)->AR->Prop}(h1:fd.params.posonlyargs=[])(h2:fd.params.kwonlyargs=[])(h3:fd.params.kwarg=L)(hN:fd.params.args.map (·.arg)=names)(nd:names.Nodup)(hd:ds.length<=names.length)(hg:names.length-ds.length<=us.length)(hv:us.length<=names.length\/fd.params.vararg.isSome=M)(hs:∀A2:AD (BW A4)->AR->Prop,(∀Y,(Y.getD #[]).toList=ds->A2 Y s)->AH Av A (Nf fd.defaults) A2 E s)(h:match fd.params.vararg with
 |none=>A2 (names.zip (Oe names.length us ds)) s|some a=>AH Av A (YL (us.drop names.length)) (λv s'=>A2 (names.zip (Oe names.length us ds)++[(a.arg,v)]) s') E s):AH Av A (g5 fd ⟨us,[]⟩) A2 E s:=by
 refine aw9 (us:=us) h1 h2 h3 hN ?_;intro AG An AM e eZ;rw[e,show AM=_ from funext eZ];clear e eZ h1 h2 h3 hN;generalize fd.params.vararg=va at h hv ⊢;refine A5 (hs _ λY cG=>?_);clear hs;subst cG;refine(congrArg (λx=>AH Av A x A2 E s) (ax0 nd hd hg ?_)).mpr ?_;. cases va with
 |none=>
  rcases hv with hv|hv;. rw[Rk (Us.mpr hv)];rfl
  . exact(E5 hv).elim|some a=>exact Bool.and_false _
 . cases va with
 |none=>exact AW h|some a=>exact A5 (Fg h (λ_ _ q=>AW q) λ_ _ q=>q)
end
theorem any_some{o:AD J}{f:J->AK}(h:o.any f=M):∃x,o=G x/\f x=M:=by cases o with
 |none=>exact(B0 h).elim|some x=>exact⟨x,rfl,h⟩
noncomputable def Qn(v:A4)(d k:J):J:=if v.ctorIdx=0 then k else d
theorem ax2{v:A4}{d k:J}{r:J}(h:Qn v d k=r)(hd:d=r->Bj){P:A4->Prop}(c:k=r->P .none):P v:=if q:v.ctorIdx=0 then bG5 (motive:=λv=>Qn v d k=r->P v) v q (λh=>c h) h else(hd ((CS q).symm.trans h)).elim
theorem ax3{v:A4}{d k:J}{r:J}(h:Qn v d k=r){P:A4->Prop}(c:k=r->P .none)(e:d=r->P v):P v:=if q:v.ctorIdx=0 then bG5 (motive:=λv=>Qn v d k=r->P v) v q (λh=>c h) h else e ((CS q).symm.trans h)
noncomputable def cH(v:A4)(d:J)(k:AK->J):J:=if h:v.ctorIdx=3 then bG6 (motive:=λ_=>J) v h k else d
theorem ax4{v:A4}{d:J}{k:AK->J}{r:J}(h:cH v d k=r)(hd:d=r->Bj){P:A4->Prop}(c:∀x,k x=r->P (.bool x)):P v:=if q:v.ctorIdx=3 then bG6 (motive:=λv=>cH v d k=r->P v) v q (λx h=>c x h) h else(hd ((D3 q).symm.trans h)).elim
noncomputable def Tv(v:A4)(d:J)(k:U->EP->J):J:=if h:v.ctorIdx=6 then bG7 (motive:=λ_=>J) v h k else d
theorem cI{v:A4}{d:J}{k:U->EP->J}{r:J}(h:Tv v d k=r)(hd:d=r->Bj){P:A4->Prop}(c:∀x t,k x t=r->P (.str x t)):P v:=if q:v.ctorIdx=6 then bG7 (motive:=λv=>Tv v d k=r->P v) v q (λx t h=>c x t h) h else(hd ((D3 q).symm.trans h)).elim
noncomputable def cK(d:NQ):AD Kh:=if h:d.ctorIdx=7 then bG8 (motive:=λ_=>AD Kh) d h G else L
theorem nN{d:NQ}{f:Kh}(h:cK d=G f):d=.func f:=if q:d.ctorIdx=7 then bG8 (motive:=λd=>cK d=G f->d=.func f) d q (λ_ h=>congrArg Data.func (Bm h)) h else nomatch(D3 q).symm.trans h
noncomputable def cL(d:NQ):AD (BW A4):=if h:d.ctorIdx=2 then bG9 (motive:=λ_=>AD (BW A4)) d h λus _=>G us else L
theorem ax5{d:NQ}{us:BW A4}(h:cL d=G us):∃n,d=.seq us n:=if q:d.ctorIdx=2 then bG9 (motive:=λd=>cL d=G us->∃n,d=.seq us n) d q (λ_ n h=>⟨n,congrArg (gy · n) (Bm h)⟩) h else nomatch(D3 q).symm.trans h
noncomputable def cM(d:NQ):AD (BW A4):=if h:d.ctorIdx=9 then t6 (motive:=λ_=>AD (BW A4)) d h G else L
theorem ax6{d:NQ}{us:BW A4}(h:cM d=G us):d=.fields us:=if q:d.ctorIdx=9 then t6 (motive:=λd=>cM d=G us->d=.fields us) d q (λ_ h=>congrArg Data.fields (Bm h)) h else nomatch(D3 q).symm.trans h
noncomputable def cN(d:NQ):AD (BW FQ):=if h:d.ctorIdx=3 then t5 (motive:=λ_=>AD (BW FQ)) d h λN _=>G N else L
theorem ax7{d:NQ}{N:BW FQ}(h:cN d=G N):∃n,d=.dict N n:=if q:d.ctorIdx=3 then t5 (motive:=λd=>cN d=G N->∃n,d=.dict N n) d q (λ_ n h=>⟨n,congrArg (Data.dict · n) (Bm h)⟩) h else nomatch(D3 q).symm.trans h
noncomputable def cO(v:A4)(d:J)(k:AX->J):J:=if h:v.ctorIdx=4 then bH0 (motive:=λ_=>J) v h λi _=>k i else d
theorem ax8{v:A4}{d:J}{k:AX->J}{r:J}(h:cO v d k=r)(hd:d=r->Bj){P:A4->Prop}(c:∀x t,k x=r->P (.int x t)):P v:=if q:v.ctorIdx=4 then bH0 (motive:=λv=>cO v d k=r->P v) v q (λx t h=>c x t h) h else(hd ((D3 q).symm.trans h)).elim
noncomputable def cP(v:V)(u:A4):AK:=IT v (vBool v (vInt v (vStr v A6 λs=>Tv u A6 λt _=>CU s t.cps.toList) λi=>cO u A6 λj=>decide (i=j)) λb=>cH u A6 λc=>b==c) (Qn u A6 M)
theorem ax9(e:cP v u=M):VR h C v u:=by
 apply Zm e;. intro e;apply ax2 e B0;intro _;exact rfl
 intro e;apply jZ e;. intro b e;apply ax4 e B0;intro c e;exact eq_of_beq e▸rfl
 intro e;apply Pz e;. intro i e;apply ax8 e B0;intro j k e;exact⟨k,of_decide_eq_true e▸rfl⟩
 intro e;apply Dd e B0;intro s e;apply cI e B0;intro t k e;exact⟨k,Ec.mp e▸rfl⟩
theorem ay0(e:all2 cP vs us=M):Aa h C vs us:=VW (P:=Aa h C) rfl (λ_ _ _ _ q ih=>.cons (ax9 q) ih) e
noncomputable def X0(Kf:Gh)(a:A8):AD Kh:=B' (Kf.lookup a) λo=>cK o.data
noncomputable def Im(Kf:Gh)(a:A8):Kh:=(X0 Kf a).getD default
noncomputable def nO(Kf:Gh)(v:A4):AD (I A4):=Qn v (Kw v L λt=>B' (Kf.lookup t) λo=>B' (cL o.data) λus=>G us.toList) (G [])
noncomputable def codeIn(Kf:Gh)(v:A4):AD U:=Kw v L λc=>B' (Kf.lookup c) λo=>B' (cM o.data) λvs=>B' vs[1]? λw=>Tv w L λt _=>G t
noncomputable def ay1(o:AD E3):AK:=o==G .local||o==G .cell
noncomputable def fdA(fd:Kh):AK:=(fd.closure.isEmpty&&!fd.scope.isCoroutine)&&((!fd.scope.isGenerator&&fd.scope.kind==.function)&&(BC fd.globals 3&&BC fd.builtins 0))
noncomputable def fdB(fn:Fn):AK:=(QD fn.sc&&Sp fn.sc.names)&&(fn.sc.names.all (λp=>p.2 !=.free)&&(QG (fn.ps++fn.va.toList)&&(fn.ps++fn.va.toList).all λx=>ay1 (Ah fn.sc.names x)))
noncomputable def nP(Kf:Gh)(fd:Kh)(fn:Fn):AK:=(fd.params.posonlyargs.isEmpty&&fd.params.kwonlyargs.isEmpty)&&(fd.params.kwarg.isNone&&(EQ fn.dflt.length fn.ps.length&&(nO Kf fd.defaults).any (all2 cP fn.dflt)))
noncomputable def nQ(Kf:Gh)(fd:Kh)(fn:Fn):AK:=(fdA fd&&fdB fn)&&(nP Kf fd fn&&(codeIn Kf fd.code).any (Cw fd.qualname))
structure cQ(Kf:Gh)(a:A8)(fn:Fn):Prop where
 at_:(X0 Kf a).isSome=M
 sc:(Im Kf a).scope=fn.sc
 body:(Im Kf a).body=.stmts fn.body
 ps:(Im Kf a).params.args.map (·.arg)=fn.ps
 va:(Im Kf a).params.vararg.map (·.arg)=fn.va
 ok:nQ Kf (Im Kf a) fn=M
theorem nR(r:Aa h C vs us):∀{ps:I U},BR h C (ps.zip vs) (ps.zip us):=Aa.ind (P:=λvs us=>∀{ps:I U},BR h C (ps.zip vs) (ps.zip us)) (λ{ps}=>by rw[u_,u_];exact rfl) (λv u vs us a _ ih ps=>by cases ps with
 |nil=>exact rfl|cons p ps=>exact .cons a ih) r
theorem BR.snoc{b:I (U×V)}{l:I (U×A4)}(r:BR h C b l)(a:VR h C v u):BR h C (b++[(x,v)]) (l++[(x,u)]):=BR.ind (P:=λb l=>BR h C (b++[(x,v)]) (l++[(x,u)])) (.cons a rfl) (λ_ _ _ _ _ a _ ih=>.cons a ih) r
theorem Aa.ay2{x:I V}{l:I A4}(r:Aa h C x l):Aa h C (x.take n) (l.take n):=Aa.ind (P:=λx l=>∀n,Aa h C (x.take n) (l.take n)) (λn=>by cases n<;>rfl) (λ_ _ _ _ a _ ih n=>by cases n with|zero=>rfl|succ n=>exact .cons a (ih n)) r n
theorem Aa.nU{x:I V}{l:I A4}(r:Aa h C x l):Aa h C (x.drop n) (l.drop n):=Aa.ind (P:=λx l=>∀n,Aa h C (x.drop n) (l.drop n)) (λn=>by cases n<;>rfl) (λ_ _ _ _ a b ih n=>by cases n with|zero=>exact .cons a b|succ n=>exact ih n) r n
theorem nV{C:Type}{l:I (U×C)}:l.lookup x=Ah l x:=by induction l with
 |nil=>rfl|cons p l ih=>
 rw[T1];by_cases e:x=p.1;. rw[E2.mpr e.symm];exact e▸bG0
 . rw[show Cw p.1 x=A6 from tA.mpr λq=>e (E2.mp q).symm,Wz (X' e)];exact ih
theorem nb(h:(!b)=M):b=A6:=by cases b;rfl;exact(B0 h).elim
theorem ay3(AV:Kf.In B.base){v:A4}(h:nO Kf v=G us)(st:B.base.StaysIn s.heap){A2:AD (BW A4)->AR->Prop}(k:∀Y,(Y.getD #[]).toList=us->A2 Y s):AH Av A (Nf v) A2 E s:=by
 apply ax3 h;. intro h;exact AW (k L (Bm h))
 intro h;apply Q1 h AF;intro t h;apply BI h;intro o hl h;apply BI h;intro Y hs h;refine A5 (NW (st _ _ (AV _ _ hl)) ?_);refine xE (ax5 hs) ?_;intro n e;rw[e];exact AW (k _ (Bm h))
theorem ay4(AV:Kf.In B.base){fn:Fn}(ps:fd.params.args.map (·.arg)=fn.ps)(va:fd.params.vararg.map (·.arg)=fn.va)(hC:nP Kf fd fn=M)(nd:fn.ps.Nodup){b:I (U×V)}(hb:JI fn args=G b):b.map (·.1)=fn.ps++fn.va.toList/\∀{s:AR}{C:I A8}{us:I A4},B.base.StaysIn s.heap->Aa s.heap C args us->∀{Av:fb}{A:CK}{A2:I (U×A4)->AR->Prop}{E:A4->AR->Prop},(∀KC Q,(∀b o,s.heap.get? b=G o->Q.get? b=G o)->BR Q C b KC->A2 KC {s with heap:=Q})->AH Av A (g5 fd ⟨us,[]⟩) A2 E s:=by
 apply Ce hb AF;intro q hb;have len:=CD (Ak q);have hd:=Dk (B1 (Ak (Ak hC)));rw[<-Bm hb];refine⟨by rw[N_,bG3 (Ek len),Hm];exact congrArg _ (bF0 _),λ{s C us}st rs{Av A A2 E}k=>?_⟩;refine AC (any_some (Ak (Ak (Ak hC)))) ?_;intro ds hds hcv;have cv:=ay0 (h:=s.heap) (C:=C) hcv;have full:Aa s.heap C (Sj fn args) (Oe fn.ps.length us ds):=by
   unfold Sj Oe;rw[rs.length,cv.length];exact rs.ay2.app cv.nU
 refine ax1 (ds:=ds) (Yd.mp (B1 (B1 hC))) (Yd.mp (Ak (B1 hC))) (Option.isNone_iff_eq_none.mp (B1 (Ak hC))) ps nd (cv.length▸hd) ?_ ?_ (λA2 hQ=>ay3 AV hds st hQ) ?_
 . rw[<-cv.length,<-rs.length];refine bq7 (len▸?_);rw[Sj,FD,Pf,V8];exact Uo (su ..) (gZ ..)
 . have hl:=Dk (B1 q);rw[rs.length,<-va]at hl;revert hl;cases fd.params.vararg with
 |none=>exact .inl|some a=>exactλ_=>.inr rfl
 . have hl:=Dk (B1 q);rw[<-va]at k hl;revert k hl;cases fd.params.vararg with
 |none=>intro k _;exact k _ s.heap (λ_ _ e=>e) (by rw[show(gY _ L).toList.map _=[]from rfl,HO];exact nR full)|some a=>
   intro k hl;have hl:args.length<=1000:=hl;refine gm ?_ (B4 (by rw[V8];exact B4 (gZ ..) (rs.length▸hl)) (by decide));have kp:∀b o,s.heap.get? b=G o->(s.heap.push {cls:=.type "tuple",data:=.seq (us.drop fn.ps.length).toArray}).get? b=G o:=λb o e=>C1 _ e;exact k _ _ kp ((nR (full.Bw λb o e _=>kp b o e)).snoc ⟨_,_,(us.drop fn.ps.length).toArray,0,rfl,CY _ rfl,⟨rfl,λ_=>⟨rfl,rfl⟩⟩,rfl,rfl,rs.nU.Bw λb o e _=>kp b o e⟩)
theorem ay5(AV:Kf.In h){v:A4}{t:U}(ht:codeIn Kf v=G t):h.CodeRec v t:=by
 apply Q1 ht AF;intro c ht;apply BI ht;intro oc hc ht;apply BI ht;intro vs hs ht;apply BI ht;intro w hv ht;revert hv;apply cI ht AF;intro x tk ht hv;exact⟨c,oc,vs,tk,rfl,AV _ _ hc,ax6 hs,Bm ht▸hv⟩
theorem Mm(AV:Kf.In B.base)(lim:B.base.NoLimit){fn:Fn}(AG:cQ Kf a fn):∃o fd,FnAt B a fn o fd:=by
 refine xE (ub.mp AG.at_) ?_;intro fd e;have hf:Im Kf a=fd:=congrArg (·.getD default) e;apply BI e;intro o hl hd;have A:=B1 (B1 AG.ok);have b:=Ak (B1 AG.ok);have nd:=bV (B1 (Ak (Ak b)));refine⟨o,Im Kf a,AV _ _ hl,hf▸nN hd,AG.sc,AG.body,Yd.mp (B1 (B1 A)),nb (Ak (B1 A)),nb (B1 (B1 (Ak A))),eq_of_beq (Ak (B1 (Ak A))),CD (B1 (Ak (Ak A))),CD (Ak (Ak (Ak A))),B1 (B1 b),aq (Ak (B1 b)),λx e=>?_,?_,lim,λhb=>?_⟩
 . have :=Bn.mp (B1 (Ak b)) _ (FF (nV▸e));exact B0 this
 . refine AC (any_some (Ak (Ak AG.ok))) ?_;intro t ht e;rw[E2.mp e];exact ay5 AV ht
 . have z:=ay4 AV AG.ps AG.va (B1 (Ak AG.ok)) (IE.mp nd).1 hb;refine⟨z.1▸nd,λx hx=>?_,z.2⟩;have :=Bn.mp (Ak (Ak (Ak b))) x (z.1▸hx);rw[nV];exact(Bool.or_eq_true_iff.mp this).imp eq_of_beq eq_of_beq
noncomputable def nY:I AA->I V
 |.Constant c _ _::r=>(match O4 c with|some v=>[v]|none=>[])++nY r|_=>[]
noncomputable def DE(s:As):Fn:={sc:=BV s,ps:=(SG s).args.map (·.arg),va:=(SG s).vararg.map (·.arg),body:=Fk s,dflt:=nY (SG s).defaults}
noncomputable def Io:I (O×Fn):=[(82,DE (DC 3 4)),(89,DE (DC 3 5)),(160,DE (DC 5 1)),(167,DE (DC 5 2)),(174,DE (DC 5 3)),(181,DE (DC 5 4)),(188,DE (DC 5 5)),(196,DE (DC 5 6)),(203,DE (DC 5 7)),(210,DE (DC 5 8)),(253,DE (Ba 6)),(326,DE (Ba 15)),(340,DE (Ba 19)),(347,DE (Ba 20)),(354,DE (Ba 21)),(361,DE (Ba 22)),(368,DE (Ba 23)),(375,DE (Ba 24)),(387,DE (Ba 28)),(392,DE (Ba 29)),(399,DE (Ba 30)),(404,DE (Ba 31)),(411,DE (Ba 32)),(416,DE (Ba 33)),(423,DE (Ba 34)),(430,DE (Ba 35)),(435,DE (Ba 36)),(442,DE (Ba 37))]
noncomputable def X1:I (U×V):=[(⟨⟨[95,119,97,108,108]⟩⟩,V.top (.ref 21)),(⟨⟨[95,116,117,112,108,101,103,101,116,116,101,114]⟩⟩,V.top (.ref 60)),(⟨⟨[77,97,116,99,104]⟩⟩,V.top (.ref 135)),(⟨⟨[95,99,97,108,99,117,108,97,116,101,95,114,97,116,105,111]⟩⟩,V.top (.ref 145)),(⟨⟨[83,101,113,117,101,110,99,101,77,97,116,99,104,101,114]⟩⟩,V.top (.ref 242)),(⟨⟨[95,102,111,114,109,97,116,95,114,97,110,103,101,95,117,110,105,102,105,101,100]⟩⟩,V.top (.ref 253)),(⟨⟨[95,112,108,97,105,110,95,110,97,109,101]⟩⟩,V.top (.ref 260)),(⟨⟨[65,66,67,77,101,116,97]⟩⟩,V.top (.ref 277)),(⟨⟨[95,65,66,67,76,105,107,101]⟩⟩,V.top (.ref 310)),(⟨⟨[95,97,98,99,95,112,108,97,105,110,95,109,101,116,97]⟩⟩,V.top (.ref 319)),(⟨⟨[102,115,112,97,116,104]⟩⟩,V.top (.ref 326)),(⟨⟨[95,99,104,101,99,107,95,97,114,103,95,116,121,112,101,115]⟩⟩,V.top (.ref 333)),(⟨⟨[95,103,101,116,95,115,101,112]⟩⟩,V.top (.ref 340)),(⟨⟨[106,111,105,110]⟩⟩,V.top (.ref 347)),(⟨⟨[115,112,108,105,116,114,111,111,116]⟩⟩,V.top (.ref 354)),(⟨⟨[98,97,115,101,110,97,109,101]⟩⟩,V.top (.ref 361)),(⟨⟨[100,105,114,110,97,109,101]⟩⟩,V.top (.ref 368)),(⟨⟨[110,111,114,109,112,97,116,104]⟩⟩,V.top (.ref 375)),(⟨⟨[115,111,114,116,101,100,95,108,105,115,116,95,100,105,102,102,101,114,101,110,99,101]⟩⟩,V.top (.ref 382)),(⟨⟨[95,108,97,119,95,116,114,101,101,115]⟩⟩,V.top (.ref 387)),(⟨⟨[95,108,97,119,95,115,116,114,97,105,103,104,116]⟩⟩,V.top (.ref 392)),(⟨⟨[95,108,97,119,95,105,110,110,101,114]⟩⟩,V.top (.ref 399)),(⟨⟨[95,108,97,119,95,116,111,108,100]⟩⟩,V.top (.ref 404)),(⟨⟨[95,108,97,119,95,103,114,111,119,110]⟩⟩,V.top (.ref 411)),(⟨⟨[95,108,97,119,95,112,97,105,114,115]⟩⟩,V.top (.ref 416)),(⟨⟨[95,108,97,119,95,114,97,110,103,101]⟩⟩,V.top (.ref 423)),(⟨⟨[95,108,97,119,95,99,104,97,110,103,101,115]⟩⟩,V.top (.ref 430)),(⟨⟨[95,108,97,119,95,119,97,108,107,101,100]⟩⟩,V.top (.ref 435)),(⟨⟨[108,97,119]⟩⟩,V.top (.ref 442)),(⟨⟨[108,101,110]⟩⟩,V.top (.builtin "len")),(⟨⟨[109,105,110]⟩⟩,V.top (.builtin "min")),(⟨⟨[109,97,120]⟩⟩,V.top (.builtin "max")),(⟨⟨[115,111,114,116,101,100]⟩⟩,V.top (.builtin "sorted")),(⟨⟨[105,115,105,110,115,116,97,110,99,101]⟩⟩,V.top (.builtin "isinstance")),(⟨⟨[105,115,115,117,98,99,108,97,115,115]⟩⟩,V.top (.builtin "issubclass")),(⟨⟨[116,121,112,101]⟩⟩,V.top (.type "type")),(⟨⟨[115,116,114]⟩⟩,V.top (.type "str")),(⟨⟨[98,121,116,101,115]⟩⟩,V.top (.type "bytes")),(⟨⟨[114,97,110,103,101]⟩⟩,V.top (.type "range")),(⟨⟨[101,110,117,109,101,114,97,116,101]⟩⟩,V.top (.type "enumerate")),(⟨⟨[115,101,116]⟩⟩,V.top (.type "set")),(⟨⟨[108,105,115,116]⟩⟩,V.top (.type "list")),(⟨⟨[109,97,112]⟩⟩,V.top (.type "map")),(⟨⟨[116,117,112,108,101]⟩⟩,V.top (.type "tuple"))]
noncomputable def cR:I (U×A8):=[(⟨⟨[95,95,105,110,105,116,95,95]⟩⟩,160),(⟨⟨[115,101,116,95,115,101,113,115]⟩⟩,167),(⟨⟨[115,101,116,95,115,101,113,49]⟩⟩,174),(⟨⟨[115,101,116,95,115,101,113,50]⟩⟩,181),(⟨⟨[95,83,101,113,117,101,110,99,101,77,97,116,99,104,101,114,95,95,99,104,97,105,110,95,98]⟩⟩,188),(⟨⟨[102,105,110,100,95,108,111,110,103,101,115,116,95,109,97,116,99,104]⟩⟩,196),(⟨⟨[103,101,116,95,109,97,116,99,104,105,110,103,95,98,108,111,99,107,115]⟩⟩,203),(⟨⟨[103,101,116,95,111,112,99,111,100,101,115]⟩⟩,210)]
noncomputable def Fw(on:AK)(CR:Kx->Cd->Mine.St->AD A0):Mine.Ctx:={glob:=X1,fn:=λa=>AL Io a,Bp:=135,Sl:=82,ju:=89,Dl:=242,QA:=160,Gs:=382,Vn:=on,HW:=cR,CR:=CR}
noncomputable abbrev Mn(CR:Kx->Cd->Mine.St->AD A0):Mine.Ctx:=Fw M CR
noncomputable abbrev FL:Mine.Ctx:=Mn λ_ _ _=>L
theorem ay6{C:Type}{x:O}{v:C}{l:I (O×C)}(h:AL l x=G v):(x,v)∈l:=T3 h
theorem Of(P:Dq){fn:Fn}(h:AL Io a=G fn):cQ (Bb P) a fn:=by
 have e:=H6.mp (show Io.map (λp=>((X0 (Bb P) p.1).isSome,(Im (Bb P) p.1).scope,(Im (Bb P) p.1).body,(Im (Bb P) p.1).params.args.map (·.arg),(Im (Bb P) p.1).params.vararg.map (·.arg),nQ (Bb P) (Im (Bb P) p.1) p.2))=Io.map (λp=>(M,p.2.sc,.stmts p.2.body,p.2.ps,p.2.va,M))by kernel_rfl) _ (ay6 h);exact⟨congrArg (·.1) e,congrArg (·.2.1) e,congrArg (·.2.2.1) e,congrArg (·.2.2.2.1) e,congrArg (·.2.2.2.2.1) e,congrArg (·.2.2.2.2.2) e⟩
section
variable{CR:Kx->Cd->Mine.St->AD A0}
theorem cS(AV:(Bb P).In B.base):Cx B (Fw on CR) (Bb P)where
 AV:=AV;makes:=by kernel_rfl
 init:=by kernel_rfl
 lV:=by kernel_rfl
 ga:=by kernel_rfl
 lW:=by kernel_rfl
 lX:=by kernel_rfl
 over:=by kernel_rfl
 bB:=by kernel_rfl
 attrs:=λa h=>by
  refine AC (IJ.mp h) ?_;intro x hx e;exact E2.mp e▸H6.mp (show aG.map (Go (Bb P) (.ref 242))=aG.map λ_=>G L by kernel_rfl) x hx
 meths:=λm a h=>by
  have e:=H6.mp (show cR.map (λp=>(Go (Bb P) (.ref 242) p.1,tZ (Bb P) (.ref p.2)))=cR.map (λp=>(G (G (.ref p.2)),G (.type "function")))by kernel_rfl) _ (FF h);exact⟨congrArg (·.1) e,congrArg (·.2) e⟩
theorem nZ:H_ B (Fw on CR) (Bb P)where
 at_:=rfl;cls:=by
  have :∃o,(Bb P).lookup 135=G o/\(match o.data with|.cls cd=>!cd.hasDel|_=>A6)=M:=⟨jQ P,by kernel_rfl,by kernel_rfl⟩;refine AC this ?_;(try clear this);intro Aw e h;obtain⟨oc,od,d,sl⟩:=Aw;cases d<;>first|(exact(E5 h).elim;done)|skip
  exact⟨_,_,_,_,e,by simpa using h⟩
 call:=by kernel_rfl
 typ:=by kernel_rfl
 self:=by kernel_rfl
 tup:=by kernel_rfl
 obj:=by kernel_rfl
 init:=by kernel_rfl
 len:=by kernel_rfl
 iter:=by kernel_rfl
 mro:=λA9=>by kernel_rfl
 made:=λA9=>by kernel_rfl
 lc:=λA9=>by kernel_rfl
 here:=λA9=>by kernel_rfl
 lf:=λA9 T=>by kernel_rfl
 reads:=by kernel_rfl
 new:=⟨136,by kernel_rfl,[],by kernel_rfl⟩
theorem cU:Wu (Bb P)where
 n5:=λA9=>by kernel_rfl
 typ:=λA9=>by kernel_rfl
 c5:=by kernel_rfl
 sub:=by kernel_rfl
 new:=by kernel_rfl
theorem n_:Go (Bb P) (.ref (Fw on CR).Bp) "__lt__"=G (G (.builtin "tuple.__lt__")):=by kernel_rfl
theorem nc:Ah (Fw on CR).glob Wi=G (.top (.type "enumerate")):=by kernel_rfl
noncomputable def nf(Kf:Gh)(a:A8):AD (BW FQ):=B' (Kf.lookup a) λo=>cN o.data
noncomputable def Tw(Kf:Gh)(a:A8):BW FQ:=(nf Kf a).getD #[]
noncomputable def ay7(Kf:Gh)(a:A8):AK:=(nf Kf a).any λN=>N.toList.all λe=>Tv e.key A6 λ_ _=>M
theorem Tz(AV:Kf.In h)(e:ay7 Kf a=M):h.Ns a (Na (Tw Kf a)):=by
 refine AC (any_some e) ?_;intro N e1 e2;rw[show Tw Kf a=N from congrArg (·.getD #[]) e1];apply BI e1;intro o hl hd;refine xE (ax7 hd) ?_;intro ep he;refine⟨o,N,ep,AV _ _ hl,he,λx hx=>?_,λ_=>rfl⟩;have :=Bn.mp e2 x (gG.mpr hx);revert this;generalize x.key=k;intro q;apply cI q B0;intro n t _;exact⟨n,t,rfl⟩
theorem Mo(AV:(Bb P).In h):h.NoLimit:=⟨_,Tz AV (by kernel_rfl),by kernel_rfl⟩
theorem X2(AV:(Bb P).In B.base):To B (Fw on CR)where
 fn:=λa fn h=>Mm AV (Mo AV) (Of P h);Gs:=by
  refine xE (ub.mp (show(X0 (Bb P) 382).isSome=M by kernel_rfl)) ?_;intro fd h;apply BI h;intro o hl hd;exact⟨o,fd,AV _ _ hl,nN hd⟩
theorem GI(AV:(Bb P).In B.base):Gl B (Fw on CR):=⟨_,_,Tz AV (by kernel_rfl),Tz AV (by kernel_rfl),λx v h=>by
 have e:=H6.mp (show X1.map (λp=>(match Na (Tw (Bb P) 3) p.1 with|some w=>G w|none=>Na (Tw (Bb P) 0) p.1).map V.top)=X1.map (λp=>G p.2)by kernel_rfl) _ (FF h);refine AC (uc.mp e) ?_;clear e;intro w e q;refine⟨w,q.symm,?_⟩;revert e;cases Na (Tw (Bb P) 3) x with
 |none=>exactλe=>.inr ⟨rfl,e⟩|some w=>exact .inl⟩
end
mutual
noncomputable def E7(BA:O->O):V->V
 |.ref i=>.ref (BA i)|.B' k i=>.B' k (BA i)|.tup c Y=>.tup c (Cr BA Y)|v=>v
noncomputable def Cr(BA:O->O):I V->I V
 |[]=>[]|v::l=>E7 BA v::Cr BA l
end
noncomputable def JV(BA:O->O)(e:V×V):V×V:=(e.1,E7 BA e.2)
noncomputable def Qo(BA:O->O)(e:U×V):U×V:=(e.1,E7 BA e.2)
noncomputable def DV(BA:O->O):Ob->Ob
 |.list Y=>.list (Cr BA Y)|.dict N=>.dict (N.map (JV BA))|.B3 N=>.B3 (N.map (JV BA))|.EY N=>.EY (N.map (Qo BA))|.rows r Y=>.rows r Y|.HU=>.HU|.inst c d=>.inst c (BA d)
theorem cV{f:J->EH}:∀{m:I EH}{l:I J},m.Perm (l.map f)->∃l':I J,l'.Perm l/\m=l'.map f
 |[],l,h=>by
  have :=h.length_eq;cases l with
  |nil=>exact⟨[],.refl _,rfl⟩|cons _ _=>simp at this
 |b::m,l,h=>by
  refine AC (E0.mp (h.subset (Co ..))) ?_;intro a ha Aw;subst Aw;refine DB (List.append_of_mem ha) ?_;intro s t B6;clear ha;subst B6;have h2:(f a::m).Perm (f a::(s++t).map f):=h.trans (by
  rw[N_,J4,N_];exact bH1);refine AC (cV (bU8 h2)) ?_;intro l' hl BJ;clear h h2;subst BJ;exact⟨a::l',(hl.cons a).trans bH1.symm,rfl⟩
section
theorem VR.DW(Dj:∀j,A_[j]?=Au[BA j]?):VR h A_ v u↔VR h Au (E7 BA v) u:=V.rec (motive_1:=λv=>∀u,VR h A_ v u↔VR h Au (E7 BA v) u) (motive_2:=λY=>∀us,Aa h A_ Y us↔Aa h Au (Cr BA Y) us) (λ_=>.rfl) (λ_ _=>.rfl) (λ_ _=>.rfl) (λ_ _=>.rfl) (λ_ _ ih _=>HR λ_=>HR λ_=>HR λus=>HR λ_=>Hn .rfl (Hn .rfl (Hn .rfl (Hn .rfl (Hn .rfl (ih us.toList)))))) (λ_ _=>.rfl) (λi _=>HR λ_=>Hn (Dj i▸.rfl) .rfl) (λ_ _ _=>.rfl) (λ_ i _=>HR λ_=>HR λ_=>Hn .rfl (Hn (Dj i▸.rfl) .rfl)) (λ_ _ _ _=>.rfl) (λ_ _ _=>.rfl) (λ_ _=>.rfl) (λ_=>.rfl) (λ_=>.rfl) (λ_ _ x y _=>HR λu=>HR λus=>Hn .rfl (Hn (x u) (y us))) v u
theorem Aa.DW(Dj:∀j,A_[j]?=Au[BA j]?){v:I V}:∀{u:I A4},Aa h A_ v u↔Aa h Au (Cr BA v) u:=by induction v with
 |nil=>exact .rfl|cons x l ih=>exact HR λu=>HR λus=>Hn .rfl (Hn (VR.DW Dj) ih)
theorem Og:∀{l:I V},Cr BA l=l.map (E7 BA)
 |[]=>rfl|_::l=>by simp[Cr,Og (l:=l)]
theorem LQ(l:I Tx):Cr BA (l.map V.str)=l.map V.str:=by rw[Og,Hm];rfl
theorem ay8{p:Tx}:E7 BA (O9 p l)=O9 p l:=by cases l with
 |nil=>rfl|cons t r=>
 show V.tup L (Cr BA (.str t::.str p::r.map .str))=_;simp only[Cr,LQ];rfl
theorem ay9{x:Sg}:Cr BA (I_ x)=I_ x:=by cases x with
 |it l=>
  show[V.tup L (Cr BA (l.map V.str))]=_;rw[LQ];rfl|tx t=>rfl|run p a b=>
  show Cr BA ((C8 a b).map (O9 p))=(C8 a b).map (O9 p);rw[Og,Hm];exact Yf λl _=>ay8
theorem az0{l:I Sg}:Cr BA (DS l)=DS l:=by
 rw[Og];unfold DS;induction l with
 |nil=>rfl|cons x l ih=>rw[Yg,N_,ih,<-Og,ay9]
theorem DR.DW{key:T->V}(Dj:∀j,A_[j]?=Au[BA j]?):∀{l:I (T×A4)},DR key h A_ N l↔DR key h Au (N.map (JV BA)) l:=by induction N with
 |nil=>exact VI|cons e N ih=>exact HR λk=>HR λu=>HR λr=>Hn VI (Hn VI (Hn (VR.DW Dj) ih))
theorem Dn.DW(Dj:∀j,A_[j]?=Au[BA j]?):Dn prog w h A_ a N↔Dn prog w h Au a (N.map (JV BA)):=by
 unfold Dn;simp only[DR.DW Dj]
theorem U0{N:I (U×V)}:Ah (N.map (Qo BA)) x=(Ah N x).map (E7 BA):=by induction N with
 |nil=>rfl|cons e N ih=>
 show bC (Cw e.1 x) (G (E7 BA e.2)) (Ah (N.map (Qo BA)) x)=(bC (Cw e.1 x) (G e.2) (Ah N x)).map (E7 BA);cases Cw e.1 x with
 |true=>rfl|false=>exact ih
theorem Ca.DW(Dj:∀j,A_[j]?=Au[BA j]?):Ca prog w h A_ a o↔Ca prog w h Au a (DV BA o):=by cases o with
 |list Y=>simp only[Ca,DV,Aa.DW Dj]|dict N=>exact Dn.DW Dj|B3 N=>
  simp only[Ca,DV,W6,and_true];constructor;. rintro⟨BN,p,y⟩;exact⟨_,p.map _,(Dn.DW Dj).mp y⟩
  . rintro⟨BN,p,y⟩;refine AC (cV p) ?_;intro az1 p' BP;clear p;subst BP;exact⟨az1,p',(Dn.DW Dj).mpr y⟩|EY N=>
  simp only[Ca,DV];constructor
  . rintro⟨m,ns,r⟩;refine⟨m,ns,λx=>?_⟩;have :=r x;rw[U0];cases e:Ah N x with
 |none=>rw[e]at this;exact this|some v=>rw[e]at this;refine AC this ?_;(try clear this);intro u q z;exact⟨u,q,(VR.DW Dj).mp z⟩
  . rintro⟨m,ns,r⟩;refine⟨m,ns,λx=>?_⟩;have :=r x;rw[U0]at this;cases e:Ah N x with
  |none=>rw[e]at this;exact this|some v=>rw[e]at this;refine AC this ?_;(try clear this);intro u q z;exact⟨u,q,(VR.DW Dj).mpr z⟩
 |rows r Y=>
  simp only[Ca,DV];have :∀{us:I A4},Aa h A_ (DS Y) us↔Aa h Au (DS Y) us:=λ{us}=>by
    have :=Aa.DW (h:=h) (BA:=BA) Dj (v:=DS Y) (u:=us);rw[az0]at this;exact this
  simp only[this]|HU=>exact VI|inst c d=>
  show(∃da,A_[d]?=G da/\_)↔∃da,Au[BA d]?=G da/\_;rw[Dj]
end
noncomputable def DJ(n:O)(B7:I O)(j:O):O:=match B7[j]? with|some i=>i|none=>n+(j-B7.length)
structure Sub(H:Mine.St)(DI:Mine.St)(B7:I O):Prop where
 len:B7.length=DI.n
 nodup:B7.Nodup
 lt:∀i∈B7,i<H.n
 obs:∀j o,AL DI.h j=G o->∃i,B7[j]?=G i/\AL H.h i=G (DV (DJ H.n B7) o)
noncomputable def C'(C:I A8)(B7:I O):I A8:=B7.map λi=>C.getD i 0
section
variable{J:I A8}
theorem GJ(hl:C.length=n)(KO:∀i∈B7,i<n)(j:O):(C' C B7++J)[j]?=(C++J)[DJ n B7 j]?:=by
 have hz:(C' C B7).length=B7.length:=by simp[C']
 unfold DJ;cases e:B7[j]? with
 |none=>
  have :B7.length<=j:=by simpa using e
  show _=(C++J)[n+(j-B7.length)]?;rw[VH (hz▸this),VH (hl▸H4 _ _),hz,hl,bH2]|some i=>
  have hi:i<C.length:=by rw[hl];exact KO i (Ew e)
  refine xE (HM.mp e) ?_;intro hj _;rw[Y6 (hz.symm▸hj),Y6 hi];unfold C';rw[VJ,e];simp[Kq,hi]
theorem LR(hl:C.length=n)(KO:∀i∈B7,i<n)(h:a∈C' C B7):a∈C:=by
 refine AC (E0.mp h) ?_;intro i hi Aw;clear h;subst Aw;have :i<C.length:=by rw[hl];exact KO i hi
 simp[Kq,this]
theorem Gd.sub(g:Gd B F K A H C s)(AG:Sub H DI B7)(hd:d<=K.d)(he:Cf F s.heap (C' C B7) DI.env):Gd B F ⟨K.sc,d⟩ A DI (C' C B7) s where
 kinds:=⟨g.kinds.fn,g.kinds.sc,g.kinds.kd,g.kinds.g3,g.kinds.b0,g.kinds.cells,g.kinds.Ia,g.kinds.MT⟩;len:=by rw[<-AG.len];simp[C']
 nodup:=by
  unfold C';rw[ud,gB];refine AG.nodup.imp_of_mem λ{a b}ha hb Cc e=>Cc ?_;have h1:a<C.length:=by rw[g.len];exact AG.lt a ha
  have h2:b<C.length:=by rw[g.len];exact AG.lt b hb
  have e':C[a]?=C[b]?:=by simpa[Kq,h1,h2]using e
  exact(RY h1 g.nodup).mp e'
 fresh:=λa m=>g.fresh a (LR g.len AG.lt m);live:=λa m=>g.live a (LR g.len AG.lt m);D5:=λa m=>⟨(g.D5 a m).1,λz=>(g.D5 a m).2.1 (LR g.len AG.lt z),(g.D5 a m).2.2⟩;D1:=λc m=>⟨λz=>(g.D1 c m).1 (LR g.len AG.lt z),(g.D1 c m).2⟩;objs:=λj o e=>by
  refine AC (AG.obs j o e) ?_;intro i hi e';refine AC (g.objs i _ e') ?_;intro a ha r;have Es:∀j,(C' C B7)[j]?=C[DJ H.n B7 j]?:=λj=>by
   have :=GJ (J:=[]) g.len AG.lt j;simpa using this
  refine⟨a,?_,(Ca.DW Es).mpr r⟩;rw[Es];unfold DJ;rw[hi];exact ha
 env:=he;base:=g.base;os:=g.os;gens:=g.gens;frames:=g.frames;DT:=g.DT;Cy:=λA1 m=>⟨λz=>(g.Cy A1 m).1 (LR g.len AG.lt z),(g.Cy A1 m).2⟩;mods:=g.mods;handled:=g.handled;depth:=by have :=g.depth;show A.depth+3*d<900;(with_reducible exact Mine.yW (by assumption) (by assumption))
 units:=by have :=g.units;show A.units+10*d<9000;(with_reducible exact Mine.yW (by assumption) (by assumption))
theorem Cf.nil(g:Gd B F K A H C s):Cf F s.heap BG []:=by
 refine CZ g.env ?_;intro m ns ce _;exact⟨m,ns,ce,λx v e=>(AF e).elim⟩
structure ng(H DI AB A7:Mine.St)(B7:I O):Prop where
 env:A7.env=H.env
 le:DI.n<=AB.n
 n:A7.n=H.n+(AB.n-DI.n)obs:∀i o,AL A7.h i=G o->(∃j LS,AL AB.h j=G LS/\i=DJ H.n B7 j/\o=DV (DJ H.n B7) LS)\/(AL H.h i=G o/\i∉B7)
theorem Gd.out(g:Gd B F K A H C s)(AG:Sub H DI B7)(g':Gd B F K' A' AB AT s')(x:Nx F.D [] s.heap s'.heap (C' C B7) AT)(BL:ng H DI AB A7 B7):∃J,AT=C' C B7++J/\Gd B F K A A7 (C++J) s'/\Nx F.D [] s.heap s'.heap C (C++J):=by
 refine AC x.pre ?_;intro J B6 GB;subst B6;have hz:(C' C B7).length=B7.length:=by simp[C']
 have Tm:=g'.len;rw[FD,hz,AG.len]at Tm;have hx:Nx F.D [] s.heap s'.heap C (C++J):=⟨⟨J,rfl,GB⟩,x.live,x.Bw,λb o e n m=>x.same b o e (λz=>n (LR g.len AG.lt z)) m⟩;have nd:=g'.nodup;rw[IE]at nd;refine⟨J,rfl,g.back hx (by rw[FD,g.len,BL.n];exact congrArg (H.n+·) (bq6 Tm)) ?_ ?_ ?_ ?_ g'.base g'.os g'.gens (by rw[BL.env];exact Cf.Gw g g.env hx),hx⟩
 . refine IE.mpr ⟨g.nodup,nd.2.1,λa ha b hb e=>?_⟩;subst e;refine xE (g.live a ha) ?_;intro o e;rw[GB a hb]at e;exact(BE e).elim
 . intro a m;rcases Dr.mp m with m|m;. exact g.fresh a m
   . exact g'.fresh a (Pk _ m)
 . intro a m;rcases Dr.mp m with m|m;. refine xE (g.live a m) ?_;intro o e;exact x.live a o e
   . exact g'.live a (Pk _ m)
 . intro i o e;have Es:=GJ (C:=C) (J:=J) g.len AG.lt;rcases BL.obs i o e with BP|Bq;refine Bv BP ?_;(try clear BP);intro j LS ej Bg Bu;subst Bg;subst Bu;rotate_left;refine xA Bq ?_;(try clear Bq);intro e hi;rotate_left
   . refine AC (g'.objs j LS ej) ?_;intro a ha r;exact⟨a,by rw[<-Es];exact ha,(Ca.DW Es).mp r⟩
   . refine AC (g.objs i o e) ?_;intro a ha r;refine⟨a,FY ha,r.mono x.Bw λy ey=>x.keep a y ey (λz=>hi ?_) (by simp) (λz=>absurd (Ew ha) (g.Cy a z).1)⟩;refine AC (E0.mp z) ?_;intro j hj e';have h1:j<C.length:=by rw[g.len];exact AG.lt j hj
     have h2:C[j]?=G a:=by rw[<-e'];simp[Kq,h1]
     have :j=i:=(RY h1 g.nodup).mp (h2.trans ha.symm);exact this▸hj
theorem nh{X3:V}(Oh:∀{F:Fm}{A:CK}{C:I A8}{s:AR}{us:I A4},Gd B F ⟨K.sc,d⟩ A DI C s->Aa s.heap C MU us->Ae B F ⟨K.sc,d⟩ A AB C s (CE fu us) (RV X3))(he:DI.env=[])(hd:d<=K.d)(g:Gd B F K A H C s)(AG:Sub H DI B7)(BL:ng H DI AB A7 B7)(ha:args=Cr (DJ H.n B7) MU)(hv:v=E7 (DJ H.n B7) X3)(rs:Aa s.heap C args us):Ae B F K A A7 C s (CE fu us) (RV v):=by
 intro A2 E k;have cW:∀j,(C' C B7)[j]?=C[DJ H.n B7 j]?:=λj=>by
  have :=GJ (J:=[]) g.len AG.lt j;simpa using this
 subst ha;subst hv;refine Oh (g.sub AG hd (by rw[he];exact Cf.nil g)) ((Aa.DW cW).mpr rs) A2 E λu AT s' g' x' r'=>?_;refine CZ (g.out AG g' x' BL) ?_;intro J BJ gg xx;clear g' x';subst BJ;exact k u _ s' gg xx ((VR.DW (GJ g.len AG.lt)).mp r')
end
section
variable{CR:Kx->Cd->Mine.St->AD A0}
structure Dg(B:Bs):Prop where
 Gs:∀CR,Ts B (Mn CR)sset:∀CR,cC B (Mn CR)lmap:∀CR,cD B (Mn CR)
theorem cX(AV:(Bb P).In B.base)(AS:Dg B)(sm:Ml B (Mn CR)):Ok B (Mn CR) (Bb P):=⟨cS AV,nZ,cU,X2 AV,GI AV,nc,n_,AS.Gs _,AS.sset _,AS.lmap _,sm⟩
theorem az2:Ml B FL:=⟨λh=>(by exact(BE h).elim),λh=>(by exact(BE h).elim),λh=>(by exact(BE h).elim),λh=>(by exact(BE h).elim),λh=>(by exact(BE h).elim)⟩
theorem U1(AV:(Bb P).In B.base)(AS:Dg B)(n:O):All B FL n:=Wy (cX AV AS az2) n
end
mutual
noncomputable def Fx:V->AK
 |.ref _=>A6|.B' _ _=>A6|.tup _ Y=>JW Y|_=>M
noncomputable def JW:I V->AK
 |[]=>M|v::l=>Fx v&&JW l
end
section
theorem nk(h:JW vs=M):∀v∈vs,Fx v=M:=by induction vs with
 |nil=>exactλ_ m=>nomatch m|cons x l ih=>exactλv m=>(Cj.mp m).elim (λe=>e▸B1 h) (ih (Ak h) v)
theorem VR.Fx:Mine.Fx v=M->VR h A_ v u->VR h Au v u:=V.ind (P:=λv=>∀u,Mine.Fx v=M->VR h A_ v u->VR h Au v u) (λ_ k u _ e=>k _ _ _ _ u e) (λ_ _ _ _ e=>e) (λ_ _ c=>(B0 c).elim) (λ_ _ _ c=>(B0 c).elim) (λ_ _ ih _ c e=>Ku e λa o us n e g t k d r=>⟨a,o,us,n,e,g,t,k,d,r.imp λv m u=>ih v m u (nk c v m)⟩) v u
theorem Aa.Fx{v:I V}{u:I A4}(c:JW v=M)(r:Aa h A_ v u):Aa h Au v u:=r.imp λv m _=>VR.Fx (nk c v m)
end
section
variable{J:I A8}
theorem call_plain(Oh:∀{F:Fm}{A:CK}{C:I A8}{s:AR}{us:I A4},Gd B F ⟨K.sc,d⟩ A ⟨[],[],0⟩ C s->Aa s.heap C args us->Ae B F ⟨K.sc,d⟩ A AB C s (CE fu us) (RV v))(ha:JW args=M)(hv:Fx v=M)(hd:d<=K.d)(g:Gd B F K A H C s)(rs:Aa s.heap C args us):Ae B F K A H C s (CE fu us) (RV v):=by
 intro A2 E k;have AG:Sub H ⟨[],[],0⟩ []:=⟨rfl,HN,λi m=>(by(exfalso;cases m)),λj o e=>(by exact(BE e).elim)⟩;refine Oh (g.sub AG hd (Cf.nil g)) (Aa.Fx ha rs) A2 E λu AT s' g' x' r'=>?_;have hx:Nx F.D [] s.heap s'.heap C C:=⟨⟨[],by simp,λb m=>(by(exfalso;cases m))⟩,x'.live,x'.Bw,λb o e n m=>x'.same b o e (λz=>(by(exfalso;cases z))) m⟩;refine k u C s' (g.back hx g.len g.nodup g.fresh (λa m=>?_) (λi o e=>?_) g'.base g'.os g'.gens (Cf.Gw g g.env hx)) hx (VR.Fx hv r');. refine xE (g.live a m) ?_;intro o e;exact x'.live a o e
 . refine AC (g.objs i o e) ?_;intro a ha r;have :=r.mono (J:=[]) x'.Bw λy ey=>x'.keep a y ey (λz=>by(exfalso;cases z)) (by simp) (λz=>absurd (Ew ha) (g.Cy a z).1);exact⟨a,ha,by simpa using this⟩
end
noncomputable def U2(a b:V):AK:=vInt a (vStr a (IT a A6 (IT b A6 M)) λx=>vStr b A6 λy=>CU x y) λx=>vInt b A6 λy=>decide (x=y)
theorem nn{a b:V}(h:U2 a b=M){P:V->V->Prop}(n:P .none .none)(i:∀x,P (.int x) (.int x))(s:∀x,P (.str x) (.str x)):P a b:=by
 apply Pz h;. intro x h;apply Cu h B0;intro y h;exact of_decide_eq_true h▸i x
 intro h;apply O0 h;. intro x h;apply Dd h B0;intro y h;exact Ec.mp h▸s x
 intro h;apply Q0 h B0;intro h;apply Q0 h B0;intro _;exact n
theorem no{a b:V}(h:U2 a b=M):a=b:=nn (P:=λa b=>a=b) h rfl (λ_=>rfl) λ_=>rfl
theorem np{a b:V}(h:U2 a b=M):Fx b=M:=nn (P:=λ_ b=>Fx b=M) h rfl (λ_=>rfl) λ_=>rfl
noncomputable def U3(a b:I V):AK:=all2 U2 a b
theorem nq{a b:I V}(h:U3 a b=M):a=b:=Nq (λ_ _=>no) a b h
theorem az3{a b:I V}(h:U3 a b=M):JW b=M:=VW (P:=λ_ b=>JW b=M) rfl (λa b x y q ih=>show(Fx b&&JW y)=M by rw[np q,ih];rfl) h
noncomputable def LU(o:A0)(v:V):AK:=K4 o A6 λw _=>U2 w v
theorem az4{o:A0}(h:LU o v=M):(∃H,o=.ok (.v v) H)/\Fx v=M:=by
 apply W4 h B0;intro w H h;exact⟨⟨H,by rw[no h]⟩,np h⟩
noncomputable def X4:I (I V×V)->I V->AD V
 |[],_=>L|e::l,a=>bC (U3 a e.1) (G e.2) (X4 l a)
theorem nr{a:I V}{l:I (I V×V)}:X4 l a=G v->(a,v)∈l/\JW a=M:=by induction l with
 |nil=>exactλh=>(AF h).elim|cons e l ih=>
 intro h;refine Eb (show bC (U3 a e.1) (G e.2) (X4 l a)=G v from h) (λq h=>?_) λ_ h=>⟨Cp _ (ih h).1,(ih h).2⟩;have :=nq q;exact⟨by rw[this,<-Bm h];exact Co,this▸az3 q⟩
noncomputable def nt:I (I V×V):=[([.str [47]],.str [47]),([.str [47,97]],.str [47]),([.str [47,97,47,98]],.str [47,97]),([.str [47,97,47,98,47,103]],.str [47,97,47,98]),([.str [47,97,47,102]],.str [47,97]),([.str [47,103]],.str [47]),([.str [47,103,47,112]],.str [47,103]),([.str [47,103,47,113]],.str [47,103]),([.str [47,104]],.str [47]),([.str [47,107]],.str [47]),([.str [47,107,47,112]],.str [47,107]),([.str [47,107,47,113]],.str [47,107]),([.str [47,109]],.str [47]),([.str [47,110]],.str [47]),([.str [47,110,47,107]],.str [47,110])]
noncomputable def nu:I (I V×V):=[([.str [47]],.str []),([.str [47,97]],.str [97]),([.str [47,97,47,98]],.str [98]),([.str [47,97,47,98,47,103]],.str [103]),([.str [47,97,47,102]],.str [102]),([.str [47,103]],.str [103]),([.str [47,103,47,112]],.str [112]),([.str [47,103,47,113]],.str [113]),([.str [47,104]],.str [104]),([.str [47,107]],.str [107]),([.str [47,107,47,112]],.str [112]),([.str [47,107,47,113]],.str [113]),([.str [47,109]],.str [109]),([.str [47,110]],.str [110]),([.str [47,110,47,107]],.str [107])]
noncomputable def nw:I (I V×V):=[([.str [47],.str [97]],.str [47,97]),([.str [47],.str [103]],.str [47,103]),([.str [47],.str [104]],.str [47,104]),([.str [47],.str [107]],.str [47,107]),([.str [47],.str [109]],.str [47,109]),([.str [47],.str [110]],.str [47,110]),([.str [47,97],.str [98]],.str [47,97,47,98]),([.str [47,97],.str [102]],.str [47,97,47,102]),([.str [47,97,47,98],.str [103]],.str [47,97,47,98,47,103]),([.str [47,103],.str [112]],.str [47,103,47,112]),([.str [47,103],.str [113]],.str [47,103,47,113]),([.str [47,107],.str [112]],.str [47,107,47,112]),([.str [47,107],.str [113]],.str [47,107,47,113]),([.str [47,110],.str [107]],.str [47,110,47,107])]
noncomputable def ny:I (I V×V):=[([.str [47,115,47,46,46,47,47,97,47,47,102,47,46]],.str [47,97,47,102]),([.str [47,115,47,46,46,47,47,97,47,47,98,47,47,103,47,46]],.str [47,97,47,98,47,103]),([.str [47,115,47,46,46,47,47,104,47,46]],.str [47,104]),([.str [47,115,47,46,46,47,47,109,47,46]],.str [47,109]),([.str [47,115,47,46,46,47,47,107,47,47,112,47,46]],.str [47,107,47,112]),([.str [47,115,47,46,46,47,47,107,47,47,113,47,46]],.str [47,107,47,113]),([.str [47,115,47,46,46,47,47,97,47,47,98,47,46]],.str [47,97,47,98]),([.str [47,115,47,46,46,47,47,110,47,47,107,47,46]],.str [47,110,47,107]),([.str [47,115,47,46,46,47,47,97,47,46]],.str [47,97]),([.str [47,115,47,46,46,47,47,103,47,47,112,47,46]],.str [47,103,47,112]),([.str [47,115,47,46,46,47,47,103,47,47,113,47,46]],.str [47,103,47,113])]
noncomputable def o4:I (I V×V):=[([.int 0,.int 0],.str [48,44,48]),([.int 0,.int 1],.str [49]),([.int 0,.int 2],.str [49,44,50]),([.int 0,.int 3],.str [49,44,51]),([.int 0,.int 4],.str [49,44,52]),([.int 0,.int 5],.str [49,44,53]),([.int 0,.int 6],.str [49,44,54]),([.int 1,.int 1],.str [49,44,48]),([.int 1,.int 2],.str [50]),([.int 1,.int 3],.str [50,44,50]),([.int 1,.int 4],.str [50,44,51]),([.int 1,.int 5],.str [50,44,52]),([.int 1,.int 6],.str [50,44,53]),([.int 2,.int 2],.str [50,44,48]),([.int 2,.int 3],.str [51]),([.int 2,.int 4],.str [51,44,50]),([.int 2,.int 5],.str [51,44,51]),([.int 2,.int 6],.str [51,44,52]),([.int 3,.int 3],.str [51,44,48]),([.int 3,.int 4],.str [52]),([.int 3,.int 5],.str [52,44,50]),([.int 3,.int 6],.str [52,44,51]),([.int 4,.int 4],.str [52,44,48]),([.int 4,.int 5],.str [53]),([.int 4,.int 6],.str [53,44,50]),([.int 5,.int 5],.str [53,44,48]),([.int 5,.int 6],.str [54]),([.int 6,.int 6],.str [54,44,48])]
noncomputable def o5:I (I V×V):=[([.int 0,.int 0],.str [48,44,48]),([.int 0,.int 1],.str [49]),([.int 0,.int 2],.str [49,44,50]),([.int 0,.int 3],.str [49,44,51]),([.int 0,.int 4],.str [49,44,52]),([.int 0,.int 5],.str [49,44,53]),([.int 0,.int 6],.str [49,44,54]),([.int 1,.int 0],.str [49,44,48]),([.int 1,.int 1],.str [50]),([.int 1,.int 2],.str [50,44,50]),([.int 1,.int 3],.str [50,44,51]),([.int 1,.int 4],.str [50,44,52]),([.int 1,.int 5],.str [50,44,53]),([.int 2,.int 0],.str [50,44,48]),([.int 2,.int 1],.str [51]),([.int 2,.int 2],.str [51,44,50]),([.int 2,.int 3],.str [51,44,51]),([.int 2,.int 4],.str [51,44,52]),([.int 3,.int 0],.str [51,44,48]),([.int 3,.int 1],.str [52]),([.int 3,.int 2],.str [52,44,50]),([.int 3,.int 3],.str [52,44,51]),([.int 4,.int 0],.str [52,44,48]),([.int 4,.int 1],.str [53]),([.int 4,.int 2],.str [53,44,50]),([.int 5,.int 0],.str [53,44,48]),([.int 5,.int 1],.str [54]),([.int 6,.int 0],.str [54,44,48])]
noncomputable def U4:I (O×I (I V×V)):=[(368,nt),(361,nu),(347,nw),(375,ny),(253,o4),(423,o5)]
noncomputable def Qp(K:Kx)(c:Cd)(H:Mine.St):AD A0:=jt (λ_ _ _=>L) (λ_ _ _=>L) (λf args K H=>IS f L λw=>Kw w L λa=>bT (EQ 5 K.d) L<|B' (AL U4 a) λt=>B' (X4 t args) λv=>G (.ok (.v v) H)) c K H
noncomputable abbrev CQ:Mine.Ctx:=Mn Qp
theorem az5(sc:BU):(nt.all λe=>LU (ev FL 60 ⟨sc,5⟩ (.call (.top (.ref 368)) e.1) ⟨[],[],0⟩) e.2)=M:=by kernel_rfl
theorem az6(sc:BU):(nu.all λe=>LU (ev FL 60 ⟨sc,5⟩ (.call (.top (.ref 361)) e.1) ⟨[],[],0⟩) e.2)=M:=by kernel_rfl
theorem az7(sc:BU):(nw.all λe=>LU (ev FL 60 ⟨sc,5⟩ (.call (.top (.ref 347)) e.1) ⟨[],[],0⟩) e.2)=M:=by kernel_rfl
theorem az8(sc:BU):(ny.all λe=>LU (ev FL 60 ⟨sc,5⟩ (.call (.top (.ref 375)) e.1) ⟨[],[],0⟩) e.2)=M:=by kernel_rfl
theorem az9(sc:BU):(o4.all λe=>LU (ev FL 60 ⟨sc,5⟩ (.call (.top (.ref 253)) e.1) ⟨[],[],0⟩) e.2)=M:=by kernel_rfl
theorem aA0(sc:BU):(o5.all λe=>LU (ev FL 60 ⟨sc,5⟩ (.call (.top (.ref 423)) e.1) ⟨[],[],0⟩) e.2)=M:=by kernel_rfl
theorem aA1{a:O}{t:I (I V×V)}(h:AL U4 a=G t)(sc:BU):(t.all λe=>LU (ev FL 60 ⟨sc,5⟩ (.call (.top (.ref a)) e.1) ⟨[],[],0⟩) e.2)=M:=all_cons (p:=λp:O×I (I V×V)=>(p.2.all λe=>LU (ev FL 60 ⟨sc,5⟩ (.call (.top (.ref p.1)) e.1) ⟨[],[],0⟩) e.2)=M) (az5 sc) (all_cons (az6 sc) (all_cons (az7 sc) (all_cons (az8 sc) (all_cons (az9 sc) (all_cons (aA0 sc) EE))))) (a,t) (T3 h)
theorem aA2:(U4.all λp=>(AL Io p.1).isSome)=M:=by kernel_rfl
theorem aA3{a:O}{t:I (I V×V)}(h:AL U4 a=G t):∃fn,AL Io a=G fn:=ub.mp (Bn.mp aA2 (a,t) (T3 h))
section
theorem o6{f:V}(h:Qp K (.call f args) H=G (.ok (.v v) A7)):∃a t,f=.top (.ref a)/\AL U4 a=G t/\5<=K.d/\(args,v)∈t/\JW args=M/\A7=H:=by
 apply O1 (v:=f) h AF;intro w h;apply Q1 h AF;intro a h;refine Ce h AF λhd h=>BI h λt ht h=>BI h λw hw h=>?_;injection Bm h with h1 h2;injection h1 with h1;subst h1;subst h2;exact⟨a,t,rfl,ht,Dk hd,(nr hw).1,(nr hw).2,rfl⟩
theorem cY(AV:(Bb P).In B.base)(AS:Dg B):Ml B CQ where
 only:=λ{K c H o}h=>by cases c with
 |call f args=>exact .inl ⟨_,_,rfl⟩|_=>exact(AF h).elim
 M_:=λ{K f args H A7 v}h{F A C s fu}g r=>by
  refine MA (o6 h) ?_;intro a t Aw ht _ _ _ _;subst Aw;cases r;refine xE (aA3 ht) ?_;intro fn hf;refine DB ((X2 (on:=M) (CR:=Qp) AV).fn a fn hf) ?_;intro o fd ok;exact CW.func (g.base _ _ ok.get) ok.data
 call:=λ{K f args H A7 v}h{F A C s fu us}g r rs=>by
  refine MA (o6 h) ?_;intro a t B6 ht hd hm hc BJ;subst B6;subst BJ;cases r;refine xA (az4 (Bn.mp (aA1 ht K.sc) _ hm)) ?_;intro BP hv;refine xE BP ?_;(try clear BP);intro AB e;exact call_plain (λ{F A C s us}g rs=>(U1 AV AS 60).s.call e g rfl rs) hc hv hd g rs
 e:=λh=>(AF h).elim;s:=λh=>(AF h).elim
theorem all1(AV:(Bb P).In B.base)(AS:Dg B)(n:O):All B CQ n:=Wy (cX AV AS (cY AV AS)) n
end
noncomputable def cZ(l:I V)(m:I (I Tx)):AK:=all2 (λv r=>FU v A6 λc Y=>oN c A6 (U3 Y (r.map .str))) l m
theorem o7{l:I V}{m:I (I Tx)}(h:cZ l m=M):l=m.map λr=>.tup L (r.map .str):=vd (λv r h=>by apply IR (v:=v) h B0;intro c Y h;apply GQ h B0;intro h;rw[nq h]) h
noncomputable def Ip(o:A0)(m:I (I Tx)):AK:=K4 o A6 λv H=>DQ v A6 λi=>oS (AL H.h i) A6 λob=>EJ ob A6 λl=>cZ l m
theorem JX{o:A0}{m:I (I Tx)}(h:Ip o m=M):∃i H,o=.ok (.v (.ref i)) H/\AL H.h i=G (.list (m.map λr=>.tup L (r.map .str))):=by
 apply W4 h B0;intro v H h;apply EI h B0;intro i h;refine VX h B0 λob e h=>?_;revert e;apply IU h B0;intro l h e;exact⟨i,H,rfl,by rw[<-o7 h];exact e⟩
noncomputable def runC(sc:BU)(a b:Tx):A0:=ev FL 300 ⟨sc,20⟩ (.call (.top (.ref 430)) [.str a,.str b]) ⟨[],[],0⟩
theorem aA4(sc:BU):((Bo M).all λb=>Ip (runC sc [] b) (C8 [] b))=M:=by kernel_rfl
theorem aA5(sc:BU):((Bo M).all λb=>Ip (runC sc [120] b) (C8 [120] b))=M:=by kernel_rfl
theorem aA6(sc:BU):((Bo M).all λb=>Ip (runC sc [120,121] b) (C8 [120,121] b))=M:=by kernel_rfl
theorem aA7(sc:BU):((Bo M).all λb=>Ip (runC sc [121,120] b) (C8 [121,120] b))=M:=by kernel_rfl
theorem aA8(sc:BU):((Bo M).all λb=>Ip (runC sc [120,121,122] b) (C8 [120,121,122] b))=M:=by kernel_rfl
theorem aA9(sc:BU):((Bo M).all λb=>Ip (runC sc [122,120,121] b) (C8 [122,120,121] b))=M:=by kernel_rfl
theorem aB0(sc:BU):((Bo M).all λb=>Ip (runC sc [121,121] b) (C8 [121,121] b))=M:=by kernel_rfl
theorem aB1(sc:BU):((Bo M).all λb=>Ip (runC sc [120,122,120,121] b) (C8 [120,122,120,121] b))=M:=by kernel_rfl
theorem aB2(sc:BU):((Bo M).all λb=>Ip (runC sc [120,118,121,122,117,119] b) (C8 [120,118,121,122,117,119] b))=M:=by kernel_rfl
theorem aB3(sc:BU):((Bo M).all λb=>Ip (runC sc [118,121,122] b) (C8 [118,121,122] b))=M:=by kernel_rfl
theorem aB4(sc:BU):((Bo M).all λb=>Ip (runC sc [120,120] b) (C8 [120,120] b))=M:=by kernel_rfl
theorem aB5{a b:Tx}(ha:a∈Bo A6)(hb:b∈Bo M)(sc:BU):∃i H,runC sc a b=.ok (.v (.ref i)) H/\AL H.h i=G (.list ((C8 a b).map λr=>.tup L (r.map .str))):=by
 simp only[Bo,Cj,Jr,Js]at ha;rcases ha with rfl|rfl|rfl|rfl|rfl|rfl|rfl|rfl|rfl|rfl|rfl;. exact JX (Bn.mp (aA4 sc) b hb)
 . exact JX (Bn.mp (aA5 sc) b hb)
 . exact JX (Bn.mp (aA6 sc) b hb)
 . exact JX (Bn.mp (aA7 sc) b hb)
 . exact JX (Bn.mp (aA8 sc) b hb)
 . exact JX (Bn.mp (aA9 sc) b hb)
 . exact JX (Bn.mp (aB0 sc) b hb)
 . exact JX (Bn.mp (aB1 sc) b hb)
 . exact JX (Bn.mp (aB2 sc) b hb)
 . exact JX (Bn.mp (aB3 sc) b hb)
 . exact JX (Bn.mp (aB4 sc) b hb)
structure Op where
 tag:Tx
 i:O
 k:O
 j:O
 m:O
noncomputable def F3(o:Op):V:=.tup L [.str o.tag,.int o.i,.int o.k,.int o.j,.int o.m]
noncomputable def U5:AX->AD O|.ofNat n=>G n|_=>L
noncomputable def c_(v:V):AD Op:=FU v L λc l=>oN c L<|lC l L λt l=>lC l L λi l=>lC l L λk l=>l2 l L λj m=>vStr t L λt=>vInt i L λi=>vInt k L λk=>vInt j L λj=>vInt m L λm=>B' (U5 i) λi=>B' (U5 k) λk=>B' (U5 j) λj=>B' (U5 m) λm=>G ⟨t,i,k,j,m⟩
noncomputable def X5:I V->AD (I Op)
 |[]=>G []|v::l=>B' (c_ v) λo=>B' (X5 l) λm=>G (o::m)
theorem X6{i:AX}(h:U5 i=G n):i=n:=by cases i<;>cases h;rfl
theorem aB6{o:Op}(h:c_ v=G o):v=F3 o:=by
 apply IR h AF;intro c l h;apply GQ h AF;intro h;apply FT h AF;intro t l h;apply FT h AF;intro i l h;apply FT h AF;intro k l h;apply Ho h AF;intro j m h;apply Dd h AF;intro t h;apply Cu h AF;intro i h;apply Cu h AF;intro k h;apply Cu h AF;intro j h;apply Cu h AF;intro m h;refine BI h λi' h1 h=>BI h λk' h2 h=>BI h λj' h3 h=>BI h λm' h4 h=>?_;rw[<-Bm h,X6 h1,X6 h2,X6 h3,X6 h4];rfl
theorem aB7{l:I V}:∀{m:I Op},X5 l=G m->l=m.map F3:=by induction l with
 |nil=>intro m h;rw[<-Bm h];rfl|cons v l ih=>exactλh=>BI (x:=c_ v) h λo h1 h=>BI h λm' h2 h=>by rw[<-Bm h,aB6 h1,ih h2];rfl
noncomputable def aB8:Tx:=[101,113,117,97,108]
noncomputable def Iq(o:Op):I (I Tx):=match CU o.tag aB8 with
 |true=>[]|false=>[[o.tag,W7 o.i (o.k-o.i),W7 o.j (o.m-o.j)]]
noncomputable def ca(a b:I Tx):AK:=all2 CU a b
noncomputable def cb(a b:I (I Tx)):AK:=all2 ca a b
theorem o8{a b:I Tx}(h:ca a b=M):a=b:=Nq (λ_ _=>Ec.mp) a b h
theorem aB9{a b:I (I Tx)}(h:cb a b=M):a=b:=Nq (λ_ _=>o8) a b h
noncomputable def KP:I Op:=[⟨[100,101,108,101,116,101],0,1,0,0⟩,⟨[100,101,108,101,116,101],0,2,0,0⟩,⟨[100,101,108,101,116,101],0,3,0,0⟩,⟨[100,101,108,101,116,101],0,4,0,0⟩,⟨[100,101,108,101,116,101],0,6,0,0⟩,⟨[100,101,108,101,116,101],1,2,1,1⟩,⟨[100,101,108,101,116,101],1,2,2,2⟩,⟨[100,101,108,101,116,101],1,2,3,3⟩,⟨[100,101,108,101,116,101],1,2,4,4⟩,⟨[100,101,108,101,116,101],1,3,1,1⟩,⟨[100,101,108,101,116,101],1,3,2,2⟩,⟨[100,101,108,101,116,101],1,4,1,1⟩,⟨[100,101,108,101,116,101],1,4,2,2⟩,⟨[100,101,108,101,116,101],1,6,1,1⟩,⟨[100,101,108,101,116,101],1,6,2,2⟩,⟨[100,101,108,101,116,101],2,3,1,1⟩,⟨[100,101,108,101,116,101],2,3,2,2⟩,⟨[100,101,108,101,116,101],2,3,3,3⟩,⟨[100,101,108,101,116,101],2,3,4,4⟩,⟨[100,101,108,101,116,101],3,6,2,2⟩,⟨[100,101,108,101,116,101],3,6,3,3⟩,⟨[100,101,108,101,116,101],3,6,4,4⟩,⟨[100,101,108,101,116,101],4,6,3,3⟩,⟨[101,113,117,97,108],0,1,0,1⟩,⟨[101,113,117,97,108],0,1,1,2⟩,⟨[101,113,117,97,108],0,1,2,3⟩,⟨[101,113,117,97,108],0,1,3,4⟩,⟨[101,113,117,97,108],0,2,0,2⟩,⟨[101,113,117,97,108],0,2,1,3⟩,⟨[101,113,117,97,108],0,2,2,4⟩,⟨[101,113,117,97,108],0,3,0,3⟩,⟨[101,113,117,97,108],0,3,1,4⟩,⟨[101,113,117,97,108],0,4,0,4⟩,⟨[101,113,117,97,108],1,2,0,1⟩,⟨[101,113,117,97,108],1,2,1,2⟩,⟨[101,113,117,97,108],1,2,2,3⟩,⟨[101,113,117,97,108],1,2,3,4⟩,⟨[101,113,117,97,108],1,3,0,2⟩,⟨[101,113,117,97,108],1,3,1,3⟩,⟨[101,113,117,97,108],1,3,2,4⟩,⟨[101,113,117,97,108],1,4,0,3⟩,⟨[101,113,117,97,108],2,3,0,1⟩,⟨[101,113,117,97,108],2,3,1,2⟩,⟨[101,113,117,97,108],2,3,2,3⟩,⟨[101,113,117,97,108],2,3,3,4⟩,⟨[101,113,117,97,108],2,4,0,2⟩,⟨[101,113,117,97,108],2,4,1,3⟩,⟨[101,113,117,97,108],2,4,2,4⟩,⟨[101,113,117,97,108],3,4,0,1⟩,⟨[101,113,117,97,108],5,6,5,6⟩,⟨[105,110,115,101,114,116],0,0,0,1⟩,⟨[105,110,115,101,114,116],0,0,0,2⟩,⟨[105,110,115,101,114,116],0,0,0,3⟩,⟨[105,110,115,101,114,116],0,0,0,4⟩,⟨[105,110,115,101,114,116],0,0,0,6⟩,⟨[105,110,115,101,114,116],1,1,1,2⟩,⟨[105,110,115,101,114,116],1,1,1,3⟩,⟨[105,110,115,101,114,116],1,1,1,4⟩,⟨[105,110,115,101,114,116],1,1,1,6⟩,⟨[105,110,115,101,114,116],1,1,2,3⟩,⟨[105,110,115,101,114,116],2,2,1,2⟩,⟨[105,110,115,101,114,116],2,2,2,3⟩,⟨[105,110,115,101,114,116],2,2,2,4⟩,⟨[105,110,115,101,114,116],2,2,3,4⟩,⟨[105,110,115,101,114,116],2,2,3,6⟩,⟨[105,110,115,101,114,116],3,3,1,2⟩,⟨[105,110,115,101,114,116],3,3,2,3⟩,⟨[105,110,115,101,114,116],3,3,3,4⟩,⟨[105,110,115,101,114,116],3,3,4,6⟩,⟨[105,110,115,101,114,116],4,4,1,2⟩,⟨[105,110,115,101,114,116],4,4,2,3⟩,⟨[114,101,112,108,97,99,101],0,1,0,1⟩,⟨[114,101,112,108,97,99,101],0,1,0,2⟩,⟨[114,101,112,108,97,99,101],0,1,0,3⟩,⟨[114,101,112,108,97,99,101],0,1,0,4⟩,⟨[114,101,112,108,97,99,101],0,2,0,1⟩,⟨[114,101,112,108,97,99,101],0,2,0,2⟩,⟨[114,101,112,108,97,99,101],0,2,0,4⟩,⟨[114,101,112,108,97,99,101],0,3,0,1⟩,⟨[114,101,112,108,97,99,101],1,2,1,2⟩,⟨[114,101,112,108,97,99,101],1,2,1,3⟩,⟨[114,101,112,108,97,99,101],1,2,1,6⟩,⟨[114,101,112,108,97,99,101],1,2,2,3⟩,⟨[114,101,112,108,97,99,101],1,2,2,4⟩,⟨[114,101,112,108,97,99,101],1,2,3,6⟩,⟨[114,101,112,108,97,99,101],1,3,3,4⟩,⟨[114,101,112,108,97,99,101],1,3,4,6⟩,⟨[114,101,112,108,97,99,101],2,3,1,2⟩,⟨[114,101,112,108,97,99,101],2,4,3,4⟩,⟨[114,101,112,108,97,99,101],2,4,4,6⟩,⟨[114,101,112,108,97,99,101],3,6,1,2⟩,⟨[114,101,112,108,97,99,101],4,5,4,5⟩,⟨[114,101,112,108,97,99,101],4,6,3,4⟩]
noncomputable def cc(a b:Op):AK:=CU a.tag b.tag&&BC a.i b.i&&BC a.k b.k&&BC a.j b.j&&BC a.m b.m
noncomputable def cg(o:Op)(l:I Op):AK:=l.any (cc o)
theorem aC0{a b:Op}(h:cc a b=M):a=b:=by
 obtain⟨a1,a2,a3,a4,bZ7⟩:=a;obtain⟨b1,b2,b3,bZ8,bZ9⟩:=b;simp only[cc,D6]at h;rw[Ec.mp h.1.1.1.1,CD h.1.1.1.2,CD h.1.1.2,CD h.1.2,CD h.2]
theorem aC1{o:Op}{l:I Op}(h:cg o l=M):o∈l:=AC (IJ.mp h) λ_ m e=>aC0 e▸m
noncomputable def o9(sc:BU)(a b:Tx):A0:=ev FL 300 ⟨sc,20⟩ (.call (.top (.ref 242)) [.none,.str a,.str b]) ⟨[],[],0⟩
noncomputable def Mp:U:=⟨⟨[103,101,116,95,111,112,99,111,100,101,115]⟩⟩
noncomputable def oA(sc:BU)(i:O)(H:Mine.St):A0:=ev FL 300 ⟨sc,20⟩ (.HW (.fn 210) (.ref i) Mp []) H
noncomputable def ch(k:MK)(d:J)(f:O->J):J:=match k with|.fn a=>f a|.str=>d|.lst=>d|.F1=>d|.tup=>d
theorem aC2{k:MK}{d:J}{f:O->J}{r:J}(h:ch k d f=r)(hd:d=r->Bj){P:MK->Prop}(c:∀a,f a=r->P (.fn a)):P k:=by cases k with
 |fn a=>exact c a h|_=>exact(hd h).elim
noncomputable def oB(o:A0)(ro:O->Mine.St->A0)(a b:Tx):AK:=K4 o A6 λv H=>DQ v A6 λi=>l0 H.env A6<|oS (QF CQ (.ref i) Mp H.h) A6 λk=>ch k A6 λm=>bT (BC m 210) A6<|K4 (ro i H) A6 λv Bc=>DQ v A6 λj=>oS (AL Bc.h j) A6 λob=>EJ ob A6 λl=>oS (X5 l) A6 λCN=>CN.all (λo=>cg o KP)&&(cb (CN.flatMap Iq) (C8 a b)&&EQ CN.length 15)
noncomputable def Ir(sc:BU)(a b:Tx):AK:=oB (o9 sc a b) (oA sc) a b
theorem aC3(sc:BU):((Bo M).all λb=>Ir sc [] b)=M:=by kernel_rfl
theorem aC4(sc:BU):((Bo M).all λb=>Ir sc [120] b)=M:=by kernel_rfl
theorem aC5(sc:BU):((Bo M).all λb=>Ir sc [120,121] b)=M:=by kernel_rfl
theorem aC6(sc:BU):((Bo M).all λb=>Ir sc [121,120] b)=M:=by kernel_rfl
theorem aC7(sc:BU):((Bo M).all λb=>Ir sc [120,121,122] b)=M:=by kernel_rfl
theorem aC8(sc:BU):((Bo M).all λb=>Ir sc [122,120,121] b)=M:=by kernel_rfl
theorem aC9(sc:BU):((Bo M).all λb=>Ir sc [121,121] b)=M:=by kernel_rfl
theorem aD0(sc:BU):((Bo M).all λb=>Ir sc [120,122,120,121] b)=M:=by kernel_rfl
theorem aD1(sc:BU):((Bo M).all λb=>Ir sc [120,118,121,122,117,119] b)=M:=by kernel_rfl
theorem aD2(sc:BU):((Bo M).all λb=>Ir sc [118,121,122] b)=M:=by kernel_rfl
theorem aD3(sc:BU):((Bo M).all λb=>Ir sc [120,120] b)=M:=by kernel_rfl
theorem aD4{a b:Tx}(ha:a∈Bo A6)(hb:b∈Bo M)(sc:BU):Ir sc a b=M:=by
 simp only[Bo,Cj,Jr,Js]at ha;rcases ha with rfl|rfl|rfl|rfl|rfl|rfl|rfl|rfl|rfl|rfl|rfl;. exact Bn.mp (aC3 sc) b hb
 . exact Bn.mp (aC4 sc) b hb
 . exact Bn.mp (aC5 sc) b hb
 . exact Bn.mp (aC6 sc) b hb
 . exact Bn.mp (aC7 sc) b hb
 . exact Bn.mp (aC8 sc) b hb
 . exact Bn.mp (aC9 sc) b hb
 . exact Bn.mp (aD0 sc) b hb
 . exact Bn.mp (aD1 sc) b hb
 . exact Bn.mp (aD2 sc) b hb
 . exact Bn.mp (aD3 sc) b hb
theorem aD5{o:A0}{ro:O->Mine.St->A0}{a b:Tx}(h:oB o ro a b=M):∃(i:O)(AB:Mine.St)(j:O)(Bc:Mine.St)(CN:I Op),o=.ok (.v (.ref i)) AB/\AB.env=[]/\QF CQ (.ref i) Mp AB.h=G (.fn 210)/\ro i AB=.ok (.v (.ref j)) Bc/\AL Bc.h j=G (.list (CN.map F3))/\(∀o∈CN,o∈KP)/\CN.flatMap Iq=C8 a b/\CN.length<=15:=by
 refine W5 h B0 λv H hM h=>?_;revert hM;apply EI h B0;intro i h hM;obtain⟨env,hp,n⟩:=H;cases env with
 |cons _ _=>exact(B0 h).elim|nil=>
 have h:oS (QF CQ (.ref i) Mp hp) A6 (λk=>ch k A6 λm=>bT (BC m 210) A6<|K4 (ro i ⟨[],hp,n⟩) A6 λv Bc=>DQ v A6 λj=>oS (AL Bc.h j) A6 λob=>EJ ob A6 λl=>oS (X5 l) A6 λCN=>CN.all (λo=>cg o KP)&&(cb (CN.flatMap Iq) (C8 a b)&&EQ CN.length 15))=M:=h;refine VX h B0 λk hk h=>?_;revert hk;apply aC2 h B0;intro m h hk;refine Ce h B0 λh2 h=>?_;have :=CD h2;clear h2;subst this;refine W5 h B0 λv Bc hO h=>?_;revert hO;apply EI h B0;intro j h hO;refine VX h B0 λob hl h=>?_;revert hl;apply IU h B0;intro l h hl;refine VX h B0 λCN ho h=>?_;rw[aB7 ho]at hl;exact⟨i,_,j,Bc,CN,hM,rfl,hk,hO,hl,(λo m=>aC1 (Bn.mp (B1 h) o m)),aB9 (B1 (Ak h)),Dk (Ak (Ak h))⟩
theorem oC{a b:Tx}(ha:a∈Bo A6)(hb:b∈Bo M)(sc:BU):∃(i:O)(AB:Mine.St)(j:O)(Bc:Mine.St)(CN:I Op),o9 sc a b=.ok (.v (.ref i)) AB/\AB.env=[]/\QF CQ (.ref i) Mp AB.h=G (.fn 210)/\oA sc i AB=.ok (.v (.ref j)) Bc/\AL Bc.h j=G (.list (CN.map F3))/\(∀o∈CN,o∈KP)/\CN.flatMap Iq=C8 a b/\CN.length<=15:=by exact aD5 (aD4 ha hb sc)
theorem Ci{p:J->Prop}{x y:I J}(h:∀o∈x,p o)(t:∀o∈y,p o):∀o∈x++y,p o:=λo m=>(Dr.mp m).elim (h o) (t o)
@[irreducible]noncomputable def Fy:As:=Ba 28
@[irreducible]noncomputable def X7:I As:=lC (Fk Fy) [] λ_ z1=>lC z1 [] λ_ z2=>lC z2 [] λ_ z3=>lC z3 [] λz4 z5=>G5 z4 [] λ_ _ b _ _=>l1 z5 [] λ_=>b
noncomputable def JY:U:=⟨⟨[110,117,109,98,101,114,115]⟩⟩
noncomputable def Mq:U:=⟨⟨[112,108,97,99,101,115]⟩⟩
noncomputable def Oi:U:=⟨⟨[116,101,120,116,115]⟩⟩
noncomputable def Qq:U:=⟨⟨[116,114,101,101,115]⟩⟩
noncomputable def nmX:U:=⟨⟨[120]⟩⟩
noncomputable def EO:I Tx:=[[47,97,47,102],[47,97,47,98,47,103],[47,104],[47,97,47,98],[47,110,47,107],[47,97]]
noncomputable def KQ:AK->I Tx
 |false=>[[47,97,47,102],[47,97,47,98,47,103],[47,104],[47,109],[47,107,47,112],[47,107,47,113]]|true=>[[47,97,47,102],[47,97,47,98],[47,104],[47,109],[47,110,47,107],[47,103,47,112],[47,103,47,113]]
noncomputable def Oj(A1:I Tx)(p:Tx):I Tx:=A1.filter (λq=>!K2 (p++[47]) (q++[47])&&!K2 (q++[47]) (p++[47]))++[p]
noncomputable def BM(w:Tx->V)(A1:I Tx):I (V×V):=A1.map λp=>(.str p,w p)
noncomputable def KR(w:Tx->V)(p:Tx)(v:V)(q:Tx):V:=match CU q p with|true=>v|false=>w q
noncomputable def Gz(rs:I V)(e0 e1:I (V×V)):Mine.St:=⟨[(JY,.ref 0),(Mq,.ref 1),(Oi,.ref 2),(Qq,.ref 3)],[(0,.list rs),(1,.list (EO.map .str)),(2,.list (IP.map .str)),(3,.list [.ref 4,.ref 5]),(4,.dict e0),(5,.dict e1)],6⟩
noncomputable def ci(r:O)(H:Mine.St):Mine.St:=⟨E_ H.env nmX (.IQ 12 r),H.h,H.n⟩
noncomputable def X8(o:A0):AD Mine.St:=aI o L λr H=>rF r L λf=>kM f L<|B' (AL H.h 0) λo0=>B' (AL H.h 1) λo1=>B' (AL H.h 2) λo2=>B' (AL H.h 3) λo3=>EJ o0 L λrs=>EJ o1 L λps=>EJ o2 L λts=>EJ o3 L λij=>l2 ij L λvi vj=>DQ vi L λi=>DQ vj L λj=>bC (BC i j) L<|B' (AL H.h i) λoi=>B' (AL H.h j) λoj=>FV oi L λe0=>FV oj L λe1=>B' (Ah H.env JY) λa=>B' (Ah H.env Mq) λb=>B' (Ah H.env Oi) λc=>B' (Ah H.env Qq) λd=>G ⟨[(JY,a),(Mq,b),(Oi,c),(Qq,d)],[(0,.list rs),(1,.list ps),(2,.list ts),(3,.list [.ref 4,.ref 5]),(4,.dict e0),(5,.dict e1)],6⟩
noncomputable def X9(r:O)(rs:I V)(e0 e1:I (V×V)):AD Mine.St:=X8 (ev FL 60 ⟨BV Fy,3⟩ (.ss X7) (ci r (Gz rs e0 e1)))
noncomputable def JZ(A1:I Tx)(r:O):Prop:=∀(w:Tx->V)(rs:I V)(e:I (V×V)),X9 (2*r) rs (BM w A1) e=G (Gz rs (BM (KR w (EO.getD r []) .any) (Oj A1 (EO.getD r []))) e)
noncomputable def J_(A1:I Tx)(r:O):Prop:=∀(w:Tx->V)(rs:I V)(e:I (V×V)),X9 (2*r+1) rs e (BM w A1)=G (Gz rs e (BM (KR w (EO.getD r []) .any) (Oj A1 (EO.getD r []))))
noncomputable abbrev q0:Tx:=[47,97]
noncomputable abbrev q1:Tx:=[47,97,47,98]
noncomputable abbrev q2:Tx:=[47,97,47,98,47,103]
noncomputable abbrev q3:Tx:=[47,97,47,102]
noncomputable abbrev q4:Tx:=[47,103,47,112]
noncomputable abbrev q5:Tx:=[47,103,47,113]
noncomputable abbrev q6:Tx:=[47,104]
noncomputable abbrev q7:Tx:=[47,107,47,112]
noncomputable abbrev q8:Tx:=[47,107,47,113]
noncomputable abbrev q9:Tx:=[47,109]
noncomputable abbrev AY:Tx:=[47,110,47,107]
theorem Mr{l:I (I Tx)}(h:∀(w:Tx->V)(rs:I V)(e:I (V×V)),l.map (λA1=>(DN 6).map λr=>X9 (2*r) rs (BM w A1) e)=l.map (λA1=>(DN 6).map λr=>G (Gz rs (BM (KR w (EO.getD r []) .any) (Oj A1 (EO.getD r []))) e))):∀A1∈l,∀r∈DN 6,JZ A1 r:=λA1 m r m' w rs e=>H6.mp (H6.mp (h w rs e) A1 m) r m'
theorem Ms{l:I (I Tx)}(h:∀(w:Tx->V)(rs:I V)(e:I (V×V)),l.map (λA1=>(DN 6).map λr=>X9 (2*r+1) rs e (BM w A1))=l.map (λA1=>(DN 6).map λr=>G (Gz rs e (BM (KR w (EO.getD r []) .any) (Oj A1 (EO.getD r [])))))):∀A1∈l,∀r∈DN 6,J_ A1 r:=λA1 m r m' w rs e=>H6.mp (H6.mp (h w rs e) A1 m) r m'
noncomputable def oE:I (I Tx):=[[q2,q6,q9,q7,q8,q3],[q2,q6,q9,q7,q8,q3,AY],[q2,q6,q9,q7,q8,AY,q3],[q2,q9,q7,q8,q3,q6]]
theorem aD6:∀A1∈oE,∀r∈DN 6,JZ A1 r:=Mr λw rs e=>by kernel_rfl
noncomputable def oF:I (I Tx):=[[q2,q9,q7,q8,q6,q3],[q3,q2,q6,q9,q7,q8],[q3,q2,q6,q9,q7,q8,AY],[q3,q2,q9,q7,q8,q6]]
theorem aD7:∀A1∈oF,∀r∈DN 6,JZ A1 r:=Mr λw rs e=>by kernel_rfl
noncomputable def oG:I (I Tx):=[[q3,q2,q9,q7,q8,q6,AY],[q3,q2,q9,q7,q8,AY,q6],[q3,q6,q9,q7,q8,q1],[q3,q6,q9,q7,q8,q1,AY]]
theorem aD8:∀A1∈oG,∀r∈DN 6,JZ A1 r:=Mr λw rs e=>by kernel_rfl
noncomputable def oH:I (I Tx):=[[q3,q6,q9,q7,q8,q2],[q3,q6,q9,q7,q8,q2,AY],[q3,q6,q9,q7,q8,AY,q1],[q3,q6,q9,q7,q8,AY,q2]]
theorem aD9:∀A1∈oH,∀r∈DN 6,JZ A1 r:=Mr λw rs e=>by kernel_rfl
noncomputable def oI:I (I Tx):=[[q3,q9,q7,q8,q1,q6],[q3,q9,q7,q8,q2,q6],[q3,q9,q7,q8,q6,q1],[q3,q9,q7,q8,q6,q2]]
theorem aE0:∀A1∈oI,∀r∈DN 6,JZ A1 r:=Mr λw rs e=>by kernel_rfl
noncomputable def oJ:I (I Tx):=[[q6,q9,q7,q8,q0],[q6,q9,q7,q8,q0,AY],[q6,q9,q7,q8,q1],[q6,q9,q7,q8,q1,q3]]
theorem aE1:∀A1∈oJ,∀r∈DN 6,JZ A1 r:=Mr λw rs e=>by kernel_rfl
noncomputable def oK:I (I Tx):=[[q6,q9,q7,q8,q2],[q6,q9,q7,q8,q2,q3],[q6,q9,q7,q8,q3],[q6,q9,q7,q8,q3,q1]]
theorem aE2:∀A1∈oK,∀r∈DN 6,JZ A1 r:=Mr λw rs e=>by kernel_rfl
noncomputable def oM:I (I Tx):=[[q6,q9,q7,q8,q3,q2],[q6,q9,q7,q8,AY,q0],[q9,q7,q8,q0,q6],[q9,q7,q8,q6,q0]]
theorem aE3:∀A1∈oM,∀r∈DN 6,JZ A1 r:=Mr λw rs e=>by kernel_rfl
noncomputable def oO:I (I Tx):=[[q1,q6,q9,q4,q5,q3,AY],[q1,q6,q9,q4,q5,AY,q3],[q1,q6,q9,AY,q4,q5,q3],[q1,q9,AY,q4,q5,q3,q6]]
theorem aE4:∀A1∈oO,∀r∈DN 6,J_ A1 r:=Ms λw rs e=>by kernel_rfl
noncomputable def oP:I (I Tx):=[[q1,q9,AY,q4,q5,q6,q3],[q3,q1,q6,q9,q4,q5,AY],[q3,q1,q6,q9,AY,q4,q5],[q3,q1,q9,q4,q5,q6,AY]]
theorem aE5:∀A1∈oP,∀r∈DN 6,J_ A1 r:=Ms λw rs e=>by kernel_rfl
noncomputable def oQ:I (I Tx):=[[q3,q1,q9,q4,q5,AY,q6],[q3,q1,q9,AY,q4,q5,q6],[q3,q6,q9,q4,q5,q1,AY],[q3,q6,q9,q4,q5,q2,AY]]
theorem aE6:∀A1∈oQ,∀r∈DN 6,J_ A1 r:=Ms λw rs e=>by kernel_rfl
noncomputable def oR:I (I Tx):=[[q3,q6,q9,q4,q5,AY,q1],[q3,q6,q9,q4,q5,AY,q2],[q3,q6,q9,AY,q4,q5,q1],[q3,q6,q9,AY,q4,q5,q2]]
theorem aE7:∀A1∈oR,∀r∈DN 6,J_ A1 r:=Ms λw rs e=>by kernel_rfl
noncomputable def oU:I (I Tx):=[[q3,q9,AY,q4,q5,q1,q6],[q3,q9,AY,q4,q5,q2,q6],[q3,q9,AY,q4,q5,q6,q1],[q3,q9,AY,q4,q5,q6,q2]]
theorem aE8:∀A1∈oU,∀r∈DN 6,J_ A1 r:=Ms λw rs e=>by kernel_rfl
noncomputable def oW:I (I Tx):=[[q6,q9,q4,q5,q0,AY],[q6,q9,q4,q5,AY,q0],[q6,q9,AY,q4,q5,q0],[q6,q9,AY,q4,q5,q1]]
theorem aE9:∀A1∈oW,∀r∈DN 6,J_ A1 r:=Ms λw rs e=>by kernel_rfl
noncomputable def oX:I (I Tx):=[[q6,q9,AY,q4,q5,q1,q3],[q6,q9,AY,q4,q5,q2],[q6,q9,AY,q4,q5,q2,q3],[q6,q9,AY,q4,q5,q3]]
theorem aF0:∀A1∈oX,∀r∈DN 6,J_ A1 r:=Ms λw rs e=>by kernel_rfl
noncomputable def oY:I (I Tx):=[[q6,q9,AY,q4,q5,q3,q1],[q6,q9,AY,q4,q5,q3,q2],[q9,AY,q4,q5,q0,q6],[q9,AY,q4,q5,q6,q0]]
theorem aF1:∀A1∈oY,∀r∈DN 6,J_ A1 r:=Ms λw rs e=>by kernel_rfl
section
variable{J:I A8}
theorem aF2{fn:Fn}{o:Bi}(ok:FnAt B a fn o fd){b:I (U×V)}(hb:JI fn args=G b)(hd:K.d=d+1)(hf:f=.next/\v=.none\/f=.ret v)(D:∀{F:Fm}{A:CK}{C:I A8}{s:AR}{C4:I Gi},F.outs=F.env::C4->F.env.frame=G F.env.locals->Gd B F ⟨fn.sc,d⟩ A ⟨b,H.h,H.n⟩ C s->CJ B F ⟨fn.sc,d⟩ A AB C s (J3 fn.body F.env) (FR f))(g:Gd B F K A H C s)(rs:Aa s.heap C args us):Ae B F K A ⟨H.env,AB.h,AB.n⟩ C s (CE (.ref a) us) (RV v):=λA2 E k=>HQ (ah ok hb hd hf D g rs λu AT s' g' x' r'=>k u AT s' g' x' r')
theorem oZ{fn:Fn}{o:Bi}(ok:FnAt B a fn o fd){b:I (U×V)}(hb:JI fn args=G b)(hd:K.d=d+1)(hf:f=.next/\v=.none\/f=.ret v)(D:∀{F:Fm}{A:CK}{C:I A8}{s:AR},Gd B F ⟨fn.sc,d⟩ A ⟨b,H.h,H.n⟩ C s->CJ B F ⟨fn.sc,d⟩ A AB C s (J3 fn.body F.env) (FR f))(g:Gd B F K A H C s)(rs:Aa s.heap C args us):Ae B F K A ⟨H.env,AB.h,AB.n⟩ C s (CE (.ref a) us) (RV v):=λA2 E k=>HQ (ah ok hb hd hf (λ_ _ g=>D g) g rs λu AT s' g' x' r'=>k u AT s' g' x' r')
structure cj(H DI AB A7:Mine.St)(B7:I O):Prop where
 env:A7.env=AB.env.map (Qo (DJ H.n B7))le:DI.n<=AB.n
 n:A7.n=H.n+(AB.n-DI.n)obs:∀i o,AL A7.h i=G o->(∃j LS,AL AB.h j=G LS/\i=DJ H.n B7 j/\o=DV (DJ H.n B7) LS)\/(AL H.h i=G o/\i∉B7)
theorem Cf.DW(Dj:∀j,A_[j]?=Au[BA j]?){env:I (U×V)}:Cf F h A_ env↔Cf F h Au (env.map (Qo BA)):=by
 refine HR λm=>ue λ_=>ue λ_=>?_;have key:∀x v,(∃u,T6 F h m x u/\VR h A_ v u)↔∃u,T6 F h m x u/\VR h Au (E7 BA v) u:=λx v=>HR λu=>ue λ_=>VR.DW Dj;constructor
 . intro q x v e f;rw[U0]at e;refine AC (uc.mp e) ?_;intro w e' BJ;exact BJ▸(key x w).mp (q x w e' f)
 . intro q x v e f;exact(key x v).mpr (q x _ (by rw[U0,e];rfl) f)
theorem Gd.o_(g:Gd B F K A H C s)(AG:Sub H DI B7)(g':Gd B F K' A AB AT s')(x:Nx F.D F.AZ s.heap s'.heap (C' C B7) AT)(BL:cj H DI AB A7 B7):∃J,AT=C' C B7++J/\Gd B F K A A7 (C++J) s'/\Nx F.D F.AZ s.heap s'.heap C (C++J):=by
 refine AC x.pre ?_;intro J BP GB;subst BP;have hz:(C' C B7).length=B7.length:=by simp[C']
 have Tm:=g'.len;rw[FD,hz,AG.len]at Tm;have hx:Nx F.D F.AZ s.heap s'.heap C (C++J):=⟨⟨J,rfl,GB⟩,x.live,x.Bw,λb o e n m=>x.same b o e (λz=>n (LR g.len AG.lt z)) m⟩;have Es:=GJ (C:=C) (J:=J) g.len AG.lt;have nd:=g'.nodup;rw[IE]at nd;refine⟨J,rfl,⟨g.kinds,by rw[FD,g.len,BL.n];(with_reducible exact Mine.vf (by assumption)),?_,?_,?_,?_,?_,?_,?_,g'.base,g'.os,g'.gens,g.frames,g'.DT,?_,g.mods,g.handled,g.depth,g.units⟩,hx⟩
 . refine IE.mpr ⟨g.nodup,nd.2.1,λa ha b hb e=>?_⟩;subst e;refine xE (g.live a ha) ?_;intro o e;rw[GB a hb]at e;exact(BE e).elim
 . intro a m;rcases Dr.mp m with m|m;. exact g.fresh a m
   . exact g'.fresh a (Pk _ m)
 . intro a m;rcases Dr.mp m with m|m;. refine xE (g.live a m) ?_;intro o e;exact x.live a o e
   . exact g'.live a (Pk _ m)
 . intro a m;refine IN (g.D5 a m) ?_;intro h1 h2 o h3;refine⟨h1,λz=>?_,x.live a o h3⟩;rcases Dr.mp z with z|z;. exact h2 z
   . rw[GB a z]at h3;exact(BE h3).elim
 . intro c m;refine H9 (g.D1 c m) ?_;intro h2 o h3;refine⟨λz=>?_,x.live _ o h3⟩;rcases Dr.mp z with z|z;. exact h2 z
   . rw[GB _ z]at h3;exact(BE h3).elim
 . intro i o e;rcases BL.obs i o e with Bg|Bu;refine Bv Bg ?_;(try clear Bg);intro j LS ej C9 Ck;subst C9;subst Ck;rotate_left;refine xA Bu ?_;(try clear Bu);intro e hi;rotate_left
   . refine AC (g'.objs j LS ej) ?_;intro a ha r;exact⟨a,by rw[<-Es];exact ha,(Ca.DW Es).mp r⟩
   . refine AC (g.objs i o e) ?_;intro a ha r;refine⟨a,FY ha,r.mono x.Bw λy ey=>x.keep a y ey (λz=>hi ?_) (λz=>(g.D5 a z).2.1 (Ew ha)) (λz=>absurd (Ew ha) (g.Cy a z).1)⟩;refine AC (E0.mp z) ?_;intro j hj e';have h1:j<C.length:=by rw[g.len];exact AG.lt j hj
     have h2:C[j]?=G a:=by rw[<-e'];simp[Kq,h1]
     have :j=i:=(RY h1 g.nodup).mp (h2.trans ha.symm);exact this▸hj
 . rw[BL.env];exact(Cf.DW Es).mp g'.env
 . intro A1 m;refine G6 (g.Cy A1 m) ?_;intro h1 h2 _;refine⟨λz=>?_,h2,(g'.Cy A1 m).2.2⟩;rcases Dr.mp z with z|z;. exact h1 z
   . exact(g'.Cy A1 m).1 (Pk _ z)
theorem aF3{t:Dz HP}(hf:∀{h:BK}{C:I A8}{u:HP},FR f h C u->∀Q AT,FR f Q AT u)(Oh:∀{C:I A8}{s:AR},Gd B F ⟨K.sc,d⟩ A DI C s->CJ B F ⟨K.sc,d⟩ A AB C s t (FR f))(hd:d<=K.d)(g:Gd B F K A H C s)(AG:Sub H DI B7)(he:Cf F s.heap (C' C B7) DI.env)(BL:cj H DI AB A7 B7):CJ B F K A A7 C s t (FR f):=by
 intro A2 E k;refine Oh (g.sub AG hd he) A2 E λu AT s' g' x' r'=>?_;refine CZ (g.o_ AG g' x' BL) ?_;intro J Bq gg xx;clear g' x';subst Bq;exact k u _ s' gg xx (hf r' _ _)
end
section
variable{J:I A8}
theorem Cf.pick(Dj:∀j,A_[j]?=Au[BA j]?){env:I (U×V)}(x:Cf F h Au env)(hs:∀x v,Ah K7 x=G v->Ah env x=G (E7 BA v)):Cf F h A_ K7:=by
 refine(Cf.DW Dj).mpr ?_;refine CZ x ?_;(try clear x);intro m ns ce r;refine⟨m,ns,ce,λy v e f=>?_⟩;rw[U0]at e;refine AC (uc.mp e) ?_;intro w e' Aw;clear e;subst Aw;exact r y _ (hs y w e') f
theorem Gd.pick(g:Gd B F K A H C s)(AG:Sub H DI B7)(hs:∀x v,Ah DI.env x=G v->Ah H.env x=G (E7 (DJ H.n B7) v)):Gd B F K A DI (C' C B7) s:=by
 have cW:∀j,(C' C B7)[j]?=C[DJ H.n B7 j]?:=λj=>by
  have :=GJ (J:=[]) g.len AG.lt j;simpa using this
 exact g.sub AG (DF _) (Cf.pick cW g.env hs)
theorem og{o:A0}{rs:I V}{e0 e1:I (V×V)}(h:X8 o=G (Gz rs e0 e1)){P:Prop}(c:∀(H:Mine.St)(i j:O),o=.ok (.f .next) H->i≠j->AL H.h 0=G (.list rs)->AL H.h 1=G (.list (EO.map .str))->AL H.h 2=G (.list (IP.map .str))->AL H.h 3=G (.list [.ref i,.ref j])->AL H.h i=G (.dict e0)->AL H.h j=G (.dict e1)->Ah H.env JY=G (.ref 0)->Ah H.env Mq=G (.ref 1)->Ah H.env Oi=G (.ref 2)->Ah H.env Qq=G (.ref 3)->P):P:=by
 revert c;apply kN h AF;intro r H h;apply xo h AF;intro f h;apply xp h AF;intro h;refine BI h λo0 h0 h=>BI h λo1 h1 h=>BI h λo2 h2 h=>BI h λo3 h3 h=>?_;revert h0 h1 h2 h3;apply IU h AF;intro Fu h;apply IU h AF;intro ps h;apply IU h AF;intro ts h;apply IU h AF;intro ij h;apply Ho h AF;intro vi vj h;apply EI h AF;intro i h;apply EI h AF;intro j h h0 h1 h2 h3;refine Eb h (λ_ h=>(AF h).elim) λQj h=>BI h λoi hi h=>BI h λoj hj h=>?_;revert hi hj;apply JE h AF;intro e0' h;apply JE h AF;intro bl h hi hj;refine BI h λa ha h=>BI h λb hb h=>BI h λc hc h=>BI h λd hd h=>?_;have q:=Bm h;intro k;exact k H i j rfl (λe=>by rw[e,J2]at Qj;(exfalso;cases Qj)) (h0.trans (congrArg (λs:Mine.St=>AL s.h 0) q:G (Ob.list Fu)=G (.list rs))) (h1.trans (congrArg (λs:Mine.St=>AL s.h 1) q:G (Ob.list ps)=G (.list (EO.map .str)))) (h2.trans (congrArg (λs:Mine.St=>AL s.h 2) q:G (Ob.list ts)=G (.list (IP.map .str)))) h3 (hi.trans (congrArg (λs:Mine.St=>AL s.h 4) q:G (Ob.dict e0')=G (.dict e0))) (hj.trans (congrArg (λs:Mine.St=>AL s.h 5) q:G (Ob.dict bl)=G (.dict e1))) (ha.trans (congrArg (λs:Mine.St=>Ah s.env JY) q:G a=G (.ref 0))) (hb.trans (congrArg (λs:Mine.St=>Ah s.env Mq) q:G b=G (.ref 1))) (hc.trans (congrArg (λs:Mine.St=>Ah s.env Oi) q:G c=G (.ref 2))) (hd.trans (congrArg (λs:Mine.St=>Ah s.env Qq) q:G d=G (.ref 3)))
noncomputable def Cl(v:V):Prop:=∀BA,E7 BA v=v
theorem Iu(g:Gd B F K A H C s)(e:AL H.h i=G o):i<H.n:=by
 refine AC (g.objs i o e) ?_;intro a ha _;refine xE (HM.mp ha) ?_;intro h _;rw[<-g.len];exact h
theorem ck:∀{l:I V},(∀v∈l,Cl v)->Cr BA l=l
 |[],_=>rfl|v::l,h=>by
  simp only[Cr];rw[h v (Co ..) BA,ck λw m=>h w (Cp _ m)]
theorem KS{l:I (V×V)}(h:∀e∈l,Cl e.2):l.map (JV BA)=l:=by induction l with
 |nil=>rfl|cons e l ih=>
 rw[J4,ih λx m=>h x (Cp _ m)];unfold JV;rw[h e (Co ..) BA]
theorem aF4{rs:I V}{e0 e1:I (V×V)}(hr:∀v∈rs,Cl v)(h0:∀e∈e0,Cl e.2)(h1:∀e∈e1,Cl e.2)(g:Gd B F K A H C s)(h:X8 (.ok (.f .next) H)=G (Gz rs e0 e1)):∃i j,Gd B F K A (Gz rs e0 e1) (C' C [0,1,2,3,i,j]) s/\(∀k∈[0,1,2,3,i,j],k<H.n)/\[0,1,2,3,i,j].Nodup:=by
 refine og h ?_;intro Bc i j q Qj a0 a1 a2 a3 ai aj b0 b1 b2 b3;injection q with _ q;subst q;have ni:i≠0/\i≠1/\i≠2/\i≠3:=by refine⟨?_,?_,?_,?_⟩<;>(rintro rfl;simp_all)
 have nj:j≠0/\j≠1/\j≠2/\j≠3:=by refine⟨?_,?_,?_,?_⟩<;>(rintro rfl;simp_all)
 have lt:∀k∈[0,1,2,3,i,j],k<H.n:=by
  intro k hk;simp only[Cj,Jr,Js]at hk;rcases hk with rfl|rfl|rfl|rfl|rfl|rfl;. exact Iu g a0
  . exact Iu g a1
  . exact Iu g a2
  . exact Iu g a3
  . exact Iu g ai
  . exact Iu g aj
 have nd:[0,1,2,3,i,j].Nodup:=by
  refine M9 ni ?_;(try clear ni);intro p0 p1 p2 p3;refine M9 nj ?_;(try clear nj);intro ca0 r1 r2 r3;simp[EU,CX p0,CX p1,CX p2,CX p3,CX ca0,CX r1,CX r2,CX r3,Qj]
 refine⟨i,j,g.pick ⟨rfl,nd,lt,λk o e=>?_⟩ λx v e=>?_,lt,nd⟩;. match k,e with
 |0,e=>injection e with e;subst e;exact⟨0,rfl,by rw[a0];show _=G (Ob.list (Cr _ rs));rw[ck hr]⟩|1,e=>injection e with e;subst e;exact⟨1,rfl,by rw[a1];show _=G (Ob.list (Cr _ (EO.map .str)));rw[LQ]⟩|2,e=>injection e with e;subst e;exact⟨2,rfl,by rw[a2];show _=G (Ob.list (Cr _ (IP.map .str)));rw[LQ]⟩|3,e=>injection e with e;subst e;exact⟨3,rfl,a3⟩|4,e=>injection e with e;subst e;exact⟨i,rfl,by rw[ai];show _=G (Ob.dict (e0.map _));rw[KS h0]⟩|5,e=>injection e with e;subst e;exact⟨j,rfl,by rw[aj];show _=G (Ob.dict (e1.map _));rw[KS h1]⟩|k+6,e=>exact(BE e).elim
 . exact(show∀p∈(Gz rs e0 e1).env,Ah H.env p.1=G (E7 (DJ H.n [0,1,2,3,i,j]) p.2)from all_cons b0 (all_cons b1 (all_cons b2 (all_cons b3 EE)))) _ (FF e)
noncomputable def E8(rs:I O):I V:=rs.map (V.IQ 12)
theorem oh:∀v∈E8 rs,Cl v:=λv m=>by
 refine AC (E0.mp m) ?_;intro r _ DX;clear m;subst DX;exactλ_=>rfl
structure Tr where
 L0:I Tx
 w0:Tx->V
 L1:I Tx
 w1:Tx->V
noncomputable def Tr.st(T:Tr)(rs:I V):Mine.St:=Gz rs (BM T.w0 T.L0) (BM T.w1 T.L1)
noncomputable def Tr.turn(T:Tr)(r:O):Tr:=match BC (r%2) 0 with
 |true=>⟨Oj T.L0 (EO.getD (r/2) []),KR T.w0 (EO.getD (r/2) []) .any,T.L1,T.w1⟩|false=>⟨T.L0,T.w0,Oj T.L1 (EO.getD (r/2) []),KR T.w1 (EO.getD (r/2) []) .any⟩
structure Tr.Cl(T:Tr):Prop where
 c0:∀p,Mine.Cl (T.w0 p)c1:∀p,Mine.Cl (T.w1 p)
theorem om{w:Tx->V}{p:Tx}(h:∀p,Cl (w p)):∀q,Cl (KR w p .any q):=λq=>by
 unfold KR;split;. exactλ_=>rfl
 . exact h q
theorem Tr.Cl.turn{T:Tr}(h:T.Cl)(r:O):(T.turn r).Cl:=by
 unfold Tr.turn;split;. exact⟨om h.c0,h.c1⟩
 . exact⟨h.c0,om h.c1⟩
theorem Mt{w:Tx->V}(h:∀p,Cl (w p)):∀e∈BM w A1,Cl e.2:=λe m=>by
 refine AC (E0.mp m) ?_;intro p _ Ed;clear m;subst Ed;exact h p
noncomputable def Tr.Known(T:Tr):Prop:=(∀r,r<6->JZ T.L0 r)/\∀r,r<6->J_ T.L1 r
theorem aF5{T:Tr}(h:T.Known)(hr:r<12)(rs:I V):X8 (ev FL 60 ⟨BV Fy,3⟩ (.ss X7) (ci r (T.st rs)))=G ((T.turn r).st rs):=by
 unfold Tr.turn;cases e:BC (r%2) 0 with
 |true=>
  have e:=CD e;have :=h.1 (r/2) (g_ hr) T.w0 rs (BM T.w1 T.L1);rw[Nat.mul_div_cancel' (bz5 e)]at this;exact this|false=>
  have e:r%2=1:=by exact(Nat.mod_two_eq_zero_or_one r).resolve_left λz=>by rw[z]at e;(exfalso;cases e)
  have :=h.2 (r/2) (g_ hr) T.w1 rs (BM T.w0 T.L0);rw[(congrArg (2*(r/2)+·) e.symm).trans (Nat.div_add_mod r 2)]at this;exact this
end
@[irreducible]noncomputable def cm:AA:=lC (Fk Fy) (.Constant .none 0 ⟨0,0,0,0⟩) λ_ z1=>lC z1 (.Constant .none 0 ⟨0,0,0,0⟩) λ_ z2=>lC z2 (.Constant .none 0 ⟨0,0,0,0⟩) λ_ z3=>lC z3 (.Constant .none 0 ⟨0,0,0,0⟩) λz4 z5=>G5 z4 (.Constant .none 0 ⟨0,0,0,0⟩) λt _ _ _ _=>l1 z5 (.Constant .none 0 ⟨0,0,0,0⟩) λ_=>t
theorem aF6(d r:O)(rs:I V)(e0 e1:I (V×V)):ev FL 60 ⟨BV Fy,d⟩ (.asg cm (.IQ 12 r)) (Gz rs e0 e1)=.ok (.f .next) (ci r (Gz rs e0 e1)):=by kernel_rfl
section
variable{J:I A8}
theorem Gd.low(g:Gd B F K A H C s)(hd:d<=K.d):Gd B F ⟨K.sc,d⟩ A H C s:=⟨⟨g.kinds.fn,g.kinds.sc,g.kinds.kd,g.kinds.g3,g.kinds.b0,g.kinds.cells,g.kinds.Ia,g.kinds.MT⟩,g.len,g.nodup,g.fresh,g.live,g.D5,g.D1,g.objs,g.env,g.base,g.os,g.gens,g.frames,g.DT,g.Cy,g.mods,g.handled,by have :=g.depth;show A.depth+3*d<900;(with_reducible exact Mine.yW (by assumption) (by assumption)),by have :=g.units;show A.units+10*d<9000;(with_reducible exact Mine.yW (by assumption) (by assumption))⟩
theorem Gd.lift(g:Gd B F K A H C s)(g':Gd B F ⟨K.sc,d⟩ A A7 AT s'):Gd B F K A A7 AT s':=⟨g.kinds,g'.len,g'.nodup,g'.fresh,g'.live,g'.D5,g'.D1,g'.objs,g'.env,g'.base,g'.os,g'.gens,g'.frames,g'.DT,g'.Cy,g'.mods,g'.handled,g.depth,g.units⟩
theorem oo(x:Nx AM AZ h Q [a0] C)(nd:C.Nodup)(hp:∀k∈0::B7,k<C.length)(hn:(0::B7).Nodup):Nx AM AZ h Q [a0] (C' C (0::B7)):=by
 refine AC x.pre ?_;intro J Aw GB;clear nd;subst Aw;refine⟨⟨C' ([a0]++J) B7,rfl,λb m=>?_⟩,x.live,x.Bw,x.same⟩;refine AC (E0.mp m) ?_;intro k hk B6;clear m;subst B6;have h0:k≠0:=λz=>(EU.mp hn).1 (z▸hk);have hl:=hp k (Cp _ hk);refine GB _ ?_;obtain⟨j,rfl⟩:∃j,k=j+1:=⟨k-1,by(with_reducible exact Mine.yI (fP (by assumption)))⟩;have hj:j<J.length:=by simpa using hl
 simp[Kq,hj]
theorem CM.pick(f:CM B F C h AE)(hl:C.length=n)(KO:∀i∈B7,i<n):CM B F (C' C B7) h AE:=⟨λz=>f.C (LR hl KO z),f.w,f.cells,f.base,f.outs,f.live⟩
theorem aF7(AV:(Bb P).In B.base)(AM:Dg B)(hd:3<=d){AS:Dt->AR->Prop}(hI:Af.get? AE=L)(post:I O):∀(pre:I O)(T:Tr){C:I A8}{s:AR},(∀r∈post,r<12)->T.Cl->(∀Iv I3,post=Iv++I3->I3≠[]->(Iv.foldl Tr.turn T).Known)->Gd B F ⟨BV Fy,d⟩ A (T.st (E8 (pre++post))) C s->Nx F.D F.AZ Af s.heap [a0] C->CM B F C s.heap AE->E6 s.heap C (.lst 0) pre.length AE->(∀AT s',Gd B F ⟨BV Fy,d⟩ A ((post.foldl Tr.turn T).st (E8 (pre++post))) AT s'->Nx F.D F.AZ Af s'.heap [a0] AT->AS (.ok .next) s')->D7 (AQ B.prog B.w) A (.forLoop cm (.ref AE) X7 [] F.env) AS s:=by induction post with
 |nil=>
  intro pre T C s _ _ _ g Cq fr it k;have AP:IV (.lst 0) pre.length (T.st (E8 (pre++[]))).h=G L:=by
    show G (Gr (E8 (pre++[])) pre.length)=_;rw[HY];simp[E8]
  refine MY (K9 g fr it AP (λx hx=>by exact(BE hx).elim) λhx Q tk AN DU=>?_);exact k C _ AN (Cq.F2 DU hI)|cons r post ih=>
  intro pre T C s hr hc hk g Cq fr it k;have AP:IV (.lst 0) pre.length (T.st (E8 (pre++r::post))).h=G (G (.IQ 12 r)):=by
    show G (Gr (E8 (pre++r::post)) pre.length)=_;rw[HY];simp[E8]
  have A9:=(U1 AV AM 60).s;refine MY (K9 g fr it AP (λx hx u Q tk AN DU Eo Aq Hy=>?_) λhx=>by(exfalso;cases hx));injection hx with hx;subst hx;have L9:=Cq.F2 DU hI;have ht:=aF5 (hk [] (r::post) rfl (by simp)) (hr r (Co ..)) (E8 (pre++r::post));simp only[List.foldl_nil]at ht;refine og ht λBc i j C3 _ _ _ _ _ _ _ _ _ _ _=>?_;rw[C3]at ht;refine QN Aq (A9.asg (aF6 d r _ _ _) AN Hy _ _ λ_ Au Ai AU Al _=>A9.ss C3 (AU.low hd) _ _ λMZ BS Ax Ap B8 BQ=>?_);cases BQ;have xx:=Al.trans B8;have EF:=Eo.nx xx;have Gv:=Aq.nx xx Eo.C Eo.w;have Ep:=L9.trans xx;have GD:=hc.turn r;refine Bv (aF4 oh (Mt GD.c0) (Mt GD.c1) (AU.lift Ap) ht) ?_;intro i j CA lt nd;have e:pre++r::post=(pre++[r])++post:=by simp
  refine ih (pre++[r]) (T.turn r) (C:=C' BS [0,1,2,3,i,j]) (λq m=>hr q (Cp _ m)) GD (λIv I3 q z=>?_) (by rw[<-e];exact CA) (oo Ep Ap.nodup (by rw[Ap.len];exact lt) nd) (EF.pick Ap.len lt) ?_ (by rw[<-e];exact k);. exact hk (r::Iv) I3 (by rw[q];rfl) z
  . refine AC Gv ?_;(try clear Gv);intro a ha hi;refine⟨a,?_,by rw[FD];exact hi⟩;have :=GJ (J:=[]) Ap.len lt 0;simp only[HO]at this;rw[this];exact ha
end
@[irreducible]noncomputable def Iw(k:O):As:=(Fk Fy)[k]?.getD (.Pass ⟨0,0,0,0⟩)
@[irreducible]noncomputable def XA:AA:=G5 (Iw 3) (.Constant .none 0 ⟨0,0,0,0⟩) λ_ it _ _ _=>it
@[irreducible]noncomputable def aF8:B9:=G5 (Iw 3) ⟨0,0,0,0⟩ λ_ _ _ _ p=>p
theorem aF9:Fk Fy=[Iw 0,Iw 1,Iw 2,Iw 3,Iw 4]:=by kernel_rfl
theorem aG0:Iw 3=.For cm XA X7 [] aF8:=by kernel_rfl
noncomputable def cp:AK->I Tx
 |false=>[[120,118,121,122,117,119],[120,120],[120,121],[118,121,122],[],[]]|true=>[[120,119,121,122,116,119],[],[121,120],[119,121,122,118],[120],[],[]]
noncomputable def Qr:I Tx->I Tx->Tx->V
 |p::A1,t::l,q=>match CU q p with|true=>.str t|false=>Qr A1 l q
 |_,_,_=>.any
noncomputable def KU(k:AK):Tx->V:=Qr (KQ k) (cp k)
noncomputable def T0:Tr:=⟨KQ A6,KU A6,KQ M,KU M⟩
noncomputable def oq(rs:I V):Mine.St:=⟨[(JY,.ref 0),(Mq,.ref 1),(Oi,.ref 2),(Qq,.ref 5)],[(5,.list [.ref 3,.ref 4]),(4,.dict (BM (KU M) (KQ M))),(3,.dict (BM (KU A6) (KQ A6))),(2,.list (IP.map .str)),(1,.list (EO.map .str)),(0,.list rs)],6⟩
noncomputable def ot(rs:I V):Mine.St:=⟨[(JY,.ref 0)],[(0,.list rs)],1⟩
noncomputable def ou(rs:I V):Mine.St:=⟨[(JY,.ref 0),(Mq,.ref 1)],[(1,.list (EO.map .str)),(0,.list rs)],2⟩
noncomputable def ow(rs:I V):Mine.St:=⟨[(JY,.ref 0),(Mq,.ref 1),(Oi,.ref 2)],[(2,.list (IP.map .str)),(1,.list (EO.map .str)),(0,.list rs)],3⟩
theorem aG1(d:O)(rs:I V):ev FL 60 ⟨BV Fy,d⟩ (.s (Iw 0)) (ot rs)=.ok (.f .next) (ou rs):=by kernel_rfl
theorem aG2(d:O)(rs:I V):ev FL 60 ⟨BV Fy,d⟩ (.s (Iw 1)) (ou rs)=.ok (.f .next) (ow rs):=by kernel_rfl
theorem aG3(d:O)(rs:I V):ev FL 60 ⟨BV Fy,d⟩ (.s (Iw 2)) (ow rs)=.ok (.f .next) (oq rs):=by kernel_rfl
theorem aG4(d:O)(rs:I V)(e0 e1:I (V×V)):ev FL 60 ⟨BV Fy,d⟩ (.e XA) (Gz rs e0 e1)=.ok (.v (.ref 0)) (Gz rs e0 e1):=by kernel_rfl
theorem aG5(d:O)(rs:I V)(e0 e1:I (V×V)):ev FL 60 ⟨BV Fy,d⟩ (.s (Iw 4)) (Gz rs e0 e1)=.ok (.f (.ret (.ref 3))) (Gz rs e0 e1):=by kernel_rfl
@[irreducible]noncomputable def aG6:B9:=DO XA ⟨0,0,0,0⟩ λ_ p=>p
theorem aG7:XA=.Name JY aG6:=by kernel_rfl
theorem U6:∀{A1 l:I Tx}(p:Tx),Cl (Qr A1 l p)
 |[],_,_=>λ_=>rfl|_::_,[],_=>λ_=>rfl|q::A1,t::l,p=>by
  unfold Qr;split;. exactλ_=>rfl
  . exact U6 p
theorem ox:T0.Cl:=⟨λp=>U6 p,λp=>U6 p⟩
section
variable{J:I A8}
theorem aG8{rs:I V}(hr:∀v∈rs,Cl v)(g:Gd B F K A (oq rs) C s):Gd B F K A (T0.st rs) (C' C [0,1,2,5,3,4]) s:=by
 refine g.pick (DI:=T0.st rs) (B7:=[0,1,2,5,3,4]) ⟨rfl,by decide,by show∀i∈_,i<6;decide,λk o e=>?_⟩ λx v e=>?_;. match k,e with
 |0,e=>injection e with e;subst e;exact⟨0,rfl,by show G (Ob.list rs)=G (Ob.list (Cr _ rs));rw[ck hr]⟩|1,e=>injection e with e;subst e;exact⟨1,rfl,by show G (Ob.list (EO.map .str))=G (Ob.list (Cr _ (EO.map .str)));rw[LQ]⟩|2,e=>injection e with e;subst e;exact⟨2,rfl,by show G (Ob.list (IP.map .str))=G (Ob.list (Cr _ (IP.map .str)));rw[LQ]⟩|3,e=>injection e with e;subst e;exact⟨5,rfl,rfl⟩|4,e=>injection e with e;subst e;exact⟨3,rfl,by show G (Ob.dict (BM (KU A6) (KQ A6)))=G (Ob.dict (bH3 _ (BM (KU A6) (KQ A6))));rw[KS (Mt (w:=KU A6) λp=>U6 p)]⟩|5,e=>injection e with e;subst e;exact⟨4,rfl,by show G (Ob.dict (BM (KU M) (KQ M)))=G (Ob.dict (bH3 _ (BM (KU M) (KQ M))));rw[KS (Mt (w:=KU M) λp=>U6 p)]⟩|k+6,e=>exact(BE e).elim
 . exact TB (f:=E7 _) (by rfl) e
theorem aG9(AV:(Bb P).In B.base)(AM:Dg B)(hd:3<=d)(hr:∀r∈rs,r<12)(hk:∀Iv I3,rs=Iv++I3->I3≠[]->(Iv.foldl Tr.turn T0).Known)(g:Gd B F ⟨BV Fy,d⟩ A (ot (E8 rs)) C s):CJ B F ⟨BV Fy,d⟩ A ((rs.foldl Tr.turn T0).st (E8 rs)) C s (J3 (Fk Fy) F.env) (FR (.ret (.ref 3))):=by
 intro A2 E k;have A9:=(U1 AV AM 60).s;rw[aF9];refine DH (A9.s (aG1 d _) g _ _ λu A_ AJ AN Ab Aq=>?_);cases Aq;refine DH (A9.s (aG2 d _) AN _ _ λu Au Ai AU Al BB=>?_);cases BB;refine DH (A9.s (aG3 d _) AU _ _ λu BS Ax Ap B8 BQ=>?_);cases BQ;obtain⟨a0,rfl⟩:∃a0,C=[a0]:=by
   have :=g.len;match C,this with|[a],_=>exact⟨a,rfl⟩
 have CA:=aG8 oh Ap;have nd:[0,1,2,5,3,4].Nodup:=by decide
 have Cz:=oo (Ab.trans (Al.trans B8)) Ap.nodup (B7:=[1,2,5,3,4]) (by rw[Ap.len];show∀k∈_,k<6;decide) nd;refine DH ?_;rw[aG0];refine Y9 (A9.eW (aG4 d _ _ _) CA _ _ λu QU Eg Cn EL Ij=>OF Cn Ij (it:=.lst 0) rfl λAE Q tk Gb GG hI cq cr=>?_) ?_
 . have WJ:s.heap.get? AE=L:=HD (Cz.trans EL).live hI;refine aF7 AV AM hd WJ rs [] T0 hr ox hk Gb ((Cz.trans EL).trans GG.FZ) cq cr λbu bv Tn Qk=>?_;refine DH (A9.s (aG5 d _ _ _) Tn _ _ λu aH0 aH1 cu aH2 XB=>?_);refine AC XB ?_;(try clear XB);intro y Aw XB;subst Aw;exact k _ aH0 aH1 cu (Qk.trans aH2) ⟨y,rfl,XB⟩
 . intro x;rw[aG7];kernel_rfl
end
noncomputable def oy:I (I Tx):=oE++oF++oG++oH++oI++oJ++oK++oM
theorem aH3(h:A1∈oy):∀r,r<6->JZ A1 r:=λr hr=>((Ci (Ci (Ci (Ci (Ci (Ci (Ci aD6 aD7) aD8) aD9) aE0) aE1) aE2) aE3) A1 h) r (Nj.mpr hr)
noncomputable def oz:I (I Tx):=oO++oP++oQ++oR++oU++oW++oX++oY
theorem aH4(h:A1∈oz):∀r,r<6->J_ A1 r:=λr hr=>((Ci (Ci (Ci (Ci (Ci (Ci (Ci aE4 aE5) aE6) aE7) aE8) aE9) aF0) aF1) A1 h) r (Nj.mpr hr)
noncomputable def lv(k:AK):O->I (I Tx)
 |0=>[KQ k]|a+1=>(lv k a).flatMap λA1=>EO.map (Oj A1)
noncomputable def U7(A1:I Tx)(l:I (I Tx)):AK:=l.any (ca A1)
theorem XC{l:I (I Tx)}(h:U7 A1 l=M):A1∈l:=AC (IJ.mp h) λ_ m e=>o8 e▸m
theorem aH5:((lv A6 0++lv A6 1++lv A6 2).all λA1=>U7 A1 oy)=M:=by kernel_rfl
theorem aH6:((lv M 0++lv M 1++lv M 2).all λA1=>U7 A1 oz)=M:=by kernel_rfl
theorem cw{k:AK}{a:O}(ha:a<=2)(h:A1∈lv k a):A1∈lv k 0++lv k 1++lv k 2:=by
 simp only[Dr];exact(show∀a∈[0,1,2],A1∈lv k a->(A1∈lv k 0\/A1∈lv k 1)\/A1∈lv k 2 from all_cons (λh=>.inl (.inl h)) (all_cons (λh=>.inl (.inr h)) (all_cons .inr EE))) a (Nj.mpr (fV ha):a∈DN 3) h
structure Tr.At(T:Tr)(a b:O):Prop where
 l0:T.L0∈lv A6 a
 l1:T.L1∈lv M b
theorem Tr.At.known{T:Tr}{a b:O}(h:T.At a b)(ha:a<=2)(hb:b<=2):T.Known:=⟨aH3 (XC (Bn.mp aH5 _ (cw ha h.l0))),aH4 (XC (Bn.mp aH6 _ (cw hb h.l1)))⟩
theorem pA(h:r<12):EO.getD (r/2) []∈EO:=by
 have h6:r/2<EO.length:=g_ h;rw[Kq,Hl h6];exact gW h6
theorem Tr.At.turn{T:Tr}{a b:O}(h:T.At a b)(hr:r<12):(T.turn r).At (a+1) b\/(T.turn r).At a (b+1):=by
 unfold Tr.turn;split;. exact .inl ⟨uf.mpr ⟨_,h.l0,gx (pA hr)⟩,h.l1⟩
 . exact .inr ⟨h.l0,uf.mpr ⟨_,h.l1,gx (pA hr)⟩⟩
theorem XD:∀(l:I O){T:Tr}{a b:O},T.At a b->(∀r∈l,r<12)->∃a' b',a'+b'=a+b+l.length/\(l.foldl Tr.turn T).At a' b'
 |[],T,a,b,h,_=>⟨a,b,by simp,h⟩|r::l,T,a,b,h,hr=>by
  rcases h.turn (hr r (Co ..))with h|h
  . refine EX (XD l h λx m=>hr x (Cp _ m)) ?_;intro a' b' e q;exact⟨a',b',by rw[e,V1];(with_reducible exact Mine.w7),q⟩
  . refine EX (XD l h λx m=>hr x (Cp _ m)) ?_;intro a' b' e q;exact⟨a',b',by rw[e,V1];omega,q⟩
theorem pB:T0.At 0 0:=⟨CI.mpr rfl,CI.mpr rfl⟩
theorem aH7(h3:rs.length<=3)(hr:∀r∈rs,r<12):∀Iv I3,rs=Iv++I3->I3≠[]->(Iv.foldl Tr.turn T0).Known:=λIv I3 e Cc=>by
 subst e;refine EX (XD Iv pB λr m=>hr r (bH4 _ m)) ?_;intro a b q h;have :1<=I3.length:=by cases I3 with|nil=>exact absurd rfl Cc|cons _ _=>simp
 rw[FD]at h3;exact h.known (by omega) (by(with_reducible exact Mine.w2 (by assumption) (by assumption) (by assumption)))
section
variable{env:I (U×V)}
theorem aH8(AV:(Bb P).In B.base)(AM:Dg B)(hd:K.d=d+1)(h3:3<=d)(hl:rs.length<=3)(hr:∀r∈rs,r<12)(g:Gd B F K A ⟨env,[(0,.list (E8 rs))],1⟩ C s)(ru:VR s.heap C (.ref 0) u):Ae B F K A ⟨env,((rs.foldl Tr.turn T0).st (E8 rs)).h,6⟩ C s (CE (.ref 387) [u]) (RV (.ref 3)):=by
 have hf:AL Io 387=G (DE (Ba 28)):=by kernel_rfl
 refine DB (Mm AV (Mo AV) (Of P hf)) ?_;intro o fd ok;exact oZ (H:=⟨env,[(0,.list (E8 rs))],1⟩) ok (AB:=(rs.foldl Tr.turn T0).st (E8 rs)) (b:=[(JY,.ref 0)]) (args:=[.ref 0]) (by kernel_rfl) hd (.inr rfl) (λg'=>(by have q:=@aG9;rw[show Fy=Ba 28 by unfold Fy;rfl]at q;exact q AV AM h3 hr (aH7 hl hr) g')) g ⟨u,[],rfl,ru,rfl⟩
end
noncomputable def pC(o:A0):AD (I (V×V)×I (V×V)):=K4 o L λv H=>DQ v L λi=>bT (EQ 1 i) L<|B' (AL H.h i) λa=>FV a L λN=>B' (AL H.h 0) λb=>FV b L λcx=>G (N,cx)
noncomputable def Fc(A1:I Tx):Prop:=∀(sc:BU)(w:Tx->V),pC (ev CQ 100 ⟨sc,8⟩ (.call (.top (.ref 392)) [.ref 0]) ⟨[],[(0,.dict (BM w A1))],1⟩)=G (BM w A1,BM w A1)
theorem H'{l:I (I Tx)}(h:∀(sc:BU)(w:Tx->V),l.map (λA1=>pC (ev CQ 100 ⟨sc,8⟩ (.call (.top (.ref 392)) [.ref 0]) ⟨[],[(0,.dict (BM w A1))],1⟩))=l.map λA1=>G (BM w A1,BM w A1)):∀A1∈l,Fc A1:=λA1 m sc w=>H6.mp (h sc w) A1 m
noncomputable def cy:I (I Tx):=[[q2,q6,q9,q7,q8,q3],[q2,q6,q9,q7,q8,q3,AY],[q2,q6,q9,q7,q8,AY,q3],[q2,q9,q7,q8,q3,q6],[q2,q9,q7,q8,q3,q6,AY],[q2,q9,q7,q8,q3,AY,q6],[q2,q9,q7,q8,q6,q3],[q2,q9,q7,q8,q6,q3,AY],[q2,q9,q7,q8,q6,AY,q3],[q2,q9,q7,q8,AY,q3,q6],[q2,q9,q7,q8,AY,q6,q3],[q3,q2,q6,q9,q7,q8]]
theorem aH9:∀A1∈cy,Fc A1:=H' λsc w=>by kernel_rfl
noncomputable def cz:I (I Tx):=[[q3,q2,q6,q9,q7,q8,AY],[q3,q2,q9,q7,q8,q6],[q3,q2,q9,q7,q8,q6,AY],[q3,q2,q9,q7,q8,AY,q6],[q3,q6,q9,q7,q8,q1],[q3,q6,q9,q7,q8,q1,AY],[q3,q6,q9,q7,q8,q2],[q3,q6,q9,q7,q8,q2,AY],[q3,q6,q9,q7,q8,AY,q1],[q3,q6,q9,q7,q8,AY,q2],[q3,q9,q7,q8,q1,q6],[q3,q9,q7,q8,q1,q6,AY]]
theorem aI0:∀A1∈cz,Fc A1:=H' λsc w=>by kernel_rfl
noncomputable def d0:I (I Tx):=[[q3,q9,q7,q8,q1,AY,q6],[q3,q9,q7,q8,q2,q6],[q3,q9,q7,q8,q2,q6,AY],[q3,q9,q7,q8,q2,AY,q6],[q3,q9,q7,q8,q6,q1],[q3,q9,q7,q8,q6,q1,AY],[q3,q9,q7,q8,q6,q2],[q3,q9,q7,q8,q6,q2,AY],[q3,q9,q7,q8,q6,AY,q1],[q3,q9,q7,q8,q6,AY,q2],[q3,q9,q7,q8,AY,q1,q6],[q3,q9,q7,q8,AY,q2,q6]]
theorem aI1:∀A1∈d0,Fc A1:=H' λsc w=>by kernel_rfl
noncomputable def d3:I (I Tx):=[[q3,q9,q7,q8,AY,q6,q1],[q3,q9,q7,q8,AY,q6,q2],[q6,q9,q7,q8,q0],[q6,q9,q7,q8,q0,AY],[q6,q9,q7,q8,q1],[q6,q9,q7,q8,q1,q3],[q6,q9,q7,q8,q1,q3,AY],[q6,q9,q7,q8,q1,AY],[q6,q9,q7,q8,q1,AY,q3],[q6,q9,q7,q8,q2],[q6,q9,q7,q8,q2,q3],[q6,q9,q7,q8,q2,q3,AY]]
theorem aI2:∀A1∈d3,Fc A1:=H' λsc w=>by kernel_rfl
noncomputable def d4:I (I Tx):=[[q6,q9,q7,q8,q2,AY],[q6,q9,q7,q8,q2,AY,q3],[q6,q9,q7,q8,q3],[q6,q9,q7,q8,q3,q1],[q6,q9,q7,q8,q3,q1,AY],[q6,q9,q7,q8,q3,q2],[q6,q9,q7,q8,q3,q2,AY],[q6,q9,q7,q8,q3,AY],[q6,q9,q7,q8,q3,AY,q1],[q6,q9,q7,q8,q3,AY,q2],[q6,q9,q7,q8,AY,q0],[q6,q9,q7,q8,AY,q1]]
theorem aI3:∀A1∈d4,Fc A1:=H' λsc w=>by kernel_rfl
noncomputable def d5:I (I Tx):=[[q6,q9,q7,q8,AY,q1,q3],[q6,q9,q7,q8,AY,q2],[q6,q9,q7,q8,AY,q2,q3],[q6,q9,q7,q8,AY,q3],[q6,q9,q7,q8,AY,q3,q1],[q6,q9,q7,q8,AY,q3,q2],[q9,q7,q8,q0,q6],[q9,q7,q8,q0,q6,AY],[q9,q7,q8,q0,AY,q6],[q9,q7,q8,q1,q3,q6],[q9,q7,q8,q1,q6],[q9,q7,q8,q1,q6,q3]]
theorem aI4:∀A1∈d5,Fc A1:=H' λsc w=>by kernel_rfl
noncomputable def d6:I (I Tx):=[[q9,q7,q8,q2,q3,q6],[q9,q7,q8,q2,q6],[q9,q7,q8,q2,q6,q3],[q9,q7,q8,q3,q1,q6],[q9,q7,q8,q3,q2,q6],[q9,q7,q8,q3,q6],[q9,q7,q8,q3,q6,q1],[q9,q7,q8,q3,q6,q2],[q9,q7,q8,q6,q0],[q9,q7,q8,q6,q0,AY],[q9,q7,q8,q6,q1],[q9,q7,q8,q6,q1,q3]]
theorem aI5:∀A1∈d6,Fc A1:=H' λsc w=>by kernel_rfl
noncomputable def d7:I (I Tx):=[[q9,q7,q8,q6,q2],[q9,q7,q8,q6,q2,q3],[q9,q7,q8,q6,q3],[q9,q7,q8,q6,q3,q1],[q9,q7,q8,q6,q3,q2],[q9,q7,q8,q6,AY,q0],[q9,q7,q8,AY,q0,q6],[q9,q7,q8,AY,q6,q0]]
theorem aI6:∀A1∈d7,Fc A1:=H' λsc w=>by kernel_rfl
noncomputable def Ol:I (I Tx):=cy++cz++d0++d3++d4++d5++d6++d7
theorem aI7(h:A1∈Ol):Fc A1:=(Ci (Ci (Ci (Ci (Ci (Ci (Ci aH9 aI0) aI1) aI2) aI3) aI4) aI5) aI6) A1 h
theorem aI8:((lv A6 0++lv A6 1++lv A6 2++lv A6 3).all λA1=>U7 A1 Ol)=M:=by kernel_rfl
noncomputable def d8:I (I Tx):=[[q1,q6,q9,q4,q5,q3,AY],[q1,q6,q9,q4,q5,AY,q3],[q1,q6,q9,AY,q4,q5,q3],[q1,q9,q4,q5,q3,q6,AY],[q1,q9,q4,q5,q3,AY,q6],[q1,q9,q4,q5,q6,q3,AY],[q1,q9,q4,q5,q6,AY,q3],[q1,q9,q4,q5,AY,q3,q6],[q1,q9,q4,q5,AY,q6,q3],[q1,q9,AY,q4,q5,q3,q6],[q1,q9,AY,q4,q5,q6,q3],[q3,q1,q6,q9,q4,q5,AY]]
theorem aI9:∀A1∈d8,Fc A1:=H' λsc w=>by kernel_rfl
noncomputable def d9:I (I Tx):=[[q3,q1,q6,q9,AY,q4,q5],[q3,q1,q9,q4,q5,q6,AY],[q3,q1,q9,q4,q5,AY,q6],[q3,q1,q9,AY,q4,q5,q6],[q3,q6,q9,q4,q5,q1,AY],[q3,q6,q9,q4,q5,q2,AY],[q3,q6,q9,q4,q5,AY,q1],[q3,q6,q9,q4,q5,AY,q2],[q3,q6,q9,AY,q4,q5,q1],[q3,q6,q9,AY,q4,q5,q2],[q3,q9,q4,q5,q1,q6,AY],[q3,q9,q4,q5,q1,AY,q6]]
theorem aJ0:∀A1∈d9,Fc A1:=H' λsc w=>by kernel_rfl
noncomputable def dA:I (I Tx):=[[q3,q9,q4,q5,q2,q6,AY],[q3,q9,q4,q5,q2,AY,q6],[q3,q9,q4,q5,q6,q1,AY],[q3,q9,q4,q5,q6,q2,AY],[q3,q9,q4,q5,q6,AY,q1],[q3,q9,q4,q5,q6,AY,q2],[q3,q9,q4,q5,AY,q1,q6],[q3,q9,q4,q5,AY,q2,q6],[q3,q9,q4,q5,AY,q6,q1],[q3,q9,q4,q5,AY,q6,q2],[q3,q9,AY,q4,q5,q1,q6],[q3,q9,AY,q4,q5,q2,q6]]
theorem aJ1:∀A1∈dA,Fc A1:=H' λsc w=>by kernel_rfl
noncomputable def dB:I (I Tx):=[[q3,q9,AY,q4,q5,q6,q1],[q3,q9,AY,q4,q5,q6,q2],[q6,q9,q4,q5,q0,AY],[q6,q9,q4,q5,q1,q3,AY],[q6,q9,q4,q5,q1,AY],[q6,q9,q4,q5,q1,AY,q3],[q6,q9,q4,q5,q2,q3,AY],[q6,q9,q4,q5,q2,AY],[q6,q9,q4,q5,q2,AY,q3],[q6,q9,q4,q5,q3,q1,AY],[q6,q9,q4,q5,q3,q2,AY],[q6,q9,q4,q5,q3,AY]]
theorem aJ2:∀A1∈dB,Fc A1:=H' λsc w=>by kernel_rfl
noncomputable def dC:I (I Tx):=[[q6,q9,q4,q5,q3,AY,q1],[q6,q9,q4,q5,q3,AY,q2],[q6,q9,q4,q5,AY,q0],[q6,q9,q4,q5,AY,q1],[q6,q9,q4,q5,AY,q1,q3],[q6,q9,q4,q5,AY,q2],[q6,q9,q4,q5,AY,q2,q3],[q6,q9,q4,q5,AY,q3],[q6,q9,q4,q5,AY,q3,q1],[q6,q9,q4,q5,AY,q3,q2],[q6,q9,AY,q4,q5,q0],[q6,q9,AY,q4,q5,q1]]
theorem aJ3:∀A1∈dC,Fc A1:=H' λsc w=>by kernel_rfl
noncomputable def dD:I (I Tx):=[[q6,q9,AY,q4,q5,q1,q3],[q6,q9,AY,q4,q5,q2],[q6,q9,AY,q4,q5,q2,q3],[q6,q9,AY,q4,q5,q3],[q6,q9,AY,q4,q5,q3,q1],[q6,q9,AY,q4,q5,q3,q2],[q9,q4,q5,q0,q6,AY],[q9,q4,q5,q0,AY,q6],[q9,q4,q5,q6,q0,AY],[q9,q4,q5,q6,AY,q0],[q9,q4,q5,AY,q0,q6],[q9,q4,q5,AY,q6,q0]]
theorem aJ4:∀A1∈dD,Fc A1:=H' λsc w=>by kernel_rfl
noncomputable def dE:I (I Tx):=[[q9,AY,q4,q5,q0,q6],[q9,AY,q4,q5,q1,q3,q6],[q9,AY,q4,q5,q1,q6],[q9,AY,q4,q5,q1,q6,q3],[q9,AY,q4,q5,q2,q3,q6],[q9,AY,q4,q5,q2,q6],[q9,AY,q4,q5,q2,q6,q3],[q9,AY,q4,q5,q3,q1,q6],[q9,AY,q4,q5,q3,q2,q6],[q9,AY,q4,q5,q3,q6],[q9,AY,q4,q5,q3,q6,q1],[q9,AY,q4,q5,q3,q6,q2]]
theorem aJ5:∀A1∈dE,Fc A1:=H' λsc w=>by kernel_rfl
noncomputable def dF:I (I Tx):=[[q9,AY,q4,q5,q6,q0],[q9,AY,q4,q5,q6,q1],[q9,AY,q4,q5,q6,q1,q3],[q9,AY,q4,q5,q6,q2],[q9,AY,q4,q5,q6,q2,q3],[q9,AY,q4,q5,q6,q3],[q9,AY,q4,q5,q6,q3,q1],[q9,AY,q4,q5,q6,q3,q2]]
theorem aJ6:∀A1∈dF,Fc A1:=H' λsc w=>by kernel_rfl
noncomputable def Om:I (I Tx):=d8++d9++dA++dB++dC++dD++dE++dF
theorem aJ7(h:A1∈Om):Fc A1:=(Ci (Ci (Ci (Ci (Ci (Ci (Ci aI9 aJ0) aJ1) aJ2) aJ3) aJ4) aJ5) aJ6) A1 h
theorem aJ8:((lv M 0++lv M 1++lv M 2++lv M 3).all λA1=>U7 A1 Om)=M:=by kernel_rfl
noncomputable def Mu(k:AK)(v:V):Prop:=v=.any\/∃t,t∈Bo k/\v=.str t
theorem aJ9(k:AK):∀t∈IP,t∈Bo k:=by
 have h:(IP.all λt=>(Bo k).any (CU t))=M:=by cases k<;>kernel_rfl
 intro t m;refine AC (IJ.mp (Bn.mp h t m)) ?_;intro x hx e;rw[Ec.mp e];exact hx
theorem pE(k:AK):∀t∈cp k,t∈Bo k:=by
 have h:((cp k).all λt=>(Bo k).any (CU t))=M:=by cases k<;>kernel_rfl
 intro t m;refine AC (IJ.mp (Bn.mp h t m)) ?_;intro x hx e;rw[Ec.mp e];exact hx
theorem dG{k:AK}:∀{A1 l:I Tx}(p:Tx),(∀t∈l,t∈Bo k)->Mu k (Qr A1 l p)
 |[],_,_,_=>.inl rfl|_::_,[],_,_=>.inl rfl|q::A1,t::l,p,h=>by
  unfold Qr;split;. exact .inr ⟨t,h t (Co ..),rfl⟩
  . exact dG p λx m=>h x (Cp _ m)
structure Tr.Ok(T:Tr):Prop where
 w0:∀p,Mu A6 (T.w0 p)w1:∀p,Mu M (T.w1 p)
theorem pF{k:AK}{w:Tx->V}{p:Tx}(h:∀p,Mu k (w p)):∀q,Mu k (KR w p .any q):=λq=>by
 unfold KR;split;. exact .inl rfl
 . exact h q
theorem aK0:T0.Ok:=⟨λp=>dG p (pE A6),λp=>dG p (pE M)⟩
theorem Tr.Ok.turn{T:Tr}(h:T.Ok)(r:O):(T.turn r).Ok:=by
 unfold Tr.turn;split;. exact⟨pF h.w0,h.w1⟩
 . exact⟨h.w0,pF h.w1⟩
theorem pG:∀(l:I O){T:Tr},T.Ok->(l.foldl Tr.turn T).Ok
 |[],_,h=>h|r::l,_,h=>pG l (h.turn r)
noncomputable def LV:I Tx->AK
 |[]=>M|x::l=>!l.any (CU x)&&LV l
theorem Mv:∀{l:I Tx},LV l=M->l.Nodup
 |[],_=>by simp|x::l,h=>by
  simp only[LV,D6,PU,YB]at h;exact EU.mpr ⟨λm=>h.1 x m (Ec.mpr rfl),Mv h.2⟩
theorem pH(k:AK):((lv k 0++lv k 1++lv k 2++lv k 3).all LV)=M:=by cases k<;>kernel_rfl
theorem XE{k:AK}{a:O}(ha:a<=3)(h:A1∈lv k a):A1∈lv k 0++lv k 1++lv k 2++lv k 3:=by
 by_cases h2:a<=2;. exact bH4 _ (cw h2 h)
 . obtain rfl:a=3:=by(with_reducible exact Mine.yG (by assumption) (by assumption))
   exact Pk _ h
noncomputable abbrev CB(k:AK):Type:=Tx->{t:Tx//t∈Bo k}
noncomputable def Ay{k:AK}(AO:CB k)(p:Tx):V:=.sym k (AO p).1 (AO p).2
section
variable{k:AK}
theorem aK1(hw:Mu k v)(r:VR h C v u):∃t,∃hm:t∈Bo k,VR h C (.sym k t hm) u:=by
 rcases hw with rfl|Aw;rotate_left;refine AC Aw ?_;(try clear Aw);intro t hm Bg;subst Bg;rotate_left
 . refine EX r ?_;(try clear r);intro t tk e hm;exact⟨t,aJ9 k t hm,tk,e⟩
 . exact⟨t,hm,r⟩
theorem aK2(k:AK):[]∈Bo k:=by cases k<;>exact Co ..
theorem dH{key:T->V}{w:Tx->V}(hw:∀p,Mu k (w p)):∀{A1:I Tx}{l:I (T×A4)},A1.Nodup->DR key h C (BM w A1) l->∃AO:CB k,DR key h C (BM (Ay AO) A1) l
 |[],_,_,e=>⟨λ_=>⟨[],aK2 k⟩,e⟩|p::A1,_,nd,⟨k',u,r,e,a,b,c⟩=>by
  refine xE (dH hw (EU.mp nd).2 c) ?_;intro AO d;obtain⟨t,hm,b'⟩:=aK1 (hw p) b;refine⟨λq=>if q=p then⟨t,hm⟩else AO q,k',u,r,e,a,?_,?_⟩
  . show VR h C (Ay (k:=k) (λq=>if q=p then⟨t,hm⟩else AO q) p) u;simp only[Ay,Kn];exact b'
  . have :BM (Ay λq=>if q=p then(⟨t,hm⟩:{t:Tx//t∈Bo k})else AO q) A1=BM (Ay AO) A1:=by
     refine Yf λq hq=>?_;have Cc:q≠p:=λz=>(EU.mp nd).1 (z▸hq);simp only[Ay,CS Cc]
    show DR key h C (BM _ A1) r;rw[this];exact d
theorem Gd.KV(g:Gd B F K A H C s)(hi:AL H.h i=G o)(ho:∀a,C[i]?=G a->Ca B.prog B.w s.heap C a o->Ca B.prog B.w s.heap C a o'):Gd B F K A (H.set i o') C s:=⟨g.kinds,g.len,g.nodup,g.fresh,g.live,g.D5,g.D1,λj p e=>by
 rcases aO e with B6|BJ;refine xA B6 ?_;(try clear B6);intro Bu C9;subst Bu;subst C9;rotate_left;refine xA BJ ?_;(try clear BJ);intro _ e;rotate_left;. refine AC (g.objs _ _ hi) ?_;intro a ha r;exact⟨a,ha,ho a ha r⟩
 . exact g.objs j p e,g.env,g.base,g.os,g.gens,g.frames,g.DT,g.Cy,g.mods,g.handled,g.depth,g.units⟩
theorem Gd.syms(g:Gd B F K A H C s){w:Tx->V}(hi:AL H.h i=G (.dict (BM w A1)))(nd:A1.Nodup)(hw:∀p,Mu k (w p)):∃AO:CB k,Gd B F K A (H.set i (.dict (BM (Ay AO) A1))) C s:=by
 refine AC (g.objs i _ hi) ?_;intro a ha r;have key:∃AO:CB k,Dn B.prog B.w s.heap C a (BM (Ay AO) A1):=by
  rcases r with BP|Bq;refine AC BP ?_;(try clear BP);intro Az d r;rotate_left;refine AC Bq ?_;(try clear Bq);intro Az d r;rotate_left;. refine xE (dH hw nd r) ?_;(try clear r);intro AO r;exact⟨AO,.inl ⟨Az,d,r⟩⟩
  . refine xE (dH hw nd r) ?_;(try clear r);intro AO r;exact⟨AO,.inr ⟨Az,d,r⟩⟩
 refine xE key ?_;(try clear key);intro AO q;refine⟨AO,g.KV hi λa' Fs _=>?_⟩;rw[ha]at Fs;injection Fs with Fs;subst Fs;exact q
end
noncomputable def U8(p:Tx)(l:I Tx):AK:=l.any (CU p)
theorem XG{p:Tx}(h:U8 p l=M):p∈l:=AC (IJ.mp h) λ_ m e=>Ec.mp e▸m
noncomputable def keyLt(a b:V):AK:=vStr a A6 λx=>vStr b A6 λy=>EZ x y
noncomputable def XH(e:V×V):I (V×V)->I (V×V)
 |[]=>[e]|x::l=>bC (keyLt e.1 x.1) (e::x::l) (x::XH e l)
noncomputable def XI:I (V×V)->I (V×V)
 |[]=>[]|e::l=>XH e (XI l)
theorem aK3{e:V×V}{l:I (V×V)}:(XH e l).Perm (e::l):=by induction l with
 |nil=>exact .refl _|cons x l ih=>
 refine(?_:(bC (keyLt e.1 x.1) (e::x::l) (x::XH e l)).Perm _);cases keyLt e.1 x.1 with
 |true=>exact .refl _|false=>exact(ih.cons x).trans (.swap ..)
theorem aK4{l:I (V×V)}:(XI l).Perm l:=by induction l with
 |nil=>exact .refl _|cons e l ih=>exact aK3.trans (ih.cons e)
noncomputable def XJ(h:I (O×Ob)):O->V->AD (I O)
 |0,_=>L|n+1,v=>DQ v (G []) λi=>B' (AL h i) λo=>FV o L λN=>B' ((XI N).foldr (λe r=>B' (XJ h n e.2) λa=>B' r λb=>G (a++b)) (G [])) λl=>G (i::l)
theorem aK5{h:I (O×Ob)}(e:XJ h n (.ref i)=G B7):B7[0]?=G i:=by cases n with
 |zero=>exact(BE e).elim|succ n=>
 refine BI (show B' (AL h i) _=G B7 from e) λo _ e=>?_;apply JE e AF;intro N e;exact BI e λl _ e=>Bm e▸rfl
noncomputable def XK:I O->O->AD O
 |[],_=>L|a::l,i=>bC (BC a i) (G 0) (B' (XK l i) λk=>G (k+1))
theorem aK6{l:I O}:∀{k:O},XK l i=G k->l[k]?=G i:=by induction l with
 |nil=>exactλh=>(AF h).elim|cons a l ih=>
 intro k h;refine Eb (show bC (BC a i) (G 0) (B' (XK l i) λk=>G (k+1))=G k from h) (λe h=>?_) λ_ h=>BI h λk' hk h=>?_;. rw[<-Bm h,CD e];rfl
 . rw[<-Bm h];exact ih hk
noncomputable def dI(B7:I O)(v:V):AD V:=DQ v (bT (Vq v) L (G v)) λi=>B' (XK B7 i) λk=>G (.ref k)
theorem aK7(h:Vq v=M):E7 BA v=v:=by cases v<;>first|rfl|exact(B0 h).elim
theorem aK8(h:dI B7 v=G v'):E7 (DJ n B7) v'=v:=by
 apply Vh h
 . intro i h;refine BI h λk hk h=>?_;rw[<-Bm h];refine congrArg V.ref ?_;unfold DJ;rw[aK6 hk]
 . intro h;exact Ce h AF λq h=>Bm h▸aK7 q
noncomputable def dJ(B7:I O):I (V×V)->AD (I (V×V))
 |[]=>G []|e::l=>B' (dI B7 e.2) λv=>B' (dJ B7 l) λm=>G ((e.1,v)::m)
theorem aK9{l:I (V×V)}:∀{m:I (V×V)},dJ B7 l=G m->m.map (JV (DJ n B7))=l:=by induction l with
 |nil=>exactλh=>Bm h▸rfl|cons e l ih=>
 intro m h;refine BI (show B' (dI B7 e.2) _=G m from h) λv hv h=>BI h λr hm h=>?_;rw[<-Bm h,J4,ih hm];exact congrArg (·::l) (NR rfl (aK8 hv))
noncomputable def XM(h:I (O×Ob))(B7:I O):I O->O->AD (I (O×Ob))
 |[],_=>G []|i::l,j=>B' (AL h i) λo=>FV o L λN=>B' (dJ B7 (XI N)) λm=>B' (XM h B7 l (j+1)) λr=>G ((j,.B3 m)::r)
noncomputable def pI(o:A0):AD (I O×I (O×Ob)):=K4 o L λv H=>DQ v L λi=>B' (XJ H.h 20 (.ref i)) λB7=>B' (XM H.h B7 B7 0) λBF=>G (B7,BF)
theorem pJ{o:A0}{p:I O×I (O×Ob)}(e:pI o=G p){P:Prop}(c:∀i H,o=.ok (.v (.ref i)) H->XJ H.h 20 (.ref i)=G p.1->XM H.h p.1 p.1 0=G p.2->P):P:=by
 apply W5 e AF;intro v H ho e;revert ho;apply EI e AF;intro i e ho;refine BI e λB7 h1 e=>BI e λBF h2 e=>?_;exact c i H ho (Bm e▸h1) (Bm e▸h2)
theorem pK{h:I (O×Ob)}{l:I O}:∀{j:O}{BF:I (O×Ob)},XM h B7 l j=G BF->BF.length=l.length/\(∀i∈l,∃N,AL h i=G (.dict N))/\∀j' o,AL BF j'=G o->∃k i N BN,j'=j+k/\l[k]?=G i/\AL h i=G (.dict BN)/\o=.B3 N/\∀n,BN.Perm (N.map (JV (DJ n B7))):=by induction l with
 |nil=>exactλe=>Bm e▸⟨rfl,λ_ m=>(nomatch m),λ_ _ q=>(AF q).elim⟩|cons i l ih=>
 intro j BF e;refine BI (show B' (AL h i) _=G BF from e) λob hi e=>?_;revert hi;apply JE e AF;intro N e hi;refine BI e λm hm e=>BI e λr hr e=>?_;rw[<-Bm e];have z:=ih hr;refine⟨congrArg (·+1) z.1,λi' m=>(Cj.mp m).elim (λe=>⟨N,e▸hi⟩) (z.2.1 i'),λj' o q=>?_⟩;refine aH (P:=λj' o=>∃k i' N BN,j'=j+k/\(i::l)[k]?=G i'/\AL h i'=G (.dict BN)/\o=.B3 N/\∀n,BN.Perm (N.map (JV (DJ n B7)))) q ?_ λ_ q=>?_;. exact⟨0,i,m,N,rfl,rfl,hi,rfl,λn=>by rw[aK9 hm];exact aK4.symm⟩
 . refine VU (z.2.2 j' o q) ?_;intro k i' F4 es2 e1 e2 e3 e4 e5;exact⟨k+1,i',F4,es2,by rw[e1,NP,Lm 1 k],e2,e3,e4,e5⟩
noncomputable def grown(sc:BU)(k:AK)(AO:CB k)(A1:I Tx):A0:=ev CQ 100 ⟨sc,8⟩ (.call (.top (.ref 411)) [.ref 0]) ⟨[],[(0,.dict (BM (Ay AO) A1))],1⟩
noncomputable def dK:I O->AK
 |[]=>M|x::l=>!l.any (BC x)&&dK l
noncomputable def Et(sc:BU)(k:AK)(AO:CB k)(A1:I Tx):AD (I (O×Ob)):=B' (pI (grown sc k AO A1)) λp=>bT (dK p.1&&p.1.all (EQ 1)) L (G p.2)
noncomputable def U9(A1 Av:I Tx):AK:=A1.all (λp=>U8 p Av)&&Av.all (λp=>U8 p A1)
noncomputable def CC(A1:I Tx):I (I Tx)->O
 |[]=>0|Av::l=>match U9 A1 Av with|true=>0|false=>CC A1 l+1
noncomputable def DY:I (I Tx):=[[q0,q6,q7,q8,q9],[q0,q6,q7,q8,q9,AY],[q1,q3,q6,q7,q8,q9],[q1,q3,q6,q7,q8,q9,AY],[q1,q6,q7,q8,q9],[q1,q6,q7,q8,q9,AY],[q2,q3,q6,q7,q8,q9],[q2,q3,q6,q7,q8,q9,AY],[q2,q6,q7,q8,q9],[q2,q6,q7,q8,q9,AY],[q3,q6,q7,q8,q9],[q3,q6,q7,q8,q9,AY]]
noncomputable def F5:O->CB A6->I (O×Ob)
 |0,AO=>[(0,.B3 [(.str [97],Ay AO q0),(.str [104],Ay AO q6),(.str [107],.ref 1),(.str [109],Ay AO q9)]),(1,.B3 [(.str [112],Ay AO q7),(.str [113],Ay AO q8)])]|1,AO=>[(0,.B3 [(.str [97],Ay AO q0),(.str [104],Ay AO q6),(.str [107],.ref 1),(.str [109],Ay AO q9),(.str [110],.ref 2)]),(1,.B3 [(.str [112],Ay AO q7),(.str [113],Ay AO q8)]),(2,.B3 [(.str [107],Ay AO AY)])]|2,AO=>[(0,.B3 [(.str [97],.ref 1),(.str [104],Ay AO q6),(.str [107],.ref 2),(.str [109],Ay AO q9)]),(1,.B3 [(.str [98],Ay AO q1),(.str [102],Ay AO q3)]),(2,.B3 [(.str [112],Ay AO q7),(.str [113],Ay AO q8)])]|3,AO=>[(0,.B3 [(.str [97],.ref 1),(.str [104],Ay AO q6),(.str [107],.ref 2),(.str [109],Ay AO q9),(.str [110],.ref 3)]),(1,.B3 [(.str [98],Ay AO q1),(.str [102],Ay AO q3)]),(2,.B3 [(.str [112],Ay AO q7),(.str [113],Ay AO q8)]),(3,.B3 [(.str [107],Ay AO AY)])]|4,AO=>[(0,.B3 [(.str [97],.ref 1),(.str [104],Ay AO q6),(.str [107],.ref 2),(.str [109],Ay AO q9)]),(1,.B3 [(.str [98],Ay AO q1)]),(2,.B3 [(.str [112],Ay AO q7),(.str [113],Ay AO q8)])]|5,AO=>[(0,.B3 [(.str [97],.ref 1),(.str [104],Ay AO q6),(.str [107],.ref 2),(.str [109],Ay AO q9),(.str [110],.ref 3)]),(1,.B3 [(.str [98],Ay AO q1)]),(2,.B3 [(.str [112],Ay AO q7),(.str [113],Ay AO q8)]),(3,.B3 [(.str [107],Ay AO AY)])]|6,AO=>[(0,.B3 [(.str [97],.ref 1),(.str [104],Ay AO q6),(.str [107],.ref 3),(.str [109],Ay AO q9)]),(1,.B3 [(.str [98],.ref 2),(.str [102],Ay AO q3)]),(2,.B3 [(.str [103],Ay AO q2)]),(3,.B3 [(.str [112],Ay AO q7),(.str [113],Ay AO q8)])]|7,AO=>[(0,.B3 [(.str [97],.ref 1),(.str [104],Ay AO q6),(.str [107],.ref 3),(.str [109],Ay AO q9),(.str [110],.ref 4)]),(1,.B3 [(.str [98],.ref 2),(.str [102],Ay AO q3)]),(2,.B3 [(.str [103],Ay AO q2)]),(3,.B3 [(.str [112],Ay AO q7),(.str [113],Ay AO q8)]),(4,.B3 [(.str [107],Ay AO AY)])]|8,AO=>[(0,.B3 [(.str [97],.ref 1),(.str [104],Ay AO q6),(.str [107],.ref 3),(.str [109],Ay AO q9)]),(1,.B3 [(.str [98],.ref 2)]),(2,.B3 [(.str [103],Ay AO q2)]),(3,.B3 [(.str [112],Ay AO q7),(.str [113],Ay AO q8)])]|9,AO=>[(0,.B3 [(.str [97],.ref 1),(.str [104],Ay AO q6),(.str [107],.ref 3),(.str [109],Ay AO q9),(.str [110],.ref 4)]),(1,.B3 [(.str [98],.ref 2)]),(2,.B3 [(.str [103],Ay AO q2)]),(3,.B3 [(.str [112],Ay AO q7),(.str [113],Ay AO q8)]),(4,.B3 [(.str [107],Ay AO AY)])]|10,AO=>[(0,.B3 [(.str [97],.ref 1),(.str [104],Ay AO q6),(.str [107],.ref 2),(.str [109],Ay AO q9)]),(1,.B3 [(.str [102],Ay AO q3)]),(2,.B3 [(.str [112],Ay AO q7),(.str [113],Ay AO q8)])]|_,AO=>[(0,.B3 [(.str [97],.ref 1),(.str [104],Ay AO q6),(.str [107],.ref 2),(.str [109],Ay AO q9),(.str [110],.ref 3)]),(1,.B3 [(.str [102],Ay AO q3)]),(2,.B3 [(.str [112],Ay AO q7),(.str [113],Ay AO q8)]),(3,.B3 [(.str [107],Ay AO AY)])]
theorem H2{k:AK}{f:I Tx->CB k->I (O×Ob)}{l:I (I Tx)}(h:∀(sc:BU)(AO:CB k),l.map (Et sc k AO)=l.map λA1=>G (f A1 AO)):∀A1∈l,∀(sc:BU)(AO:CB k),Et sc k AO A1=G (f A1 AO):=λA1 m sc AO=>H6.mp (h sc AO) A1 m
theorem aL0:∀A1∈cy,∀(sc:BU)(AO:CB A6),Et sc A6 AO A1=G (F5 (CC A1 DY) AO):=H2 (f:=λA1=>F5 (CC A1 DY)) λsc AO=>by kernel_rfl
theorem aL1:∀A1∈cz,∀(sc:BU)(AO:CB A6),Et sc A6 AO A1=G (F5 (CC A1 DY) AO):=H2 (f:=λA1=>F5 (CC A1 DY)) λsc AO=>by kernel_rfl
theorem aL2:∀A1∈d0,∀(sc:BU)(AO:CB A6),Et sc A6 AO A1=G (F5 (CC A1 DY) AO):=H2 (f:=λA1=>F5 (CC A1 DY)) λsc AO=>by kernel_rfl
theorem aL3:∀A1∈d3,∀(sc:BU)(AO:CB A6),Et sc A6 AO A1=G (F5 (CC A1 DY) AO):=H2 (f:=λA1=>F5 (CC A1 DY)) λsc AO=>by kernel_rfl
theorem aL4:∀A1∈d4,∀(sc:BU)(AO:CB A6),Et sc A6 AO A1=G (F5 (CC A1 DY) AO):=H2 (f:=λA1=>F5 (CC A1 DY)) λsc AO=>by kernel_rfl
theorem aL5:∀A1∈d5,∀(sc:BU)(AO:CB A6),Et sc A6 AO A1=G (F5 (CC A1 DY) AO):=H2 (f:=λA1=>F5 (CC A1 DY)) λsc AO=>by kernel_rfl
theorem aL6:∀A1∈d6,∀(sc:BU)(AO:CB A6),Et sc A6 AO A1=G (F5 (CC A1 DY) AO):=H2 (f:=λA1=>F5 (CC A1 DY)) λsc AO=>by kernel_rfl
theorem aL7:∀A1∈d7,∀(sc:BU)(AO:CB A6),Et sc A6 AO A1=G (F5 (CC A1 DY) AO):=H2 (f:=λA1=>F5 (CC A1 DY)) λsc AO=>by kernel_rfl
theorem aL8(h:A1∈Ol):∀(sc:BU)(AO:CB A6),Et sc A6 AO A1=G (F5 (CC A1 DY) AO):=(Ci (Ci (Ci (Ci (Ci (Ci (Ci aL0 aL1) aL2) aL3) aL4) aL5) aL6) aL7) A1 h
noncomputable def DZ:I (I Tx):=[[q0,q4,q5,q6,q9,AY],[q1,q3,q4,q5,q6,q9,AY],[q1,q4,q5,q6,q9,AY],[q2,q3,q4,q5,q6,q9,AY],[q2,q4,q5,q6,q9,AY],[q3,q4,q5,q6,q9,AY]]
noncomputable def F6:O->CB M->I (O×Ob)
 |0,AO=>[(0,.B3 [(.str [97],Ay AO q0),(.str [103],.ref 1),(.str [104],Ay AO q6),(.str [109],Ay AO q9),(.str [110],.ref 2)]),(1,.B3 [(.str [112],Ay AO q4),(.str [113],Ay AO q5)]),(2,.B3 [(.str [107],Ay AO AY)])]|1,AO=>[(0,.B3 [(.str [97],.ref 1),(.str [103],.ref 2),(.str [104],Ay AO q6),(.str [109],Ay AO q9),(.str [110],.ref 3)]),(1,.B3 [(.str [98],Ay AO q1),(.str [102],Ay AO q3)]),(2,.B3 [(.str [112],Ay AO q4),(.str [113],Ay AO q5)]),(3,.B3 [(.str [107],Ay AO AY)])]|2,AO=>[(0,.B3 [(.str [97],.ref 1),(.str [103],.ref 2),(.str [104],Ay AO q6),(.str [109],Ay AO q9),(.str [110],.ref 3)]),(1,.B3 [(.str [98],Ay AO q1)]),(2,.B3 [(.str [112],Ay AO q4),(.str [113],Ay AO q5)]),(3,.B3 [(.str [107],Ay AO AY)])]|3,AO=>[(0,.B3 [(.str [97],.ref 1),(.str [103],.ref 3),(.str [104],Ay AO q6),(.str [109],Ay AO q9),(.str [110],.ref 4)]),(1,.B3 [(.str [98],.ref 2),(.str [102],Ay AO q3)]),(2,.B3 [(.str [103],Ay AO q2)]),(3,.B3 [(.str [112],Ay AO q4),(.str [113],Ay AO q5)]),(4,.B3 [(.str [107],Ay AO AY)])]|4,AO=>[(0,.B3 [(.str [97],.ref 1),(.str [103],.ref 3),(.str [104],Ay AO q6),(.str [109],Ay AO q9),(.str [110],.ref 4)]),(1,.B3 [(.str [98],.ref 2)]),(2,.B3 [(.str [103],Ay AO q2)]),(3,.B3 [(.str [112],Ay AO q4),(.str [113],Ay AO q5)]),(4,.B3 [(.str [107],Ay AO AY)])]|_,AO=>[(0,.B3 [(.str [97],.ref 1),(.str [103],.ref 2),(.str [104],Ay AO q6),(.str [109],Ay AO q9),(.str [110],.ref 3)]),(1,.B3 [(.str [102],Ay AO q3)]),(2,.B3 [(.str [112],Ay AO q4),(.str [113],Ay AO q5)]),(3,.B3 [(.str [107],Ay AO AY)])]
theorem aL9:∀A1∈d8,∀(sc:BU)(AO:CB M),Et sc M AO A1=G (F6 (CC A1 DZ) AO):=H2 (f:=λA1=>F6 (CC A1 DZ)) λsc AO=>by kernel_rfl
theorem aM0:∀A1∈d9,∀(sc:BU)(AO:CB M),Et sc M AO A1=G (F6 (CC A1 DZ) AO):=H2 (f:=λA1=>F6 (CC A1 DZ)) λsc AO=>by kernel_rfl
theorem aM1:∀A1∈dA,∀(sc:BU)(AO:CB M),Et sc M AO A1=G (F6 (CC A1 DZ) AO):=H2 (f:=λA1=>F6 (CC A1 DZ)) λsc AO=>by kernel_rfl
theorem aM2:∀A1∈dB,∀(sc:BU)(AO:CB M),Et sc M AO A1=G (F6 (CC A1 DZ) AO):=H2 (f:=λA1=>F6 (CC A1 DZ)) λsc AO=>by kernel_rfl
theorem aM3:∀A1∈dC,∀(sc:BU)(AO:CB M),Et sc M AO A1=G (F6 (CC A1 DZ) AO):=H2 (f:=λA1=>F6 (CC A1 DZ)) λsc AO=>by kernel_rfl
theorem aM4:∀A1∈dD,∀(sc:BU)(AO:CB M),Et sc M AO A1=G (F6 (CC A1 DZ) AO):=H2 (f:=λA1=>F6 (CC A1 DZ)) λsc AO=>by kernel_rfl
theorem aM5:∀A1∈dE,∀(sc:BU)(AO:CB M),Et sc M AO A1=G (F6 (CC A1 DZ) AO):=H2 (f:=λA1=>F6 (CC A1 DZ)) λsc AO=>by kernel_rfl
theorem aM6:∀A1∈dF,∀(sc:BU)(AO:CB M),Et sc M AO A1=G (F6 (CC A1 DZ) AO):=H2 (f:=λA1=>F6 (CC A1 DZ)) λsc AO=>by kernel_rfl
theorem aM7(h:A1∈Om):∀(sc:BU)(AO:CB M),Et sc M AO A1=G (F6 (CC A1 DZ) AO):=(Ci (Ci (Ci (Ci (Ci (Ci (Ci aL9 aM0) aM1) aM2) aM3) aM4) aM5) aM6) A1 h
@[irreducible]noncomputable def Eu:As:=Ba 30
@[irreducible]noncomputable def Ix(k:O):As:=(Fk Eu)[k]?.getD (.Pass ⟨0,0,0,0⟩)
@[irreducible]noncomputable def dL:AA:=G5 (Ix 1) (.Constant .none 0 ⟨0,0,0,0⟩) λt _ _ _ _=>t
@[irreducible]noncomputable def XO:AA:=G5 (Ix 1) (.Constant .none 0 ⟨0,0,0,0⟩) λ_ t _ _ _=>t
@[irreducible]noncomputable def KW:I As:=G5 (Ix 1) [] λ_ _ b _ _=>b
@[irreducible]noncomputable def aM8:B9:=G5 (Ix 1) ⟨0,0,0,0⟩ λ_ _ _ _ p=>p
noncomputable def Mw:U:=⟨⟨[116,114,101,101]⟩⟩
noncomputable def Hb:U:=⟨⟨[112,108,97,99,101]⟩⟩
noncomputable def Hc:U:=⟨⟨[105,110,110,101,114]⟩⟩
noncomputable def Mx:U:=⟨⟨[112,97,116,104]⟩⟩
noncomputable def dM:Tx->Tx
 |[]=>[]|c::l=>match BC c 47 with|true=>[]|false=>c::dM l
noncomputable def Qs(q p:Tx):AD Tx:=match q with
 |[47]=>G (dM (p.drop 1))|q=>match K2 (q++[47]) p with|true=>G (dM (p.drop (q.length+1)))|false=>L
noncomputable def On(r:O)(Y:I Sg)(N:I (V×V))(q p:Tx):Mine.St:=⟨[(Mw,.ref 1),(Hb,.str q),(Hc,.ref 0),(Mx,.str p)],[(0,.rows r Y),(1,.dict N)],2⟩
noncomputable def XP(r:O)(Y:I Sg)(N:I (V×V))(q p:Tx):Mine.St:=match Qs q p with
 |some t=>On r (Y++[.tx t]) N q [47]|none=>On (r+1) Y N q [47]
noncomputable def pL(q p:Tx):Prop:=∀(r:O)(Y:I Sg)(N:I (V×V)),ev CQ 60 ⟨BV Eu,6⟩ (.ss KW) (On (r+1) Y N q p)=.ok (.f .next) (XP r Y N q p)
noncomputable def KX:I Tx:=[q0,q1,q2,q3,q4,q5,q6,q7,q8,q9,AY]
noncomputable def KY:I Tx:=[[47],[47,97],[47,97,47,98],[47,107],[47,110],[47,103]]
theorem in_tab:∀q∈KY,∀p∈KX,pL q p:=λq m p m' r Y N=>H6.mp (H6.mp (show KY.map (λq=>KX.map λp=>ev CQ 60 ⟨BV Eu,6⟩ (.ss KW) (On (r+1) Y N q p))=KY.map (λq=>KX.map λp=>.ok (.f .next) (XP r Y N q p))by kernel_rfl) q m) p m'
theorem aM9{p:Tx}(hq:q∈KY)(hp:p∈KX):pL q p:=in_tab q hq p hp
noncomputable def LW(r:O)(Y:I Sg)(N:I (V×V))(q:Tx):Mine.St:=⟨[(Mw,.ref 0),(Hb,.str q),(Hc,.ref 1)],[(1,.rows r Y),(0,.dict N)],2⟩
noncomputable def Oo(r:O)(Y:I Sg)(N:I (V×V))(q p:Tx):Mine.St:=⟨[(Mw,.ref 0),(Hb,.str q),(Hc,.ref 1),(Mx,.str p)],[(1,.rows r Y),(0,.dict N)],2⟩
theorem aN0(d r:O)(Y:I Sg)(N:I (V×V))(q p:Tx):ev CQ 60 ⟨BV Eu,d⟩ (.asg dL (.str p)) (LW r Y N q)=.ok (.f .next) (Oo r Y N q p):=by kernel_rfl
noncomputable def E9(q:Tx)(l:I Tx):I Tx:=l.filterMap (Qs q)
section
variable{J:I A8}
theorem Gd.drop{env:I (U×V)}{h:I (O×Ob)}(g:Gd B F K A ⟨env,h,n⟩ C s)(hs:∀x v,Ah K7 x=G v->Ah env x=G v):Gd B F K A ⟨K7,h,n⟩ C s:=⟨g.kinds,g.len,g.nodup,g.fresh,g.live,g.D5,g.D1,g.objs,by
 refine CZ g.env ?_;intro m ns ce r;exact⟨m,ns,ce,λx v e=>r x v (hs x v e)⟩,g.base,g.os,g.gens,g.frames,g.DT,g.Cy,g.mods,g.handled,g.depth,g.units⟩
theorem aN1(AV:(Bb P).In B.base)(AM:Dg B)(hd:6<=d){p:Tx}(hq:q∈KY)(hp:p∈KX){Y:I Sg}(hc:∀e∈N,Cl e.2)(g:Gd B F ⟨BV Eu,d⟩ A (Oo (r+1) Y N q p) C s):CJ B F ⟨BV Eu,d⟩ A (match Qs q p with|some t=>Oo r (Y++[.tx t]) N q [47]|none=>Oo (r+1) Y N q [47]) C s (J3 KW F.env) (FR .next):=by
 have A9:=(all1 AV AM 60).s;have run:=aM9 hq hp r Y N;have Es:∀j,(C' C [1,0])[j]?=C[DJ 2 [1,0] j]?:=λj=>by
   have :=GJ (J:=[]) (n:=2) g.len (B7:=[1,0]) (by decide) j;rw[HO,HO]at this;exact this
 refine aF3 (K:=⟨BV Eu,d⟩) (d:=6) (DI:=On (r+1) Y N q p) (AB:=XP r Y N q p) (B7:=[1,0]) (λ{h C u}e Q AT=>e) (λg'=>A9.ss run g') hd g ⟨rfl,by decide,by show∀i∈_,i<2;decide,λj o e=>?_⟩ (Cf.pick Es g.env λx v e=>?_) ?_;. match j,e with
 |0,e=>injection e with e;subst e;exact⟨1,rfl,rfl⟩|1,e=>injection e with e;subst e;exact⟨0,rfl,by show G (Ob.dict N)=G (Ob.dict (N.map _));rw[KS hc]⟩|j+2,e=>exact(BE e).elim
 . exact TB (f:=E7 _) (by rfl) e
 . have fin:∀(r':O)(ys:I Sg),cj (Oo (r+1) Y N q p) (On (r+1) Y N q p) (On r' ys N q [47]) (Oo r' ys N q [47]) [1,0]:=λr' ys=>by
    refine⟨rfl,DF _,rfl,λi o e=>?_⟩;match i,e with
 |0,e=>injection e with e;subst e;exact .inl ⟨1,_,rfl,rfl,by show Ob.dict N=Ob.dict (N.map _);rw[KS hc]⟩|1,e=>injection e with e;subst e;exact .inl ⟨0,_,rfl,rfl,rfl⟩|i+2,e=>exact(BE e).elim
   unfold XP;cases Qs q p with
 |some t=>exact fin _ _|none=>exact fin _ _
theorem aN2(AV:(Bb P).In B.base)(AM:Dg B)(hd:6<=d)(hq:q∈KY)(hc:∀e∈N,Cl e.2){AS:Dt->AR->Prop}(hI:Af.get? AE=L)(post:I Tx):∀(pre:I Tx)(r:O)(Y:I Sg){C:I A8}{s:AR},(∀p∈post,p∈KX)->post.length<=r->N.map (·.1)=(pre++post).map .str->Gd B F ⟨BV Eu,d⟩ A (LW r Y N q) C s->Nx F.D F.AZ Af s.heap BG C->CM B F C s.heap AE->E6 s.heap C (.keys 0 N.length) pre.length AE->(∀r' AT s',Gd B F ⟨BV Eu,d⟩ A (LW r' (Y++(E9 q post).map .tx) N q) AT s'->Nx F.D F.AZ Af s'.heap BG AT->AS (.ok .next) s')->D7 (AQ B.prog B.w) A (.forLoop dL (.ref AE) KW [] F.env) AS s:=by induction post with
 |nil=>
  intro pre r Y C s _ _ UA g Cq fr it k;have hn:(Gr N pre.length).map (·.1)=L:=by rw[HY,<-VJ,UA];simp
  have AP:IV (.keys 0 N.length) pre.length (LW r Y N q).h=G L:=by
   show bT (BC N.length N.length) L (G ((Gr N pre.length).map (·.1)))=_;rw[J2,hn];rfl
  refine MY (K9 g fr it AP (λx hx=>by exact(BE hx).elim) λhx Q tk AN DU=>?_);refine k r C _ ?_ (Cq.F2 DU hI);simpa[E9]using AN|cons p post ih=>
  intro pre r Y C s hp hr UA g Cq fr it k;have hn:(Gr N pre.length).map (·.1)=G (.str p):=by rw[HY,<-VJ,UA];simp
  have AP:IV (.keys 0 N.length) pre.length (LW r Y N q).h=G (G (.str p)):=by
   show bT (BC N.length N.length) L (G ((Gr N pre.length).map (·.1)))=_;rw[J2,hn];rfl
  have A9:=(all1 AV AM 60).s;obtain⟨r,rfl⟩:∃r',r=r'+1:=⟨r-1,by simp at hr;(with_reducible exact Mine.yH (by assumption))⟩;refine MY (K9 g fr it AP (λx hx u Q tk AN DU Eo Aq Hy=>?_) λhx=>by(exfalso;cases hx));injection hx with hx;subst hx;have L9:=Cq.F2 DU hI;refine QN Aq (A9.asg (aN0 d _ _ _ _ p) AN Hy _ _ λ_ Au Ai AU Al _=>aN1 AV AM hd hq (hp p (Co ..)) hc AU _ _ λMZ BS Ax Ap B8 BQ=>?_);cases BQ;have xx:=Al.trans B8;have EF:=Eo.nx xx;have Gv:=Aq.nx xx Eo.C Eo.w;have Ep:=L9.trans xx;have e:pre++p::post=(pre++[p])++post:=by simp
  have drop:∀{r':O}{ys:I Sg}{a:I A8}{s:AR},Gd B F ⟨BV Eu,d⟩ A (Oo r' ys N q [47]) a s->Gd B F ⟨BV Eu,d⟩ A (LW r' ys N q) a s:=λg=>g.drop λx v e=>TB (f:=id) (by rfl) e;have HZ:E6 Ax.heap BS (.keys 0 N.length) (pre++[p]).length AE:=by rw[FD];exact Gv
  cases Ja:Qs q p with
 |some t=>
   rw[Ja]at Ap;refine ih (pre++[p]) r (Y++[.tx t]) (λq m=>hp q (Cp _ m)) (by simp at hr;(with_reducible assumption)) (by rw[<-e];exact UA) (drop Ap) Ep EF HZ λr' AT s' g' x'=>k r' AT s' ?_ x';simpa[E9,Ja]using g'|none=>
   rw[Ja]at Ap;refine ih (pre++[p]) (r+1) Y (λq m=>hp q (Cp _ m)) (by simp at hr;(with_reducible exact gw (by assumption))) (by rw[<-e];exact UA) (drop Ap) Ep EF HZ λr' AT s' g' x'=>k r' AT s' ?_ x';simpa[E9,Ja]using g'
end
@[irreducible]noncomputable def dN:AA:=S6 (Ix 2) (.Constant .none 0 ⟨0,0,0,0⟩) λz1 _=>oS z1 (.Constant .none 0 ⟨0,0,0,0⟩) λe=>e
@[irreducible]noncomputable def aN3:B9:=(Ix 2).pos
@[irreducible]noncomputable def aN4:B9:=ED dN ⟨0,0,0,0⟩ λz1 _ _ _=>DO z1 ⟨0,0,0,0⟩ λ_ p=>p
@[irreducible]noncomputable def aN5:B9:=ED dN ⟨0,0,0,0⟩ λ_ _ _ p=>p
@[irreducible]noncomputable def pM:B9:=ED dN ⟨0,0,0,0⟩ λ_ z1 _ _=>l1 z1 ⟨0,0,0,0⟩ λz2=>DO z2 ⟨0,0,0,0⟩ λ_ p=>p
@[irreducible]noncomputable def aN6:B9:=DO XO ⟨0,0,0,0⟩ λ_ p=>p
theorem aN7:Fk Eu=[Ix 0,Ix 1,Ix 2]:=by kernel_rfl
theorem aN8:Ix 1=.For dL XO KW [] aM8:=by kernel_rfl
theorem aN9:XO=.Name Mw aN6:=by kernel_rfl
theorem aO0:Ix 2=.Return (G (.Call (.Name QC aN4) [.Name Hc pM] [] aN5)) aN3:=by kernel_rfl
noncomputable def pN(N:I (V×V))(q:Tx):Mine.St:=⟨[(Mw,.ref 0),(Hb,.str q)],[(0,.B3 N)],1⟩
noncomputable def dO(N:I (V×V))(q:Tx):Mine.St:=⟨[(Mw,.ref 0),(Hb,.str q),(Hc,.ref 1)],[(1,.list []),(0,.B3 N)],2⟩
theorem aO1(d:O)(N:I (V×V))(q:Tx):ev CQ 60 ⟨BV Eu,d⟩ (.s (Ix 0)) (pN N q)=.ok (.f .next) (dO N q):=by kernel_rfl
theorem aO2(d r:O)(Y:I Sg)(N:I (V×V))(q:Tx):ev CQ 60 ⟨BV Eu,d⟩ (.e XO) (LW r Y N q)=.ok (.v (.ref 0)) (LW r Y N q):=by kernel_rfl
noncomputable def Qt(l:I Tx)(N:I (V×V))(q:Tx):Mine.St:=⟨[(Mw,.ref 0),(Hb,.str q),(Hc,.ref 1)],[(1,.list (l.map .str)),(0,.B3 N)],2⟩
theorem aO3(d:O)(l:I Tx)(N:I (V×V))(q:Tx):ev CQ 60 ⟨BV Eu,d⟩ (.e (.Name Hc pM)) (Qt l N q)=.ok (.v (.ref 1)) (Qt l N q):=by kernel_rfl
theorem aO4:Di (BV Eu) QC=M:=by kernel_rfl
theorem aO5:Ah CQ.glob QC=G (.top (.builtin "sorted")):=by kernel_rfl
theorem pO:∀{l:I Tx},DS (l.map .tx)=l.map .str
 |[]=>rfl|t::l=>by
  show I_ (.tx t)++DS (l.map .tx)=_;rw[pO];rfl
section
variable{J:I A8}
theorem pP:HV (l.map .str)=G l:=by induction l with
 |nil=>rfl|cons t l ih=>exact congrArg (λo=>B' o λr=>G (t::r)) ih
theorem aO6{m:I Tx}(p:l.Perm m):Ea l=Ea m:=bD8 (le:=(·<=·)) (λa b _ _ h1 h2=>bD9 h1 h2) (Wt l) (Wt m) ((Ws l).trans (p.trans (Ws m).symm))
theorem Gd.forget{env:I (U×V)}{h Q:I (O×Ob)}(g:Gd B F K A ⟨env,h,n⟩ C s)(hs:∀i o,AL Q i=G o->AL h i=G o):Gd B F K A ⟨env,Q,n⟩ C s:=⟨g.kinds,g.len,g.nodup,g.fresh,g.live,g.D5,g.D1,λi o e=>g.objs i o (hs i o e),g.env,g.base,g.os,g.gens,g.frames,g.DT,g.Cy,g.mods,g.handled,g.depth,g.units⟩
theorem aO7(AV:(Bb P).In B.base)(AM:Dg B)(hd:6<=d)(hq:q∈KY){w:Tx->V}(hw:∀p,Cl (w p))(hL:∀p∈A1,p∈KX)(Ch:A1.length<=20)(g:Gd B F ⟨BV Eu,d⟩ A (pN (BM w A1) q) C s):CJ B F ⟨BV Eu,d⟩ A ⟨(dO (BM w A1) q).env,[(2,.list ((Ea (E9 q A1)).map .str)),(0,.B3 (BM w A1))],3⟩ C s (J3 (Fk Eu) F.env) (FR (.ret (.ref 2))):=by
 intro A2 E k;have A9:=(all1 AV AM 60).s;rw[aN7];refine DH (A9.s (aO1 d _ _) g _ _ λu A_ AJ AN Ab Aq=>?_);cases Aq;refine S9 (AN.open (i:=0) (N:=BM w A1) rfl) ?_;intro BN hp AU _ _ _;have Jb:BN.Perm (BM w A1):=hp.1;have hc:∀e∈BN,Cl e.2:=λe m=>Mt hw e (Jb.subset m);refine AC (by
   refine AC (cV (f:=λp=>((V.str p,w p):V×V)) Jb) ?_;intro L' a b;exact⟨L',a,b⟩) ?_;intro L' Qu BJ;subst BJ;have Ap:Gd B F ⟨BV Eu,d⟩ A (LW Dm [] (BM w L') q) A_ AJ:=AU.KV (i:=1) (o:=.list []) (o':=.rows Dm []) rfl λa _ r=>by
   refine AC r ?_;(try clear r);intro us p v;exact⟨us,p,v,by show 0+Dm<=Dm;omega⟩
 refine DH ?_;rw[aN8];refine Y9 (A9.eW (aO2 d _ _ _ _) Ap _ _ λu QU Eg Cn EL Ij=>OF Cn Ij (it:=.keys 0 (BM w L').length) rfl λAE Q tk Gb GG hI cq cr=>?_) ?_
 . refine aN2 AV AM hd hq hc hI L' [] Dm [] (λp m=>hL p (Qu.subset m)) ?_ ?_ Gb GG.FZ cq cr λr' bu bv Tn Qk=>?_;. rw[Qu.length_eq];exact B4 Ch (by decide)
   . show(L'.map λp=>((V.str p,w p):V×V)).map (·.1)=(L':I Tx).map .str;rw[Hm];rfl
   . have cu:Gd B F ⟨BV Eu,d⟩ A (Qt (E9 q L') (BM w A1) q) bu bv:=by
      have a1:=Tn.KV (i:=1) (o:=.rows r' ([]++(E9 q L').map .tx)) (o':=.list ((E9 q L').map .str)) rfl λa _ r=>by
       refine CZ r ?_;(try clear r);intro us p v _;rw[uP,pO]at v;exact⟨us,p,v⟩
      exact a1.KV (i:=0) (o:=.dict (BM w L')) (o':=.B3 (BM w A1)) rfl λa _ r=>⟨BM w L',⟨Jb,trivial⟩,r⟩
     refine DH ?_;rw[aO0];have aO8:(E9 q L').length<60:=by
      have :(E9 q L').length<=L'.length:=bB3 ..;have :=Qu.length_eq;(with_reducible exact Mine.wN (by assumption) (by assumption) (by assumption))
     have hs:O6 ((E9 q L').map .str) (Qt (E9 q L') (BM w A1) q)=.ok (.v (.ref 2)) ((Qt (E9 q L') (BM w A1) q).new (.list ((Ea (E9 q L')).map .str))).2:=by
      unfold O6;rw[pP];show A0.iff (G1 (E9 q L').length 60) _=_;rw[show G1 (E9 q L').length 60=M from ug aO8];rfl
     refine tI (bk (Bl:=GI AV) (AB:=Qt (E9 q L') (BM w A1) q) aO4 aO5 (λh=>CW.builtin) rfl cu (λBG EN p Fa Cq=>Wj rfl (A9.e (aO3 d _ _ _) Fa) p) λus bO9 bP0 aO9 aP0 pQ=>?_);refine Bv pQ ?_;(try clear pQ);intro u1 us1 B6 ru e1;subst B6;cases e1;refine n4 aO9 (i:=1) rfl ru hs _ _ λy aP1 aP2 pR aP3 aP4=>?_;have hm:(E9 q L').Perm (E9 q A1):=Qu.filterMap (Qs q);rw[aO6 hm]at pR;refine k _ aP1 aP2 (pR.forget (Q:=[(2,.list ((Ea (E9 q A1)).map .str)),(0,.B3 (BM w A1))]) λi o e=>?_) ?_ ⟨y,rfl,aP4⟩;. match i,e with
 |0,e=>injection e with e;subst e;rfl|2,e=>injection e with e;subst e;rfl|1,e=>exact(BE e).elim|i+3,e=>exact(BE e).elim
     . exact Ab.trans (EL.trans (Qk.trans ((aP0.trans aP3).FZ)))
 . intro x;rw[aN9];kernel_rfl
end
noncomputable def Iy:I (V×V)->Tx->V
 |[],_=>.none|e::l,p=>match e.1 with
 |.str q=>(match CU q p with|true=>e.2|false=>Iy l p)|_=>Iy l p
noncomputable def UB:I (V×V)->AD (I Tx)
 |[]=>G []|e::l=>match e.1,UB l with|.str q,G m=>G (q::m)|_,_=>L
noncomputable def Oq:I (V×V)->AK
 |[]=>M|e::l=>match e.2 with|.str _=>Oq l|.sym _ _ _=>Oq l|_=>A6
set_option tactic.hygienic true in
theorem pS:∀{N:I (V×V)}{A1:I Tx},UB N=G A1->A1.Nodup->N=BM (Iy N) A1
 |[],A1,h,_=>by injection h with h;subst h;rfl|e::l,A1,h,nd=>by
  simp only[UB]at h;split at h
  . rename_i q m he hm;injection h with h;subst h;obtain⟨e1,e2⟩:=e;simp only at he;subst he;have ih:=pS hm (EU.mp nd).2;show _=(V.str q,Iy ((V.str q,e2)::l) q)::BM (Iy ((V.str q,e2)::l)) m;have h1:Iy ((V.str q,e2)::l) q=e2:=by simp only[Iy];rw[Ec.mpr rfl]
    have h2:BM (Iy ((V.str q,e2)::l)) m=BM (Iy l) m:=by
     refine Yf λp hp=>?_;have Cc:CU q p=A6:=by cases z:CU q p with
 |false=>rfl|true=>exact absurd (Ec.mp z▸hp) (EU.mp nd).1
     simp only[Iy,Cc]
    rw[h1,h2,<-ih]
  . exact(BE h).elim
set_option tactic.hygienic true in
theorem dP:∀{N:I (V×V)},Oq N=M->∀p,Cl (Iy N p)
 |[],_,p=>λ_=>rfl|e::l,h,p=>by
  have hl:Oq l=M/\Cl e.2:=by
    simp only[Oq]at h;split at h;. rename_i q;exact⟨h,by rw[q];exactλ_=>rfl⟩
    . rename_i q;exact⟨h,by rw[q];exactλ_=>rfl⟩
    . exact(E5 h).elim
  simp only[Iy];split
  . split;. exact hl.2
    . exact dP hl.1 p
  . exact dP hl.1 p
section
variable{J:I A8}
theorem aP5(AV:(Bb P).In B.base)(AM:Dg B)(hq:q∈KY){w:Tx->V}(hw:∀p,Cl (w p))(hL:∀p∈A1,p∈KX)(Ch:A1.length<=20)(g:Gd B F ⟨sc,7⟩ A ⟨[],[(0,.B3 (BM w A1))],1⟩ C s)(rs:Aa s.heap C [.ref 0,.str q] us):Ae B F ⟨sc,7⟩ A ⟨[],[(2,.list ((Ea (E9 q A1)).map .str)),(0,.B3 (BM w A1))],3⟩ C s (CE (.ref 399) us) (RV (.ref 2)):=by
 have hf:AL Io 399=G (DE (Ba 30)):=by kernel_rfl
 refine DB (Mm AV (Mo AV) (Of P hf)) ?_;intro o fd ok;have hb:JI (DE (Ba 30)) [.ref 0,.str q]=G [(Mw,.ref 0),(Hb,.str q)]:=by kernel_rfl
 exact oZ (H:=⟨[],[(0,.B3 (BM w A1))],1⟩) (K:=⟨sc,7⟩) (d:=6) ok (AB:=⟨(dO (BM w A1) q).env,[(2,.list ((Ea (E9 q A1)).map .str)),(0,.B3 (BM w A1))],3⟩) hb rfl (.inr rfl) (λg'=>(by have q:=@aO7;rw[show Eu=Ba 30 by unfold Eu;rfl]at q;exact q AV AM (DF _) hq hw hL Ch g')) g rs
theorem aP6(AV:(Bb P).In B.base)(AM:Dg B)(hq:q∈KY)(hk:UB N=G A1)(nd:A1.Nodup)(hc:Oq N=M)(hL:∀p∈A1,p∈KX)(Ch:A1.length<=20)(hd:7<=K.d)(hi:AL H.h i=G (.B3 N))(g:Gd B F K A H C s)(rs:Aa s.heap C [.ref i,.str q] us):Ae B F K A ⟨H.env,(H.n+1,.list ((Ea (E9 q A1)).map .str))::H.h,H.n+2⟩ C s (CE (.ref 399) us) (RV (.ref (H.n+1))):=by
 have he:=pS hk nd;have hw:=dP hc;have pT:∀e∈N,Cl e.2:=by rw[he];exact Mt hw
 refine nh (A7:=⟨H.env,(H.n+1,.list ((Ea (E9 q A1)).map .str))::H.h,H.n+2⟩) (B7:=[i]) (DI:=⟨[],[(0,.B3 N)],1⟩) (AB:=⟨[],[(2,.list ((Ea (E9 q A1)).map .str)),(0,.B3 N)],3⟩) (d:=7) (MU:=[.ref 0,.str q]) (X3:=.ref 2) (λ{F A C s us}g' Fu=>?_) rfl hd g ⟨rfl,EU.mpr ⟨(by simp),HN⟩,λj m=>?_,λj o e=>?_⟩ ⟨rfl,by show 1<=3;(with_reducible exact fR _ _),rfl,λj o e=>?_⟩ rfl rfl rs
 . rw[he]at g' ⊢;have :=aP5 AV AM hq hw hL Ch g' Fu;exact this
 . rw[CI.mp m];exact Iu g hi
 . match j,e with
 |0,e=>injection e with e;subst e;exact⟨i,rfl,by rw[hi];show _=G (Ob.B3 (N.map _));rw[KS pT]⟩|j+1,e=>exact(BE e).elim
 . refine Eb (y:=AL H.h j) e (λhj e=>?_) λ_ e=>?_
   . injection e with e;subst e;have :=CD hj;clear hj;subst this;refine .inl ⟨2,_,rfl,rfl,?_⟩;show _=Ob.list (Cr _ ((Ea (E9 q A1)).map .str));rw[LQ]
   . by_cases pU:j=i
     . clear rs;subst pU;rw[hi]at e;injection e with e;subst e;exact .inl ⟨0,_,rfl,rfl,by show _=Ob.B3 (N.map _);rw[KS pT]⟩
     . exact .inr ⟨e,by simpa using pU⟩
end
noncomputable def I4(a b:B9):AK:=BC a.line b.line&&(BC a.col b.col&&(BC a.endLine b.endLine&&BC a.endCol b.endCol))
theorem Iz{a b:B9}(h:I4 a b=M):a=b:=by
 cases a;cases b;have n:=λ{x y:O}(e:BC x y=M)=>CD e;exact congr (congr (congr (congrArg Pos.mk (n (B1 h))) (n (B1 (Ak h)))) (n (B1 (Ak (Ak h))))) (n (Ak (Ak (Ak h))))
noncomputable def pV(f:AA->AA->AK)(g g':FP):AK:=f g.target g'.target&&(f g.iter g'.iter&&(all2 f g.ifs g'.ifs&&decide (g.is_async=g'.is_async)))
noncomputable def pW(f:AA->AA->AK)(a b:AA):AK:=DO a A6 (λx p=>DO b A6 λy q=>Cw x y&&I4 p q)||(HS a A6 (λc k p=>HS b A6 λc' l q=>decide (c=c')&&(BC k l&&I4 p q))||(Ju a A6 (λY k p=>Ju b A6 λys l q=>all2 f Y ys&&(BC k l&&I4 p q))||(ED a A6 (λg Y kw p=>ED b A6 λg' ys pX q=>f g g'&&(all2 f Y ys&&l0 kw A6 (l0 pX A6 (I4 p q))))||(H8 a A6 (λv i p=>H8 b A6 λw j q=>f v w&&(Cw i j&&I4 p q))||(JA a A6 (λv i p=>JA b A6 λw j q=>f v w&&(f i j&&I4 p q))||(Kt a A6 (λl o r p=>Kt b A6 λl' o' r' q=>f l l'&&(decide (o=o')&&(all2 f r r'&&I4 p q)))||(Nl a A6 (λl o r p=>Nl b A6 λl' o' r' q=>f l l'&&(decide (o=o')&&(f r r'&&I4 p q)))||IL a A6 λe gs sc p=>IL b A6 λe' gs' IW q=>f e e'&&(all2 (pV f) gs gs'&&(decide (sc=IW)&&I4 p q)))))))))
theorem aP7{f:AA->AA->AK}(hf:∀a b,f a b=M->a=b)(a b:FP)(h:pV f a b=M):a=b:=by
 cases a;cases b;exact congr (congr (congr (congrArg bU9 (hf _ _ (B1 h))) (hf _ _ (B1 (Ak h)))) (Nq hf _ _ (B1 (Ak (Ak h))))) (of_decide_eq_true (Ak (Ak (Ak h))))
theorem aP8{f:AA->AA->AK}(hf:∀a b,f a b=M->a=b)(a b:AA)(h:pW f a b=M):a=b:=by
 have F:=λ{a b:AA}(e:f a b=M)=>hf a b e;have n:=λ{x y:O}(e:BC x y=M)=>CD e;have A:=Nq hf;refine Jw h (λh=>?_) λh=>?_
 . apply EV h B0;intro x p h;apply EV h B0;intro y q h;exact congr (congrArg Expr.Name (E2.mp (B1 h))) (Iz (Ak h))
 refine Jw h (λh=>?_) λh=>?_
 . apply J9 h B0;intro c k p h;apply J9 h B0;intro c' l q h;exact congr (congr (congrArg Expr.Constant (of_decide_eq_true (B1 h))) (n (B1 (Ak h)))) (Iz (Ak (Ak h)))
 refine Jw h (λh=>?_) λh=>?_
 . apply S2 h B0;intro x k p h;apply S2 h B0;intro y l q h;exact congr (congr (congrArg Expr.Tuple (A _ _ (B1 h))) (n (B1 (Ak h)))) (Iz (Ak (Ak h)))
 refine Jw h (λh=>?_) λh=>?_
 . apply M6 h B0;intro g Y kw p h;apply M6 h B0;intro g' ys pX q h;apply EW (Ak (Ak h)) B0;intro h1;apply EW h1 B0;intro h2;exact congr (congr (congr (congrArg Expr.Call (F (B1 h))) (A _ _ (B1 (Ak h)))) rfl) (Iz h2)
 refine Jw h (λh=>?_) λh=>?_
 . apply S3 h B0;intro v i p h;apply S3 h B0;intro w j q h;exact congr (congr (congrArg Expr.Attribute (F (B1 h))) (E2.mp (B1 (Ak h)))) (Iz (Ak (Ak h)))
 refine Jw h (λh=>?_) λh=>?_
 . apply Nk h B0;intro v i p h;apply Nk h B0;intro w j q h;exact congr (congr (congrArg Expr.Subscript (F (B1 h))) (F (B1 (Ak h)))) (Iz (Ak (Ak h)))
 refine Jw h (λh=>?_) λh=>?_
 . apply S4 h B0;intro v i r p h;apply S4 h B0;intro w j s q h;exact congr (congr (congr (congrArg Expr.Compare (F (B1 h))) (of_decide_eq_true (B1 (Ak h)))) (A _ _ (B1 (Ak (Ak h))))) (Iz (Ak (Ak (Ak h))))
 refine Jw h (λh=>?_) λh=>?_
 . apply iB h B0;intro v i r p h;apply iB h B0;intro w j s q h;exact congr (congr (congr (congrArg Expr.BinOp (F (B1 h))) (of_decide_eq_true (B1 (Ak h)))) (F (B1 (Ak (Ak h))))) (Iz (Ak (Ak (Ak h))))
 apply Yo h B0;intro v i r p h;apply Yo h B0;intro w j s q h;exact congr (congr (congr (congrArg Expr.ListComp (F (B1 h))) (Nq (aP7 hf) _ _ (B1 (Ak h)))) (of_decide_eq_true (B1 (Ak (Ak h))))) (Iz (Ak (Ak (Ak h))))
noncomputable def pY(n:O):AA->AA->AK:=RT (λ_ _=>A6) (λ_ f=>pW f) n
theorem aP9(n:O):∀a b,pY n a b=M->a=b:=RT (λ_ _ h=>(B0 h).elim) (λ_ ih=>aP8 ih) n
noncomputable def Qv(a b:AA):AK:=pY 12 a b
theorem Qw{a b:AA}(h:Qv a b=M):a=b:=aP9 12 a b h
noncomputable def pZ(a b:As):AK:=Jv a A6 λc s o p=>Jv b A6 λc' s' o' q=>Qv c c'&&(I4 p q&&l0 o A6 (l0 o' A6 (l1 s A6 λx=>l1 s' A6 λy=>Pn x A6 λe p=>Pn y A6 λe' q=>Qv e e'&&I4 p q)))
theorem aQ0{a b:As}(h:pZ a b=M):a=b:=by
 apply Yp h B0;intro c s o p h;apply Yp h B0;intro c' s' o' q h;apply EW (Ak (Ak h)) B0;intro h1;apply EW h1 B0;intro h1;apply Cs h1 B0;intro x h1;apply Cs h1 B0;intro y h1;apply Yq h1 B0;intro e p1 h1;apply Yq h1 B0;intro e' q1 h1;rw[Qw (B1 h),Iz (B1 (Ak h)),Qw (B1 h1),Iz (Ak h1)]
noncomputable def p_(a b:As):AK:=G5 a A6 λt i s o p=>G5 b A6 λt' i' s' o' q=>Qv t t'&&(Qv i i'&&(I4 p q&&l0 o A6 (l0 o' A6 (l1 s A6 λx=>l1 s' A6 λy=>pZ x y))))
theorem aQ1{a b:As}(h:p_ a b=M):a=b:=by
 apply iD h B0;intro c i s o p h;apply iD h B0;intro c' i' s' o' q h;apply EW (Ak (Ak (Ak h))) B0;intro h1;apply EW h1 B0;intro h1;apply Cs h1 B0;intro x h1;apply Cs h1 B0;intro y h1;rw[Qw (B1 h),Qw (B1 (Ak h)),Iz (B1 (Ak (Ak h))),aQ0 h1]
noncomputable def HH:As:=Ba 31
noncomputable def My:As:=Ba 36
noncomputable def Qx(l:I As)(k:O):As:=l[k]?.getD (.Pass ⟨0,0,0,0⟩)
noncomputable def Mz:As:=G5 (Qx (Fk HH) 3) (.Pass ⟨0,0,0,0⟩) λ_ _ b _ _=>Jv (Qx b 1) (.Pass ⟨0,0,0,0⟩) λ_ s _ _=>Qx s 0
noncomputable def N0:AA:=G5 (Qx (Fk My) 1) (.Constant .none 0 ⟨0,0,0,0⟩) λ_ _ b _ _=>Jv (Qx b 1) (.Constant .none 0 ⟨0,0,0,0⟩) λ_ s _ _=>Po (Qx s 0) (.Constant .none 0 ⟨0,0,0,0⟩) λ_ e _=>e
section
variable{J:I A8}
theorem Ca.Fx(hc:∀BA,DV BA o=o)(r:Ca prog w h A_ a o):Ca prog w h Au a o:=by
 have h1:Ca prog w h [] a o:=by
  refine(Ca.DW (BA:=λj=>A_.length+j) (Au:=A_) λj=>?_).mpr (by rw[hc];exact r);rw[VG (H4 ..)];rfl
 have :=(Ca.DW (h:=h) (prog:=prog) (w:=w) (a:=a) (o:=o) (BA:=λj=>Au.length+j) (A_:=[]) (Au:=Au) λj=>(by rw[VG (H4 ..)];rfl)).mp h1;rw[hc]at this;exact this
theorem pa(g:Gd B F K A H C s)(g':Gd B F K' A' AB AT s')(x':Nx F.D [] s.heap s'.heap [] AT)(hj:AL AB.h j=G o)(hc:∀BA,DV BA o=o)(r:VR s'.heap AT (.ref j) u):∃a,u=.ref a/\Gd B F K A ⟨H.env,(H.n,o)::H.h,H.n+1⟩ (C++[a]) s'/\Nx F.D [] s.heap s'.heap C (C++[a]):=by
 refine AC r ?_;(try clear r);intro a ha Aw;subst Aw;have hm:=Ew ha;refine AC (x'.pre) ?_;intro J e GB;rw[uP]at e;subst e;have hn:=GB a hm;have hx:Nx F.D [] s.heap s'.heap C (C++[a]):=⟨⟨[a],rfl,λb m=>by rw[CI.mp m];exact hn⟩,x'.live,x'.Bw,λb o e _ m=>x'.same b o e (by simp) m⟩;refine⟨a,rfl,g.back hx (by rw[FD,g.len];rfl) ?_ ?_ ?_ ?_ g'.base g'.os g'.gens (Cf.Gw g g.env hx),hx⟩
 . refine IE.mpr ⟨g.nodup,by simp,λb hb c hc e=>?_⟩;rw[CI.mp hc]at e;clear ha hc hm hx;subst e;refine xE (g.live b hb) ?_;intro o q;rw[hn]at q;exact(BE q).elim
 . intro b m;rcases Dr.mp m with m|m;. exact g.fresh b m
   . rw[CI.mp m];exact g'.fresh a hm
 . intro b m;rcases Dr.mp m with m|m;. refine xE (g.live b m) ?_;intro o e;exact x'.live b o e
   . rw[CI.mp m];exact g'.live a hm
 . intro i p e;refine Eb (y:=AL H.h i) e (λq e=>?_) λ_ e=>?_
   . injection e with e;subst e;have q:=CD q;subst q;have ro:=g'.obj hj ha;exact⟨a,by rw[<-g.len];simp,ro.Fx hc⟩
   . refine AC (g.objs i p e) ?_;intro b hb rb;exact⟨b,FY hb,rb.mono x'.Bw λy ey=>x'.keep b y ey (by simp) (by simp) (λz=>absurd (Ew hb) (g.Cy b z).1)⟩
theorem pb(g:Gd B F K A H C s)(hd:d<=K.d):Gd B F ⟨K.sc,d⟩ A ⟨[],[],0⟩ [] s:=g.sub (B7:=[]) ⟨rfl,HN,λi m=>(by(exfalso;cases m)),λj o e=>(by exact(BE e).elim)⟩ hd (Cf.nil g)
theorem aQ2(Oh:∀{F:Fm}{A:CK}{C:I A8}{s:AR}{us:I A4},Gd B F ⟨K.sc,d⟩ A ⟨[],[],0⟩ C s->Aa s.heap C args us->Ae B F ⟨K.sc,d⟩ A AB C s (CE fu us) (RV (.ref i)))(hi:AL AB.h i=G o)(hc:∀BA,DV BA o=o)(ha:JW args=M)(hd:d<=K.d)(g:Gd B F K A H C s)(rs:Aa s.heap C args us):Ae B F K A ⟨H.env,(H.n,o)::H.h,H.n+1⟩ C s (CE fu us) (RV (.ref H.n)):=by
 intro A2 E k;refine Oh (pb g hd) (Aa.Fx ha rs) A2 E λu AT s' g' x' r'=>?_;refine CZ (pa g g' x' hi hc r') ?_;intro a B6 gg xx;clear r';subst B6;exact k _ _ s' gg xx ⟨a,by rw[<-g.len];simp,rfl⟩
theorem pc{l:I (I Tx)}:DV BA (.list (l.map λr=>.tup L (r.map .str)))=.list (l.map λr=>.tup L (r.map .str)):=by
 show Ob.list (Cr BA _)=_;rw[Og,Hm];refine congrArg Ob.list (Yf λr _=>?_);show V.tup L (Cr BA (r.map .str))=_;rw[LQ]
theorem Qy{v:A4}:VR h C (.top v) v:=rfl
theorem aQ3(AV:(Bb P).In B.base)(AM:Dg B){a b:Tx}(ha:a∈Bo A6)(hb:b∈Bo M)(hd:20<=K.d)(g:Gd B F K A H C s)(rs:Aa s.heap C [.str a,.str b] us):Ae B F K A ⟨H.env,(H.n,.list ((C8 a b).map λr=>.tup L (r.map .str)))::H.h,H.n+1⟩ C s (CE (.ref 430) us) (RV (.ref H.n)):=by
 refine EX (aB5 ha hb K.sc) ?_;intro i AB h1 h2;exact aQ2 (λ{F A C s us}g' Fu=>(U1 AV AM 300).s.call h1 g' Qy Fu) h2 (λBA=>pc) rfl hd g rs
end
@[irreducible]noncomputable def dQ:AA:=G5 Mz (.Constant .none 0 ⟨0,0,0,0⟩) λt _ _ _ _=>t
@[irreducible]noncomputable def N1:AA:=G5 Mz (.Constant .none 0 ⟨0,0,0,0⟩) λ_ t _ _ _=>t
@[irreducible]noncomputable def XQ:I As:=G5 Mz [] λ_ _ b _ _=>b
@[irreducible]noncomputable def aQ4:B9:=G5 Mz ⟨0,0,0,0⟩ λ_ _ _ _ p=>p
theorem aQ5:Mz=.For dQ N1 XQ [] aQ4:=by kernel_rfl
noncomputable def Qz:U:=⟨⟨[83,101,113,117,101,110,99,101,77,97,116,99,104,101,114]⟩⟩
@[irreducible]noncomputable def Ot:I AA:=ED N1 [] λz1 _ _ _=>H8 z1 [] λz2 _ _=>ED z2 [] λ_ a _ _=>a
@[irreducible]noncomputable def dR:B9:=ED N1 ⟨0,0,0,0⟩ λz1 _ _ _=>H8 z1 ⟨0,0,0,0⟩ λz2 _ _=>ED z2 ⟨0,0,0,0⟩ λz3 _ _ _=>DO z3 ⟨0,0,0,0⟩ λ_ p=>p
@[irreducible]noncomputable def dS:B9:=ED N1 ⟨0,0,0,0⟩ λz1 _ _ _=>H8 z1 ⟨0,0,0,0⟩ λz2 _ _=>ED z2 ⟨0,0,0,0⟩ λ_ _ _ p=>p
@[irreducible]noncomputable def R':B9:=ED N1 ⟨0,0,0,0⟩ λz1 _ _ _=>H8 z1 ⟨0,0,0,0⟩ λ_ _ p=>p
@[irreducible]noncomputable def I5:B9:=ED N1 ⟨0,0,0,0⟩ λ_ _ _ p=>p
theorem pd:N1=.Call (.Attribute (.Call (.Name Qz dR) Ot [] dS) Mp R') [] [] I5:=by kernel_rfl
theorem aQ6:BC R'.endLine I5.line=M:=by kernel_rfl
theorem aQ7:Ot.all CP=M:=by kernel_rfl
theorem aQ8:Vp (.Call (.Name Qz dR) Ot [] dS)=M:=by kernel_rfl
theorem aQ9:Ah CQ.glob Qz=G (.top (.ref 242)):=by kernel_rfl
section
variable{J:I A8}
theorem LX{Bl:Gl B A3}{args:I AA}{w:A4}(hg:Di K.sc id=M)(hw:Ah A3.glob id=G (.top w))(hp:args.all CP=M)(g:Gd B F K A H C s)(h:∀BG EN p,Gd B F K A H BG EN->Nx F.D [] s.heap EN.heap C BG->Ae B F K A AB BG EN (Lq (F9 p (E' args F.env))) (OB vs))(hk:∀us A_ AJ,Gd B F K A AB A_ AJ->Nx F.D [] s.heap AJ.heap C A_->Aa AJ.heap A_ vs us->CW (AQ B.prog B.w) AJ.heap w/\AH (AQ B.prog B.w) A (CE w us) A2 E AJ):AH (AQ B.prog B.w) A (eval (.Call (.Name id p) args [] pos) F.env) A2 E s:=by exact Wk (Bl:=Bl) hg hw hp g λA_ AJ AN Ab=>h A_ AJ pos AN Ab _ E λus Au Ai AU Al BB=>hk us Au Ai AU (Ab.trans Al) BB
theorem pe{l:I Op}:DV BA (.list (l.map F3))=.list (l.map F3):=by
 show Ob.list (Cr BA _)=_;rw[Og,Hm];rfl
theorem aR0(AV:(Bb P).In B.base)(AM:Dg B){a b:Tx}(ha:a∈Bo A6)(hb:b∈Bo M)(hd:20<=K.d)(hg:Di K.sc Qz=M)(hv:ev CQ 60 K (.N Ot) H=.ok (.vs [.none,.sym A6 a ha,.sym M b hb]) AB)(g:Gd B F K A H C s)(k:∀(CN:I Op)u AT s',(∀o∈CN,o∈KP)->CN.flatMap Iq=C8 a b->CN.length<=15->Gd B F K A ⟨AB.env,(AB.n,.list (CN.map F3))::AB.h,AB.n+1⟩ AT s'->Nx F.D [] s.heap s'.heap C AT->VR s'.heap AT (.ref AB.n) u->A2 u s'):AH (AQ B.prog B.w) A (eval N1 F.env) A2 E s:=by
 rw[pd];have A9:=(all1 AV AM 60).s;refine iU (oC ha hb K.sc) ?_;intro i σM j σO CN hM pf hk hO hj dU R0 Ch;obtain⟨bP1,pg,nM⟩:=σM;dsimp only at pf;subst pf;have T:=U1 AV AM 300;rw[bt8,am aQ8];refine A5 (LX (Bl:=GI AV) (A3:=CQ) hg aQ9 aQ7 g (λBG EN p Fa Cq=>A9.N hv p Fa) λus A_ AJ AN Ab Aq=>?_);have gs:=pb (d:=20) AN hd;have ru:Aa AJ.heap [] [.none,.str a,.str b] us:=Aa.Fx (v:=[.none,.str a,.str b]) rfl (show Aa AJ.heap A_ [.none,.str a,.str b] us from Aq);refine⟨T.c.M_ hM gs Qy,T.s.call hM gs Qy ru _ _ λum Au Ai AU Al BB=>A5 (El ?_)⟩;show AH _ A (P_ _ Mp R' I5 F.env um (([]:I AA).length+0) (F9 I5 (E' [] F.env)) (Ut I5 (Uu [] F.env))) A2 E Ai;unfold P_;rw[show bt9 (([]:I AA).length+0) (F9 I5 (E' [] F.env)) (Ut I5 (Uu [] F.env))=M from rfl];refine A5 (C0 ?_);show AH _ A (Jm um Mp _) _ E Ai;refine nB (cS AV) cU AU BB hk _ _ _ λfv first Ax Ap B8 mv=>?_;show AH _ A (Jn M _ F.env R' I5>>=λp=>PZ p fv first (F9 I5 (E' [] F.env)) []) A2 E Ax;have OG:Jn M (.Call (.Name Qz dR) Ot [] dS) F.env R' I5=pure I5:=by
  unfold Jn;have :(R'.endLine==I5.line)=M:=by simpa using aQ6
  rw[this];rfl
 rw[OG];refine A5 (AW ?_);refine g6 (P:=λh=>CW (AQ B.prog B.w) h fv) (by rfl) (λh c=>c) ?_;refine al ?_;refine(T.s.N (l:=[]) (v:=[]) (K:=⟨K.sc,20⟩) (H:=⟨[],pg,nM⟩) (A7:=⟨[],pg,nM⟩) rfl I5 Ap) _ _ λus Ie EG CA Cz JQ=>?_;cases JQ;refine⟨T.c.kq hO CA mv,T.c.HW hO CA mv (VR.nx Cz (VR.nx B8 BB)) rfl _ _ λca1 QU Eg Cn EL Ij=>?_⟩;refine CZ (pa AN Cn (Al.trans (B8.trans (Cz.trans EL))) hj (λBA=>pe) Ij) ?_;intro ad Aw gg xx;clear Ij;subst Aw;exact k CN _ _ Eg dU R0 Ch gg (Ab.trans xx) ⟨ad,by rw[<-AN.len];simp,rfl⟩
end
noncomputable def Ou:U:=⟨⟨[111,110,101]⟩⟩
noncomputable def Ov:U:=⟨⟨[116,119,111]⟩⟩
noncomputable def Ow:U:=⟨⟨[103,111,110,101]⟩⟩
noncomputable def Ox:U:=⟨⟨[99,111,109,101]⟩⟩
noncomputable def Jc:U:=⟨⟨[114,111,119,115]⟩⟩
noncomputable def KZ:U:=⟨⟨[110,97,109,101]⟩⟩
noncomputable def aR1:U:=⟨⟨[116,97,103]⟩⟩
noncomputable def nmI:U:=⟨⟨[105]⟩⟩
noncomputable def nmK:U:=⟨⟨[107]⟩⟩
noncomputable def nmJ:U:=⟨⟨[106]⟩⟩
noncomputable def nmM:U:=⟨⟨[109]⟩⟩
noncomputable def R1(f:U->A4)(p:Tx):I (U×V):=[(Ou,.top (f Ou)),(Ov,.top (f Ov)),(Hb,.top (f Hb)),(Hc,.top (f Hc)),(Ow,.top (f Ow)),(Ox,.top (f Ox)),(Jc,.ref 0),(KZ,.top (f KZ)),(Mx,.str p)]
noncomputable def N2(f:U->A4)(p:Tx)(r:O)(Y:I Sg)(l:I V):Mine.St:=⟨R1 f p,[(0,.rows r Y),(1,.list l)],2⟩
noncomputable def N3(f:U->A4)(p:Tx)(o:Op)(r:O)(Y:I Sg)(l:I V):Mine.St:=⟨R1 f p++[(aR1,.str o.tag),(nmI,.int o.i),(nmK,.int o.k),(nmJ,.int o.j),(nmM,.int o.m)],[(0,.rows r Y),(1,.list l)],2⟩
theorem aR2(d:O)(f:U->A4)(p:Tx)(o:Op)(r:O)(Y:I Sg)(l:I V):ev CQ 60 ⟨BV HH,d⟩ (.asg dQ (F3 o)) (N2 f p r Y l)=.ok (.f .next) (N3 f p o r Y l):=by kernel_rfl
noncomputable def Hd(p:Tx):I Tx->Sg
 |t::r=>.it (t::p::r)|[]=>.it [p]
noncomputable def I6(p:Tx)(o:Op):I Sg:=(Iq o).map (Hd p)
noncomputable def ph(o:Op):Prop:=∀(f:U->A4)(p:Tx)(r:O)(Y:I Sg)(l:I V),ev CQ 60 ⟨BV HH,6⟩ (.ss XQ) (N3 f p o (r+1) Y l)=.ok (.f .next) (match I6 p o with|[]=>N3 f p o (r+1) Y l|x::_=>N3 f p o r (Y++[x]) l)
theorem dV(o:Op):(∃x,Iq o=[x])\/Iq o=[]:=by
 unfold Iq;split;. exact .inr rfl
 . exact .inl ⟨_,rfl⟩
section
variable{J:I A8}
theorem Gd.aR3{env:I (U×V)}{h:I (O×Ob)}{Y:I Sg}(g:Gd B F K A ⟨env,h,m⟩ C s)(hi:AL h i=G (.rows (r+1) Y)):Gd B F K A ⟨env,putN h i (.rows r Y),m⟩ C s:=g.KV (H:=⟨env,h,m⟩) hi λa _ q=>by
 refine CZ q ?_;(try clear q);intro us p v l;exact⟨us,p,v,by omega⟩
theorem aR4(AV:(Bb P).In B.base)(AM:Dg B)(hd:6<=d)(tt:∀o∈KP,ph o){f:U->A4}{p:Tx}{AS:Dt->AR->Prop}(hI:Af.get? AE=L)(post:I Op):∀(pre:I Op)(r:O)(Y:I Sg){C:I A8}{s:AR},(∀o∈post,o∈KP)->post.length<=r->Gd B F ⟨BV HH,d⟩ A (N2 f p r Y ((pre++post).map F3)) C s->Nx F.D F.AZ Af s.heap BG C->CM B F C s.heap AE->E6 s.heap C (.lst 1) pre.length AE->(∀AT s',Gd B F ⟨BV HH,d⟩ A (N2 f p (r-post.length) (Y++post.flatMap (I6 p)) ((pre++post).map F3)) AT s'->Nx F.D F.AZ Af s'.heap BG AT->AS (.ok .next) s')->D7 (AQ B.prog B.w) A (.forLoop dQ (.ref AE) XQ [] F.env) AS s:=by induction post with
 |nil=>
  intro pre r Y C s _ _ g Cq fr it k;have AP:IV (.lst 1) pre.length (N2 f p r Y ((pre++[]).map F3)).h=G L:=by
   show G (Gr ((pre++[]).map F3) pre.length)=_;rw[HY];simp
  refine MY (K9 g fr it AP (λx hx=>by exact(BE hx).elim) λhx Q tk AN DU=>?_);refine k C _ ?_ (Cq.F2 DU hI);simpa using AN|cons o post ih=>
  intro pre r Y C s hp hr g Cq fr it k;have AP:IV (.lst 1) pre.length (N2 f p r Y ((pre++o::post).map F3)).h=G (G (F3 o)):=by
   show G (Gr ((pre++o::post).map F3) pre.length)=_;rw[HY];simp
  have A9:=(all1 AV AM 60).s;obtain⟨r,rfl⟩:∃r',r=r'+1:=⟨r-1,by simp at hr;(with_reducible exact Mine.yH (by assumption))⟩;refine MY (K9 g fr it AP (λx hx u Q tk AN DU Eo Aq Hy=>?_) λhx=>by(exfalso;cases hx));injection hx with hx;subst hx;have L9:=Cq.F2 DU hI;refine QN Aq (A9.asg (aR2 d f p o _ _ _) AN Hy _ _ λ_ Au Ai AU Al _=>A9.ss (tt o (hp o (Co ..)) f p r Y _) (AU.low hd) _ _ λMZ BS Ax Ap B8 BQ=>?_);cases BQ;have Ap:=AU.lift Ap;have xx:=Al.trans B8;have EF:=Eo.nx xx;have Gv:=Aq.nx xx Eo.C Eo.w;have Ep:=L9.trans xx;have e:pre++o::post=(pre++[o])++post:=by simp
  have drop:∀{r':O}{ys:I Sg}{l:I V}{a:I A8}{s:AR},Gd B F ⟨BV HH,d⟩ A (N3 f p o r' ys l) a s->Gd B F ⟨BV HH,d⟩ A (N2 f p r' ys l) a s:=λg=>g.drop λx v e=>TB (l:=R1 f p) (f:=id) rfl e;have HZ:E6 Ax.heap BS (.lst 1) (pre++[o]).length AE:=by rw[FD];exact Gv
  have CA:Gd B F ⟨BV HH,d⟩ A (N2 f p r (Y++I6 p o) ((pre++o::post).map F3)) BS Ax:=by
   rcases dV o with D8|hx;refine xE D8 ?_;(try clear D8);intro x hx;rotate_left;rotate_left
   . have hs:I6 p o=[Hd p x]:=by unfold I6;rw[hx];rfl
     rw[hs]at Ap ⊢;exact drop Ap
   . have hs:I6 p o=[]:=by unfold I6;rw[hx];rfl
     rw[hs]at Ap ⊢;rw[HO];exact Gd.aR3 (drop Ap) (i:=0) rfl
  refine ih (pre++[o]) r (Y++I6 p o) (λq m=>hp q (Cp _ m)) (by simp at hr;(with_reducible assumption)) (by rw[<-e];exact CA) Ep EF HZ λAT s' g' x'=>k AT s' ?_ x';rw[<-e]at g';have hl:r+1-(o::post).length=r-post.length:=by simp
  rw[hl,Yg,<-Uq];exact g'
end
theorem aR5:∀o∈KP,ph o:=λo m f p r Y l=>H6.mp (show KP.map (λo=>ev CQ 60 ⟨BV HH,6⟩ (.ss XQ) (N3 f p o (r+1) Y l))=KP.map λo=>.ok (.f .next) (match I6 p o with|[]=>N3 f p o (r+1) Y l|x::_=>N3 f p o r (Y++[x]) l)by kernel_rfl) o m
section
variable{J:I A8}
theorem Cf.pi{env:I (U×V)}(e:Cf F h C env):∃f:U->A4,(∀x v,Ah env x=G v->K5 F x->VR h C v (f x))/\∀(AT:I A8)(CV:I (U×V)),(∀x v',Ah CV x=G v'->K5 F x->(∃v,Ah env x=G v)/\VR h AT v' (f x))->Cf F h AT CV:=by
 refine CZ e ?_;intro m ns ce r;have key:∀x,∃u,∀v,Ah env x=G v->K5 F x->T6 F h m x u/\VR h C v u:=λx=>by cases hv:Ah env x with
 |none=>exact⟨.none,λv e=>(AF e).elim⟩|some v=>
  by_cases hf:K5 F x;. exact xE (r x v hv hf) λu q=>⟨u,λv' e _=>Bm e▸q⟩
  . exact⟨.none,λ_ _ q=>absurd q hf⟩
 have hf:=λx=>(key x).choose_spec;exact⟨λx=>(key x).choose,λx v e q=>(hf x v e q).2,λAT CV he=>⟨m,ns,ce,λx v' e q=>⟨_,xE (he x v' e q).1 λv hv=>(hf x v hv q).1,(he x v' e q).2⟩⟩⟩
theorem Gd.aR6{env:I (U×V)}{h:I (O×Ob)}(g:Gd B F K A ⟨env,h,m⟩ C s)(he:Cf F s.heap C CV):Gd B F K A ⟨CV,h,m⟩ C s:=⟨g.kinds,g.len,g.nodup,g.fresh,g.live,g.D5,g.D1,g.objs,he,g.base,g.os,g.gens,g.frames,g.DT,g.Cy,g.mods,g.handled,g.depth,g.units⟩
theorem aR7{p:Tx}{CN:I Op}{a b:Tx}(h:CN.flatMap Iq=C8 a b):DS (CN.flatMap (I6 p))=(C8 a b).map (O9 p):=by
 rw[<-h];clear h;induction CN with
 |nil=>rfl|cons o CN ih=>
 rw[Yg,Yg,N_,<-ih];show(I6 p o++_).flatMap I_=_;rw[bz2];congr 1;unfold I6;rcases dV o with Bq|hx;refine xE Bq ?_;(try clear Bq);intro x hx;rotate_left;rotate_left
 . rw[hx];cases x<;>rfl
 . rw[hx];rfl
noncomputable def R2(v:O->V)(k:O)(p:Tx):I (U×V):=[(Ou,v 0),(Ov,v 1),(Hb,v 2),(Hc,v 3),(Ow,v 4),(Ox,v 5),(Jc,.ref k),(KZ,v 6),(Mx,.str p)]
noncomputable def aR8(env:I (U×V))(v:O->V)(k:O)(p:Tx):Prop:=∀x w,Ah (R2 v k p) x=G w->Ah env x=G w
theorem aR9:Di (BV HH) Qz=M:=by kernel_rfl
theorem aS0(AV:(Bb P).In B.base)(AM:Dg B)(hd:20<=d){a b p:Tx}(ha:a∈Bo A6)(hb:b∈Bo M){v:O->V}{k:O}{Y:I Sg}(hv:ev CQ 60 ⟨BV HH,d⟩ (.N Ot) H=.ok (.vs [.none,.sym A6 a ha,.sym M b hb]) AB)(he:aR8 AB.env v k p)(pj:k<AB.n)(UC:AL AB.h AB.n=L)(hk:AL AB.h k=G ob)(hr:FW ob=G (r,Y))(pk:15<=r)(g:Gd B F ⟨BV HH,d⟩ A H C s):CJ B F ⟨BV HH,d⟩ A ⟨R2 v k p,(k,.rows (r-15) (Y++[.run p a b]))::AB.h,AB.n+1⟩ C s (exec Mz F.env) (FR .next):=by
 intro A2 E kk;rw[aQ5];refine Y9 (aR0 AV AM ha hb (K:=⟨BV HH,d⟩) hd aR9 hv g λCN u A_ AJ dU R0 Ch AN Ab Aq=>?_) ?_
 . have N4:AL ((AB.n,Ob.list (CN.map F3))::AB.h) k=G ob:=by
    have :BC AB.n k=A6:=by cases q:BC AB.n k with
 |false=>rfl|true=>exact absurd (CD q) (by(with_reducible exact PY (by assumption)))
    simp only[AL,this,S7];exact hk
   have AU:=AN.KV (i:=k) (o:=ob) (o':=.rows r Y) N4 λa ha _=>by
    refine HT (Wa AN ⟨a,ha,rfl⟩ N4 hr) ?_;intro a' us e p v l;injection e with e;subst e;exact⟨us,p,v,l⟩
   refine AC AU.env.pi ?_;intro f hf mk;generalize LY:Mine.St.set ⟨AB.env,(AB.n,Ob.list (CN.map F3))::AB.h,AB.n+1⟩ k (.rows r Y)=Bc at AU;have XR:Bc.n=AB.n+1:=by rw[<-LY];rfl
   have OK:AL Bc.h k=G (.rows r Y):=by rw[<-LY];exact MP N4
   have I7:∀i,i≠k->AL Bc.h i=AL ((AB.n,Ob.list (CN.map F3))::AB.h) i:=λi hi=>by rw[<-LY];exact MQ (o:=.rows r Y) (l:=(AB.n,Ob.list (CN.map F3))::AB.h) hi
   have Eh:AL Bc.h AB.n=G (.list (CN.map F3)):=by rw[I7 _ (by(with_reducible exact PY (by assumption)))];exact JM
   have AG:Sub Bc (N2 f p r Y (CN.map F3)) [k,AB.n]:=⟨rfl,by simp;(with_reducible exact ER (by assumption)),λi m=>by rw[XR];simp at m;(with_reducible exact Mine.w3 (by assumption) (by assumption)),λj o e=>by match j,e with
 |0,e=>injection e with e;subst e;exact⟨k,rfl,OK⟩|1,e=>injection e with e;subst e;exact⟨AB.n,rfl,by rw[Eh,pe]⟩|j+2,e=>exact(BE e).elim⟩;have Es:∀j,(C' A_ [k,AB.n])[j]?=A_[DJ Bc.n [k,AB.n] j]?:=λj=>by
    have :=GJ (J:=[]) AU.len AG.lt j;simpa using this
   have gS:=AU.sub AG (DF d) (mk _ _ λx v' e q=>by
    have rows:VR AJ.heap (C' A_ [k,AB.n]) (.ref 0) (f Jc)↔VR AJ.heap A_ (.ref k) (f Jc):=VR.DW Es;exact(show∀z∈R1 f p,K5 F z.1->(∃v,Ah AB.env z.1=G v)/\VR AJ.heap (C' A_ [k,AB.n]) z.2 (f z.1)from all_cons (λq=>⟨⟨_,he Ou _ rfl⟩,rfl⟩) (all_cons (λq=>⟨⟨_,he Ov _ rfl⟩,rfl⟩) (all_cons (λq=>⟨⟨_,he Hb _ rfl⟩,rfl⟩) (all_cons (λq=>⟨⟨_,he Hc _ rfl⟩,rfl⟩) (all_cons (λq=>⟨⟨_,he Ow _ rfl⟩,rfl⟩) (all_cons (λq=>⟨⟨_,he Ox _ rfl⟩,rfl⟩) (all_cons (λq=>⟨⟨_,he Jc _ rfl⟩,rows.mpr (hf _ _ (he Jc _ rfl) q)⟩) (all_cons (λq=>⟨⟨_,he KZ _ rfl⟩,rfl⟩) (all_cons (λq=>⟨⟨_,he Mx _ rfl⟩,hf _ _ (he Mx _ rfl) q⟩) EE))))))))) _ (FF e) q);have rS:VR AJ.heap (C' A_ [k,AB.n]) (.ref 1) u:=(VR.DW Es).mpr Aq;refine OF gS rS (it:=.lst 1) rfl λAE Q tk Ap B8 hI EF Gv=>?_;refine aR4 AV AM (by omega) aR5 (Af:=AJ.heap) hI CN [] r Y dU (by(with_reducible exact B4 (by assumption) (by assumption))) Ap B8.FZ EF Gv λAT s' g' x'=>?_;have CA:=g'.KV (i:=0) (o':=.rows (r-15) (Y++[.run p a b])) rfl λa' _ q=>by
    refine CZ q ?_;(try clear q);intro us pl vr l;have N:DS (Y++CN.flatMap (I6 p))=DS (Y++[.run p a b]):=by
      rw[OU,OU,aR7 R0];show _=_++(I_ (.run p a b)++[]);rw[HO];rfl
    rw[N]at vr l;exact⟨us,pl,vr,by(with_reducible exact Mine.ve (by assumption) (by assumption))⟩
   have Cn:=Gd.drop (K7:=[]) CA λx v e=>by exact(BE e).elim
   refine CZ (AU.o_ AG Cn x' (A7:=⟨[],(k,.rows (r-15) (Y++[.run p a b]))::AB.h,AB.n+1⟩) ⟨rfl,DF _,by rw[XR];rfl,λi o e=>by
    refine Eb (b:=BC k i) (y:=AL AB.h i) e (λq e=>?_) λq e=>?_
    . injection e with e;subst e;rw[<-CD q];exact .inl ⟨0,_,rfl,rfl,rfl⟩
    . have h1:i≠k:=λz=>by rw[z,J2]at q;(exfalso;cases q)
      have h2:i≠AB.n:=λz=>by rw[z,UC]at e;exact(BE e).elim
      refine .inr ⟨?_,by simp;exact⟨h1,h2⟩⟩;rw[I7 i h1];have :BC AB.n i=A6:=by cases q:BC AB.n i with
 |false=>rfl|true=>exact absurd (CD q).symm h2
      simp only[AL,this,S7];exact e⟩) ?_;intro J BP gg xx;clear CA Cn x';subst BP;refine AC (g'.env.pi) ?_;intro f' FJ mk';refine kk _ _ s' (gg.aR6 (mk' _ (R2 v k p) λx w e q=>?_)) (Ab.FZ.trans xx) rfl;have same:∀(y:U)(z:V),K5 F y->Ah (R1 f p) y=G (.top (f y))->Ah AB.env y=G z->VR s'.heap (A_++J) z (f' y):=λy z q h1 h2=>by
    have e1:=FJ y _ h1 q;have e1:f' y=f y:=e1;rw[e1];exact(hf y z h2 q).nx xx
   exact(show∀z∈R2 v k p,K5 F z.1->(∃v,Ah (R1 f p) z.1=G v)/\VR s'.heap (A_++J) z.2 (f' z.1)from all_cons (λq=>⟨⟨_,rfl⟩,same Ou _ q rfl (he Ou _ rfl)⟩) (all_cons (λq=>⟨⟨_,rfl⟩,same Ov _ q rfl (he Ov _ rfl)⟩) (all_cons (λq=>⟨⟨_,rfl⟩,same Hb _ q rfl (he Hb _ rfl)⟩) (all_cons (λq=>⟨⟨_,rfl⟩,same Hc _ q rfl (he Hc _ rfl)⟩) (all_cons (λq=>⟨⟨_,rfl⟩,same Ow _ q rfl (he Ow _ rfl)⟩) (all_cons (λq=>⟨⟨_,rfl⟩,same Ox _ q rfl (he Ox _ rfl)⟩) (all_cons (λq=>⟨⟨_,rfl⟩,(VR.DW (GJ AU.len AG.lt)).mp (FJ Jc (.ref 0) rfl q)⟩) (all_cons (λq=>⟨⟨_,rfl⟩,same KZ _ q rfl (he KZ _ rfl)⟩) (all_cons (λq=>⟨⟨_,rfl⟩,FJ Mx (.str p) rfl q⟩) EE))))))))) _ (FF e) q
 . intro x;rw[pd];kernel_rfl
end
@[irreducible]noncomputable def LZ:AA:=Nl N0 (.Constant .none 0 ⟨0,0,0,0⟩) λ_ _ r _=>r
@[irreducible]noncomputable def aS1:B9:=Nl N0 ⟨0,0,0,0⟩ λz1 _ _ _=>DO z1 ⟨0,0,0,0⟩ λ_ p=>p
@[irreducible]noncomputable def aS2:B9:=Nl N0 ⟨0,0,0,0⟩ λ_ _ _ p=>p
@[irreducible]noncomputable def dW:AA:=IL LZ (.Constant .none 0 ⟨0,0,0,0⟩) λe _ _ _=>e
@[irreducible]noncomputable def waT:AA:=IL LZ (.Constant .none 0 ⟨0,0,0,0⟩) λ_ z1 _ _=>l1 z1 (.Constant .none 0 ⟨0,0,0,0⟩) λz2=>z2.target
@[irreducible]noncomputable def UD:I AA:=IL LZ [] λ_ z1 _ _=>l1 z1 [] λz2=>ED z2.iter [] λ_ a _ _=>a
@[irreducible]noncomputable def pn:B9:=IL LZ ⟨0,0,0,0⟩ λ_ z1 _ _=>l1 z1 ⟨0,0,0,0⟩ λz2=>ED z2.iter ⟨0,0,0,0⟩ λz3 _ _ _=>DO z3 ⟨0,0,0,0⟩ λ_ p=>p
@[irreducible]noncomputable def po:B9:=IL LZ ⟨0,0,0,0⟩ λ_ z1 _ _=>l1 z1 ⟨0,0,0,0⟩ λz2=>ED z2.iter ⟨0,0,0,0⟩ λ_ _ _ p=>p
noncomputable def UE:BU:=IL LZ ⟨.function,[],A6,A6,[]⟩ λ_ _ sc _=>sc
@[irreducible]noncomputable def aS3:B9:=IL LZ ⟨0,0,0,0⟩ λ_ _ _ p=>p
noncomputable def XS:U:=⟨⟨[95,108,97,119,95,99,104,97,110,103,101,115]⟩⟩
noncomputable def dZ:U:=⟨⟨[119,97,121]⟩⟩
noncomputable def R3:FP:=⟨waT,.Call (.Name XS pn) UD [] po,[],0⟩
theorem aS4:N0=.BinOp (.Name Jc aS1) .Add LZ aS2:=by kernel_rfl
theorem aS5:LZ=.ListComp dW [R3] UE aS3:=by kernel_rfl
theorem aS6:ML R3=M:=by kernel_rfl
theorem aS7:UD.all CP=M:=by kernel_rfl
theorem aS8:Di (BV My) XS=M:=by kernel_rfl
theorem aS9:Ah CQ.glob XS=G (.top (.ref 430)):=by kernel_rfl
noncomputable def UF:I (Tx×Tx):=[([47,97,47],[102]),([47,97,47,98,47],[103]),([47],[104]),([47],[109]),([47,97,47],[98]),([47,110,47],[107]),([47],[97])]
noncomputable def UG(p:Tx×Tx):I (U×V):=[(dZ,.str p.1),(KZ,.str p.2)]
noncomputable def Ge(p:Tx):I Tx->I Tx
 |t::r=>t::p::r|[]=>[p]
noncomputable def F7(m:I (I Tx)):I V:=m.map λr=>.tup L (r.map .str)
noncomputable def pp(a b:Tx)(p:Tx×Tx):AK:=match ev CQ 60 ⟨UE,6⟩ (.GU dW R3 [] (.lst 0) 0 []) ⟨UG p,[(0,.list (F7 (C8 a b)))],1⟩with
 |.ok (.vs l) H=>BC H.n 1&&cZ l ((C8 a b).map (Ge (p.1++p.2)))|_=>A6
theorem aT0:(UF.all λp=>Ky (BV My) UE (UG p))=M:=by kernel_rfl
theorem aT1:∀a∈Bo A6,((Bo M).all λb=>UF.all (pp a b))=M:=by
 unfold Bo;repeat(refine all_cons (by kernel_rfl) ?_)
 exact EE
set_option tactic.hygienic true in
theorem aT2{a b:Tx}(ha:a∈Bo A6)(hb:b∈Bo M){p:Tx×Tx}(hp:p∈UF):∃H,ev CQ 60 ⟨UE,6⟩ (.GU dW R3 [] (.lst 0) 0 []) ⟨UG p,[(0,.list (F7 (C8 a b)))],1⟩=.ok (.vs (F7 ((C8 a b).map (Ge (p.1++p.2))))) H/\H.n=1:=by
 have h:=Bn.mp (Bn.mp (aT1 a ha) b hb) p hp;unfold pp at h;split at h
 . rename_i l H e;simp only[D6]at h;refine⟨H,?_,CD h.1⟩;rw[e,o7 h.2];rfl
 . exact(E5 h).elim
theorem pq{m:I (I Tx)}:Cr BA (F7 m)=F7 m:=by
 have :=pc (BA:=BA) (l:=m);injection this
theorem aT3{p:Tx}{x:I Tx}:Vo (.tup L ((Ge p x).map .str))=G (Hd p x):=(congrArg (λo=>B' o λl=>G (Sg.it l)) pP).trans (by cases x<;>rfl)
theorem aT4{p:Tx}{m:I (I Tx)}:QB (F7 (m.map (Ge p)))=G (m.map (Hd p)):=by induction m with
 |nil=>rfl|cons x m ih=>exact(congrArg (λo=>B' o λt=>B' (QB (F7 (m.map (Ge p)))) λr=>G (t::r)) aT3).trans (congrArg (λo=>B' o λr=>G (Hd p x::r)) ih)
theorem aT5{p:Tx}{m:I (I Tx)}:DS (m.map (Hd p))=m.map (O9 p):=by induction m with
 |nil=>rfl|cons x m ih=>exact(congrArg (I_ (Hd p x)++·) ih).trans (by cases x<;>rfl)
theorem aT6(o:Op):(Iq o).length<=1:=by
 rcases dV o with⟨x,e⟩|e<;>rw[e];. exact DF _
 . exact Ni _
theorem aT7{CN:I Op}:(CN.flatMap Iq).length<=CN.length:=by induction CN with
 |nil=>exact DF _|cons o CN ih=>rw[Yg,FD];exact B4 (Uo (aT6 o) ih) (Ek (Lm 1 _))
theorem aT8{a b:Tx}(ha:a∈Bo A6)(hb:b∈Bo M):(C8 a b).length<=15:=by
 refine iU (oC ha hb UE) ?_;intro _ _ _ _ CN _ _ _ _ _ _ h l;rw[<-h];exact B4 aT7 l
section
variable{J:I A8}
theorem aT9(SL:OH B A3 n){A1 l:I V}(Ih:ML g=M)(Bl:Gd B F K A H C s)(hs:Ky K.sc sc K7=M)(hd:d<=K.d)(hi:Ae B F K A ⟨AB.env,(AB.n,.list A1)::AB.h,AB.n+1⟩ C s (eval g.iter F.env) (RV (.ref AB.n)))(UC:AL AB.h AB.n=L)(hL:∀BA,Cr BA A1=A1)(hl:∀BA,Cr BA l=l)(he:∀x v,Ah K7 x=G v->Ah AB.env x=G v/\Cl v)(h:ev A3 n ⟨sc,d⟩ (.GU C_ g gens (.lst 0) 0 []) ⟨K7,[(0,.list A1)],1⟩=.ok (.vs l) Bc)(hn:Bc.n=1):Ae B F K A ⟨AB.env,(AB.n+1,.list l)::AB.h,AB.n+2⟩ C s (eval (.ListComp C_ (g::gens) sc pos) F.env) (RV (.ref (AB.n+1))):=by
 refine xA (QO Ih) ?_;intro hp ha;intro A2 E kk;refine S8 (Bl.kinds.comp hs (A1:=s.heap.objs.size) rfl λc m z=>by refine H9 (Bl.D1 c m) ?_;intro _ o e;rw[z,GF]at e;exact(BE e).elim) ?_;intro _ hk Mc D2 Md _;rw[bu8];have OM:Ux (g::gens)=A6:=by obtain⟨_,_,_,k⟩:=g;show(k !=0)=A6;simp only at ha;rw[ha];rfl
 have ON:Uy (g::gens) F.env=eval g.iter F.env:=by obtain⟨_,_,_,_⟩:=g;rfl
 rw[OM,ON];refine gC (use:=L) (g:=g) (gs:=gens) rfl (λx=>QL hp x) (WN D2) hk Md ?_;refine hi _ _ λu A_ AJ AN Ab Aq=>?_;have Eh:AL ((AB.n,Ob.list A1)::AB.h) AB.n=G (.list A1):=JM;have AG:Sub ⟨AB.env,(AB.n,.list A1)::AB.h,AB.n+1⟩ ⟨K7,[(0,.list A1)],1⟩ [AB.n]:=⟨rfl,by simp,λi m=>by simp at m;show i<AB.n+1;omega,λj o e=>by match j,e with
 |0,e=>injection e with e;subst e;exact⟨AB.n,rfl,by show AL ((AB.n,Ob.list A1)::AB.h) AB.n=G (Ob.list (Cr _ A1));rw[Eh,hL]⟩|j+1,e=>exact(BE e).elim⟩;have Es:∀j,(C' A_ [AB.n])[j]?=A_[DJ (AB.n+1) [AB.n] j]?:=λj=>by
  have :=GJ (J:=[]) AN.len AG.lt j;simpa using this
 have gS:=AN.sub AG hd (Cf.pick Es AN.env λx v e=>by rw[(he x v e).2];exact(he x v e).1);have rS:VR AJ.heap (C' A_ [AB.n]) (.ref 0) u:=(VR.DW Es).mpr Aq;refine ay (K:=⟨K.sc,d⟩) (RR:=λAm A1=>tQ (AQ B.prog B.w) A E L A2 Am A1) SL Ih gS hs rS (it:=.lst 0) rfl h λLf D AT s' g' Qu hD x' a'=>?_;refine AC (id g'.env) ?_;intro m ns _;refine⟨m,ns,λQ Df=>?_⟩;refine Hp a' ?_;(try clear a');intro fD us F_ vr;have I0:∀o,s'.heap.get? Lf=G o->C2 o=A6:=λo e=>by
  refine Gq ns ?_;(try clear ns);intro o' N ep e' d _;have e':s'.heap.get? Lf=G o':=e';rw[e']at e;injection e with e;subst e;unfold C2;rw[d];simp
 have KH:D≠Lf:=λz=>fD.w (by rw[z];exact CI.mpr rfl);have im:=Gu Df.extBut I0;refine xA (gS.leave (F':=I1 F sc Lf) rfl g' Qu hD x' fD Df I0 (o:=.list l) ⟨us,F_.extBut Df.extBut KH,vr.mono im⟩) ?_;intro gg xx;have I7:=g'.len;rw[hn]at I7;refine CZ (AN.out AG gg xx (A7:=⟨AB.env,(AB.n+1,.list l)::AB.h,AB.n+2⟩) ⟨rfl,by show 1<=Bc.n+1;(with_reducible exact fR _ _),by show AB.n+2=AB.n+1+(Bc.n+1-1);(with_reducible exact Mine.vg (by assumption)),λi o e=>by
  refine Eb (b:=BC (AB.n+1) i) (y:=AL AB.h i) e (λq e=>?_) λq e=>?_
  . injection e with e;subst e;rw[<-CD q];refine .inl ⟨Bc.n,.list l,(by show AL ((Bc.n,Ob.list l)::Bc.h) Bc.n=_;exact JM),?_,?_⟩;. rw[hn];rfl
    . show _=Ob.list (Cr _ l);rw[hl]
  . have h2:i≠AB.n:=λz=>by rw[z,UC]at e;exact(BE e).elim
    refine .inr ⟨?_,by simpa using h2⟩;have :BC AB.n i=A6:=by cases q:BC AB.n i with
 |false=>rfl|true=>exact absurd (CD q).symm h2
    show AL ((AB.n,_)::AB.h) i=G o;simp only[AL,this,S7];exact e⟩) ?_;intro J eα ca2 xb;refine kk _ _ _ ca2 (Ab.trans xb) ⟨D,?_,rfl⟩;have GB:(C' A_ [AB.n]++J)[1]?=G D:=by
  rw[<-eα];have :(AT++[D])[AT.length]?=G D:=by simp
  rw[I7]at this;exact this
 have :=GJ (J:=J) AN.len AG.lt 1;rw[GB]at this;exact this.symm
end
section
variable{J:I A8}
theorem XV{a b:O}(h:a≠b):BC a b=A6:=by cases q:BC a b with
 |false=>rfl|true=>exact absurd (CD q) h
theorem aU0{Y:I Sg}(hr:FW ob=G (r,Y))(q:Ca prog w h C a (.rows r Y)):Ca prog w h C a ob:=by
 refine CZ (id q) ?_;intro us p v _;revert q;apply bP hr;. exactλ_ _ _=>⟨us,p,v⟩
 . exact id
theorem aU1(AV:(Bb P).In B.base)(AM:Dg B)(hd:20<=d){a b:Tx}(ha:a∈Bo A6)(hb:b∈Bo M){p:Tx×Tx}(hp:p∈UF){k:O}{Y:I Sg}(R0:Ah H.env Jc=G (.ref k))(hv:ev CQ 60 ⟨BV My,d⟩ (.N UD) H=.ok (.vs [.sym A6 a ha,.sym M b hb]) AB)(hw:Ah AB.env dZ=G (.str p.1))(hnm:Ah AB.env KZ=G (.str p.2))(pj:k<AB.n)(UC:AL AB.h AB.n=L)(hn2:AL AB.h (AB.n+1)=L)(hk:AL AB.h k=G ob)(hr:FW ob=G (r,Y))(pk:15<=r)(hrc:r<=Dm)(g:Gd B F ⟨BV My,d⟩ A H C s):Ae B F ⟨BV My,d⟩ A ⟨AB.env,(AB.n+2,.rows (r-15) (Y++[.run (p.1++p.2) a b]))::AB.h,AB.n+3⟩ C s (eval N0 F.env) (RV (.ref (AB.n+2))):=by
 intro A2 E kk;rw[aS4];have A9:=(all1 AV AM 60).s;refine AC (aT2 ha hb hp) ?_;intro σw L_ hn;refine tF (aV (v:=.ref k) g (by kernel_rfl) R0 _ _ λu A_ AJ AN Ab Aq=>?_);rw[aS5];have hi:Ae B F ⟨BV My,d⟩ A ⟨AB.env,(AB.n,.list (F7 (C8 a b)))::AB.h,AB.n+1⟩ A_ AJ (eval R3.iter F.env) (RV (.ref AB.n)):=by
   intro A2 E k;show AH _ A (eval (.Call (.Name XS pn) UD [] po) F.env) A2 E AJ;refine LX (Bl:=GI AV) (A3:=CQ) aS8 aS9 aS7 AN (λBG EN p Fa Cq=>A9.N hv p Fa) λus Au Ai AU Al BB=>?_;have hf:AL Io 430=G (DE (Ba 35)):=by kernel_rfl
   refine DB (Mm AV (Mo AV) (Of P hf)) ?_;intro o fd ok;refine⟨CW.func (AU.base _ _ ok.get) ok.data,aQ3 AV AM ha hb hd AU (show Aa Ai.heap Au [.str a,.str b] us from BB) _ _ λu BS Ax Ap B8 BQ=>k u BS Ax Ap (Al.trans B8) BQ⟩
 refine aT9 (all1 AV AM 60).l (g:=R3) (gens:=[]) (K7:=UG p) (A1:=F7 (C8 a b)) aS6 AN (Bn.mp aT0 p hp) (d:=6) (by show 6<=d;omega) hi UC (λBA=>pq) (λBA=>pq) (λx v e=>?_) L_ hn _ _ λu' Au Ai AU Al BB=>?_
 . have :=FF e;simp only[UG,Cj,bH5,Jr,Js]at this;rcases this with Aw|B6;refine xA Aw ?_;(try clear Aw);intro BJ BP;subst BJ;subst BP;rotate_left;refine xA B6 ?_;(try clear B6);intro Bq Bg;subst Bq;subst Bg;rotate_left;. exact⟨hw,λ_=>rfl⟩
   . exact⟨hnm,λ_=>rfl⟩
 . have N4:AL ((AB.n+1,Ob.list (F7 ((C8 a b).map (Ge (p.1++p.2)))))::AB.h) k=G ob:=by rw[IZ (show AB.n+1≠k by omega)];exact hk
   have Ap:=AU.KV (i:=k) (o:=ob) (o':=.rows r Y) N4 λa' Fs _=>by
     refine HT (Wa AU ⟨a',Fs,rfl⟩ N4 hr) ?_;intro a'' us e p v l;injection e with e;subst e;exact⟨us,p,v,l⟩
   generalize LY:Mine.St.set ⟨AB.env,(AB.n+1,Ob.list (F7 ((C8 a b).map (Ge (p.1++p.2)))))::AB.h,AB.n+2⟩ k (.rows r Y)=Bc at Ap;have XR:Bc.n=AB.n+2:=by rw[<-LY];rfl
   have Ik:Bc.env=AB.env:=by rw[<-LY];rfl
   have OK:AL Bc.h k=G (.rows r Y):=by rw[<-LY];exact MP N4
   have I7:∀i,i≠k->AL Bc.h i=AL ((AB.n+1,Ob.list (F7 ((C8 a b).map (Ge (p.1++p.2)))))::AB.h) i:=λi hi=>by rw[<-LY];exact MQ (o:=.rows r Y) (l:=(AB.n+1,Ob.list (F7 ((C8 a b).map (Ge (p.1++p.2)))))::AB.h) hi
   have Eh:AL Bc.h (AB.n+1)=G (.list (F7 ((C8 a b).map (Ge (p.1++p.2))))):=by rw[I7 _ (by omega)];exact JM
   have Ch:=aT8 ha hb;have hL:(F7 ((C8 a b).map (Ge (p.1++p.2)))).length=(C8 a b).length:=by simp[F7]
   have pr:CH (F7 ((C8 a b).map (Ge (p.1++p.2))))=M:=by unfold CH;rw[hL];exact ug (by(with_reducible exact B4 (by assumption) (by decide)))
   have I2:Vw .Add (.ref k) (.ref (AB.n+1)) Bc=.ok (.v (.ref (AB.n+2))) ⟨AB.env,(AB.n+2,.rows (r-(C8 a b).length) (Y++(C8 a b).map (Hd (p.1++p.2))))::Bc.h,AB.n+3⟩:=by
     have e0:Sv k (AB.n+1) Bc=A0.of (FW (.rows r Y)) λx=>A0.of (FW (.list (F7 ((C8 a b).map (Ge (p.1++p.2)))))) λy=>A0.iff (EQ Dm (x.1+y.1)) (FX (Bc.new (.rows (x.1+y.1-Dm) (x.2++y.2)))):=by unfold Sv;rw[OK,Eh];rfl
     show Sv k (AB.n+1) Bc=_;rw[e0,show FW (.rows r Y)=G (r,Y)from rfl,show FW (.list (F7 ((C8 a b).map (Ge (p.1++p.2)))))=bT (CH (F7 ((C8 a b).map (Ge (p.1++p.2))))) L (B' (QB (F7 ((C8 a b).map (Ge (p.1++p.2))))) λl=>G (Dm-(F7 ((C8 a b).map (Ge (p.1++p.2)))).length,l))from rfl,pr,aT4,hL];simp only[bT,B',A0.of];have h1:r+(Dm-(C8 a b).length)-Dm=r-(C8 a b).length:=yC (B4 Ch (by decide));rw[show EQ Dm (r+(Dm-(C8 a b).length))=M from ug (yD (B4 Ch (by decide)) (B4 Ch pk))];simp only[A0.iff,FX,St.new,XR,Ik,h1]
   refine OV.bin Ap (Aq.nx Al) BB I2 _ _ λy BS Ax CA B8 BQ=>?_;have Qc:AL ((AB.n+2,Ob.rows (r-(C8 a b).length) (Y++(C8 a b).map (Hd (p.1++p.2))))::Bc.h) k=G (.rows r Y):=by rw[IZ (show AB.n+2≠k by omega)];exact OK
   have Cn:=(CA.KV (i:=k) (o':=ob) Qc λa' _ q=>aU0 hr q).KV (i:=AB.n+2) (o:=.rows (r-(C8 a b).length) (Y++(C8 a b).map (Hd (p.1++p.2)))) (o':=.rows (r-15) (Y++[.run (p.1++p.2) a b])) (by
     refine(MQ (j:=AB.n+2) (o:=ob) (l:=(AB.n+2,Ob.rows (r-(C8 a b).length) (Y++(C8 a b).map (Hd (p.1++p.2))))::Bc.h) (by omega)).trans ?_;exact JM) λa' _ q=>by
     refine CZ q ?_;(try clear q);intro us pl vr l;have N:DS (Y++(C8 a b).map (Hd (p.1++p.2)))=DS (Y++[.run (p.1++p.2) a b]):=by
       rw[OU,OU,aT5];show _=_++(I_ (.run (p.1++p.2) a b)++[]);rw[HO];rfl
     rw[N]at vr l;exact⟨us,pl,vr,B4 (HL (fO Ch r) _) l⟩
   refine kk y BS Ax (Gd.forget (env:=AB.env) (n:=AB.n+3) Cn λi o e=>?_) (Ab.trans (Al.trans B8)) BQ;show AL (putN (putN ((AB.n+2,Ob.rows (r-(C8 a b).length) (Y++(C8 a b).map (Hd (p.1++p.2))))::Bc.h) k ob) (AB.n+2) (.rows (r-15) (Y++[.run (p.1++p.2) a b]))) i=G o;by_cases h2:i=AB.n+2
   . subst h2;rw[JM]at e;replace e:=Bm e;rw[<-e];refine MP (w:=.rows (r-(C8 a b).length) (Y++(C8 a b).map (Hd (p.1++p.2)))) ?_;rw[MQ (by omega)];exact JM
   . rw[IZ (CX h2)]at e;rw[MQ h2];by_cases h3:i=k
     . clear Cn I2 pj N4 OK I7 R0 LY Aq;subst h3;rw[hk]at e;injection e with e;subst e;exact MP Qc
     . rw[MQ h3];have h4:i≠AB.n+1:=λz=>by rw[z,hn2]at e;exact(BE e).elim
       rw[IZ (CX h2)];rw[I7 i h3];rw[IZ (CX h4)];exact e
end
noncomputable def pt(a b:I (U×E3)):AK:=all2 (λa b=>Cw a.1 b.1&&decide (a.2=b.2)) a b
theorem aU2{a b:I (U×E3)}(h:pt a b=M):a=b:=Nq (λa b e=>NR (E2.mp (B1 e)) (of_decide_eq_true (Ak e))) a b h
noncomputable def d_(a b:BU):AK:=decide (a.kind=b.kind)&&(pt a.names b.names&&(decide (a.isGenerator=b.isGenerator)&&(decide (a.isCoroutine=b.isCoroutine)&&decide (a.more=b.more))))
theorem pu{a b:BU}(h:d_ a b=M):a=b:=by
 cases a;cases b;exact congr (congr (congr (congr (congrArg Scope.mk (of_decide_eq_true (B1 h))) (aU2 (B1 (Ak h)))) (of_decide_eq_true (B1 (Ak (Ak h))))) (of_decide_eq_true (B1 (Ak (Ak (Ak h)))))) (of_decide_eq_true (Ak (Ak (Ak (Ak h)))))
noncomputable def db(v:V)(d:J)(k:(b:AK)->(t:Tx)->t∈Bo b->J):J:=if h:v.ctorIdx=9 then V.sym.elim (motive_1:=λ_=>J) v h k else d
theorem aU3{d:J}{k:(b:AK)->(t:Tx)->t∈Bo b->J}{r:J}(h:db v d k=r)(hd:d=r->Bj){P:V->Prop}(c:∀b t ok,k b t ok=r->P (.sym b t ok)):P v:=if q:v.ctorIdx=9 then V.sym.elim (motive_1:=λv=>db v d k=r->P v) v q (λb t ok h=>c b t ok h) h else(hd ((D3 q).symm.trans h)).elim
noncomputable def UH(b:AK)(v:V):AD {t:Tx//t∈Bo b}:=db v L λb' t ok=>if h:b'=b then G ⟨t,h▸ok⟩else L
theorem XW{a:{t:Tx//t∈Bo b}}(h:UH b v=G a){P:V->Prop}(c:P (.sym b a.1 a.2)):P v:=by
 apply aU3 h AF;intro b' t ok h;cases bV0 (b'=b)with
 |inr n=>rw[D3 n]at h;exact(AF h).elim|inl e=>
 subst e;rw[dif_pos rfl]at h;have :=Bm h;clear h;subst this;exact c
noncomputable def dc(o:A0)(k:I V->Mine.St->AD J):AD J:=match o with|.bad=>L|.ok r H=>match r with|.vs l=>k l H|.v _=>L|.b _=>L|.f _=>L|.ps _=>L
theorem pw{o:A0}{k:I V->Mine.St->AD J}{r:J}(h:dc o k=G r){P:A0->Prop}(c:∀l H,k l H=G r->P (.ok (.vs l) H)):P o:=by cases o with
 |bad=>exact(AF h).elim|ok x H=>cases x with
 |vs l=>exact c l H h|_=>exact(AF h).elim
noncomputable def py(o:A0):AD ({t:Tx//t∈Bo A6}×{t:Tx//t∈Bo M}×Mine.St):=dc o λl H=>lC l L λz l=>IT z L (l2 l L λa b=>B' (UH A6 a) λa=>B' (UH M b) λb=>G (a,b,H))
theorem aU4{o:A0}{a:{t:Tx//t∈Bo A6}}{b:{t:Tx//t∈Bo M}}(h:py o=G (a,b,H)):o=.ok (.vs [.none,.sym A6 a.1 a.2,.sym M b.1 b.2]) H:=by
 apply pw h;intro l A7 h;apply FT h AF;intro z l h;apply Q0 h AF;intro h;apply Ho h AF;intro x y h;refine BI h λa' ha h=>BI h λb' hb h=>?_;apply XW ha;apply XW hb;apply M8 h;rfl
noncomputable def pz(o:A0):AD ({t:Tx//t∈Bo A6}×{t:Tx//t∈Bo M}×Mine.St):=dc o λl H=>l2 l L λa b=>B' (UH A6 a) λa=>B' (UH M b) λb=>G (a,b,H)
theorem aU5{o:A0}{a:{t:Tx//t∈Bo A6}}{b:{t:Tx//t∈Bo M}}(h:pz o=G (a,b,H)):o=.ok (.vs [.sym A6 a.1 a.2,.sym M b.1 b.2]) H:=by
 apply pw h;intro l A7 h;apply Ho h AF;intro x y h;refine BI h λa' ha h=>BI h λb' hb h=>?_;apply XW ha;apply XW hb;apply M8 h;rfl
noncomputable def de(v:V):AD O:=DQ v L G
noncomputable def isStr(v:V):AD Tx:=vStr v L G
theorem qA{k:O}(h:de v=G k):v=.ref k:=by apply EI h AF;intro i h;apply Br h;rfl
theorem dg{k:Tx}(h:isStr v=G k):v=.str k:=by apply Dd h AF;intro i h;apply Br h;rfl
noncomputable def qB(a b c d e f g:V):O->V|0=>a|1=>b|2=>c|3=>d|4=>e|5=>f|_=>g
noncomputable def XX(h:I (O×Ob))(i:O):AK:=oN (AL h i) A6 M
theorem dh{h:I (O×Ob)}(e:XX h i=M):AL h i=L:=by exact GQ (P:=λo=>o=L) e B0 λ_=>rfl
noncomputable def UI(b:AK)(x:AD J):AD J:=bT b L x
noncomputable def qC(K:Kx)(H:Mine.St):AD A0:=UI (EQ 20 K.d&&d_ K.sc (BV HH))<|B' (py (ev CQ 60 K (.N Ot) H)) λt=>B' (Ah t.2.2.env Ou) λv0=>B' (Ah t.2.2.env Ov) λv1=>B' (Ah t.2.2.env Hb) λv2=>B' (Ah t.2.2.env Hc) λv3=>B' (Ah t.2.2.env Ow) λv4=>B' (Ah t.2.2.env Ox) λv5=>B' (Ah t.2.2.env KZ) λv6=>B' (Ah t.2.2.env Jc) λrv=>B' (de rv) λk=>B' (Ah t.2.2.env Mx) λpv=>B' (isStr pv) λp=>B' (AL t.2.2.h k) λob=>B' (FW ob) λrx=>UI (G1 k t.2.2.n&&(XX t.2.2.h t.2.2.n&&EQ 15 rx.1)) (G (.ok (.f .next) ⟨R2 (qB v0 v1 v2 v3 v4 v5 v6) k p,(k,.rows (rx.1-15) (rx.2++[.run p t.1.1 t.2.1.1]))::t.2.2.h,t.2.2.n+1⟩))
noncomputable def qD(p:Tx×Tx)(l:I (Tx×Tx)):AK:=l.any λx=>CU p.1 x.1&&CU p.2 x.2
theorem aU6{p:Tx×Tx}{l:I (Tx×Tx)}(h:qD p l=M):p∈l:=by
 refine AC (IJ.mp h) ?_;intro x m e;rw[show p=x from NR (Ec.mp (B1 e)) (Ec.mp (Ak e))];exact m
noncomputable def qE(K:Kx)(H:Mine.St):AD A0:=UI (EQ 20 K.d&&d_ K.sc (BV My))<|B' (Ah H.env Jc) λrv=>B' (de rv) λk=>B' (pz (ev CQ 60 K (.N UD) H)) λt=>B' (Ah t.2.2.env dZ) λwv=>B' (isStr wv) λw=>B' (Ah t.2.2.env KZ) λnv=>B' (isStr nv) λnm=>B' (AL t.2.2.h k) λob=>B' (FW ob) λrx=>UI (qD (w,nm) UF&&(G1 k t.2.2.n&&(XX t.2.2.h t.2.2.n&&(XX t.2.2.h (t.2.2.n+1)&&(EQ 15 rx.1&&EQ rx.1 Dm))))) (G (.ok (.v (.ref (t.2.2.n+2))) ⟨t.2.2.env,(t.2.2.n+2,.rows (rx.1-15) (rx.2++[.run (w++nm) t.1.1 t.2.1.1]))::t.2.2.h,t.2.2.n+3⟩))
noncomputable def di(K:Kx)(args:I V)(H:Mine.St):AD A0:=l2 args L λa b=>DQ a L λi=>vStr b L λq=>B' (AL H.h i) λo=>MH o L λN=>B' (UB N) λA1=>UI (EQ 7 K.d&&(U8 q KY&&(LV A1&&(Oq N&&(A1.all (U8 · KX)&&EQ A1.length 20))))) (G (.ok (.v (.ref (H.n+1))) ⟨H.env,(H.n+1,.list ((Ea (E9 q A1)).map .str))::H.h,H.n+2⟩))
noncomputable def dj(K:Kx)(c:Cd)(H:Mine.St):AD A0:=jt (λx K H=>bT (Qv x N0) L (qE K H)) (λx K H=>bT (p_ x Mz) L (qC K H)) (λf args K H=>IS f L λw=>Kw w L λa=>bC (BC a 399) (di K args H) (Qp K (.call (.top (.ref a)) args) H)) c K H
noncomputable abbrev UJ:Mine.Ctx:=Mn dj
theorem aU7:JL N0=A6:=by kernel_rfl
section
theorem aU8(AV:(Bb P).In B.base)(AM:Dg B)(h:di K args H=G (.ok (.v v) A7))(g:Gd B F K A H C s)(rs:Aa s.heap C args us):Ae B F K A A7 C s (CE (.ref 399) us) (RV v):=by
 revert rs;apply Ho h AF;intro a b h;apply EI h AF;intro i h;apply Dd h AF;intro q h rs;refine BI h λo hi h=>?_;revert hi;apply Sf h AF;intro N h hi;refine BI h λA1 hk h=>Ce h AF λhc h=>?_;apply B5 (Bm h);have c1:=Ak hc;have c2:=Ak c1;have c3:=Ak c2;have c4:=Ak c3;exact aP6 AV AM (XG (B1 c1)) hk (Mv (B1 c2)) (B1 c3) (λp m=>XG (Bn.mp (B1 c4) p m)) (Dk (Ak c4)) (Dk (B1 hc)) hi g rs
theorem qF{f:V}{o:A0}(h:dj K (.call f args) H=G o){AS:V->Prop}(i:di K args H=G o->AS (.top (.ref 399)))(e:Qp K (.call f args) H=G o->AS f):AS f:=by
 revert e;apply O1 h AF;intro w h;apply Q1 h AF;intro a h e;refine No h (λq h=>?_) e;rw[CD q];exact i h
theorem aU9(AV:(Bb P).In B.base)(AM:Dg B)(h:qE K H=G (.ok (.v v) A7))(g:Gd B F K A H C s):Ae B F K A A7 C s (eval N0 F.env) (RV v):=by
 refine Ce h AF λh0 h=>?_;obtain⟨sc,d⟩:=K;obtain rfl:=pu (Ak h0);refine BI h λrv e1 h=>BI h λk e2 h=>BI h λt e3 h=>BI h λwv e4 h=>BI h λw e5 h=>BI h λnv e6 h=>BI h λnm ca3 h=>BI h λob e8 h=>BI h λrx e9 h=>Ce h AF λhc h=>?_;apply B5 (Bm h);rw[qA e2]at e1;rw[dg e5]at e4;rw[dg ca3]at e6;have c1:=Ak hc;have c2:=Ak c1;have c3:=Ak c2;have c4:=Ak c3;exact aU1 AV AM (Dk (B1 h0)) t.1.2 t.2.1.2 (p:=(w,nm)) (aU6 (B1 hc)) e1 (aU5 e3) e4 e6 (gb (Dk (B1 c1))) (dh (B1 c2)) (dh (B1 c3)) e8 e9 (Dk (B1 c4)) (Dk (Ak c4)) g
theorem aV0(AV:(Bb P).In B.base)(AM:Dg B)(h:qC K H=G (.ok (.f f) A7))(g:Gd B F K A H C s):CJ B F K A A7 C s (exec Mz F.env) (FR f):=by
 refine Ce h AF λh0 h=>?_;obtain⟨sc,d⟩:=K;obtain rfl:=pu (Ak h0);refine BI h λt e3 h=>BI h λv0 e10 h=>BI h λv1 e11 h=>BI h λv2 e12 h=>BI h λv3 e13 h=>BI h λv4 e14 h=>BI h λv5 e15 h=>BI h λv6 e16 h=>BI h λrv e1 h=>BI h λk e2 h=>BI h λpv e4 h=>BI h λp e5 h=>BI h λob e8 h=>BI h λrx e9 h=>Ce h AF λhc h=>?_;apply BX (Bm h);rw[qA e2]at e1;rw[dg e5]at e4;have all:∀q∈R2 (qB v0 v1 v2 v3 v4 v5 v6) k p,Ah t.2.2.env q.1=G q.2:=all_cons e10 (all_cons e11 (all_cons e12 (all_cons e13 (all_cons e14 (all_cons e15 (all_cons e1 (all_cons e16 (all_cons e4 EE))))))));exact aS0 AV AM (Dk (B1 h0)) t.1.2 t.2.1.2 (aU4 e3) (λx w e=>all _ (FF e)) (gb (Dk (B1 hc))) (dh (B1 (Ak hc))) e8 e9 (Dk (Ak (Ak hc))) g
theorem sm3(AV:(Bb P).In B.base)(AM:Dg B):Ml B UJ where
 only:=λ{K c H o}h=>by
  change dj K c H=G o at h;cases c with
 |call f args=>exact .inl ⟨_,_,rfl⟩|s x=>exact .inr (.inr ⟨_,rfl⟩)|e x=>exact Ce h AF λq _=>.inr (.inl ⟨_,rfl,by rw[Qw q];exact aU7⟩)|_=>exact(AF h).elim
 M_:=λ{K f args H A7 v}h{F A C s fu}g r=>by
  revert r;refine qF (AS:=λf=>VR s.heap C f fu->CW (AQ B.prog B.w) s.heap fu) h ?_ ?_;rotate_left;. exactλh r=>(cY AV AM).M_ h g r
  intro _ r;cases r;have hf:AL Io 399=G (DE (Ba 30)):=by kernel_rfl
  refine DB (Mm AV (Mo AV) (Of P hf)) ?_;intro o fd ok;exact CW.func (g.base _ _ ok.get) ok.data
 call:=λ{K f args H A7 v}h{F A C s fu us}g r rs=>by
  revert r;refine qF (AS:=λf=>VR s.heap C f fu->Ae B F K A A7 C s (call fu us) (RV v)) h ?_ ?_;rotate_left;. exactλh r=>(cY AV AM).call h g r rs
  intro h r;cases r;exact aU8 AV AM h g rs
 e:=λ{K x H A7 v}h{F A C s}g=>Ce h AF λq h=>by rw[Qw q];exact aU9 AV AM h g
 s:=λ{K x H A7 f}h{F A C s}g=>Ce h AF λq h=>by rw[aQ1 q];exact aV0 AV AM h g
theorem aV1(AV:(Bb P).In B.base)(AM:Dg B)(n:O):All B UJ n:=Wy (cX AV AM (sm3 AV AM)) n
end
noncomputable def XY(k:O)(o:A0):AD (I Sg):=K4 o L λv H=>DQ v L λi=>bT (EQ k i) L<|B' (AL H.h i) λo=>B' (FW o) λr=>G r.2
noncomputable def qG(CG:CB A6)(C7:CB M)(L0 L1:I Tx):Mine.St:=⟨[],[(0,.B3 (BM (Ay CG) L0)),(1,.B3 (BM (Ay C7) L1))],2⟩
noncomputable def UK(sc:BU)(CG:CB A6)(C7:CB M)(L0 L1:I Tx):AD (I Sg):=XY 2 (ev UJ 200 ⟨sc,40⟩ (.call (.top (.ref 404)) [.ref 0,.ref 1,.str [47]]) (qG CG C7 L0 L1))
noncomputable def Gf(n:O)(BF:I (O×Ob)):I (O×Ob):=BF.map λp=>(n+p.1,DV (n+·) p.2)
noncomputable def qH(H0 H1:I (O×Ob)):Mine.St:=⟨[],H0++Gf H0.length H1,H0.length+H1.length⟩
noncomputable def dk(sc:BU)(H0 H1:I (O×Ob)):AD (I Sg):=XY (H0.length+H1.length) (ev UJ 200 ⟨sc,40⟩ (.call (.top (.ref 435)) [.ref 0,.ref H0.length,.str [47]]) (qH H0 H1))
noncomputable def Agree(L0 L1:I Tx)(H0:CB A6->I (O×Ob))(H1:CB M->I (O×Ob)):Prop:=∀(sc:BU)(CG:CB A6)(C7:CB M),∃l,UK sc CG C7 L0 L1=G l/\dk sc (H0 CG) (H1 C7)=G l
theorem Oy{H0:CB A6->I (O×Ob)}{H1:CB M->I (O×Ob)}(h:∀(sc:BU)(CG:CB A6)(C7:CB M),(UK sc CG C7 L0 L1,dk sc (H0 CG) (H1 C7))=(G ((UK sc CG C7 L0 L1).getD []),G ((UK sc CG C7 L0 L1).getD []))):Agree L0 L1 H0 H1:=λsc CG C7=>⟨_,congrArg tu (h sc CG C7),congrArg Prod.snd (h sc CG C7)⟩
noncomputable def Ag(p:O×O):Prop:=Agree (DY.getD p.1 []) (DZ.getD p.2 []) (F5 p.1) (F6 p.2)
theorem ag0:∀p∈[((0,0):O×O),(0,1),(0,2),(0,3),(0,4),(0,5)],Ag p:=by
 repeat(refine all_cons (Oy λsc CG C7=>by kernel_rfl) ?_)
 exact EE
theorem ag1:∀p∈[((1,0):O×O),(1,1),(1,3),(2,0),(2,1),(2,2)],Ag p:=by
 repeat(refine all_cons (Oy λsc CG C7=>by kernel_rfl) ?_)
 exact EE
theorem ag2:∀p∈[((2,3):O×O),(2,4),(2,5),(3,0),(3,1),(3,3)],Ag p:=by
 repeat(refine all_cons (Oy λsc CG C7=>by kernel_rfl) ?_)
 exact EE
theorem ag3:∀p∈[((4,0):O×O),(4,1),(4,3),(5,1),(6,0),(6,1)],Ag p:=by
 repeat(refine all_cons (Oy λsc CG C7=>by kernel_rfl) ?_)
 exact EE
theorem ag4:∀p∈[((6,2):O×O),(6,3),(6,4),(6,5),(7,0),(7,1)],Ag p:=by
 repeat(refine all_cons (Oy λsc CG C7=>by kernel_rfl) ?_)
 exact EE
theorem ag5:∀p∈[((7,2):O×O),(7,3),(7,4),(7,5),(8,0),(8,1)],Ag p:=by
 repeat(refine all_cons (Oy λsc CG C7=>by kernel_rfl) ?_)
 exact EE
theorem ag6:∀p∈[((8,3):O×O),(9,1),(10,0),(10,1),(10,3),(11,1)],Ag p:=by
 repeat(refine all_cons (Oy λsc CG C7=>by kernel_rfl) ?_)
 exact EE
noncomputable def qI:I (O×O):=[(0,0),(0,1),(0,2),(0,3),(0,4),(0,5)]++[(1,0),(1,1),(1,3),(2,0),(2,1),(2,2)]++[(2,3),(2,4),(2,5),(3,0),(3,1),(3,3)]++[(4,0),(4,1),(4,3),(5,1),(6,0),(6,1)]++[(6,2),(6,3),(6,4),(6,5),(7,0),(7,1)]++[(7,2),(7,3),(7,4),(7,5),(8,0),(8,1)]++[(8,3),(9,1),(10,0),(10,1),(10,3),(11,1)]
theorem aV2:∀p∈qI,Ag p:=(Ci (Ci (Ci (Ci (Ci (Ci ag0 ag1) ag2) ag3) ag4) ag5) ag6)
noncomputable def He(k:AK)(a:O):I O:=match k,a with
 |false,0=>[6]|false,1=>[0,2,6,7]|false,2=>[0,1,2,3,4,6,7,8,10]|false,_=>[0,1,2,3,4,5,6,7,8,9,10,11]|true,0=>[1]|true,1=>[0,1,3]|true,2=>[0,1,2,3,4,5]|true,_=>[0,1,2,3,4,5]
noncomputable def Jd(a:O):I O->AK
 |[]=>A6|x::l=>match BC a x with|true=>M|false=>Jd a l
set_option tactic.hygienic true in
theorem La{a:O}:∀{l:I O},Jd a l=M->a∈l
 |[],h=>by exact(E5 h).elim|x::l,h=>by
  simp only[Jd]at h;split at h;. rename_i e;rw[CD e];exact Co ..
  . exact Cp _ (La h)
noncomputable def XZ(a:O×O):I (O×O)->AK
 |[]=>A6|x::l=>match BC a.1 x.1&&BC a.2 x.2 with|true=>M|false=>XZ a l
set_option tactic.hygienic true in
theorem qJ{a:O×O}:∀{l:I (O×O)},XZ a l=M->a∈l
 |[],h=>by exact(E5 h).elim|x::l,h=>by
  simp only[XZ]at h;split at h
  . rename_i e;simp only[D6]at e;rw[show a=x from NR (CD e.1) (CD e.2)];exact Co ..
  . exact Cp _ (qJ h)
theorem aV3:((lv A6 0).all λA1=>Jd (CC A1 DY) (He A6 0))=M:=by kernel_rfl
theorem aV4:((lv M 0).all λA1=>Jd (CC A1 DZ) (He M 0))=M:=by kernel_rfl
theorem aV5:((lv A6 1).all λA1=>Jd (CC A1 DY) (He A6 1))=M:=by kernel_rfl
theorem aV6:((lv M 1).all λA1=>Jd (CC A1 DZ) (He M 1))=M:=by kernel_rfl
theorem aV7:((lv A6 2).all λA1=>Jd (CC A1 DY) (He A6 2))=M:=by kernel_rfl
theorem aV8:((lv M 2).all λA1=>Jd (CC A1 DZ) (He M 2))=M:=by kernel_rfl
theorem aV9:((lv A6 3).all λA1=>Jd (CC A1 DY) (He A6 3))=M:=by kernel_rfl
theorem aW0:((lv M 3).all λA1=>Jd (CC A1 DZ) (He M 3))=M:=by kernel_rfl
theorem li0{a:O}(ha:a<=3)(h:A1∈lv A6 a):CC A1 DY∈He A6 a:=by exact(show∀a∈[0,1,2,3],A1∈lv A6 a->CC A1 DY∈He A6 a from all_cons (λh=>La (Bn.mp aV3 A1 h)) (all_cons (λh=>La (Bn.mp aV5 A1 h)) (all_cons (λh=>La (Bn.mp aV7 A1 h)) (all_cons (λh=>La (Bn.mp aV9 A1 h)) EE)))) a (Nj.mpr (fV ha):a∈DN 4) h
theorem li1{a:O}(ha:a<=3)(h:A1∈lv M a):CC A1 DZ∈He M a:=by exact(show∀a∈[0,1,2,3],A1∈lv M a->CC A1 DZ∈He M a from all_cons (λh=>La (Bn.mp aV4 A1 h)) (all_cons (λh=>La (Bn.mp aV6 A1 h)) (all_cons (λh=>La (Bn.mp aV8 A1 h)) (all_cons (λh=>La (Bn.mp aW0 A1 h)) EE)))) a (Nj.mpr (fV ha):a∈DN 4) h
theorem aW1:((DN 4).all λa=>(DN (4-a)).all λb=>(He A6 a).all λi=>(He M b).all λj=>XZ (i,j) qI)=M:=by kernel_rfl
theorem aW2(h:Ag (i,j)):Agree (DY.getD i []) (DZ.getD j []) (F5 i) (F6 j):=by unfold Ag at h;exact h
theorem aW3{a b:O}(Gc:a+b<=3){Av:I Tx}(h:A1∈lv A6 a)(Q:Av∈lv M b):Agree (DY.getD (CC A1 DY) []) (DZ.getD (CC Av DZ) []) (F5 (CC A1 DY)) (F6 (CC Av DZ)):=by
 have h1:=li0 (by omega) h;have h2:=li1 (by omega) Q;have :=Bn.mp (Bn.mp (Bn.mp (Bn.mp aW1 a (Nj.mpr (by omega))) b (Nj.mpr (by(with_reducible exact Mine.wK (by assumption))))) _ h1) _ h2;exact aW2 (aV2 (CC A1 DY,CC Av DZ) (qJ this))
theorem dm{J:Type}{o:J}{x y:I (O×J)}:AL (x++y) i=G o->AL x i=G o\/(AL x i=L/\AL y i=G o):=by induction x with
 |nil=>exactλh=>.inr ⟨rfl,h⟩|cons p x ih=>
 intro h;rw[IY];refine Eb (show bC (BC p.1 i) (G p.2) (AL (x++y) i)=G o from h) (λq h=>?_) λq h=>?_;. rw[q];exact .inl h
 . rw[q];exact ih h
theorem X_:AL (Gf n BF) i=G o->∃j o',i=n+j/\AL BF j=G o'/\o=DV (n+·) o':=by induction BF with
 |nil=>exactλh=>(AF h).elim|cons p BF ih=>
 intro h;refine Eb (show bC (BC (n+p.1) i) (G (DV (n+·) p.2)) (AL (Gf n BF) i)=G o from h) (λq h=>?_) λq h=>?_;. exact⟨p.1,p.2,(CD q).symm,JM,(Bm h).symm⟩
 . refine Bv (ih h) ?_;intro j o' e l r;exact⟨j,o',e,(IZ λz=>by rw[z,<-e,J2]at q;(exfalso;cases q)).trans l,r⟩
theorem qK(hc:∀BA,DV BA o=o):Gf n [(0,o)]=[(n,o)]:=by
 show[(n+0,DV (n+·) o)]=_;rw[hc];rfl
section
variable{J:I A8}
theorem dn(g:Gd B F K A H C s)(AG:Sub H DI Dx)(g':Gd B F K' A' AB AT s')(x':Nx F.D [] s.heap s'.heap (C' C Dx) AT)(nd:B7.Nodup)(KO:∀i∈B7,Dx.length<=i/\i<AB.n){Q:I (O×Ob)}(hH:∀j o,AL BF j=G o->∃i o',B7[j]?=G i/\AL AB.h i=G o'/\∀a,Ca B.prog B.w s'.heap AT a o'->Ca B.prog B.w s'.heap AT a (DV (DJ AB.n B7) o))(hh:∀i o,AL Q i=G o->(AL H.h i=G o/\i∉Dx)\/∃j,Dx[j]?=G i/\AL AB.h j=G o/\∀BA,DV BA o=o):Gd B F K A ⟨H.env,Gf H.n BF++Q,H.n+B7.length⟩ (C++C' AT B7) s'/\Nx F.D [] s.heap s'.heap C (C++C' AT B7):=by
 refine AC (x'.pre) ?_;intro J Aw GB;subst Aw;have hz:(C' C Dx).length=Dx.length:=by simp[C']
 have CF:∀i∈B7,i<AB.n:=λi m=>(KO i m).2;have KW:∀a∈C' (C' C Dx++J) B7,a∈J:=λa m=>by
   refine AC (E0.mp m) ?_;intro i hi B6;clear m;subst B6;have h1:=KO i hi;have hl:i<(C' C Dx++J).length:=by rw[g'.len];exact h1.2
   have hb:i-Dx.length<J.length:=by rw[FD,hz]at hl;(with_reducible exact Mine.wC (by assumption) (by assumption))
   have :(C' C Dx++J)[i]?=G J[i-Dx.length]:=by rw[VH (by omega),hz,Hl hb]
   rw[Kq,this];exact gW hb
 have hx:Nx F.D [] s.heap s'.heap C (C++C' (C' C Dx++J) B7):=⟨⟨_,rfl,λb m=>GB b (KW b m)⟩,x'.live,x'.Bw,λb o e n m=>x'.same b o e (λz=>n (LR g.len AG.lt z)) m⟩;have UL:∀j,(C' (C' C Dx++J) B7)[j]?=(C' C Dx++J)[DJ AB.n B7 j]?:=λj=>by
   have :=GJ (J:=[]) g'.len CF j;simpa using this
 have qL:∀j,(C' (C' C Dx++J) B7)[j]?=(C++C' (C' C Dx++J) B7)[H.n+j]?:=λj=>by rw[VH (by rw[g.len];(with_reducible exact H4 _ _)),g.len,bH2]
 refine⟨g.back hx (by rw[FD,g.len];simp[C']) ?_ ?_ ?_ ?_ g'.base g'.os g'.gens (Cf.Gw g g.env hx),hx⟩
 . refine IE.mpr ⟨g.nodup,?_,λa ha b hb e=>?_⟩
   . unfold C';rw[ud,gB];refine nd.imp_of_mem λ{a b}ha hb Cc e=>Cc ?_;have h1:a<(C' C Dx++J).length:=by rw[g'.len];exact CF a ha
     have h2:b<(C' C Dx++J).length:=by rw[g'.len];exact CF b hb
     have e':(C' C Dx++J)[a]?=(C' C Dx++J)[b]?:=by
       change(C' C Dx++J).getD a 0=(C' C Dx++J).getD b 0 at e;rw[Kq,Kq,Hl h1,Hl h2]at e;rw[Hl h1,Hl h2];exact congrArg G e
     exact(RY h1 g'.nodup).mp e'
   . subst e;refine xE (g.live a ha) ?_;intro o e;rw[GB a (KW a hb)]at e;exact(BE e).elim
 . intro a m;rcases Dr.mp m with m|m;. exact g.fresh a m
   . exact g'.fresh a (Pk _ (KW a m))
 . intro a m;rcases Dr.mp m with m|m;. refine xE (g.live a m) ?_;intro o e;exact x'.live a o e
   . exact g'.live a (Pk _ (KW a m))
 . intro i o e;rcases dm e with e|Bg;rotate_left;refine xA Bg ?_;(try clear Bg);intro _ e;rotate_left
   . refine Bv (X_ e) ?_;intro j o' BJ hj BP;clear e;subst BJ;clear e;subst BP;refine Bv (hH j o' hj) ?_;intro i' o'' hp hl conv;refine AC (g'.objs i' o'' hl) ?_;intro a ha r;refine⟨a,?_,(Ca.DW qL).mp ((Ca.DW UL).mpr (conv a r))⟩;rw[<-qL,UL];unfold DJ;rw[hp];exact ha
   . rcases hh i o e with Bu|C9;refine xA Bu ?_;(try clear Bu);intro e hi;rotate_left;refine CZ C9 ?_;(try clear C9);intro j hj hl hc;rotate_left
     . refine AC (g.objs i o e) ?_;intro a ha r;refine⟨a,FY ha,r.mono x'.Bw λy ey=>x'.keep a y ey (λz=>hi ?_) (by simp) (λz=>absurd (Ew ha) (g.Cy a z).1)⟩;refine AC (E0.mp z) ?_;intro j hj e';have h1:j<C.length:=by rw[g.len];exact AG.lt j hj
       have h2:C[j]?=G a:=by rw[<-e'];simp[Kq,h1]
       have :j=i:=(RY h1 g.nodup).mp (h2.trans ha.symm);exact this▸hj
     . refine AC (g'.objs j o hl) ?_;intro a ha r;refine⟨a,?_,r.Fx hc⟩;have :=GJ (J:=J) g.len AG.lt j;rw[ha]at this;have h3:DJ H.n Dx j=i:=by unfold DJ;rw[hj]
       rw[h3]at this;have hi:i<C.length:=by rw[g.len];exact AG.lt i (Ew hj)
       rw[Y6 hi]at this;exact FY this.symm
theorem dq(g:Gd B F K A H C s)(g':Gd B F K' A' AB AT s')(KO:∀i∈B7,i<AB.n)(hi:B7[0]?=G i)(r:VR h AT (.ref i) u):VR h (C++C' AT B7) (.ref H.n) u:=by
 refine AC r ?_;(try clear r);intro a ha Bq;subst Bq;refine⟨a,?_,rfl⟩;have UL:=GJ (J:=[]) g'.len KO 0;simp only[HO]at UL;rw[VH (by rw[g.len];exact DF _),g.len,Nat.sub_self,UL];unfold DJ;rw[hi];exact ha
theorem qM(hl:AL AB.h j=G ob)(c:∀a,Ca B.prog B.w s'.heap AT a ob->Ca B.prog B.w s'.heap AT a (DV BA o)):∀q UM,AL [(0,o)] q=G UM->∃i o',[j][q]?=G i/\AL AB.h i=G o'/\∀a,Ca B.prog B.w s'.heap AT a o'->Ca B.prog B.w s'.heap AT a (DV BA UM):=λq UM e=>aH (P:=λq UM=>∃i o',[j][q]?=G i/\AL AB.h i=G o'/\∀a,Ca B.prog B.w s'.heap AT a o'->Ca B.prog B.w s'.heap AT a (DV BA UM)) e ⟨j,ob,rfl,hl,c⟩ λ_ e=>(AF e).elim
theorem Lb{w:Tx->V}(hw:∀p,Cl (w p)):DV BA (.dict (BM w A1))=.dict (BM w A1)/\DV BA (.B3 (BM w A1))=.B3 (BM w A1):=by
 constructor;. show Ob.dict ((BM w A1).map _)=_;rw[KS (Mt hw)]
 . show Ob.B3 ((BM w A1).map _)=_;rw[KS (Mt hw)]
theorem qN(g:Gd B F K A H C s)(hi:AL H.h i=G o)(hc:∀BA,DV BA o=o):Sub H ⟨[],[(0,o)],1⟩ [i]:=⟨rfl,EU.mpr ⟨(by simp),HN⟩,λj m=>by rw[CI.mp m];exact Iu g hi,λj p e=>by match j,e with
 |0,e=>injection e with e;subst e;exact⟨i,rfl,by rw[hi,hc]⟩|j+1,e=>exact(BE e).elim⟩
theorem qO(AV:(Bb P).In B.base)(AM:Dg B){A9:I Tx}{w:Tx->V}(hw:∀p,Cl (w p))(hS:Fc A1)(hp:A1.Perm A9)(hd:8<=K.d)(hi:AL H.h i=G (.dict (BM w A1)))(g:Gd B F K A H C s)(rs:Aa s.heap C [.ref i] us):Ae B F K A ⟨H.env,(H.n,.B3 (BM w A9))::H.h,H.n+1⟩ C s (CE (.ref 392) us) (RV (.ref H.n)):=by
 refine W5 (hS K.sc w) AF λv AB L_ hs=>?_;revert L_;apply EI hs AF;intro j hs L_;refine Ce hs AF λhj hs=>BI hs λob hl hs=>?_;revert hl;apply JE hs AF;intro N hs hl;refine BI hs λob0 h0 hs=>?_;revert h0;apply JE hs AF;intro cx hs h0;have hs:=Bm hs;have hl:AL AB.h j=G (.dict (BM w A1)):=(congrArg (·.1) hs:N=BM w A1)▸hl;have h0:AL AB.h 0=G (.dict (BM w A1)):=(congrArg (·.2) hs:cx=BM w A1)▸h0;have AG:=qN g hi λBA=>(Lb hw).1;intro A2 E k;refine(all1 AV AM 100).s.call L_ (g.sub AG hd (Cf.nil g)) Qy ((Aa.DW λj=>?_).mpr (show Aa s.heap C (Cr (DJ H.n [i]) [.ref 0]) us from rs)) A2 E λu AT s' g' x' r'=>?_
 . have :=GJ (J:=[]) g.len AG.lt j;rwa[HO,HO]at this
 . have UN:=Iu g' hl;refine xA (dn (B7:=[j]) (BF:=[(0,.B3 (BM w A9))]) (Q:=H.h) g AG g' x' ((gu _ _)) (λk m=>by rw[CI.mp m];exact⟨Dk hj,UN⟩) (qM hl λa r=>by
     rw[(Lb hw).2];exact⟨_,⟨hp.map _,trivial⟩,r⟩) (λk o e=>?_)) ?_
   . by_cases hk:k=i
     . rw[hk,hi]at e;exact .inr ⟨0,congrArg G hk.symm,Bm e▸h0,λBA=>Bm e▸(Lb hw).1⟩
     . exact .inl ⟨e,λm=>hk (CI.mp m)⟩
   intro gg xx;rw[qK λBA=>(Lb hw).2]at gg;exact k u _ s' gg xx (dq g g' (λi m=>by rw[CI.mp m];exact UN) rfl r')
theorem aW4{l:I O}:dK l=M->l.Nodup:=by induction l with
 |nil=>exactλ_=>HN|cons x l ih=>exactλh=>EU.mpr ⟨λm=>Un ((nb (B1 h)).symm.trans (IJ.mpr ⟨x,m,J2 x⟩)),ih (Ak h)⟩
theorem UO{k:AK}{AO:CB k}:∀p,Cl (Ay AO p):=λ_ _=>rfl
theorem aW5(AV:(Bb P).In B.base)(AM:Dg B){k:AK}{AO:CB k}{Q:I (O×Ob)}(hS:Et K.sc k AO A1=G BF)(hd:8<=K.d)(hi:AL H.h i=G (.dict (BM (Ay AO) A1)))(hh:∀j o,AL Q j=G o->AL H.h j=G o/\j≠i)(g:Gd B F K A H C s)(rs:Aa s.heap C [.ref i] us):Ae B F K A ⟨H.env,Gf H.n BF++Q,H.n+BF.length⟩ C s (CE (.ref 411) us) (RV (.ref H.n)):=by
 refine BI hS λp hp hS=>Ce hS AF λhc hS=>pJ hp λj AB L_ dt aW6=>?_;rw[<-Bm hS];have z:=pK aW6;have AG:=qN g hi λBA=>(Lb UO).1;intro A2 E kk;refine(all1 AV AM 100).s.call (show ev CQ 100 ⟨K.sc,8⟩ _ _=_ from L_) (g.sub AG hd (Cf.nil g)) Qy ((Aa.DW λj=>?_).mpr (show Aa s.heap C (Cr (DJ H.n [i]) [.ref 0]) us from rs)) A2 E λu AT s' g' x' r'=>?_
 . have :=GJ (J:=[]) g.len AG.lt j;rwa[HO,HO]at this
 . have CF:∀i∈p.1,i<AB.n:=λi m=>xE (z.2.1 i m) λN he=>Iu g' he;refine xA (dn (B7:=p.1) (BF:=p.2) (Q:=Q) g AG g' x' (aW4 (B1 hc)) (λi m=>⟨Dk (Bn.mp (Ak hc) i m),CF i m⟩) (λq o e=>by
   refine VU (z.2.2 q o e) ?_;intro q' i' N BN e1 e2 e3 e4 e5;rw[e4];exact⟨i',_,e1▸(Up q').symm▸e2,e3,λa r=>⟨_,⟨e5 _,trivial⟩,r⟩⟩) (λq o e=>.inl ⟨(hh q o e).1,λm=>(hh q o e).2 (CI.mp m)⟩)) ?_;intro gg xx;rw[<-z.1]at gg;exact kk u _ s' gg xx (dq g g' CF (aK5 dt) r')
theorem aW7{k:O}{o:A0}{l:I Sg}(h:XY k o=G l):∃i H ob r,o=.ok (.v (.ref i)) H/\k<=i/\AL H.h i=G ob/\FW ob=G (r,l):=by
 apply W4 h AF;intro v H h;apply EI h AF;intro i h;refine Ce h AF λhk h=>BI h λob hb h=>BI h λr hr h=>?_;exact⟨i,H,ob,r.1,rfl,Dk hk,hb,Bm h▸hr⟩
theorem aW8{Y:I Sg}(hr:FW ob=G (r,Y))(q:Ca prog w h C a ob):Ca prog w h C a (.rows 0 Y):=by
 revert q;apply bP hr;. exactλhf _ q=>AC q λus p v=>⟨us,p,v,B4 (Ef hf) (show 100000<=Dm by decide)⟩
 . exactλq=>CZ q λus p v l=>⟨us,p,v,B4 (HL (Ni r) _) l⟩
theorem qP(AV:(Bb P).In B.base)(AM:Dg B){f:O}{l:I Sg}{Q:I (O×Ob)}(hR:XY DI.n (ev UJ 200 ⟨K.sc,40⟩ (.call (.top (.ref f)) MU) DI)=G l)(he:DI.env=[])(AG:Sub H DI Dx)(hd:40<=K.d)(ha:args=Cr (DJ H.n Dx) MU)(hh:∀j o,AL Q j=G o->AL H.h j=G o/\j∉Dx)(g:Gd B F K A H C s)(rs:Aa s.heap C args us):Ae B F K A ⟨H.env,(H.n,.rows 0 l)::Q,H.n+1⟩ C s (CE (.ref f) us) (RV (.ref H.n)):=by
 refine VT (aW7 hR) ?_;intro i AB ob r L_ hi hl hr;subst ha;intro A2 E kk;refine(aV1 AV AM 200).s.call L_ (g.sub AG hd (by rw[he];exact Cf.nil g)) Qy ((Aa.DW λj=>?_).mpr rs) A2 E λu AT s' g' x' r'=>?_
 . have :=GJ (J:=[]) g.len AG.lt j;simpa using this
 . have UN:=Iu g' hl;refine xA (dn (B7:=[i]) (BF:=[(0,.rows 0 l)]) (Q:=Q) g AG g' x' ((gu _ _)) (λk m=>by rw[CI.mp m,AG.len];exact⟨hi,UN⟩) (qM hl λa r=>aW8 hr r) (λk o e=>.inl (hh k o e))) ?_;intro gg xx;rw[qK λBA=>rfl]at gg;exact kk u _ s' gg xx (dq g g' (λi m=>by rw[CI.mp m];exact UN) rfl r')
end
section
theorem aW9{fn:Fn}{o:Bi}(ok:FnAt B a fn o fd){b:I (U×V)}(hb:JI fn args=G b)(hd:K.d=d+1)(g:Ga B F K A ⟨[],[],0⟩ [] s)(rs:Aa s.heap [] args us)(D:∀{F:Fm}{A:CK}{AJ:AR},Gd B F ⟨fn.sc,d⟩ A ⟨b,[],0⟩ [] AJ->(∀b o,s.heap.get? b=G o->AJ.heap.get? b=G o)->AH (AQ B.prog B.w) A (J3 fn.body F.env) (λf s'=>∃v,f=.ret v/\A2 v s') (λ_ _=>Bj) AJ):AH (AQ B.prog B.w) A (CE (.ref a) us) A2 E s:=by
 refine HQ (g.into hd ok hb rs λAN keep _ _=>codeAny_func (Fg (D AN keep) (λf s' q=>?_) λ_ _ q=>q.elim));refine AC q ?_;(try clear q);intro v BP q;subst BP;exact q
end
noncomputable def N5(nm:U)(x:AA):AK:=ED x A6 λf _ k _=>DO f A6 λid _=>l0 k A6 (Cw id nm)
noncomputable def I8(x:AA):I AA:=ED x [] λ_ a _ _=>a
theorem Oz{nm:U}{x:AA}(h:N5 nm x=M):∃p p',x=.Call (.Name nm p) (I8 x) [] p':=by
 apply M6 h B0;intro f a k p h;apply EV h B0;intro id p' h;apply EW h B0;intro h;rw[E2.mp h];exact⟨_,_,rfl⟩
noncomputable def dv(x:AA)(i:O):AA:=(I8 x).getD i (.Constant .none 0 ⟨0,0,0,0⟩)
noncomputable def dw(nm:U)(x:As):AK:=Po x A6 λl _ _=>l1 l A6 λy=>DO y A6 λid _=>Cw id nm
noncomputable def Je(x:As):AA:=Po x (S6 x (.Constant .none 0 ⟨0,0,0,0⟩) λe _=>oS e (.Constant .none 0 ⟨0,0,0,0⟩) λe=>e) λ_ e _=>e
theorem qQ{nm:U}{x:As}(h:dw nm x=M):∃p p',x=.Assign [.Name nm p] (Je x) p':=by
 apply iF h B0;intro l e p h;apply Cs h B0;intro y h;apply EV h B0;intro id p' h;rw[E2.mp h];exact⟨_,_,rfl⟩
noncomputable def qR(x:As):AK:=S6 x A6 λe _=>oS e A6 λ_=>M
theorem aX0{x:As}(h:qR x=M):∃p,x=.Return (G (Je x)) p:=by
 apply vO h B0;intro e p h;apply Np h B0;intro e _;exact⟨_,rfl⟩
noncomputable def qS(x:AA):AK:=Kt x A6 λ_ o r _=>l1 o A6 λo=>l1 r A6 λ_=>decide (o=.Eq)
noncomputable def UP(x:AA):AA:=Kt x (JA x x λv _ _=>v) λl _ _ _=>l
noncomputable def dx(x:AA):AA:=Kt x x λ_ _ r _=>l1 r x λr=>r
theorem aX1{x:AA}(h:qS x=M):∃p,x=.Compare (UP x) [.Eq] [dx x] p:=by
 apply S4 h B0;intro l o r p h;apply Cs h B0;intro o h;apply Cs h B0;intro r h;rw[of_decide_eq_true h];exact⟨_,rfl⟩
noncomputable def qT(x:AA):AK:=JA x A6 λ_ s _=>Nm s A6 λa b c _=>oN a A6 (oN c A6 (oS b A6 λb=>HS b A6 λk _ _=>decide (k=.int 3)))
theorem aX2{x:AA}(h:qT x=M):∃k p p' Xa,x=.Subscript (UP x) (.Slice L (G (.Constant (.int 3) k p)) L p') Xa:=by
 apply Nk h B0;intro v s Xa h;apply iC h B0;intro a b c p' h;apply GQ h B0;intro h;apply GQ h B0;intro h;apply Np h B0;intro b h;apply J9 h B0;intro k n p h;rw[of_decide_eq_true h];exact⟨n,p,p',Xa,rfl⟩
noncomputable def D_:As:=Ba 37
@[irreducible]noncomputable def FM(k:O):As:=(Fk D_)[k]?.getD (.Pass ⟨0,0,0,0⟩)
@[irreducible]noncomputable def P':AA:=Je (FM 0)
@[irreducible]noncomputable def R4:AA:=Je (FM 1)
@[irreducible]noncomputable def UQ:AA:=dx (Je (FM 2))
@[irreducible]noncomputable def UR:AA:=dv P' 0
@[irreducible]noncomputable def I9(k:O):AA:=dv R4 k
@[irreducible]noncomputable def IA(k:O):AA:=dv UQ k
@[irreducible]noncomputable def qU:AA:=UP (Je (FM 2))
noncomputable def Lc:U:=⟨⟨[115,99,114,105,112,116]⟩⟩
noncomputable def Ej:U:=⟨⟨[100,114,97,119,110]⟩⟩
noncomputable def HI:U:=⟨⟨[116,111,108,100,95,115,111]⟩⟩
noncomputable def Xb:U:=⟨⟨[95,108,97,119,95,116,114,101,101,115]⟩⟩
noncomputable def US:U:=⟨⟨[95,108,97,119,95,115,116,114,97,105,103,104,116]⟩⟩
noncomputable def Xc:U:=⟨⟨[95,108,97,119,95,116,111,108,100]⟩⟩
noncomputable def UT:U:=⟨⟨[95,108,97,119,95,103,114,111,119,110]⟩⟩
noncomputable def Xd:U:=⟨⟨[95,108,97,119,95,119,97,108,107,101,100]⟩⟩
theorem aX3:Fk D_=[FM 0,FM 1,FM 2]:=by kernel_rfl
theorem dy:dw Ej (FM 0)=M/\Je (FM 0)=P'/\N5 Xb P'=M/\I8 P'=[UR]/\qT UR=M/\JL P'=A6/\MN [] P'=A6/\CP UR=M:=⟨by kernel_rfl,by kernel_rfl,by kernel_rfl,by kernel_rfl,by kernel_rfl,by kernel_rfl,by kernel_rfl,by kernel_rfl⟩
theorem qV:dw HI (FM 1)=M/\Je (FM 1)=R4/\N5 Xc R4=M/\I8 R4=[I9 0,I9 1,I9 2]/\N5 US (I9 0)=M/\N5 US (I9 1)=M/\JL R4=A6:=⟨by kernel_rfl,by kernel_rfl,by kernel_rfl,by kernel_rfl,by kernel_rfl,by kernel_rfl,by kernel_rfl⟩
theorem qW:qR (FM 2)=M/\qS (Je (FM 2))=M/\UP (Je (FM 2))=qU/\dx (Je (FM 2))=UQ/\N5 Xd UQ=M/\I8 UQ=[IA 0,IA 1,IA 2]/\N5 UT (IA 0)=M/\N5 UT (IA 1)=M:=⟨by kernel_rfl,by kernel_rfl,by kernel_rfl,by kernel_rfl,by kernel_rfl,by kernel_rfl,by kernel_rfl,by kernel_rfl⟩
theorem aX4:([Xb,US,Xc,UT,Xd].all (Di (BV D_)))=M:=by kernel_rfl
theorem PA:Ah CQ.glob Xb=G (.top (.ref 387))/\Ah CQ.glob US=G (.top (.ref 392))/\Ah CQ.glob Xc=G (.top (.ref 404))/\Ah CQ.glob UT=G (.top (.ref 411))/\Ah CQ.glob Xd=G (.top (.ref 435)):=⟨by kernel_rfl,by kernel_rfl,by kernel_rfl,by kernel_rfl,by kernel_rfl⟩
noncomputable def Xe(CG:CB A6)(C7:CB M)(L0 L1:I Tx):Mine.St:=⟨[(Ej,.ref 0)],[(0,.list [.ref 1,.ref 2]),(1,.dict (BM (Ay CG) L0)),(2,.dict (BM (Ay C7) L1))],3⟩
theorem aX5(d:O)(l:A8):ev CQ 60 ⟨BV D_,d⟩ (.e (UP UR)) ⟨[(Lc,.top (.ref l))],[],0⟩=.ok (.v (.top (.ref l))) ⟨[(Lc,.top (.ref l))],[],0⟩:=by kernel_rfl
theorem aX6(d:O)(p:B9)(l:A8)(BF:I (O×Ob)):ev CQ 60 ⟨BV D_,d⟩ (.GS [.Name Ej p] (.ref 3)) ⟨[(Lc,.top (.ref l))],BF,6⟩=.ok (.f .next) ⟨[(Lc,.top (.ref l)),(Ej,.ref 3)],BF,6⟩:=by kernel_rfl
theorem PB{nm:U}(h:nm∈[Xb,US,Xc,UT,Xd]):Di (BV D_) nm=M:=Bn.mp aX4 nm h
section
variable{J:I A8}
theorem PC(AV:(Bb P).In B.base)(g:Gd B F K A H C s){k:O}(hf:AL Io a=G (DE (Ba k))):CW (AQ B.prog B.w) s.heap (.ref a):=by
 refine DB (Mm AV (Mo AV) (Of P hf)) ?_;intro o fd ok;exact CW.func (g.base _ _ ok.get) ok.data
theorem aX7:Hv (E8 rs) L (G 3)=E8 (rs.take 3):=by
 rw[WZ];show((E8 rs).take (Hj (E8 rs).length 3)).drop 0=_;rw[YP];unfold E8;rw[List.map_take];have :Hj (rs.map (V.IQ 12)).length 3=min 3 rs.length:=by rw[Jo];exact clipAt_nat rs.length 3
 rw[this];by_cases h:rs.length<=3;. rw[bH6 h,gQ (by simp),gQ (by simpa using h)]
 . rw[bH7 (by(with_reducible exact uh (by assumption)))]
theorem aX8(AV:(Bb P).In B.base)(AM:Dg B){l:A8}{us:BW A4}(hl:B.base.IsList l us)(hv:Aa B.base [] (E8 rs) us.toList)(UU:us.size<=100)(g:Gd B F ⟨BV D_,d⟩ A ⟨[(Lc,.top (.ref l))],[],0⟩ [] s):Ae B F ⟨BV D_,d⟩ A ⟨[(Lc,.top (.ref l))],[(0,.list (E8 (rs.take 3)))],1⟩ [] s (eval UR F.env) (RV (.ref 0)):=by
 intro A2 E kk;refine vW (aX2 dy.2.2.2.2.1) ?_;intro k p p' Xa e;rw[e];have A9:=(all1 AV AM 60).s;refine YQ (A9.e (aX5 d l) g _ _ λu A_ AJ AN Ab Aq=>tw (CJ.pure (AZ:=[]) (Ib:=RV .none) AN rfl _ _ λa Au Ai AU Al BB=>WB (L7:=k) (pos:=p) (v:=.int 3) AU rfl _ _ λb BS Ax Ap B8 BQ=>?_));rw[evalPart_none];refine AW ?_;cases Aq;cases BB;refine xE BQ ?_;(try clear BQ);intro t Aw;subst Aw;have h0:BS=[]:=gz Ap.len;subst h0;refine Pr hl ?_;(try clear hl);intro o ho hc n hd;have kp:∀b o,Ax.heap.get? b=G o->(Ax.heap.push {cls:=.type "slice",data:=.fields #[.none,.int 3 t,.none]}).get? b=G o:=λb o e=>C1 _ e;have CA:=Ap.ext (tk:=Ax.toks) kp;have qX:(Ax.heap.push {cls:=.type "slice",data:=.fields #[.none,.int 3 t,.none]}).IsList l us:=⟨o,CA.base _ _ ho,hc,n,hd⟩;have hs:(Ax.heap.push {cls:=.type "slice",data:=.fields #[.none,.int 3 t,.none]}).IsSlice Ax.heap.objs.size L (G (3,t)) L:=⟨_,CY _ rfl,rfl,rfl⟩;refine Kp qX.typeIs Pe.lookup (tv qX hs (W_ L) (W_ (G (3,t))) gX (by simp) ?_ (B4 UU (by decide))) rfl;have dz:∀b o,(Ax.heap.push {cls:=.type "slice",data:=.fields #[.none,.int 3 t,.none]}).get? b=G o->((Ax.heap.push {cls:=.type "slice",data:=.fields #[.none,.int 3 t,.none]}).push {cls:=.type "list",data:=.seq (Hk us L (G 3) L)}).get? b=G o:=λb o e=>C1 _ e;have hg:=CY (Ax.heap.push {cls:=.type "slice",data:=.fields #[.none,.int 3 t,.none]}) (o:={cls:=.type "list",data:=.seq (Hk us L (G 3) L)}) rfl;have EL:Nx F.D ([]:I A8) Ax.heap (Ax.heap.push {cls:=.type "slice",data:=.fields #[.none,.int 3 t,.none]}) [] []:=Nx.ext kp;have hn:=GF (Ax.heap.push {cls:=.type "slice",data:=.fields #[.none,.int 3 t,.none]});refine kk _ [_] _ (CA.new (tk:=Ax.toks) dz hn ⟨_,hg⟩ (o:=.list (E8 (rs.take 3))) ⟨_,⟨_,hg⟩,?_⟩) ((Ab.trans (Al.trans (B8.trans EL))).trans (Nx.add [_] dz λb hb=>by rw[CI.mp hb];exact hn)) ⟨_,rfl,rfl⟩;have :=bK (Aa.mono (Q:=(Ax.heap.push {cls:=.type "slice",data:=.fields #[.none,.int 3 t,.none]}).push {cls:=.type "list",data:=.seq (Hk us L (G 3) L)}) (J:=[(Ax.heap.push {cls:=.type "slice",data:=.fields #[.none,.int 3 t,.none]}).objs.size]) (λb o e _=>dz _ _ (CA.base b o e)) hv) L (G 3);rw[aX7]at this;exact this
theorem aX9(h:∀r∈rs,r<12):∀r∈rs.take 3,r<12:=λr m=>h r (List.mem_of_mem_take m)
theorem qY{t:AA}{l:O}(h:JL e=A6):bB9 [t] e l env=pure A6:=TD h
theorem aY0(AV:(Bb P).In B.base)(AM:Dg B)(hd:40<=d){l:A8}{us:BW A4}(hl:B.base.IsList l us)(hv:Aa B.base [] (E8 rs) us.toList)(UU:us.size<=100)(hr:∀r∈rs,r<12)(g:Gd B F ⟨BV D_,d⟩ A ⟨[(Lc,.top (.ref l))],[],0⟩ [] s){A2:HP->AR->Prop}(k:∀(a b:O)(L0 L1:I Tx)(CG:CB A6)(C7:CB M)(AT:I A8)(s':AR),a+b<=3->L0∈lv A6 a->L1∈lv M b->Gd B F ⟨BV D_,d⟩ A (Xe CG C7 L0 L1) AT s'->A2 .next s'):AH (AQ B.prog B.w) A (exec (FM 0) F.env) A2 E s:=by
 refine iO dy ?_;(try clear dy);intro h1 h2 h3 h4 h5 h6 h7 h8;refine DB (qQ h1) ?_;intro p p' e;rw[e,h2];have A9:=(all1 AV AM 60).s;refine DB (Oz h3) ?_;intro q q' e2;refine g4 ?_ (qY h6) (aZ (by show MN [.Name Ej p] P'=A6;rw[e2];rfl));rw[e2,h4];refine LX (Bl:=GI AV) (A3:=CQ) (PB (by simp)) PA.1 (by simp[h8]) g (λBG EN p Fa Cq=>Wj h8 (by
  have h0:BG=[]:=gz Fa.len;clear Cq;subst h0;exact aX8 AV AM hl hv UU Fa) p) λDy A_ AJ AN Ab Aq=>⟨PC AV (k:=28) AN (by kernel_rfl),?_⟩;refine Bv Aq ?_;(try clear Aq);intro u Dy B6 ru e3;subst B6;cases e3;have qZ:=aX9 hr;obtain⟨d',rfl⟩:∃d',d=d'+1:=⟨d-1,by(with_reducible exact Mine.yH (by assumption))⟩;refine aH8 AV AM (K:=⟨BV D_,d'+1⟩) (rs:=rs.take 3) rfl (by omega) (by simp;(with_reducible exact Y1 _ _)) qZ AN ru _ _ λu Au Ai AU Al BB=>?_;refine A9.GS (aX6 _ p l _) AU BB _ _ λ_ BS Ax Ap B8 _=>?_;refine EX (XD (rs.take 3) pB qZ) ?_;intro a b Gc Es;have LB:=pG (rs.take 3) aK0;have EK:((rs.take 3).foldl Tr.turn T0).Cl:=by
  have :∀(l:I O){T:Tr},T.Cl->(l.foldl Tr.turn T).Cl:=λl=>by induction l with
 |nil=>exactλh=>h|cons r l ih=>exactλh=>ih (h.turn r)
  exact this _ ox
 generalize(rs.take 3).foldl Tr.turn T0=T at Ap Es LB EK;have CA:Gd B F ⟨BV D_,d'+1⟩ A ⟨[(Ej,.ref 0)],[(0,.list [.ref 1,.ref 2]),(1,.dict (BM T.w0 T.L0)),(2,.dict (BM T.w1 T.L1))],3⟩ (C' BS [3,4,5]) Ax:=by
  refine Ap.pick (B7:=[3,4,5]) ⟨rfl,by decide,by show∀i∈_,i<6;decide,λk o e=>?_⟩ λx v e=>?_;. match k,e with
 |0,e=>injection e with e;subst e;exact⟨3,rfl,rfl⟩|1,e=>injection e with e;subst e;exact⟨4,rfl,by show G (Ob.dict (BM T.w0 T.L0))=G (DV _ (Ob.dict (BM T.w0 T.L0)));rw[(Lb EK.c0).1]⟩|2,e=>injection e with e;subst e;exact⟨5,rfl,by show G (Ob.dict (BM T.w1 T.L1))=G (DV _ (Ob.dict (BM T.w1 T.L1)));rw[(Lb EK.c1).1]⟩|k+3,e=>exact(BE e).elim
  . exact TB (f:=E7 _) (by rfl) e
 have nd0:T.L0.Nodup:=Mv (Bn.mp (pH A6) _ (XE (by have :=Pf (i:=3) (l:=rs);omega) Es.l0));have nd1:T.L1.Nodup:=Mv (Bn.mp (pH M) _ (XE (by have :=Pf (i:=3) (l:=rs);omega) Es.l1));refine xE (CA.syms (k:=A6) (i:=1) (w:=T.w0) (A1:=T.L0) rfl nd0 LB.w0) ?_;intro CG Cn;refine xE (Cn.syms (k:=M) (i:=2) (w:=T.w1) (A1:=T.L1) rfl nd1 LB.w1) ?_;intro C7 Gb;refine k a b T.L0 T.L1 CG C7 _ Ax ?_ Es.l0 Es.l1 Gb;have :=Pf (i:=3) (l:=rs);(with_reducible exact Mine.vo (by assumption) (by assumption))
end
theorem q_{A9:I Tx}(h:U9 A1 A9=M)(nd:A1.Nodup)(nd':A9.Nodup):A1.Perm A9:=by
 simp only[U9,D6]at h;exact(bH8 nd nd').mpr λp=>⟨λm=>XG (Bn.mp h.1 p m),λm=>XG (Bn.mp h.2 p m)⟩
noncomputable def K_(A1:I Tx):I Tx:=DY.getD (CC A1 DY) []
noncomputable def Ld(A1:I Tx):I Tx:=DZ.getD (CC A1 DZ) []
theorem pm0:(Ol.all λA1=>U9 A1 (K_ A1)&&LV A1&&LV (K_ A1))=M:=by kernel_rfl
theorem pm1:(Om.all λA1=>U9 A1 (Ld A1)&&LV A1&&LV (Ld A1))=M:=by kernel_rfl
theorem aY1(h:A1∈Ol):A1.Perm (K_ A1):=by
 have :=Bn.mp pm0 A1 h;simp only[D6]at this;exact q_ this.1.1 (Mv this.1.2) (Mv this.2)
theorem aY2(h:A1∈Om):A1.Perm (Ld A1):=by
 have :=Bn.mp pm1 A1 h;simp only[D6]at this;exact q_ this.1.1 (Mv this.1.2) (Mv this.2)
noncomputable def N6(CG:CB A6)(C7:CB M)(L0 L1:I Tx):I (O×Ob):=[(0,.list [.ref 1,.ref 2]),(1,.dict (BM (Ay CG) L0)),(2,.dict (BM (Ay C7) L1))]
theorem aY3(d:O)(CG:CB A6)(C7:CB M)(L0 L1:I Tx):ev CQ 60 ⟨BV D_,d⟩ (.N (I8 (I9 0))) (Xe CG C7 L0 L1)=.ok (.vs [.ref 1]) (Xe CG C7 L0 L1):=by kernel_rfl
theorem aY4(d:O)(CG:CB A6)(C7:CB M)(L0 L1:I Tx)(o:Ob):ev CQ 60 ⟨BV D_,d⟩ (.N (I8 (I9 1))) ⟨[(Ej,.ref 0)],(3,o)::N6 CG C7 L0 L1,4⟩=.ok (.vs [.ref 2]) ⟨[(Ej,.ref 0)],(3,o)::N6 CG C7 L0 L1,4⟩:=by kernel_rfl
theorem aY5(d:O)(H:Mine.St):ev CQ 60 ⟨BV D_,d⟩ (.e (I9 2)) H=.ok (.v (.str [47])) H:=by kernel_rfl
theorem qa:(I8 (I9 0)).all CP=M/\(I8 (I9 1)).all CP=M/\CP (I9 0)=M/\CP (I9 1)=M/\CP (I9 2)=M:=⟨by kernel_rfl,by kernel_rfl,by kernel_rfl,by kernel_rfl,by kernel_rfl⟩
theorem aY6(d:O)(p:B9)(BF:I (O×Ob)):ev CQ 60 ⟨BV D_,d⟩ (.GS [.Name HI p] (.ref 5)) ⟨[(Ej,.ref 0)],BF,6⟩=.ok (.f .next) ⟨[(Ej,.ref 0),(HI,.ref 5)],BF,6⟩:=by kernel_rfl
section
variable{GY:Mine.St}{J:I A8}
theorem qb{x y z:AA}{a b c:V}(hx:CP x=M)(hy:CP y=M)(hz:CP z=M)(ca4:Ae B F K A AB C s (eval x F.env) (RV a))(ca5:∀{A_:I A8}{AJ:AR},Gd B F K A AB A_ AJ->Ae B F K A Bc A_ AJ (eval y F.env) (RV b))(ca6:∀{Au:I A8}{Ai:AR},Gd B F K A Bc Au Ai->Ae B F K A GY Au Ai (eval z F.env) (RV c))(pos:B9):Ae B F K A GY C s (Lq (F9 pos (E' [x,y,z] F.env))) (OB [a,b,c]):=by
 intro A2 E k;have cn:∀{x:AA}{l:I AA},CP x=M->E' (x::l) F.env=(A6,eval x F.env)::E' l F.env:=λh=>K8 h;refine Lr (ca4 _ _ λu A_ AJ AN Ab Aq=>Lr (ca5 AN _ _ λv Au Ai AU Al BB=>Lr (ca6 AU _ _ λw BS Ax Ap B8 BQ=>Ur (k _ BS Ax Ap (Ab.trans (Al.trans B8)) ⟨u,_,rfl,(Aq.nx Al).nx B8,v,_,rfl,BB.nx B8,w,_,rfl,BQ,rfl⟩)) (cn hz)) (cn hy)) (cn hx)
theorem aY7(AV:(Bb P).In B.base)(AM:Dg B)(hd:42<=d){CG:CB A6}{C7:CB M}(h0:L0∈Ol)(h1:L1∈Om){l:I Sg}(hR:UK (BV D_) CG C7 (K_ L0) (Ld L1)=G l)(g:Gd B F ⟨BV D_,d⟩ A (Xe CG C7 L0 L1) C s){A2:HP->AR->Prop}(k:∀(AT:I A8)(s':AR),Gd B F ⟨BV D_,d⟩ A ⟨[(Ej,.ref 0),(HI,.ref 5)],(5,.rows 0 l)::N6 CG C7 L0 L1,6⟩ AT s'->A2 .next s'):AH (AQ B.prog B.w) A (exec (FM 1) F.env) A2 E s:=by
 refine iM qV ?_;(try clear qV);intro h2 h3 h4 h5 h6 h7 h8;refine VQ qa ?_;(try clear qa);intro e7 R5 UV UW UX;refine DB (qQ h2) ?_;intro p p' e;rw[e,h3];have A9:=(all1 AV AM 60).s;refine DB (Oz h4) ?_;intro q q' e2;refine DB (Oz h6) ?_;intro p0 p0' e0;refine DB (Oz h7) ?_;intro p1 p1' e1;refine g4 ?_ (qY h8) (aZ (by show MN [.Name HI p] R4=A6;rw[e2];rfl));rw[e2,h5];refine LX (Bl:=GI AV) (A3:=CQ) (PB (by simp)) PA.2.2.1 (by simp[UV,UW,UX]) g (AB:=⟨[(Ej,.ref 0)],(4,.B3 (BM (Ay C7) (Ld L1)))::(3,.B3 (BM (Ay CG) (K_ L0)))::N6 CG C7 L0 L1,5⟩) (vs:=[.ref 3,.ref 4,.str [47]]) (λBG EN pos Fa Cq=>qb UV UW UX (AB:=⟨[(Ej,.ref 0)],(3,.B3 (BM (Ay CG) (K_ L0)))::N6 CG C7 L0 L1,4⟩) (Bc:=⟨[(Ej,.ref 0)],(4,.B3 (BM (Ay C7) (Ld L1)))::(3,.B3 (BM (Ay CG) (K_ L0)))::N6 CG C7 L0 L1,5⟩) ?_ ?_ ?_ pos) λus A_ AJ AN Ab Aq=>⟨PC AV (k:=31) AN (by kernel_rfl),?_⟩
 . intro A2 E kk;rw[e0];refine LX (Bl:=GI AV) (A3:=CQ) (PB (by simp)) PA.2.1 e7 Fa (λA_ AJ pos AN Ab=>A9.N (aY3 d CG C7 L0 L1) pos AN) λus Au Ai AU Al BB=>⟨PC AV (k:=29) AU (by kernel_rfl),?_⟩;exact qO AV AM UO (aI7 h0) (aY1 h0) (by show 8<=d;omega) (i:=1) rfl AU BB _ _ λu BS Ax Ap B8 BQ=>kk u BS Ax Ap (Al.trans B8) BQ
 . intro A_ AJ AN A2 E kk;rw[e1];refine LX (Bl:=GI AV) (A3:=CQ) (PB (by simp)) PA.2.1 R5 AN (λA_ AJ pos AN Ab=>A9.N (aY4 d CG C7 L0 L1 _) pos AN) λus Au Ai AU Al BB=>⟨PC AV (k:=29) AU (by kernel_rfl),?_⟩;exact qO AV AM UO (aJ7 h1) (aY2 h1) (by show 8<=d;omega) (i:=2) rfl AU BB _ _ λu BS Ax Ap B8 BQ=>kk u BS Ax Ap (Al.trans B8) BQ
 . intro Au Ai AU;exact A9.e (aY5 d _) AU
 . have cl0:∀BA,DV BA (.B3 (BM (Ay CG) (K_ L0)))=.B3 (BM (Ay CG) (K_ L0)):=λBA=>(Lb UO).2;have cl1:∀BA,DV BA (.B3 (BM (Ay C7) (Ld L1)))=.B3 (BM (Ay C7) (Ld L1)):=λBA=>(Lb UO).2;refine qP AV AM (K:=⟨BV D_,d⟩) (f:=404) (l:=l) (DI:=qG CG C7 (K_ L0) (Ld L1)) (Dx:=[3,4]) (MU:=[.ref 0,.ref 1,.str [47]]) (Q:=N6 CG C7 L0 L1) hR rfl ⟨rfl,by decide,by show∀i∈_,i<5;decide,λj o e=>?_⟩ (by show 40<=d;omega) rfl (λj o e=>?_) AN Aq _ _ λu Au Ai AU Al BB=>?_;. match j,e with
 |0,e=>injection e with e;subst e;exact⟨3,rfl,by rw[cl0];rfl⟩|1,e=>injection e with e;subst e;exact⟨4,rfl,by rw[cl1];rfl⟩|j+2,e=>exact(BE e).elim
   . match j,e with
 |0,e=>exact⟨e,by decide⟩|1,e=>exact⟨e,by decide⟩|2,e=>exact⟨e,by decide⟩|j+3,e=>exact(BE e).elim
   . exact A9.GS (aY6 d p _) AU BB _ _ λ_ BS Ax Ap B8 _=>k BS Ax Ap
end
mutual
theorem Xf{AO:O->O}:∀v:V,E7 BA (E7 AO v)=E7 (λj=>BA (AO j)) v
 |.none=>rfl|.bool _=>rfl|.int _=>rfl|.str _=>rfl|.sym _ _ _=>rfl|.IQ _ _=>rfl|.O' _=>rfl|.any=>rfl|.top _=>rfl|.ref _=>rfl|.HA _ _=>rfl|.B' _ _=>rfl|.tup c Y=>by
  show V.tup c (Cr BA (Cr AO Y))=V.tup c (Cr _ Y);rw[eA Y]
theorem eA{AO:O->O}:∀l:I V,Cr BA (Cr AO l)=Cr (λj=>BA (AO j)) l
 |[]=>rfl|v::l=>by
  show E7 BA (E7 AO v)::Cr BA (Cr AO l)=E7 _ v::Cr _ l;rw[Xf v,eA l]
end
theorem aY8{AO:O->O}(o:Ob):DV BA (DV AO o)=DV (λj=>BA (AO j)) o:=by cases o with
 |list Y=>show Ob.list _=Ob.list _;rw[eA]|dict N=>show Ob.dict _=Ob.dict _;rw[Hm];congr 2;funext e;simp[JV,Xf]|B3 N=>show Ob.B3 _=Ob.B3 _;rw[Hm];congr 2;funext e;simp[JV,Xf]|EY N=>show Ob.EY _=Ob.EY _;rw[Hm];congr 2;funext e;simp[Qo,Xf]|rows r Y=>rfl|HU=>rfl|inst c d=>rfl
theorem qc{J:Type}{o:J}{x y:I (O×J)}:AL x i=G o->AL (x++y) i=G o:=by induction x with
 |nil=>exactλh=>(AF h).elim|cons p x ih=>exactλh=>(IY (l:=x++y)).trans (Eb (IY.symm.trans h) (λq h=>by rw[q];exact h) λq h=>by rw[q];exact ih h)
theorem eB{J:Type}{x y:I (O×J)}:AL x i=L->AL (x++y) i=AL y i:=by induction x with
 |nil=>exactλ_=>rfl|cons p x ih=>exactλh=>(IY (l:=x++y)).trans (Eb (IY.symm.trans h) (λ_ h=>nomatch h) λq h=>by rw[q];exact ih h)
theorem qd:AL BF j=G o->AL (Gf n BF) (n+j)=G (DV (n+·) o):=by induction BF with
 |nil=>exactλh=>(AF h).elim|cons p BF ih=>
 intro h;refine Eb (IY.symm.trans h) (λq h=>?_) λq h=>?_;. rw[<-CD q,<-Bm h];exact JM
 . exact(IZ λz=>by rw[Nat.add_left_cancel z,J2]at q;(exfalso;cases q)).trans (ih h)
theorem qe(h:∀j o,AL BF j=G o->i≠n+j):AL (Gf n BF) i=L:=by cases e:AL (Gf n BF) i with
 |none=>rfl|some o=>
 refine Bv (X_ e) ?_;intro j o' q l _;exact absurd q (h j o' l)
theorem qf{k:AK}{AO:CB k}(hS:Et sc k AO A1=G BF):∀j o,AL BF j=G o->j<BF.length:=by
 refine BI hS λp hp hS=>Ce hS AF λ_ hS=>pJ hp λi H _ _ hc=>?_;rw[<-Bm hS];intro j o e;have z:=pK hc;refine vY (z.2.2 j o e) ?_;intro q' i' N BN e1 e2 _;rw[z.1,e1,Up];exact(HM.mp e2).1
theorem qg{f:V->V->AD AK}(h:∀v∈Y,f v v=G M):K1 f Y Y=G M:=by induction Y with
 |nil=>rfl|cons v Y ih=>
 show B' (f v v) (λp=>B' (K1 f Y Y) λq=>G (p&&q))=_;rw[h v Co,ih λw m=>h w (Cp _ m)];rfl
theorem aY9{x:Sg}:∀v∈I_ x,G8 v v=G M:=by
 have t0:∀t:Tx,CU t t=M:=λt=>Ec.mpr rfl;have HF:∀l:I Tx,K1 Q6 (l.map .str) (l.map .str)=G M:=λl=>qg λv m=>AC (E0.mp m) λt _ e=>e▸congrArg G (t0 t);intro v m;cases x with
 |it l=>rw[CI.mp m];exact HF l|tx t=>rw[CI.mp m];show G (CU t t)=_;rw[t0]|run p a b=>
 refine AC (E0.mp m) ?_;intro r _ Aw;subst Aw;cases r with
 |nil=>exact HF [p]|cons t r=>exact HF (t::p::r)
theorem aZ0{l:I Sg}:Zp (DS l) (DS l)=G M:=qg λv m=>AC (uf.mp m) λ_ _ m=>aY9 v m
theorem aZ1(j:O):DJ (6+m) (h' 6 m) j=6+j:=by
 unfold DJ;by_cases h:j<m;. rw[ui h];simp
 . rw[VG (by rw[uj];(with_reducible exact fQ (by assumption)))];rw[uj];show 6+m+(j-m)=6+j;(with_reducible exact Mine.vx (by assumption))
theorem aZ2(d:O)(BF:I (O×Ob))(m:O):ev CQ 60 ⟨BV D_,d⟩ (.e qU) ⟨[(Ej,.ref 0),(HI,.ref 5)],BF,m⟩=.ok (.v (.ref 5)) ⟨[(Ej,.ref 0),(HI,.ref 5)],BF,m⟩:=by kernel_rfl
theorem aZ3(d m:O)(o o1 o2:Ob):ev CQ 60 ⟨BV D_,d⟩ (.N (I8 (IA 0))) ⟨[(Ej,.ref 0),(HI,.ref 5)],[(5,o),(0,.list [.ref 1,.ref 2]),(1,o1),(2,o2)],m⟩=.ok (.vs [.ref 1]) ⟨[(Ej,.ref 0),(HI,.ref 5)],[(5,o),(0,.list [.ref 1,.ref 2]),(1,o1),(2,o2)],m⟩:=by kernel_rfl
theorem aZ4(d m:O)(o o2:Ob)(AG:I (O×Ob)):ev CQ 60 ⟨BV D_,d⟩ (.N (I8 (IA 1))) ⟨[(Ej,.ref 0),(HI,.ref 5)],(5,o)::(0,.list [.ref 1,.ref 2])::(2,o2)::AG,m⟩=.ok (.vs [.ref 2]) ⟨[(Ej,.ref 0),(HI,.ref 5)],(5,o)::(0,.list [.ref 1,.ref 2])::(2,o2)::AG,m⟩:=by kernel_rfl
theorem aZ5(d:O)(H:Mine.St):ev CQ 60 ⟨BV D_,d⟩ (.e (IA 2)) H=.ok (.v (.str [47])) H:=by kernel_rfl
theorem qh:(I8 (IA 0)).all CP=M/\(I8 (IA 1)).all CP=M/\CP (IA 0)=M/\CP (IA 1)=M/\CP (IA 2)=M:=⟨by kernel_rfl,by kernel_rfl,by kernel_rfl,by kernel_rfl,by kernel_rfl⟩
theorem aZ6:t9 .Eq UQ=A6:=by kernel_rfl
section
variable{GY:Mine.St}{J:I A8}
theorem qi(AV:(Bb P).In B.base)(AM:Dg B){k:AK}{AO:CB k}{Q:I (O×Ob)}(hS:Et K.sc k AO A1=G BF)(hd:8<=K.d)(hi:AL H.h i=G (.dict (BM (Ay AO) A1)))(hh:∀j o,AL Q j=G o->AL H.h j=G o/\j≠i)(g:Gd B F K A H C s)(rs:Aa s.heap C [.ref i] us):Ae B F K A ⟨H.env,Q++Gf H.n BF,H.n+BF.length⟩ C s (CE (.ref 411) us) (RV (.ref H.n)):=by
 intro A2 E kk;refine aW5 AV AM hS hd hi hh g rs _ _ λu A_ AJ AN Ab Aq=>kk u A_ AJ (AN.forget λj o e=>?_) Ab Aq;rcases dm e with e|Bg;rotate_left;refine xA Bg ?_;(try clear Bg);intro _ e;rotate_left
 . have CF:=Iu g (hh j o e).1;rw[eB (qe λq _ _=>by omega)];exact e
 . exact qc e
theorem aZ7(AV:(Bb P).In B.base)(AM:Dg B)(hd:42<=d){CG:CB A6}{C7:CB M}(h0:L0∈Ol)(h1:L1∈Om){l:I Sg}(hR:dk (BV D_) (F5 (CC L0 DY) CG) (F6 (CC L1 DZ) C7)=G l)(g:Gd B F ⟨BV D_,d⟩ A ⟨[(Ej,.ref 0),(HI,.ref 5)],(5,.rows 0 l)::N6 CG C7 L0 L1,6⟩ C s){A2:HP->AR->Prop}(k:∀(A7:Mine.St)(AT:I A8)(s':AR),Gd B F ⟨BV D_,d⟩ A A7 AT s'->A2 (.ret (.bool M)) s'):AH (AQ B.prog B.w) A (exec (FM 2) F.env) A2 E s:=by
 refine iO qW ?_;(try clear qW);intro h2 h3 h4 h5 h6 h7 h8 h9;refine VQ qh ?_;(try clear qh);intro e7 R5 UV UW UX;refine xE (aX0 h2) ?_;intro p e;refine xE (aX1 h3) ?_;intro p' e';rw[e,e',h4,h5];have A9:=(all1 AV AM 60).s;refine DB (Oz h6) ?_;intro q q' e2;refine DB (Oz h8) ?_;intro p0 p0' e0;refine DB (Oz h9) ?_;intro p1 p1' e1;have eE:=aL8 h0 (BV D_) CG;have eF:=aM7 h1 (BV D_) C7;have eG:=qf eE;have qj:=qf eF;generalize F5 (CC L0 DY) CG=H0 at hR eE eG;generalize F6 (CC L1 DZ) C7=H1 at hR eF qj;refine tI (bs5 (A9.e (aZ2 d _ _) g _ _ λu A_ AJ AN Ab Aq=>?_) aZ6);rw[e2,h7];refine LX (Bl:=GI AV) (A3:=CQ) (PB (by simp)) PA.2.2.2.2 (by simp[UV,UW,UX]) AN (AB:=⟨[(Ej,.ref 0),(HI,.ref 5)],((5,.rows 0 l)::Gf 6 H0)++Gf (6+H0.length) H1,6+H0.length+H1.length⟩) (vs:=[.ref 6,.ref (6+H0.length),.str [47]]) (λBG EN pos Fa Cq=>qb UV UW UX (AB:=⟨[(Ej,.ref 0),(HI,.ref 5)],[(5,.rows 0 l),(0,.list [.ref 1,.ref 2]),(2,.dict (BM (Ay C7) L1))]++Gf 6 H0,6+H0.length⟩) (Bc:=⟨[(Ej,.ref 0),(HI,.ref 5)],((5,.rows 0 l)::Gf 6 H0)++Gf (6+H0.length) H1,6+H0.length+H1.length⟩) ?_ ?_ ?_ pos) λus Au Ai AU Al BB=>⟨PC AV (k:=36) AU (by kernel_rfl),?_⟩
 . intro A2 E kk;rw[e0];refine LX (Bl:=GI AV) (A3:=CQ) (PB (by simp)) PA.2.2.2.1 e7 Fa (λA_ AJ pos AN Ab=>A9.N (aZ3 d _ _ _ _) pos AN) λus Au Ai AU Al BB=>⟨PC AV (k:=32) AU (by kernel_rfl),?_⟩;refine qi AV AM (i:=1) (Q:=[(5,.rows 0 l),(0,.list [.ref 1,.ref 2]),(2,.dict (BM (Ay C7) L1))]) eE (by show 8<=d;omega) rfl (λj o e=>?_) AU BB _ _ λu BS Ax Ap B8 BQ=>kk u BS Ax Ap (Al.trans B8) BQ;match j,e with
 |0,e=>exact⟨e,by decide⟩|2,e=>exact⟨e,by decide⟩|5,e=>exact⟨e,by decide⟩|1,e=>exact(BE e).elim|3,e=>exact(BE e).elim|4,e=>exact(BE e).elim|j+6,e=>exact(BE e).elim
 . intro A_ AJ AN A2 E kk;rw[e1];refine LX (Bl:=GI AV) (A3:=CQ) (PB (by simp)) PA.2.2.2.1 R5 AN (λA_ AJ pos AN Ab=>A9.N (aZ4 d _ _ _ _) pos AN) λus Au Ai AU Al BB=>⟨PC AV (k:=32) AU (by kernel_rfl),?_⟩;refine qi AV AM (i:=2) (Q:=(5,.rows 0 l)::Gf 6 H0) eF (by show 8<=d;omega) rfl (λj o e=>?_) AU BB _ _ λu BS Ax Ap B8 BQ=>kk u BS Ax Ap (Al.trans B8) BQ;by_cases h:j=5;. subst h;exact⟨e,by decide⟩
   . rw[IZ (CX h)]at e;refine Bv (X_ e) ?_;intro q o' e3 _ _;refine⟨?_,by omega⟩;change AL ([(5,Ob.rows 0 l),(0,Ob.list [.ref 1,.ref 2]),(2,Ob.dict (BM (Ay C7) L1))]++Gf 6 H0) j=G o;rw[eB (by simp only[AL,S7,XV (show 5≠j by omega),XV (show 0≠j by omega),XV (show 2≠j by omega)])];exact e
 . intro Au Ai AU;exact A9.e (aZ5 d _) AU
 . have qk:DJ (6+H0.length+H1.length) (h' 6 (H0.length+H1.length))=λj=>6+j:=by
     funext j;rw[NP];exact aZ1 j
   refine qP AV AM (K:=⟨BV D_,d⟩) (f:=435) (l:=l) (DI:=qH H0 H1) (Dx:=h' 6 (H0.length+H1.length)) (MU:=[.ref 0,.ref H0.length,.str [47]]) (Q:=[(5,.rows 0 l)]) hR rfl ⟨by rw[uj];rfl,List.nodup_range',λi m=>by
     have :=bH9.mp m;show i<6+H0.length+H1.length;(with_reducible exact Mine.wI (by assumption)),λj o e=>?_⟩ (by show 40<=d;omega) ?_ (λj o e=>?_) AU BB _ _ λw BS Ax Ap B8 BQ=>?_
   . rw[qk];rcases dm e with e|Bu;rotate_left;refine xA Bu ?_;(try clear Bu);intro hn e;rotate_left
     . have hj:=eG j o e;refine⟨6+j,by rw[ui (by(with_reducible exact Nat.lt_add_right _ (by assumption)))];simp,?_⟩;refine qc ?_;rw[IZ (show 5≠6+j by omega)];exact qd e
     . refine Bv (X_ e) ?_;intro j1 o1 B6 e3 BJ;subst B6;subst BJ;have hj:=qj j1 o1 e3;refine⟨6+(H0.length+j1),by rw[ui (by(with_reducible exact Nat.add_lt_add_left (by assumption) _))];simp,?_⟩;rw[eB (by
       rw[IZ (show 5≠6+(H0.length+j1)by omega)];exact qe λq o' e4 z=>by have :=eG q o' e4;omega)];rw[aY8,show 6+(H0.length+j1)=6+H0.length+j1 by(with_reducible exact Eq.symm (NP _ _ _)),qd e3];congr 2;funext q;(with_reducible exact NP _ _ _)
   . show _=Cr (DJ (6+H0.length+H1.length) (h' 6 (H0.length+H1.length))) _;rw[qk];rfl
   . by_cases h:j=5
     . subst h;exact⟨e,λm=>by have :=bH9.mp m;omega⟩
     . rw[IZ (CX h)]at e;exact(BE e).elim
   . refine AC (Ap.objs 5 (.rows 0 l) (by simp only[AL,S7,iK,XV (show 6+H0.length+H1.length≠5 by omega),J2])) ?_;intro a1 ha1 o1;refine AC (Ap.objs (6+H0.length+H1.length) (.rows 0 l) JM) ?_;intro a2 ha2 o2;refine CZ o1 ?_;(try clear o1);intro us1 pl1 v1 _;refine CZ o2 ?_;(try clear o2);intro IB pl2 v2 _;refine AC ((Aq.nx Al).nx B8) ?_;intro b1 R6 BP;subst BP;refine AC BQ ?_;(try clear BQ);intro b2 I2 Bq;subst Bq;rw[ha1]at R6;injection R6 with R6;subst R6;have I2:BS[6+H0.length+H1.length]?=G b2:=I2;rw[ha2]at I2;injection I2 with I2;subst I2;have hu:A.units+4<IK:=by have :A.units+10*d<9000:=g.units;exact J0 (show _<9000 by(with_reducible exact Mine.w8 (by assumption) (by assumption))) (by decide)
     exact lw hu pl1.isList pl2.isList v1 v2 aZ0 (k _ BS Ax Ap)
end
section
open PyProof.Rows
noncomputable def Jf:Gi:={scope:=Dp.main.scope,locals:=3,globals:=3,cells:=[],code:=.ref 13,frame:=G 14}
noncomputable def Ka:B9:=⟨0,0,0,0⟩
noncomputable def ql:B9:=⟨23,0,65,54⟩
noncomputable def qm:B9:=⟨483,0,497,16⟩
noncomputable def qn:B9:=⟨725,0,728,82⟩
noncomputable def Gg:Code:=.body Dp.main.body Jf
noncomputable def Xg(w:EC)(os:H5):Yh:=⟨wg w.params,15,{},#[],Ry,187,os⟩
noncomputable def Kb(w:EC)(os:H5):Yh:=⟨SY w.params,443,{},#[],Ry,876,os⟩
noncomputable def qo(n m j t:O)(nm:A4)(w:EC)(os:H5):Yh:=⟨jX 12 (wk n m j nm w.params),n,{},#[],Ry,t,os⟩
noncomputable def qp:EC->H5->Yh:=qo 139 12 9 381 (Aj DP 194)
noncomputable def qq:EC->H5->Yh:=qo 313 18 27 674 (Aj MG 631)
theorem aZ8(w:EC)(os:H5):uk Pl Dp w 11 (G (.ref 6)) 1 1450 (Xg w os) (VK (Dp.main.body.take 4) Jf Gg Ka [VL Ka])=G (.next,qp w os,Gg,ql):=by
 unfold Gg Jf VK;rw[Z0,ul,uo,Hr];delta fY;rewrite[Z'];kernel_rfl
theorem aZ9(w:EC)(os:H5):uk Pl Dp w 11 (G (.ref 6)) 1 1350 (qp w os) (VK ((Dp.main.body.drop 4).take 9) Jf Gg ql [VL Ka])=G (.next,qq w os,Gg,qm):=by
 unfold Gg Jf VK;rw[Z0,ul,uo,Hr];delta fY;rewrite[Z'];kernel_rfl
theorem ba0(w:EC)(os:H5):uk Pl Dp w 11 (G (.ref 6)) 1 700 (qq w os) (VK ((Dp.main.body.drop 4).drop 9) Jf Gg qm [VL Ka])=G (.next,Kb w os,Gg,qn):=by
 unfold Gg Jf VK;rw[Z0,ul,uo,Hr];delta fY;rewrite[Z'];kernel_rfl
end
section
open PyProof.Rows
theorem ba1(w:EC)(os:H5):topGo Pl Dp w 11 (G (.ref 6)) 12 ⟨boot_heap w.params,#[],Ry,uq,os⟩ (topStub Dp)=G ((Xg w os).abs,⟨denote Pl Gg,Gg,Ka,[VL Ka]⟩):=by
 unfold Gg Jf;rw[fZ,bV1,bV2,Hr];kernel_rfl
theorem ba2(w:EC)(os:H5):segRun Pl Dp w 11 (G (.ref 6)) 1 1 (Xg w os).abs (blockOf Dp.main.body Jf Gg Ka [VL Ka])=G (.next,(Xg w os).abs,Gg,Ka):=by
 unfold Gg Jf;rw[fZ,bV3,Hr];kernel_rfl
theorem ba3(w:EC)(os:H5):topRun Pl Dp w 11 (G (.ref 6)) 3 (Kb w os).abs ⟨doneF .next,Gg,qn,[VL Ka]⟩=G (Kb w os).abs:=by
 unfold Gg Jf;rw[fZ,bV4,Hr];kernel_rfl
theorem ba4(w:EC)(os:H5):topRun Pl Dp w 11 (G (.ref 6)) (12+(1+(1450+(1350+(700+3))))) ⟨boot_heap w.params,#[],Ry,uq,os⟩ (topStub Dp)=G (Kb w os).abs:=by
 refine go_top (ba1 w os) ?_;refine piece_block (ba2 w os) ?_;have h:=ur (ut (aZ8 w os)) (ur (ut (aZ9 w os)) (ur (rest:=[]) (ut (ba0 w os)) (piece_nil (ba3 w os))));rw[HO,bI0,bI0]at h;exact h
end
section
open PyProof.Rows
noncomputable def PD:Hf:={Fj with main:={Fj.main with body:=[Ba 37]}}
noncomputable def R7:I U:=["_wall","_tuplegetter","Match","_calculate_ratio","SequenceMatcher","_format_range_unified","_plain_name","ABCMeta","_ABCLike","_abc_plain_meta","fspath","_check_arg_types","_get_sep","join","splitroot","basename","dirname","normpath","sorted_list_difference","_law_trees","_law_straight","_law_inner","_law_told","_law_grown","_law_pairs","_law_range","_law_changes","_law_walked"]
noncomputable def eH:I A8:=DN 443
theorem qr(P:Dq):eH=(Bb P).map (·.1):=by kernel_rfl
noncomputable def Le:Hook:=kHook Bb eH qr
theorem ba5(w:EC)(os:H5):(staticsOk (uv Dp.main.body) (boot_heap w.params) (Kb w os).abs.heap&&namesBound Dp (Kb w os).abs.heap&&gensDone (Kb w os).abs&&laidKept (boot_heap w.params) (Kb w os).abs.heap)=M:=by
 rw[Hr];kernel_rfl
theorem ba6(w:EC)(os:H5):Le.obs (Kb w os).abs=Le.val w:=by
 show(DN 443).map (absHeap (SY w.params) 443 {}).get?=((Nz w.params).zipIdx.map λp=>(p.2,p.1)).map λp=>G p.2;have e:(SY w.params).list 443=Nz w.params:=by kernel_rfl
 have f:((SY w.params).list 443).all (λo=>!o.isFreed)=M:=by rw[e];kernel_rfl
 rw[Hm,show((λp:A8×Bi=>G p.2)∘λp:Bi×O=>(p.2,p.1))=G ∘ tu from rfl,<-Hm,List.zipIdx_map_fst,<-e];unfold BT.list at f ⊢;rw[Hm];refine Yf λa m=>Heap.get?_some_iff.mpr ⟨(absHeap_at _ _ _ a).trans (DA (Nj.mp m)),?_⟩;exact Eq.mp (PU _) (Bn.mp f _ (gx m))
theorem ba7(w:EC)(os:H5):openSeen PD R7 (uv Dp.main.body) (λ_=>M) M (Kb w os).abs=openGood PD R7:=by
 rw[Hr,bV5];kernel_rfl
end
section
open PyProof.Rows
theorem ba8:LeftO Dp PD R7 (λ_=>M) Le.obs Le.val 3516:=by
 refine LeftO.of_pieces (H₀:=boot_heap) (H₁:=λP=>absHeap (SY P) 443 {}) (gs₀:=#[]) (gs₁:=#[]) (d₀:=Ry) (d₁:=Ry) (k₀:=uq) (k₁:=876) (m₀:=11) (ann:=G (.ref 6)) (M:=12+(1+(1450+(1350+(700+3))))) (boot_open ?e ?n ?f) ?size (λw os=>ba4 w os) ?le (λw=>?looks);case e=>rw[Hr];kernel_rfl
 case n=>kernel_rfl
 case f=>intro s;kernel_rfl
 case size=>intro w;kernel_rfl
 case le=>kernel_rfl
 case looks=>
  funext os;exact NR (ba5 w os) (NR (ba7 w os) (ba6 w os))
noncomputable def Xh:DefRec:={name:=ig (Ba 37),params:=SG (Ba 37),body:=Fk (Ba 37),scope:=BV (Ba 37),pos:=(Ba 37).pos}
theorem ba9(call:WalkO PD R7 (λ_ _=>PT) Le.says M5.row.toRowW Xh [] λf vs=>CE f vs)(k1:M5.row.wellSaid=M):M5.row.Holds:=by
 refine holds_open (q:=PD) (loose:=R7) (Xt:=λ_=>M) (XP:=λ_ _=>PT) (YP:=Le.says) (d:=Xh) (kwd:=[]) ba8 Le.of Le.keeps (λ_ _=>trivial) (λ_ _ _ _ _=>trivial) ?bb0 ?hp ?hk (λ_ _=>?rec) ?hwr k1 ?ok ?hb ?hw call;case bb0=>kernel_rfl
 case hp=>show Dp.theDef _=_;rw[Hr];kernel_rfl
 case hk=>kernel_rfl
 case rec=>exact recFacts_nil rfl
 case hwr=>rfl
 case ok=>show(chainsOk PD&&opensWell Dp&&_)=M;rw[Hr];kernel_rfl
 case hb=>show Dp.bare;rw[Hr];exact⟨by kernel_rfl,by kernel_rfl,by kernel_rfl,by kernel_rfl,by kernel_rfl,by kernel_rfl⟩
 case hw=>w_witness2
end
theorem bb1{m m':U->AD A4}(x:h.Ns a m)(y:h.Ns a m'):m=m':=by
 refine JB x ?_;(try clear x);intro o N ep e d _ f;refine JB y ?_;(try clear y);intro o' BN zm e' d' _ f';rw[e]at e';injection e' with e';subst e';rw[d]at d';injection d' with d1 d2;subst d1;funext n;rw[<-f n,<-f' n]
theorem bb2{args:I WData}(h:M5.row.toRowW.claim.pre args=M):∃ns:I AX,args=[.list (ns.map .int)]/\ns.length<=63:=by
 have h:(bI1 [] args [.list .int]&&M5.pre.holds [] {args:=args})=M:=h;cases args with
 |nil=>exact(NX (B1 h)).elim|cons x Y=>
 have h1:(WShape.has [] x (.list .int)&&bI1 [] Y [])=M:=B1 h;have h2:=Ak h;clear h;cases Y with
 |cons _ _=>exact(NX (Ak h1)).elim|nil=>
 refine AC (hasW_list (B1 h1)) ?_;intro ds Aw hi;subst Aw;refine xE (items_int hi) ?_;intro ns B6;subst B6;refine⟨ns,rfl,bB5 λhl=>?_⟩;have h2:(WTm.and (.not (.lit (.bool (decide ((63:AX)<(ns.map WData.int).length))))) (.lit (.bool M))).holds [] {args:=[.list (ns.map .int)]}=M:=h2;rw[Jo,Rj (show(63:AX)<ns.length from fW.mpr (br3 hl))]at h2;exact NX h2
theorem qs(i:AX):((i%12).toNat:AX)=i%12:=u5 (bz8 i (by decide))
theorem bb3{cl:U->AD A8}{ns:I AX}:∀{vs:I A4}{as:I A8},ReadsAllW [] cl h vs (ns.map .int) as->∃rs:I O,rs.length=ns.length/\(∀r∈rs,r<12)/\Aa h [] (E8 rs) vs:=by induction ns with
 |nil=>intro vs as r;exact⟨[],rfl,λ_ m=>(by(exfalso;cases m)),(bI2 r).1⟩|cons i ns ih=>
 intro vs as r;refine VT (bI3 r) ?_;intro v vs a1 a2 BJ _ r1 r2;subst BJ;refine CZ (ih r2) ?_;intro rs hl hr hv;refine AC (readsW_int_inv r1) ?_;intro t BP _;subst BP;refine⟨(i%12).toNat::rs,congrArg (·+1) hl,λr m=>?_,_,_,rfl,⟨i,t,rfl,(qs i).symm⟩,hv⟩;rcases Cj.mp m with rfl|m;. exact fW.mp (qs i▸bz9 i (show(0:AX)<12 by decide))
 . exact hr r m
theorem bb4:([]:I (U×V))=[]/\Ah X1 Xh.name=G (.top (.ref 442)):=⟨rfl,by kernel_rfl⟩
theorem bb5(l:A8):JI (DE (Ba 37)) [.top (.ref l)]=G [(Lc,.top (.ref l))]:=by kernel_rfl
theorem bb6(P:Dq):∃o,(Bb P).lookup NS=G o:=⟨_,show(Bb P).lookup NS=G ((Bb P).lookup NS).get! by kernel_rfl⟩
theorem bb7(AM:∀(B:Bs)(P:Dq),(Bb P).In B.base->Dg B):WalkO PD R7 (λ_ _=>PT) Le.says M5.row.toRowW Xh [] λf vs=>CE f vs:=by
 intro w EN AJ mg mb Bl An a o pm cd doc cb0 cb1 ho hod hcr hdf hmg bb8 args bP8 as dt bP9 bb9 bQ0 bQ1;have AV:(Bb w.params).In AJ.heap:=kIn_of (K:=Bb) (as:=eH) (e:=qr) An;refine AC (bb2 dt) ?_;intro ds Bq UU;subst Bq;have ha:a=442:=by
  refine Bv ((GI (B:=⟨Dp,w,AJ.heap,AJ.os,AJ.gens⟩) (P:=w.params) (on:=M) (CR:=Qp) AV).ns) ?_;intro mg' mb' n3 n0 hh;have e:=bb1 Bl.T.g n3;refine AC (hh _ _ bb4.2) ?_;intro v hv q;injection hv with hv;subst hv;rw[<-e,hmg]at q;rcases q with q|Ck;rotate_left;refine xA Ck ?_;(try clear Ck);intro q _;rotate_left;. cases q;rfl
  . (exfalso;cases q)
 subst ha;refine VT (bI3 bb9) ?_;intro bQ2 OW a1 a2 Bg _ r1 r2;subst Bg;refine xA (bI2 r2) ?_;intro Bu _;subst Bu;refine iR (readsW_list_open r1) ?_;intro l ol vs n ai C9 bt bc0 bc1 OJ _;subst C9;refine CZ (bb3 OJ) ?_;intro rs hrl hr hv;have Ee:vs.size<=100:=by
  have h1:=hv.length;rw[show(E8 rs).length=rs.length from Jo _,hrl]at h1;exact B4 (Ek h1.symm) (B4 UU (by decide))
 let B:Bs:=⟨Dp,w,AJ.heap,AJ.os,AJ.gens⟩;have R8:(Bb w.params).In B.base:=AV;have hf:AL Io 442=G (DE (Ba 37)):=by kernel_rfl
 refine DB (Mm (B:=B) R8 (Mo R8) (Of w.params hf)) ?_;intro of fd ok;refine xE (bb6 w.params) ?_;intro cb2 hom;have ga:Ga B ⟨default,[],[]⟩ ⟨BV D_,50⟩ callerA ⟨[],[],0⟩ [] AJ:={len:=rfl,nodup:=HN,fresh:=λ_ m=>(by(exfalso;cases m)),live:=λ_ m=>(by(exfalso;cases m)),objs:=λ_ _ e=>(by exact(BE e).elim),base:=λ_ _ e=>e,os:=rfl,gens:=rfl,frames:=rfl,DT:=trivial,Cy:=λ_ m=>(by(exfalso;cases m)),mods:=⟨cb2,AV _ _ hom⟩,handled:=rfl,depth:=by decide,units:=by decide};have Zb:=AM B w.params R8;show AH (AQ B.prog B.w) callerA (CE (.ref 442) [.ref l]) _ _ AJ;refine aW9 (d:=49) ok (bb5 l) rfl ga (args:=[.top (.ref l)]) ⟨_,_,rfl,rfl,rfl⟩ λ{F A Ai}g keep=>?_;have hb:(DE (Ba 37)).body=[FM 0,FM 1,FM 2]:=aX3;rw[hb];have g:Gd B F ⟨BV D_,49⟩ A ⟨[(Lc,.top (.ref l))],[],0⟩ [] Ai:=g;refine DH (aY0 R8 Zb (by decide) (us:=vs) (rs:=rs) ⟨ol,bt,bc0,n,bc1⟩ hv Ee hr g λa b L0 L1 CG C7 A_ Ax Gc h0 h1 AN=>?_);refine AC (aW3 Gc h0 h1 (BV D_) CG C7) ?_;intro l2 hR hW;have o0:=XC (Bn.mp aI8 _ (XE (by omega) h0));have o1:=XC (Bn.mp aJ8 _ (XE (by omega) h1));refine DH (aY7 R8 Zb (by decide) o0 o1 hR AN λAu EG AU=>?_);refine DH (aZ7 R8 Zb (by decide) o0 o1 hW AU λA7 BS Eg Ap=>?_);refine⟨_,rfl,.inl ⟨.bool M,.bool M,[],rfl,λ_=>rfl,.bool M,?_,λ_=>⟨HN,λ_ m=>(by(exfalso;cases m))⟩⟩,.of_keep λb o e=>Ap.base b o e,Ap.os,.of_eq (Ap.gens.trans bb8)⟩;kernel_rfl
section
theorem Jg(g:Gd B F K A H C s)(hl:D0 K.sc x=M)(hv:Ah H.env x=G v)(k:∀u,VR s.heap C v u->A2 u s):AH (AQ B.prog B.w) A' (eval (.Name x pos) F.env) A2 E s:=wpAny_Name (aU g hl hv k) (aT g.kinds.sc hl).1
theorem eI{A2:DM->AR->Prop}(g:Gd B F K A H C s)(hl:G9 K.sc x=M)(r:VR s.heap C v u)(k:∀s',Gd B F K A ⟨E_ H.env x v,H.h,H.n⟩ C s'->Nx F.D F.AZ s.heap s'.heap C C->A2 () s'):AH (AQ B.prog B.w) A' (fh F.env x u) A2 E s:=by
 refine CZ g.env ?_;intro m ns ce er;rcases g.kinds.own x hl with q|B6;rotate_left;refine Hp B6 ?_;(try clear B6);intro q c hc hw;rotate_left
 . refine bs6 q ns (λQ hn hs=>?_) (ka g);refine xA (g.kV (Q:=Q) (tk:=s.toks+1) q r er hn hs) ?_;intro g' x';exact k _ g' x'
 . refine xE (ce _ (mem_of_lookup hc)) ?_;intro T9 hv;refine bs7 g.kinds.fn q hc hv (λQ hn hs=>?_);refine xA (g.kW (Q:=Q) (tk:=s.toks) q hc hw r hv hn hs) ?_;intro g' x';exact k _ g' x'
theorem qt{p':B9}{a:AX}{A2:HP->AR->Prop}(g:Gd B F K A H C s)(hl:D0 K.sc x=M)(ho:G9 K.sc x=M)(hv:Ah H.env x=G (.int a))(k:∀s',Gd B F K A ⟨E_ H.env x (.int (a+1)),H.h,H.n⟩ C s'->Nx F.D F.AZ s.heap s'.heap C C->A2 .next s'):AH (AQ B.prog B.w) A' (exec (.AugAssign (.Name x p) .Add (.Constant (.int 1) k0 p') pos) F.env) A2 E s:=by
 refine bt5 (aU g hl hv λu⟨t,e⟩=>?_);subst e;refine bs4 (bv1 ?_);exact eI ((g.tok (s.toks+1)).tok _) ho (v:=.int (a+1)) ⟨_,rfl⟩ λs' g' x'=>k s' g' x'
theorem Gd.free(g:Gd B F K A H C s){AG:I A8}(x:Nx F.D AG s.heap Q C C)(ha:∀a∈C,∀o,s.heap.get? a=G o->Q.get? a=G o)(fr:∀a∈AG,CM B F C s.heap a):Gd B F K A H C {s with heap:=Q,toks:=tk}:=by
 have vr:∀{v:V}{u:A4},VR s.heap C v u->VR Q C v u:=λr=>r.nx x;refine IN (g.D5 _ g.kinds.Ia) ?_;intro qu hL2 oL hL3;have hLX:F.env.locals∉AG:=λm=>(fr _ m).w g.kinds.Ia;have cell:∀{n:U}{c:A8}{u:AD A4},(n,c)∈F.env.cells->s.heap.IsCell c u->Q.IsCell c u:=λ{n c u}m⟨o,e,d⟩=>⟨o,x.keep c o e (g.D1 _ m).1 (λz=>(fr _ z).cells _ m rfl) (λ_=>by unfold HC;rw[d]),d⟩;refine⟨g.kinds,g.len,g.nodup,g.fresh,λa m=>?_,λa m=>?_,λc m=>?_,λi o e=>?_,?_,λb o e=>?_,g.os,g.gens,g.frames,?_,λA1 m=>?_,g.mods,g.handled,g.depth,g.units⟩;. refine xE (g.live a m) ?_;intro o e;exact⟨o,ha a m o e⟩
 . refine IN (g.D5 a m) ?_;intro p q o e;exact⟨p,q,x.live a o e⟩
 . refine H9 (g.D1 c m) ?_;intro q o e;exact⟨q,x.live _ o e⟩
 . refine AC (g.objs i o e) ?_;intro a p r;have :=r.mono (J:=[]) x.Bw λy ey=>ha a (Ew p) y ey;exact⟨a,p,by simpa using this⟩
 . exact g.env.imp (λ_ ns=>Ns.slots ns λo e=>x.data _ o e hL2 hLX) (λ_ _ _ m=>cell m) λ_ _=>vr
 . refine x.keep b o (g.base b o e) (λm=>?_) (λm=>?_) (λm=>?_);. rw[g.fresh b m]at e;exact(BE e).elim
   . rw[(fr b m).base]at e;exact(BE e).elim
   . rw[(g.DT.mem m).1]at e;exact(BE e).elim
 . have hf:∀A1∈F.outs.filterMap (·.frame),A1∉C/\A1∉AG:=λA1 m=>⟨(g.Cy A1 m).1,λz=>(fr A1 z).outs m⟩;have hL:=g.DT;revert hf hL;generalize F.outs=l;intro hf hL;show Q.FunFrames B.base l;induction l with
 |nil=>trivial|cons e r ih=>
   refine G6 hL ?_;(try clear hL);intro hk Aw hr;refine HT Aw ?_;(try clear Aw);intro A1 o D2 hb ho hd;refine xA (hf A1 (by simp[D2])) ?_;intro q1 q2;refine xE (x.data A1 o ho q1 q2) ?_;intro sl z;exact⟨hk,⟨A1,_,D2,hb,z,hd⟩,ih (λL' m'=>hf L' (by rw[RX,D2];exact Cp _ m')) hr⟩
 . refine Pq (g.Cy A1 m) ?_;intro p q o e d;refine xE (x.data A1 o e p (λz=>(fr A1 z).outs m)) ?_;(try clear z);intro sl z;exact⟨p,q,_,z,d⟩
structure XT(B:Bs)(F:Fm)(C:I A8)(Af h:BK)(e:A8)(c fl:A4):Prop where
 fe:CM B F C h e
 ne:Af.get? e=L
 obj:∃T oe vs oT ts,CM B F C h T/\Af.get? T=L/\T≠e/\h.get? e=G oe/\oe.cls=.type "IndexError"/\oe.data=.fields vs/\vs[1]?=G (.ref T)/\vs[2]?=G c/\h.get? T=G oT/\oT.data=.fields ts/\ts[3]?=G fl/\W1 oT.cls=A6
noncomputable def XN(h Q:BK)(e:A8)(c:A4):Prop:=(∀b o,h.get? b=G o->Q.get? b=G o)/\h.get? e=L/\∃oe vs,Q.get? e=G oe/\oe.cls=.type "IndexError"/\oe.data=.fields vs/\vs[1]?=G .none/\vs[2]?=G c
theorem XT.nx{e:A8}(t:XT B F C Af h e c fl)(x:Nx AM AZ h Q C AT)(hw:∀b∈AZ,b∈F.AZ):XT B F AT Af Q e c fl:=by
 obtain⟨fe,ne,T,oe,vs,oT,ts,fT,nT,Jh,he,hc,hd,h1,h2,hT,PE,h3,hi⟩:=t;refine⟨fe.nx x,ne,T,oe,vs,oT,ts,fT.nx x,nT,Jh,?_,hc,hd,h1,h2,?_,PE,h3,hi⟩;. exact x.keep _ _ he fe.C (λm=>fe.w (hw _ m)) (λ_=>by unfold HC;rw[hd])
 . exact x.keep _ _ hT fT.C (λm=>fT.w (hw _ m)) (λ_=>by unfold HC;rw[PE])
end
section
variable{e:A8}
structure XF(B:Bs)(F:Fm)(C:I A8)(Af h:BK)(e:A8)(c:A4):Prop where
 fe:CM B F C h e
 ne:Af.get? e=L
 obj:∃oe vs,h.get? e=G oe/\oe.cls=.type "IndexError"/\oe.data=.fields vs/\vs[1]?=G .none/\vs[2]?=G c
theorem qv{f:Bi->Bi}:Ds a h (h.update a f):=(Fh h a f).extBut
theorem bc2{o:Bi}(h:o.cls=.type "IndexError"):C2 o=A6:=by unfold C2;rw[h];rfl
theorem bc3{o:Bi}(h:W1 o.cls=A6):C2 o=A6:=by unfold C2;rw[h];rfl
theorem Gd.slots(g:Gd B F K A H C s)(x:Heap.SlotsOnly (F.outs.filterMap (·.frame)) s.heap Q):Gd B F K A H C {s with heap:=Q}/\Nx F.D AZ s.heap Q C C:=by
 have ex:∀b o,s.heap.get? b=G o->(b∈F.D->HC o=A6)->Q.get? b=G o:=λb o q z=>by
  rw[x.2.1 b λm=>?_];exact q;refine Pq (g.Cy b m) ?_;intro _ _ o' q' d;rw[q]at q';injection q' with q';subst q';rw[z m]at d;exact(E5 d).elim
 have nx:∀AZ,Nx F.D AZ s.heap Q C C:=λAZ=>⟨⟨[],by simp,λ_ m=>by(exfalso;cases m)⟩,λb o q=>let⟨sl,z⟩:=x.2.2 b o q;⟨_,z⟩,λb o q i=>ex b o q λ_=>by
  unfold C2 at i;unfold HC;cases hd:o.data<;>first|rfl|(rw[hd]at i;simp at i),λb o q _ _=>by
  refine xE (x.2.2 b o q) ?_;intro sl z;refine⟨sl,z,λw=>?_⟩;have :=ex b o q w;rw[z]at this;injection this with this;exact congrArg Obj.slots this⟩;exact⟨g.free (tk:=s.toks) (nx []) (λa m o q=>ex a o q λz=>absurd m (g.Cy a z).1) (λ_ m=>by(exfalso;cases m)),nx AZ⟩
theorem bc4{vs:BW A4}{oe:Bi}{qw:A4}{bc5:AK}{A2:DM->AR->Prop}(hF:F.outs=F.env::C4)(hf:F.env.frame=G F.env.locals)(hA:A'.frames=G F.outs)(g:Gd B F K A H C s)(Cv:Nx F.D F.AZ Af s.heap BG C)(fe:CM B F C s.heap e)(ne:Af.get? e=L)(he:s.heap.get? e=G oe)(hc:oe.cls=.type "IndexError")(hd:oe.data=.fields vs)(h1:1<vs.size)(h2:vs[2]?=G c)(k:∀s',Gd B F K A H C s'->Nx F.D F.AZ Af s'.heap BG C->XT B F C Af s'.heap e c (ET F.env.locals)->A2 () s'):AH (AQ B.prog B.w) A' (do let a<-frameOf F.env;let pl<-entryPlaceOf F.env.locals bc5;let b<-bV6 qw a .none (ET F.env.locals) .none pl;uA (.ref e) 1 b) A2 E s:=by
 refine A5 (wpAny_frameOf_fun (base:=B.base) (hA.trans (congrArg G hF)) (hF▸g.DT) hf λAP Ha=>?_);rw[<-hF]at Ha;refine xA (g.slots Ha (AZ:=F.AZ)) ?_;intro AN Ab;have Qb:AP.get? e=G oe:=(Ha.2.1 e fe.outs).trans he;have Ji:=Cv.trans Ab;have bc6:=fe.nx Ab;refine A5 (wpAny_entryPlaceOf λpl F_=>?_);skip;refine A5 (IG ?_ (F_.sizeOk5 _ _ _ _ _));obtain⟨BL,hO⟩:∃BL:Bi,BL={cls:=.type "traceback",dict:=L,data:=.fields ([qw,.ref F.env.locals,.none,ET F.env.locals,.none]++(if pl.isEmpty then Y4 6 Hi else pl)).toArray}:=⟨_,rfl⟩;rw[<-hO];have R9:(AP.push BL).get? AP.objs.size=G BL:=CY AP (by rw[hO];rfl);have kp:∀b o,AP.get? b=G o->(AP.push BL).get? b=G o:=λb o q=>C1 _ q;have hT:AP.get? AP.objs.size=L:=KD (DF _);have AU:=AN.ext (tk:=s.toks) kp;have Al:Nx F.D F.AZ AP (AP.push BL) C C:=Nx.ext kp;have FN:=Ji.trans Al;have fT:=AN.freeOf hT ⟨_,R9⟩;have nT:Af.get? AP.objs.size=L:=HD Ji.live hT;have Ik:=kp _ _ Qb;have qx:=bc6.nx Al;refine Ly Ik hd h1 ?_;have ek:=qv (h:=AP.push BL) (a:=e) (f:=Rz (·.setIfInBounds 1 (Jq AP.objs.size)));have Ap:=AU.move (tk:=s.toks) qx ek (λo q=>by rw[Ik]at q;injection q with q;subst q;exact bc2 hc);have IC:=FN.F2 ek ne;have UY:=gM hd (·.setIfInBounds 1 (Jq AP.objs.size));have JR:=FS (Rz (·.setIfInBounds 1 (Jq AP.objs.size))) Ik (tl UY);have Jh:AP.objs.size≠e:=PY (Dh Qb);refine k _ Ap IC ⟨qx.at ⟨_,JR⟩,ne,AP.objs.size,_,_,_,_,fT.at ⟨_,ek _ _ Jh (R9)⟩,nT,Jh,JR,(tm _ _).trans hc,UY,by simp[h1],?_,ek _ _ Jh R9,by rw[hO],?_,by rw[hO];rfl⟩;. rw[Array.getElem?_setIfInBounds_ne (by decide)];exact h2
 . first|(simp;done)|((rcases F_ with rfl|Aw;rotate_left;obtain⟨_,_,_,_,_,_,_,rfl⟩:=Aw;rotate_left)<;>simp)
theorem qy{A2:DM->AR->Prop}(hF:F.outs=F.env::C4)(hf:F.env.frame=G F.env.locals)(hA:A'.frames=G F.outs)(g:Gd B F K A H C s)(Cv:Nx F.D F.AZ Af s.heap BG C)(t:XF B F C Af s.heap e c)(k:∀s',Gd B F K A H C s'->Nx F.D F.AZ Af s'.heap BG C->XT B F C Af s'.heap e c (ET F.env.locals)->A2 () s'):AH (AQ B.prog B.w) A' (IF (.ref e) F.env) A2 E s:=by
 obtain⟨fe,ne,oe,vs,he,hc,hd,h1,h2⟩:=t;unfold IF;simp only[hf];refine A5 (Gp he hd h1 ?_);skip;exact bc4 hF hf hA g Cv fe ne he hc hd (gV.mp h1).1 h2 k
theorem Xi{A2:DM->AR->Prop}(hf:F.env.frame=G F.env.locals)(t:XT B F C Af s.heap e c (ET F.env.locals))(k:A2 () s):AH (AQ B.prog B.w) A' (IF (.ref e) F.env) A2 E s:=by
 obtain⟨fe,ne,T,oe,vs,oT,ts,fT,nT,Jh,he,hc,hd,h1,h2,hT,PE,h3,hi⟩:=t;exact wpAny_noteFrame_inFlight hf he hd h1 hT PE h3 k
theorem UZ{A2:DM->AR->Prop}{fr:AD A8}(g:Gd B F K A H C s)(Cv:Nx F.D F.AZ Af s.heap BG C)(t:XT B F C Af s.heap e c fl)(k:∀s',Gd B F K A H C s'->Nx F.D F.AZ Af s'.heap BG C->XT B F C Af s'.heap e c (fr.elim .none λf=>ET f)->A2 () s'):AH (AQ B.prog B.w) A' (hV (.ref e) fr) A2 E s:=by
 obtain⟨fe,ne,T,oe,vs,oT,ts,fT,nT,Jh,he,hc,hd,h1,h2,hT,PE,h3,hi⟩:=t;have Ee:3<ts.size:=(gV.mp h3).1;unfold hV;refine A5 (Gp he hd h1 ?_);skip;refine Ly hT PE Ee ?_;have ek:=qv (h:=s.heap) (a:=T) (f:=Rz (·.setIfInBounds 3 (fr.elim Hi λf=>ET f)));have UY:=gM PE (·.setIfInBounds 3 (fr.elim Hi λf=>ET f));have U_:=FS (Rz (·.setIfInBounds 3 (fr.elim Hi λf=>ET f))) hT (tl UY);have JR:=ek _ _ (CX Jh) he;refine k _ (g.move (tk:=s.toks) fT ek (λo q=>by rw[hT]at q;injection q with q;subst q;exact bc3 hi)) (Cv.F2 ek nT) ⟨fe.at ⟨_,JR⟩,ne,T,oe,vs,_,_,fT.at ⟨_,U_⟩,nT,Jh,JR,hc,hd,h1,h2,U_,UY,by simp[Ee],?_⟩;rw[tm];exact hi
end
theorem bc7:Lv Lw "proto.unchain"=G EB.«proto.unchain»:=entryFor_of_fast (by kernel_rfl)
section
variable{C:Type}
theorem bc8{A2:C->AR->Prop}{e0 e:A8}{o0 oe:Bi}{Lg vs:BW A4}(hh:A.handled=G (.ref e0))(he:s.heap.get? e0=G o0)(hd:o0.data=.fields Lg)(h2:Lg[2]?=G .none)(Cc:e0≠e)(Ua:s.heap.get? e=G oe)(hde:oe.data=.fields vs)(h2e:2<vs.size)(h:E (.ref e) {s with heap:=s.heap.update e (Rz (·.setIfInBounds 2 (.ref e0)))}):AH (AQ prog w) A (hZ (.ref e):Dz C) A2 E s:=by
 unfold hZ;refine A5 (to ?_);rw[hh];dsimp only;rw[DA (show(Jq e0 !=Jq e)=M from by simpa using Cc)];refine A5 (C0 (uw (J5 bc7 ?_)));skip;skip;refine A5 (Gp he hd h2 ?_);skip;refine AW ?_;show AH _ A (do updateField e 2 (Jq e0);throw (Jq e)) A2 E s;refine A5 ?_;simp only[updateField];refine A5 (NW Ua ?_);rw[hde];show AH _ A (if 2<vs.size then _ else _) _ _ _;rw[DA h2e];exact wpAny_update Ua (gO h)
theorem qz{Xj:D9}{A2:C->AR->Prop}{e0:A8}{o0:Bi}{Lg:BW A4}(hh:A.handled=G (.ref e0))(he:s.heap.get? e0=G o0)(hd:o0.data=.fields Lg)(h2:Lg[2]?=G .none)(h:∀Q tk e,XN s.heap Q e (.ref e0)->E (.ref e) {s with heap:=Q,toks:=tk}):AH (AQ prog w) A (bI4 "IndexError" Xj:Dz C) A2 E s:=by
 unfold bI4;refine A5 (u6 (A5 ?_));skip;refine A5 (IG ?_);refine A5 (m:=V6 _ _) (NY (a:=Hi) (by simp only[V6,plainExc_IndexError.first];rfl) ?_);skip;refine IG ?_;have Xk:=C1 (h:=s.heap) {cls:=Kr "tuple",data:=gy #[M0 (Ev Xj) s.toks]} he;have CF:=Dh Xk;have Ua:=CY (s.heap.push {cls:=Kr "tuple",data:=gy #[M0 (Ev Xj) s.toks]}) (o:={cls:=.type "IndexError",data:=.fields (#[.ref s.heap.objs.size,.none,.none,.none,.bool A6,.none]++#[])}) rfl;refine bc8 (oe:={cls:=.type "IndexError",data:=.fields (#[.ref s.heap.objs.size,.none,.none,.none,.bool A6,.none]++#[])}) hh (C1 _ Xk) hd h2 (ER CF) Ua rfl (show 2<6 by decide) ?_;refine h _ _ _ ⟨λb o q=>?_,KD (by show s.heap.objs.size<=(s.heap.push _).objs.size;rw[II];(with_reducible exact H4 _ _)),_,_,FS _ Ua rfl,rfl,rfl,rfl,rfl⟩;have q1:=C1 (h:=s.heap) {cls:=Kr "tuple",data:=gy #[M0 (Ev Xj) s.toks]} q;show((_:BK).update _ _).get? b=_;rw[GO _ _ (CX (ER (Dh q1)))];exact C1 _ q1
noncomputable def r0(A:CK)(h:BK):Prop:=A.handled=L\/∃e0 o0 Lg,A.handled=G (.ref e0)/\h.get? e0=G o0/\o0.data=.fields Lg/\Lg[2]?=G Hi
theorem bc9{l:A8}{k:AX}(hA:r0 A s.heap)(hl:s.heap.IsList l Cb)(eJ:(Cb.size:AX)<=k)(eK:k<2^63)(hE:∀Q tk e c,XN s.heap Q e c->(A.handled=L->c=.none)->E (.ref e) {s with heap:=Q,toks:=tk}):AH (AQ prog w) A (Pb (.ref l) (.int k t)) A2 E s:=by
 rcases hA with hA|Aw;rotate_left;refine JB Aw ?_;(try clear Aw);intro e0 o0 Lg hh he r4 h2;rotate_left;. exact wpAny_getItem_list_out hA hl (.inr eJ) (by omega) eK λQ tk e x=>hE Q tk e .none ⟨x.keeps,x.new,let⟨ob,t,q,cb3,cb4⟩:=x.there;⟨ob,_,q,cb3,cb4,rfl,rfl⟩⟩ λ_=>rfl
 . refine Pr (id hl) ?_;intro o ho hc ne hd;unfold Pb;try with_reducible refine C0 ?_
   first|refine A5 (AW ?_)|skip
   refine A5 (tY hl.typeIs (by decide) ?_);refine A5 (Lu (name:=Ev "__getitem__") hl.typeIs Pe (Gn Pe hl.typeIs entry_list_getitem ?_ (args_list_getitem _ _)));show AH _ _ (bB0 (.int k t)>>=_) _ _ s;refine A5 (bB1 (fitsIndex_both (by omega) eK) ?_);clear eK;cases k with
 |ofNat j=>
    have hx:Cb[j]?=L:=Array.getElem?_eq_none (by have :(Cb.size:AX)<=(j:AX):=eJ;omega);skip;refine A5 (A5 (bB2 ho hd (AW ?_)));rw[hx];first
    |exact A5 (Gm (by refine qz (by exact hh) he r4 h2 λQ tk e x=>hE Q tk e _ x λz=>by rw[hh]at z;cases z))|exact A5 (Gm (A5 (by refine qz (by exact hh) he r4 h2 λQ tk e x=>hE Q tk e _ x λz=>by rw[hh]at z;(exfalso;cases z))))
 |negSucc j=>exact absurd eJ (by have :=Int.negSucc_lt_zero j;omega)
end
noncomputable def Lh(A9:As):AD (U×U×U):=S5 A9 L λt b e _=>Kt t L λc o r _=>JA c L λl i _=>DO l L λl _=>DO i L λi _=>l1 r L λr=>DO r L λk _=>l1 b L λb=>VO b L λj o' z _=>DO j L λj _=>HS z L λz _ _=>l0 e L (bT (Cw i j&&(decide (o=[.Eq])&&(decide (o'=.Add)&&decide (z=.int 1)))) L (G (l,i,k)))
theorem bd0{l i k:U}(h:Lh A9=G (l,i,k)){P:As->Prop}(c:∀p1 p2 p3 p4 p5 p6 k0 p7 p8 p9,P (.While (.Compare (.Subscript (.Name l p1) (.Name i p2) p3) [.Eq] [.Name k p4] p5) [.AugAssign (.Name i p6) .Add (.Constant (.int 1) k0 p7) p8] [] p9)):P A9:=by
 apply iE h AF;intro t b e p9 h;apply S4 h AF;intro t o r p5 h;apply Nk h AF;intro l' i' p3 h;apply EV h AF;intro l' p1 h;apply EV h AF;intro i' p2 h;apply Cs h AF;intro r h;apply EV h AF;intro k' p4 h;apply Cs h AF;intro b h;apply iG h AF;intro j o' z p8 h;apply EV h AF;intro j p6 h;apply J9 h AF;intro z k0 p7 h;apply EW h AF;intro h;refine Ce h AF λq h=>?_;apply xq (B1 q);apply IM (B1 (Ak q));apply IM (B1 (Ak (Ak q)));apply IM (Ak (Ak (Ak q)));apply M8 h.symm;exact c ..
noncomputable def Li(env CV:I (U×V))(i:U)(q:O):Prop:=∀y,Ah CV y=if i=y then G (.int (q:AX))else Ah env y
section
variable{e:A8}
noncomputable def Cm(B:Bs)(F:Fm)(C:I A8)(Af:BK)(A:CK)(h:BK):Prop:=A.handled=L\/∃e0 fl,A.handled=G (.ref e0)/\XT B F C Af h e0 .none fl
theorem Cm.calm(x:Cm B F C Af A h):r0 A h:=by
 rcases x with x|Bq;rotate_left;refine EX Bq ?_;(try clear Bq);intro e0 fl x t;rotate_left;. exact .inl x
 . obtain⟨_,_,T,oe,vs,oT,ts,_,_,_,he,_,hd,_,h2,_⟩:=t;exact .inr ⟨e0,oe,vs,x,he,hd,h2⟩
theorem Cm.nx(x:Cm B F C Af A h)(y:Nx AM AZ h Q C C)(hw:∀b∈AZ,b∈F.AZ):Cm B F C Af A Q:=by
 rcases x with x|Bg;rotate_left;refine EX Bg ?_;(try clear Bg);intro e0 fl x t;rotate_left;. exact .inl x
 . exact .inr ⟨e0,fl,x,t.nx y hw⟩
theorem r5{t x:Tx}{Y:I Tx}(h:CU x t=M):DG t (x::Y)=DG t Y:=by rw[DG,h]
theorem bd1{t x:Tx}{Y:I Tx}(h:CU x t=A6):DG t (x::Y)=x::Y:=by rw[DG,h]
theorem item_at{l i:U}{p:O}{Y:I Tx}(hf:Y.length<=100000)(hl:D0 K.sc l=M)(hi:D0 K.sc i=M)(g:Gd B F K A H C s)(el:Ah H.env l=G (.ref r))(hr:AL H.h r=G (.list (Y.map .str)))(ei:Ah H.env i=G (.int (p:AX)))(hp:p<=Y.length)(Cv:Nx F.D F.AZ Af s.heap BG C)(hC:Cm B F C Af A' s.heap)(cb5:∀u x,Y[p]?=G x->VR s.heap C (.str x) u->A2 u s)(ke:∀s' e c,p=Y.length->Gd B F K A H C s'->Nx F.D F.AZ Af s'.heap BG C->XF B F C Af s'.heap e c->(A'.handled=L->c=.none)->E (.ref e) s'):AH (AQ B.prog B.w) A' (eval (.Subscript (.Name l p1) (.Name i p2) p3) F.env) A2 E s:=by
 refine YQ (Jg g hl el λu ru=>Jg g hi ei λw Fd=>?_);refine Bv (g.listAt ru hr) ?_;intro a us Aw F_ vr;clear ru;subst Aw;refine xE Fd ?_;(try clear Fd);intro tk B6;subst B6;have Ch:us.size=Y.length:=by have :=vr.length;simpa using this.symm
 refine Kp F_.isList.typeIs Pe.lookup ?_ (OR (by intro a b p z;(exfalso;cases z)));by_cases CF:p<Y.length
 . have e2:(Y.map V.str)[p]?=G (.str Y[p]):=by simp[CF]
   refine AC (vr.get e2) ?_;intro y ey ry;exact tq F_.isList (by(with_reducible exact fU _)) (by omega) (by simpa using ey) (cb5 y _ (Hl CF) ry)
 . refine bc9 hC.calm F_.isList (by omega) (by omega) λQ tk' e c x hc=>?_;refine EX x.2.2 ?_;intro oe vs he r;exact ke _ e c (by(with_reducible exact Mine.yF (by assumption) (by assumption))) (g.ext (tk:=tk') x.1) (Cv.trans (Nx.ext x.1)) ⟨g.freeOf x.2.1 ⟨oe,he⟩,HD Cv.live x.2.1,oe,vs,he,r⟩ hc
noncomputable def eM(B:Bs)(F:Fm)(K:Kx)(A A':CK)(H:Mine.St)(C BG:I A8)(Af:BK)(l i k:U)(p1 p2 p3 p4 p5 p6 p7 p8:B9)(k0 r:O)(Y:I Tx)(t:Tx)(m:O):Prop:=∀(p:O){env:I (U×V)}{s:AR},m+p=Y.length->Gd B F K A ⟨env,H.h,H.n⟩ C s->Ah env l=G (.ref r)->Ah env i=G (.int (p:AX))->Ah env k=G (.str t)->Nx F.D F.AZ Af s.heap BG C->Cm B F C Af A' s.heap->∀{AS:Dt->AR->Prop},(∀q CV s',q<Y.length->Y.drop q=DG t (Y.drop p)->Li env CV i q->Gd B F K A ⟨CV,H.h,H.n⟩ C s'->Nx F.D F.AZ Af s'.heap BG C->Cm B F C Af A' s'.heap->AS (.ok .next) s')->(∀CV s' e c,DG t (Y.drop p)=[]->Li env CV i Y.length->Gd B F K A ⟨CV,H.h,H.n⟩ C s'->Nx F.D F.AZ Af s'.heap BG C->XT B F C Af s'.heap e c (ET F.env.locals)->(A'.handled=L->c=.none)->AS (.error (.ref e)) s')->D7 (AQ B.prog B.w) A' (.whileLoop (.Compare (.Subscript (.Name l p1) (.Name i p2) p3) [.Eq] [.Name k p4] p5) [.AugAssign (.Name i p6) .Add (.Constant (.int 1) k0 p7) p8] [] F.env) AS s
theorem r6{l i k:U}{p5 p6 p7 p8:B9}{Y:I Tx}{t:Tx}(hf:Y.length<=100000)(hl:D0 K.sc l=M)(hi:D0 K.sc i=M)(ho:G9 K.sc i=M)(hk:D0 K.sc k=M)(n1:i≠l)(n2:i≠k)(hF:F.outs=F.env::C4)(D2:F.env.frame=G F.env.locals)(hA:A'.frames=G F.outs)(hr:AL H.h r=G (.list (Y.map .str)))(ih:∀m',m=m'+1->eM B F K A A' H C BG Af l i k p1 p2 p3 p4 p5 p6 p7 p8 k0 r Y t m'):eM B F K A A' H C BG Af l i k p1 p2 p3 p4 p5 p6 p7 p8 k0 r Y t m:=by
 intro p env s hm g el ei ek Cv hC AS kn ke;have same:Li env env i p:=λy=>by
   by_cases z:i=y;. rw[DA z,<-z,ei]
   . rw[CS z]
 refine WE (fj (item_at hf hl hi g el hr ei (by omega) Cv hC (λu x hx ru=>?_) λs' e c hp g' N' tf hc=>?_) rfl)
 . have CF:p<Y.length:=(HM.mp hx).1;have eN:Y.drop p=x::Y.drop (p+1):=by rw[YM CF,(HM.mp hx).2]
   refine Jg g hk ek λw Fd=>?_;refine xE ru ?_;(try clear ru);intro t1 BJ;subst BJ;refine xE Fd ?_;(try clear Fd);intro t2 BP;subst BP;refine bw2 (NV ?_);rw[show((⟨⟨x⟩⟩:U).cps.toList==(⟨⟨t⟩⟩:U).cps.toList)=CU x t from TQ];cases q:CU x t with
 |false=>
    rw[CS (by simp)];exact kn p env s CF (by rw[eN,bd1 q]) same g Cv hC|true=>
    rw[DA rfl];refine DH (qt g hi ho ei λs' g' x'=>G2 ?_);obtain⟨m',rfl⟩:∃m',m=m'+1:=⟨m-1,by(with_reducible exact Mine.vm (by assumption) (by assumption))⟩;have Ja:∀y,Ah (E_ env i (.int ((p:AX)+1))) y=if i=y then G (.int ((p+1:O):AX))else Ah env y:=λy=>by rw[QJ];simp
    have tr:∀{q:O}{CV:I (U×V)},Li (E_ env i (.int ((p:AX)+1))) CV i q->Li env CV i q:=λhe y=>by
     rw[he y];by_cases z:i=y;. rw[DA z,DA z]
     . rw[CS z,CS z,Ja y,CS z]
    refine ih m' rfl (p+1) (by(with_reducible exact Mine.wG (by assumption))) g' ?_ ?_ ?_ (Cv.trans x') (hC.nx x' λ_ m=>m) (λq CV s' h1 h2 h3=>kn q CV s' h1 (by rw[h2,eN,r5 (by assumption)]) (tr h3)) (λCV s' e c h2 h3=>ke CV s' e c (by rw[eN,r5 (by assumption)];exact h2) (tr h3));. rw[Ja,CS n1];exact el
    . rw[Ja,DA rfl]
    . rw[Ja,CS n2];exact ek
 . show AH _ A' (IF (.ref e) F.env) _ _ _;refine qy hF D2 hA g' N' tf λKc PF Ub t'=>ke env Kc e c ?_ (hp▸same) PF Ub t' hc;rw[hp,Jt];rfl
theorem bd2{l i k:U}{p5 p6 p7 p8:B9}{Y:I Tx}{t:Tx}(hf:Y.length<=100000)(hl:D0 K.sc l=M)(hi:D0 K.sc i=M)(ho:G9 K.sc i=M)(hk:D0 K.sc k=M)(n1:i≠l)(n2:i≠k)(hF:F.outs=F.env::C4)(D2:F.env.frame=G F.env.locals)(hA:A'.frames=G F.outs)(hr:AL H.h r=G (.list (Y.map .str)))(m:O):eM B F K A A' H C BG Af l i k p1 p2 p3 p4 p5 p6 p7 p8 k0 r Y t m:=by induction m with
 |zero=>exact r6 hf hl hi ho hk n1 n2 hF D2 hA hr λm' e=>by(exfalso;cases e)|succ m ih=>exact r6 hf hl hi ho hk n1 n2 hF D2 hA hr λm' e=>YT e▸ih
end
noncomputable def eO(A9:As)(m:U)(k:U->AA->AD J):AD J:=Pn A9 L λe _=>ED e L λf a w p=>H8 f L λo m' ap=>DO o L λo _=>l1 a L λa=>l0 w L (bT (Cw m' m&&BC ap.endLine p.line) L (k o a))
theorem r7{m:U}{k:U->AA->AD J}{r:J}(h:eO A9 m k=G r){P:As->Prop}(c:∀o a p0 ap p p2,k o a=G r->(ap:B9).endLine=(p:B9).line->P (.Expr (.Call (.Attribute (.Name o p0) m ap) [a] [] p) p2)):P A9:=by
 apply Yq h AF;intro e p2 h;apply M6 h AF;intro f a w p h;apply S3 h AF;intro o m' ap h;apply EV h AF;intro o p0 h;apply Cs h AF;intro a h;apply EW h AF;intro h;refine Ce h AF λq h=>?_;rw[E2.mp (B1 q)];exact c _ _ _ _ _ _ h (CD (Ak q))
noncomputable def Xl(A9:As):AD (U×U):=eO A9 (⟨⟨[97,112,112,101,110,100]⟩⟩:U) λo a=>DO a L λx _=>G (o,x)
theorem bd3{o:U}(h:Xl A9=G (o,x)){P:As->Prop}(c:∀p0 ap p1 pos p2,(ap:B9).endLine=(pos:B9).line->P (.Expr (.Call (.Attribute (.Name o p0) (⟨⟨[97,112,112,101,110,100]⟩⟩:U) ap) [.Name x p1] [] pos) p2)):P A9:=by
 apply r7 h;intro o' a p0 ap p p2 h q;apply EV h AF;intro x' p1 h;apply vR h.symm;exact c _ _ _ _ _ q
noncomputable def RA(A9:As):AD (U×U×U):=eO A9 (⟨⟨[101,120,116,101,110,100]⟩⟩:U) λo a=>JA a L λl s _=>DO l L λl _=>Nm s L λa b c _=>oN b L (oN c L (oS a L λi=>DO i L λi _=>G (o,l,i)))
theorem bd4{o l i:U}(h:RA A9=G (o,l,i)){P:As->Prop}(c:∀p0 ap p1 p2 sp p3 pos p4,(ap:B9).endLine=(pos:B9).line->P (.Expr (.Call (.Attribute (.Name o p0) (⟨⟨[101,120,116,101,110,100]⟩⟩:U) ap) [.Subscript (.Name l p1) (.Slice (G (.Name i p2)) L L sp) p3] [] pos) p4)):P A9:=by
 apply r7 h;intro o' a p0 ap p p2 h q;apply Nk h AF;intro l' s p3 h;apply EV h AF;intro l' p1 h;apply iC h AF;intro a b c' sp h;apply GQ h AF;intro h;apply GQ h AF;intro h;apply Np h AF;intro i' h;apply EV h AF;intro i' p2 h;apply M8 h.symm;exact c _ _ _ _ _ _ _ _ q
section
variable{e:A8}
theorem bd5{l:I J}{p:O}:Hv l (G (p:AX)) L=l.drop p:=by
 show(l.take l.length).drop (Hj l.length p)=_;rw[bI5,clipAt_nat];by_cases h:p<=l.length;. rw[bH7 h]
 . rw[bH6 (uh h),Jt,List.drop_of_length_le (uh h)]
theorem r8{o m:U}{id:D9}{p0 ap:B9}{arg:AA}{A2:HP->AR->Prop}(F_:CP arg=M)(Uc:ap.endLine=pos.line)(hl:D0 K.sc o=M)(g:Gd B F K A H C s)(ho:Ah H.env o=G (.ref r))(hr:AL H.h r=G (.list Y))(slot:M1 "list" m id)(Tq:Hh (.builtin id)=pure (.type "method_descriptor"))(k:∀a us n,C[r]?=G a->s.heap.get? a=G {cls:=.type "list",data:=.seq us n}->Aa s.heap C Y us.toList->AH (AQ B.prog B.w) A' (PZ pos (.builtin id) [.ref a] [(A6,eval arg F.env)] []) (λ_=>A2 .next) E s):AH (AQ B.prog B.w) A' (exec (.Expr (.Call (.Attribute (.Name o p0) m ap) [arg] [] pos) p2) F.env) A2 E s:=by
 refine bt3 ?_ (by have :=g.kinds.fn;unfold interactive;simp[this]) (TD rfl);skip;refine A5 (Jg g hl ho λu ru=>A5 (El ?_));have HF:E' [arg] F.env=[(A6,eval arg F.env)]:=K8 F_;show AH _ A' (P_ (.Name o p0) m ap pos F.env u 1 (F9 pos (E' [arg] F.env)) (Ut pos (Uu [] F.env))) _ E s;rw[HF];unfold P_;skip;refine A5 (C0 ?_);show AH _ A' (Jm u m _) _ E s;refine AC ru ?_;(try clear ru);intro a ha Aw;subst Aw;refine AC (g.obj hr ha) ?_;intro us B6 vr;refine xE B6 ?_;(try clear B6);intro n hg;refine gv ⟨_,hg,rfl⟩ bF3 slot Tq (λb e=>by injection e with e;subst e;exact⟨_,hg,rfl⟩) ?_;show AH _ A' (Jn M (.Name o p0) F.env ap pos>>=λp=>PZ p (.builtin id) [.ref a] [(A6,eval arg F.env)] []) _ E s;have OG:Jn M (.Name o p0) F.env ap pos=pure pos:=by
  unfold Jn;have :(ap.endLine==pos.line)=M:=by simpa using Uc
  rw[this];rfl
 rw[OG];exact A5 (AW (k a us n ha hg vr))
theorem r9{o:U}{A2:HP->AR->Prop}(hS:Xl A9=G (o,x))(hl:D0 K.sc o=M)(hx:D0 K.sc x=M)(g:Gd B F K A H C s)(ho:Ah H.env o=G (.ref r))(hr:AL H.h r=G (.list Y))(hf:Y.length<=100000)(hv:Ah H.env x=G v)(k:∀s',Gd B F K A (H.set r (.list (Y++[v]))) C s'->Nx F.D [] s.heap s'.heap C C->A2 .next s'):AH (AQ B.prog B.w) A' (exec A9 F.env) A2 E s:=by
 apply bd3 hS;intro p0 ap p1 pos p2 Uc;refine r8 rfl Uc hl g ho hr (id:="list.append") bF1 bF2 λa us n ha hg vr=>PySem.P.append_list (Jg g hx hv λw Fd=>?_);have Ch:Y.length=us.size:=by rw[vr.length];simp
 refine⟨us,n,B4 (show us.size<=100000 by(with_reducible exact Mine.yS (by assumption) (by assumption))) (by decide),hg,?_⟩;have Ud:=FS (GN λY=>Y.push w) hg rfl;refine xA (g.set (Q:=s.heap.update a (GN λY=>Y.push w)) (tk:=s.toks) (o':=.list (Y++[v])) ha hr (λ_ _ e=>by(exfalso;cases e)) (Fh ..).extBut ⟨_,Ud⟩ λim=>⟨us.push w,⟨_,Ud⟩,by rw[VE];exact(vr.Bw im).app ⟨_,_,rfl,Fd.Bw im,rfl⟩⟩) ?_;intro g' x';exact k _ g' x'
theorem rA{o l i:U}{b p:O}{Av:I V}{A2:HP->AR->Prop}(hS:RA A9=G (o,l,i))(hl:D0 K.sc o=M)(I7:D0 K.sc l=M)(hi:D0 K.sc i=M)(g:Gd B F K A H C s)(ho:Ah H.env o=G (.ref r))(hr:AL H.h r=G (.list Av))(hM:Av.length<=1000000)(hb:Ah H.env l=G (.ref b))(cG:AL H.h b=G (.list Y))(hf:Y.length<=100000)(hv:Ah H.env i=G (.int (p:AX)))(k:∀s',Gd B F K A (H.set r (.list (Av++Y.drop p))) C s'->Nx F.D [] s.heap s'.heap C C->A2 .next s'):AH (AQ B.prog B.w) A' (exec A9 F.env) A2 E s:=by
 apply bd4 hS;intro p0 ap p1 p2 sp p3 pos p4 Uc;refine r8 rfl Uc hl g ho hr (id:="list.extend") PySem.F.slot_list_extend PySem.F.type_list_extend λa us n ha hg vr=>PySem.P.extend_list (YQ (Jg g I7 hb λu ru=>tw (Jg g hi hv λw Fd=>?_)));skip;refine AW (AW ?_);refine xE Fd ?_;(try clear Fd);intro t BJ;subst BJ;refine Bv (g.listAt ru cG) ?_;intro y IB BP hp rB;clear ru;subst BP;have I7:IB.size<=100000:=by have :=rB.length;simp at this;(with_reducible exact Mine.yS (by assumption) (by assumption))
 have Eh:us.size<=1000000:=by have :=vr.length;simp at this;(with_reducible exact Mine.yS (by assumption) (by assumption))
 have kp:∀b o,s.heap.get? b=G o->(s.heap.push {cls:=.type "slice",data:=.fields #[.int (p:AX) t,.none,.none]}).get? b=G o:=λb o e=>C1 _ e;have g1:=g.ext (tk:=s.toks) kp;have R5:(s.heap.push {cls:=.type "slice",data:=.fields #[.int (p:AX) t,.none,.none]}).PlainList y IB:=hp.at (λo e=>kp _ _ e);refine Kp (s:={s with heap:=s.heap.push {cls:=.type "slice",data:=.fields #[.int (p:AX) t,.none,.none]}}) R5.isList.typeIs Pe.lookup (tv R5.isList ⟨_,CY _ rfl,rfl,rfl⟩ (IsPart.int (p:AX) t) gX gX (by simp) ?_ (B4 I7 (by decide))) rfl;have hz:(Hk IB (G (p:AX)) L L).size<=IB.size:=by rw[by3];simp
 have LD:∀b o,s.heap.get? b=G o->((s.heap.push {cls:=.type "slice",data:=.fields #[.int (p:AX) t,.none,.none]}).push {cls:=.type "list",data:=.seq (Hk IB (G (p:AX)) L L)}).get? b=G o:=λb o e=>C1 _ (kp b o e);have g2:=g.ext (tk:=s.toks) LD;have rC:=LD _ _ hg;refine⟨_,us,Hk IB (G (p:AX)) L L,n,0,B4 Eh (by decide),B4 (show us.size+(Hk IB (G (p:AX)) L L).size<=1100000 by(with_reducible exact Mine.iZ (by assumption) (by assumption) (by assumption))) (by decide),?_,rfl,rC,CY _ rfl,?_⟩
 . unfold bV7;have h3:us.size+(Hk IB (G (p:AX)) L L).size<=1100000:=by(with_reducible exact Mine.iZ (by assumption) (by assumption) (by assumption))
   have h4:¬(us.size+(Hk IB (G (p:AX)) L L).size>FA):=by
    have :1100000<=FA:=by decide
    omega
   simp[h4]
 . have Ud:=FS (GN λY=>Y++Hk IB (G (p:AX)) L L) rC rfl;refine xA (g2.set (tk:=s.toks) (o':=.list (Av++Y.drop p)) ha hr (λ_ _ e=>by(exfalso;cases e)) (Fh _ a (GN λY=>Y++Hk IB (G (p:AX)) L L)).extBut ⟨_,Ud⟩ λim=>by
    refine⟨us++Hk IB (G (p:AX)) L L,⟨_,Ud⟩,?_⟩;rw[Array.toList_append];refine Aa.app ?_ ?_;. exact(vr.Bw (λb o e _=>LD b o e)).Bw im
    . have :=bK (rB.Bw (λb o e _=>LD b o e)) (G (p:AX)) L;rw[bd5]at this;exact this.Bw im) ?_;intro g' x';exact k _ g' ((Nx.ext LD).trans x')
end
section
variable{e:A8}{Av:I Tx}
theorem Gd.view{env:I (U×V)}{h Q:I (O×Ob)}(g:Gd B F K A ⟨env,h,m⟩ C s)(he:∀p∈CV,Ah env p.1=G p.2)(hh:∀p∈Q,AL h p.1=G p.2):Gd B F K A ⟨CV,Q,m⟩ C s:=⟨g.kinds,g.len,g.nodup,g.fresh,g.live,g.D5,g.D1,λi o e=>g.objs i o (hh _ (T3 e)),let⟨q,ns,ce,r⟩:=g.env;⟨q,ns,ce,λx v e=>r x v (he _ (FF e))⟩,g.base,g.os,g.gens,g.frames,g.DT,g.Cy,g.mods,g.handled,g.depth,g.units⟩
theorem Nx.w0(x:Nx AM [] h Q C AT):Nx AM AZ h Q C AT:=x.FZ
noncomputable def XU(B:Bs)(F:Fm)(C:I A8)(Af h:BK)(e:A8)(c:A4):Prop:=XF B F C Af h e c\/XT B F C Af h e c (ET F.env.locals)
theorem bd6{A2:DM->AR->Prop}(hF:F.outs=F.env::C4)(hf:F.env.frame=G F.env.locals)(hA:A'.frames=G F.outs)(g:Gd B F K A H C s)(Cv:Nx F.D F.AZ Af s.heap BG C)(t:XU B F C Af s.heap e c)(k:∀s',Gd B F K A H C s'->Nx F.D F.AZ Af s'.heap BG C->XT B F C Af s'.heap e c (ET F.env.locals)->A2 () s'):AH (AQ B.prog B.w) A' (IF (.ref e) F.env) A2 E s:=by
 rcases t with t|t;. exact qy hF hf hA g Cv t k
 . exact Xi hf t (k s g Cv t)
theorem rE(hf:F.env.frame=G F.env.locals)(g:Gd B F K A H C s)(Cv:Nx F.D F.AZ Af s.heap BG C)(t:XT B F C Af s.heap e c fl)(k:∀s',Gd B F K A H C s'->Nx F.D F.AZ Af s'.heap BG C->XT B F C Af s'.heap e c (ET F.env.locals)->E (.ref e) s'):ux (AQ B.prog B.w) A' F.env E (.ref e) s:=by
 unfold ux;obtain⟨fe,ne,T,oe,vs,oT,ts,fT,nT,Jh,he,hc,hd,h1,r⟩:=id t;refine A5 (Gp he hd h1 ?_);skip;rw[hf];exact UZ g Cv t k
theorem bd7{tag:D9}{A2:J->AR->Prop}(hf:F.env.frame=G F.env.locals)(g:Gd B F K A H C s)(Cv:Nx F.D F.AZ Af s.heap BG C)(t:XT B F C Af s.heap e c fl)(k:∀s',Gd B F K A H C s'->Nx F.D F.AZ Af s'.heap BG C->XT B F C Af s'.heap e c (ET F.env.locals)->E (.ref e) s'):AH (AQ B.prog B.w) A' (passOn tag (.ref e) F.env:Dz J) A2 E s:=by
 unfold passOn;obtain⟨fe,ne,T,oe,vs,oT,ts,fT,nT,Jh,he,hc,hd,h1,r⟩:=id t;refine A5 (Gp he hd h1 ?_);skip;rw[hf];exact A5 (UZ g Cv t λs' g' N' t'=>gO (k s' g' N' t'))
theorem Xm{l i k:U}{p:O}{Y:I Tx}{t:Tx}{A2:HP->AR->Prop}(hS:Lh A9=G (l,i,k))(hf:Y.length<=100000)(hl:D0 K.sc l=M)(hi:D0 K.sc i=M)(ho:G9 K.sc i=M)(hk:D0 K.sc k=M)(n1:i≠l)(n2:i≠k)(hF:F.outs=F.env::C4)(D2:F.env.frame=G F.env.locals)(hA:A'.frames=G F.outs)(hr:AL H.h r=G (.list (Y.map .str)))(hp:p<=Y.length)(g:Gd B F K A H C s)(el:Ah H.env l=G (.ref r))(ei:Ah H.env i=G (.int (p:AX)))(ek:Ah H.env k=G (.str t))(Cv:Nx F.D F.AZ Af s.heap BG C)(hC:Cm B F C Af A' s.heap)(kn:∀q CV s',q<Y.length->Y.drop q=DG t (Y.drop p)->Li H.env CV i q->Gd B F K A ⟨CV,H.h,H.n⟩ C s'->Nx F.D F.AZ Af s'.heap BG C->Cm B F C Af A' s'.heap->A2 .next s')(ke:∀CV s' e c,DG t (Y.drop p)=[]->Li H.env CV i Y.length->Gd B F K A ⟨CV,H.h,H.n⟩ C s'->Nx F.D F.AZ Af s'.heap BG C->XT B F C Af s'.heap e c (ET F.env.locals)->(A'.handled=L->c=.none)->E (.ref e) s'):AH (AQ B.prog B.w) A' (exec A9 F.env) A2 E s:=by
 apply bd0 hS;intro p1 p2 p3 p4 p5 p6 k0 p7 p8 p9;refine tK (bd2 hf hl hi ho hk n1 n2 hF D2 hA hr (Y.length-p) p (by(with_reducible exact Y0 (by assumption))) g el ei ek Cv hC kn λCV s' e c h1 h2 g' N' t' hc=>?_);exact rE D2 g' N' t' λKc PF Ub HB=>ke CV Kc e c h1 h2 PF Ub HB hc
noncomputable def rG(A9:As):AD (I As×As×I As):=Nn A9 L λb h o f _=>l1 h L λh=>l0 o L (l0 f L (Yt h λt n hb _=>oS t L λt=>DO t L λx _=>oN n L (lC hb L λh0 hb=>bT (Cw x (⟨⟨[73,110,100,101,120,69,114,114,111,114]⟩⟩:U)) L (G (b,h0,hb)))))
theorem bd8{b hb:I As}{h0:As}(h:rG A9=G (b,h0,hb)){P:As->Prop}(c:∀p1 p2 p3,P (.Try b [.ExceptHandler (G (.Name (⟨⟨[73,110,100,101,120,69,114,114,111,114]⟩⟩:U) p1)) L (h0::hb) p2] [] [] p3)):P A9:=by
 apply iH h AF;intro b Q o f p3 h;apply Cs h AF;intro Q h;apply EW h AF;intro h;apply EW h AF;intro h;apply vQ h;intro t n hb p2 h;apply Np h AF;intro t h;apply EV h AF;intro x p1 h;apply GQ h AF;intro h;apply FT h AF;intro h0 hb h;refine Ce h AF λq h=>?_;rw[E2.mp q];apply M8 h.symm;exact c ..
noncomputable def eP(A9:As):AD (I As×As×I As):=Nn A9 L λb h o f _=>l0 h L (l0 o L (lC f L λcb6 fs=>G (b,cb6,fs)))
theorem bd9{b hb:I As}{h0:As}(h:eP A9=G (b,h0,hb)){P:As->Prop}(c:∀p3,P (.Try b [] [] (h0::hb) p3)):P A9:=by
 apply iH h AF;intro b Q o f p3 h;apply EW h AF;intro h;apply EW h AF;intro h;apply FT h AF;intro h0 hb h;apply M8 h.symm;exact c _
noncomputable def eQ(A9:As):AD (AA×I As×I As):=Jv A9 L λt a b _=>G (t,a,b)
theorem rH{a b:I As}{t:AA}(h:eQ A9=G (t,a,b)){P:As->Prop}(c:∀p3,P (.If t a b p3)):P A9:=by
 apply Yp h AF;intro t a b p h;apply M8 h.symm;exact c _
noncomputable def eR(A9:As):AD (U×U×U):=Po A9 L λx v _=>l1 x L λx=>DO x L λx _=>JA v L λl i _=>DO l L λl _=>DO i L λi _=>G (x,l,i)
theorem rI{l i:U}(h:eR A9=G (x,l,i)){P:As->Prop}(c:∀p1 p2 p3 p4 p5,P (.Assign [.Name x p1] (.Subscript (.Name l p2) (.Name i p3) p4) p5)):P A9:=by
 apply iF h AF;intro x v p5 h;apply Cs h AF;intro x h;apply EV h AF;intro x p1 h;apply Nk h AF;intro l i p4 h;apply EV h AF;intro l p2 h;apply EV h AF;intro i p3 h;apply M8 h.symm;exact c ..
noncomputable def Ue(o:PP)(x y:U)(e:AA):AK:=Kt e A6 λa o' b _=>DO a A6 λa _=>l1 b A6 λb=>DO b A6 λb _=>Cw a x&&(Cw b y&&decide (o'=[o]))
theorem rJ{o:PP}{y:U}{e:AA}(h:Ue o x y e=M){P:AA->Prop}(c:∀p1 p2 p3,P (.Compare (.Name x p1) [o] [.Name y p2] p3)):P e:=by
 apply S4 h B0;intro a o' b p3 h;apply EV h B0;intro a p1 h;apply Cs h B0;intro b h;apply EV h B0;intro b p2 h;rw[E2.mp (B1 h),E2.mp (B1 (Ak h)),of_decide_eq_true (Ak (Ak h))];exact c ..
noncomputable def N7(A9:As):AD U:=VO A9 L λi o z _=>DO i L λi _=>HS z L λz _ _=>bT (decide (o=.Add)&&decide (z=.int 1)) L (G i)
theorem be0{i:U}(h:N7 A9=G i){P:As->Prop}(c:∀p1 k0 p2 p3,P (.AugAssign (.Name i p1) .Add (.Constant (.int 1) k0 p2) p3)):P A9:=by
 apply iG h AF;intro i o z p3 h;apply EV h AF;intro i p1 h;apply J9 h AF;intro z k0 p2 h;refine Ce h AF λq h=>?_;apply IM (B1 q);apply IM (Ak q);apply Br h.symm;exact c ..
noncomputable def eS(A9:As):AK:=Yr A9 A6 λ_=>M
theorem be1(h:eS A9=M){P:As->Prop}(c:∀p,P (.Break p)):P A9:=by
 apply vN h B0;intro p _;exact c p
theorem be2{t:AA}{y:U}{a b:Tx}{A2:AK->AR->Prop}(ht:Ue .Lt x y t=M)(hx:D0 K.sc x=M)(hy:D0 K.sc y=M)(g:Gd B F K A H C s)(ex:Ah H.env x=G (.str a))(ey:Ah H.env y=G (.str b))(k:A2 (EZ a b) s):AH (AQ B.prog B.w) A' (NT t F.env (eval t F.env)) A2 E s:=by
 apply rJ ht;intro p1 p2 p3;refine fj (Jg g hx ex λu ru=>Jg g hy ey λw Fd=>?_) rfl;refine xE ru ?_;(try clear ru);intro t1 Aw;subst Aw;refine xE Fd ?_;(try clear Fd);intro t2 B6;subst B6;refine bw3 (NV ?_);rw[show decide ((⟨⟨a⟩⟩:U).cps.toList<(⟨⟨b⟩⟩:U).cps.toList)=EZ a b from b4];exact k
theorem be3{t:AA}{y:U}{a b:Tx}{A2:AK->AR->Prop}(ht:Ue .Gt x y t=M)(hx:D0 K.sc x=M)(hy:D0 K.sc y=M)(g:Gd B F K A H C s)(ex:Ah H.env x=G (.str a))(ey:Ah H.env y=G (.str b))(k:A2 (EZ b a) s):AH (AQ B.prog B.w) A' (NT t F.env (eval t F.env)) A2 E s:=by
 apply rJ ht;intro p1 p2 p3;refine fj (Jg g hx ex λu ru=>Jg g hy ey λw Fd=>?_) rfl;refine xE ru ?_;(try clear ru);intro t1 BJ;subst BJ;refine xE Fd ?_;(try clear Fd);intro t2 BP;subst BP;refine PySem.P.gt_str (NV ?_);rw[show decide ((⟨⟨b⟩⟩:U).cps.toList<(⟨⟨a⟩⟩:U).cps.toList)=EZ b a from b4];exact k
end
noncomputable def Fe:U:=⟨⟨[101,120,112,101,99,116,101,100]⟩⟩
noncomputable def FO:U:=⟨⟨[97,99,116,117,97,108]⟩⟩
noncomputable def Fz:U:=⟨⟨[105]⟩⟩
noncomputable def F8:U:=⟨⟨[106]⟩⟩
noncomputable def Kd:U:=⟨⟨[109,105,115,115,105,110,103]⟩⟩
noncomputable def N8:U:=⟨⟨[117,110,101,120,112,101,99,116,101,100]⟩⟩
noncomputable def Jj:U:=⟨⟨[101]⟩⟩
noncomputable def J':U:=⟨⟨[97]⟩⟩
noncomputable def Uf:U:=⟨⟨[73,110,100,101,120,69,114,114,111,114]⟩⟩
noncomputable def Ff(i j:O):I (U×V):=[(Fz,.int (i:AX)),(F8,.int (j:AX)),(Kd,.ref 2),(N8,.ref 3),(Fe,.ref 0),(FO,.ref 1)]
noncomputable def G'(i j:O)(x y:Tx):I (U×V):=(Jj,.str x)::(J',.str y)::Ff i j
noncomputable def DL(AG An Av CL:I Tx):I (O×Ob):=[(0,.list (AG.map .str)),(1,.list (An.map .str)),(2,.list (Av.map .str)),(3,.list (CL.map .str))]
structure RC(sc:BU):Prop where
 ex:D0 sc Fe=M
 ac:D0 sc FO=M
 i:D0 sc Fz=M
 j:D0 sc F8=M
 mi:D0 sc Kd=M
 un:D0 sc N8=M
 e:D0 sc Jj=M
 a:D0 sc J'=M
 io:G9 sc Fz=M
 jo:G9 sc F8=M
 eo:G9 sc Jj=M
 cb7:G9 sc J'=M
 ie:Di sc Uf=M
noncomputable def Xn(B:Bs):Prop:=∃mg mb,B.base.Ns 3 mg/\B.base.Ns 0 mb/\mg Uf=L/\mb Uf=G (.type "IndexError")
section
variable{e:A8}{Av:I Tx}
theorem RD{env:I (U×V)}{h:I (O×Ob)}(g:Gd B F K A ⟨env,h,m⟩ C s)(h1:Ah env Fz=G (.int (i:AX)))(h2:Ah env F8=G (.int (j:AX)))(h3:Ah env Kd=G (.ref 2))(h4:Ah env N8=G (.ref 3))(h5:Ah env Fe=G (.ref 0))(h6:Ah env FO=G (.ref 1)):Gd B F K A ⟨Ff i j,h,m⟩ C s:=⟨g.kinds,g.len,g.nodup,g.fresh,g.live,g.D5,g.D1,g.objs,let⟨q,ns,ce,r⟩:=g.env;⟨q,ns,ce,λx v e=>r x v ((show∀p∈Ff i j,Ah env p.1=G p.2 from all_cons h1<|all_cons h2<|all_cons h3<|all_cons h4<|all_cons h5<|all_cons h6 EE) _ (FF e))⟩,g.base,g.os,g.gens,g.frames,g.DT,g.Cy,g.mods,g.handled,g.depth,g.units⟩
theorem PG{env:I (U×V)}{h:I (O×Ob)}{x:Tx}(g:Gd B F K A ⟨env,h,m⟩ C s)(h1:Ah env Fz=G (.int (i:AX)))(h2:Ah env F8=G (.int (j:AX)))(h3:Ah env Kd=G (.ref 2))(h4:Ah env N8=G (.ref 3))(h5:Ah env Fe=G (.ref 0))(h6:Ah env FO=G (.ref 1))(h7:Ah env Jj=G (.str x))(h8:Ah env J'=G (.str y)):Gd B F K A ⟨G' i j x y,h,m⟩ C s:=⟨g.kinds,g.len,g.nodup,g.fresh,g.live,g.D5,g.D1,g.objs,let⟨q,ns,ce,r⟩:=g.env;⟨q,ns,ce,λz v e=>r z v ((show∀p∈G' i j x y,Ah env p.1=G p.2 from all_cons h7<|all_cons h8<|all_cons h1<|all_cons h2<|all_cons h3<|all_cons h4<|all_cons h5<|all_cons h6 EE) _ (FF e))⟩,g.base,g.os,g.gens,g.frames,g.DT,g.Cy,g.mods,g.handled,g.depth,g.units⟩
theorem QR(SB:Xn B)(SK:RC K.sc){A2:HP->AR->Prop}(hX:AG.length<=100000)(hY:An.length<=100000)(hM:Av.length<=1000000)(hU:CL.length<=1000000)(h1:RA K6=G (Kd,Fe,Fz))(h2:RA ext2=G (N8,FO,F8))(h3:eS brk=M)(hF:F.outs=F.env::C4)(hf:F.env.frame=G F.env.locals)(g:Gd B F K A ⟨Ff i j,DL AG An Av CL,4⟩ C s)(Cv:Nx F.D F.AZ Af s.heap BG C)(t:XU B F C Af s.heap e c)(kB:∀s',Gd B F K A ⟨Ff i j,DL AG An (Av++AG.drop i) (CL++An.drop j),4⟩ C s'->Nx F.D F.AZ Af s'.heap BG C->A2 .brk s'):AH (AQ B.prog B.w) A (IF (.ref e) F.env) (λ_ Ai=>AH (AQ B.prog B.w) A (hV (.ref e) L) (λ_ Ax=>AH (AQ B.prog B.w) A (handleBy (.ref e) F.env [.ExceptHandler (G (.Name Uf p1)) L (K6::[ext2,brk]) p2]) A2 E Ax) E Ai) E s:=by
 refine HT SB ?_;(try clear SB);intro mg mb n3 n0 hm hw;apply be1 h3;intro p;refine bd6 hF hf g.frames g Cv t λAJ AN Ji Mj=>UZ (fr:=L) AN Ji Mj λAi AU FN Ei=>?_;have st:∀b o,B.base.get? b=G o->Ai.heap.get? b=G o:=AU.base;have m3:Ai.heap.Ns F.env.globals mg:=by rw[g.kinds.g3];refine Hq n3 ?_;(try clear n3);intro o N ep e r;exact⟨o,N,ep,st _ _ e,r⟩
 have m0:Ai.heap.Ns F.env.builtins mb:=by rw[g.kinds.b0];refine Hq n0 ?_;(try clear n0);intro o N ep e r;exact⟨o,N,ep,st _ _ e,r⟩
 refine iR Ei.obj ?_;intro T oe vs oT ts _ _ _ he hc _;refine wpAny_handleBy_builtin (X:="IndexError") (T:="IndexError") (b:=M) PySem.F.isExc_IndexError PySem.F.notTuple_IndexError PySem.F.self_IndexError ?_;refine bA5 AU.kinds.fn (AU.kinds.glob _ SK.ie) (bA6 m3 hm m0 hw ⟨rfl,⟨oe,he,hc⟩,?_⟩) (mF g.kinds.sc SK.ie);rw[DA rfl];refine UZ (fr:=L) AU FN Ei λAx Ap IC RE=>?_;refine DH (rA h1 SK.mi SK.ex SK.i Ap rfl rfl (by simpa using hM) rfl rfl (by simpa using hX) rfl λEG CA Cz=>?_);have e4:Av.map V.str++(AG.map V.str).drop i=(Av++AG.drop i).map V.str:=by simp
 rw[e4]at CA;have CA:Gd B F K A ⟨Ff i j,DL AG An (Av++AG.drop i) CL,4⟩ C EG:=CA;refine DH (rA h2 SK.un SK.ac SK.j CA rfl rfl (by simpa using hU) rfl rfl (by simpa using hY) rfl λEg Cn EL=>?_);have e5:CL.map V.str++(An.map V.str).drop j=(CL++An.drop j).map V.str:=by simp
 rw[e5]at Cn;have Cn:Gd B F K A ⟨Ff i j,DL AG An (Av++AG.drop i) (CL++An.drop j),4⟩ C Eg:=Cn;exact DH (wpAny_Break (kB Eg Cn (IC.trans (Cz.w0.trans EL.w0))))
theorem Xo{a:AX}{A2:HP->AR->Prop}(hS:N7 A9=G x)(g:Gd B F K A H C s)(hl:D0 K.sc x=M)(ho:G9 K.sc x=M)(hv:Ah H.env x=G (.int a))(k:∀s',Gd B F K A ⟨E_ H.env x (.int (a+1)),H.h,H.n⟩ C s'->Nx F.D F.AZ s.heap s'.heap C C->A2 .next s'):AH (AQ B.prog B.w) A' (exec A9 F.env) A2 E s:=by
 apply be0 hS;intro p1 k0 p2 p3;exact qt g hl ho hv k
theorem rK(SK:RC K.sc){x:Tx}{A2:HP->AR->Prop}(hY:An.length<=100000)(h1:N7 JN=G F8)(h2:Lh JO=G (FO,F8,J'))(hj:j<An.length)(hF:F.outs=F.env::C4)(hf:F.env.frame=G F.env.locals)(hA:A'.frames=G F.outs)(g:Gd B F K A ⟨G' i j x y,DL AG An Av CL,4⟩ C s)(Cv:Nx F.D F.AZ Af s.heap BG C)(hC:Cm B F C Af A' s.heap)(kn:∀q s',q<An.length->An.drop q=DG y (An.drop (j+1))->Gd B F K A ⟨G' i q x y,DL AG An Av CL,4⟩ C s'->Nx F.D F.AZ Af s'.heap BG C->Cm B F C Af A' s'.heap->A2 .next s')(ke:∀s' e c,DG y (An.drop (j+1))=[]->Gd B F K A ⟨G' i An.length x y,DL AG An Av CL,4⟩ C s'->Nx F.D F.AZ Af s'.heap BG C->XT B F C Af s'.heap e c (ET F.env.locals)->E (.ref e) s'):AH (AQ B.prog B.w) A' (J3 [JN,JO] F.env) A2 E s:=by
 refine DH (Xo h1 g SK.j SK.jo rfl λAJ AN Ab=>?_);have AN:Gd B F K A ⟨G' i (j+1) x y,DL AG An Av CL,4⟩ C AJ:=PG AN rfl (by show G (V.int ((j:AX)+1))=_;simp) rfl rfl rfl rfl rfl rfl;have vw:∀{CV:I (U×V)}{q:O}{Ai:AR},Li (G' i (j+1) x y) CV F8 q->Gd B F K A ⟨CV,DL AG An Av CL,4⟩ C Ai->Gd B F K A ⟨G' i q x y,DL AG An Av CL,4⟩ C Ai:=λhe AU=>PG AU (he _) (he _) (he _) (he _) (he _) (he _) (he _) (he _);refine DH (Xm (p:=j+1) h2 hY SK.ac SK.j SK.jo SK.a (by decide) (by decide) hF hf hA rfl hj AN rfl rfl rfl (Cv.trans Ab) (hC.nx Ab λ_ m=>m) (λq CV Ai h3 h4 h5 AU FN be4=>G2 (kn q Ai h3 h4 (vw h5 AU) FN be4)) λCV Ai e c h3 h4 AU FN Ei _=>ke Ai e c h3 (vw h4 AU) FN Ei)
theorem eU{x:Tx}(g:Gd B F K A ⟨G' i j x y,DL AG An Av CL,4⟩ C s):Gd B F K A ⟨Ff i j,DL AG An Av CL,4⟩ C s:=RD g rfl rfl rfl rfl rfl rfl
theorem be5(SK:RC K.sc){x:Tx}{A2:HP->AR->Prop}(hX:AG.length<=100000)(hY:An.length<=100000)(h0:eP tf=G ([L3],JN,[JO]))(h3:Lh L3=G (Fe,Fz,Jj))(h1:N7 JN=G F8)(h2:Lh JO=G (FO,F8,J'))(hi:i<=AG.length)(hj:j<An.length)(hF:F.outs=F.env::C4)(hf:F.env.frame=G F.env.locals)(g:Gd B F K A ⟨G' i j x y,DL AG An Av CL,4⟩ C s)(Cv:Nx F.D F.AZ Af s.heap BG C)(kn:∀i' j' s',i'<=AG.length->j'<=An.length->AG.drop i'=DG x (AG.drop i)->An.drop j'=DG y (An.drop (j+1))->Gd B F K A ⟨Ff i' j',DL AG An Av CL,4⟩ C s'->Nx F.D F.AZ Af s'.heap BG C->A2 .next s')(ke:∀i' j' s' e c,i'<=AG.length->j'<=An.length->AG.drop i'=DG x (AG.drop i)->An.drop j'=DG y (An.drop (j+1))->(i'=AG.length\/j'=An.length)->Gd B F K A ⟨Ff i' j',DL AG An Av CL,4⟩ C s'->Nx F.D F.AZ Af s'.heap BG C->XU B F C Af s'.heap e c->E (.ref e) s'):AH (AQ B.prog B.w) A (exec tf F.env) A2 E s:=by
 apply bd9 h0;intro p3;have vw:∀{CV:I (U×V)}{q:O}{Ai:AR},Li (G' i j x y) CV Fz q->Gd B F K A ⟨CV,DL AG An Av CL,4⟩ C Ai->Gd B F K A ⟨G' q j x y,DL AG An Av CL,4⟩ C Ai:=λhe AU=>PG AU (he _) (he _) (he _) (he _) (he _) (he _) (he _) (he _);have back:∀{q Ai e c}{eV:CK},q<=AG.length->AG.drop q=DG x (AG.drop i)->DG y (An.drop (j+1))=[]->Gd B F K A ⟨G' q An.length x y,DL AG An Av CL,4⟩ C Ai->Nx F.D F.AZ Af Ai.heap BG C->XT B F C Af Ai.heap e c (ET F.env.locals)->RZ (AQ B.prog B.w) eV F.env (ux (AQ B.prog B.w) A F.env E) (.ref e) Ai:=λ{q Ai e c eV}h4 h5 h6 AU FN Ei=>by
   show AH _ eV (IF (.ref e) F.env) _ _ _;exact Xi hf Ei (rE hf AU FN Ei λAx Ap IC RE=>ke q An.length Ax e c h4 (DF _) h5 (by rw[h6,Jt]) (.inr rfl) (eU Ap) IC (.inr RE))
 refine wpAny_Try_finally (DH (Xm h3 hX SK.ex SK.i SK.io SK.e (by decide) (by decide) hF hf g.frames rfl hi g rfl rfl rfl Cv (.inl g.handled) (λq CV Ai h4 h5 h6 AU FN _=>G2 (G2 ?_)) λCV Ai e c h4 h5 AU FN Ei hc=>?_));. refine rK SK hY h1 h2 hj hF hf g.frames (vw h6 AU) FN (.inl g.handled) (λq' Ax h7 h8 Ap IC _=>kn q q' Ax (Gj h4) (Gj h7) h5 h8 (eU Ap) IC) λAx e c h7 Ap IC RE=>back (Gj h4) h5 h7 Ap IC RE
 . have hc:=hc g.handled;subst hc;refine Xi hf Ei ⟨(by intro z;(exfalso;cases z)),Xi hf Ei (UZ (fr:=L) (vw h5 AU) FN Ei λAx Ap IC RE=>?_)⟩;have rL:AG.drop AG.length=DG x (AG.drop i):=by rw[h4,Jt]
   refine rK SK hY h1 h2 hj hF hf (A':=A.mark (G (.ref e))) (by exact g.frames) Ap IC (.inr ⟨e,_,rfl,RE⟩) (λq' EG h7 h8 CA Lj RF=>?_) λEG e' c h7 CA Lj eY=>back (DF _) rL h7 CA Lj eY;rcases RF with RF|HE;rotate_left;refine EX HE ?_;(try clear HE);intro e0 fl RF eY;rotate_left;. (exfalso;cases RF)
   . have :e=e0:=by
      have q:G (Jq e)=G (Jq e0):=RF;injection q with q;injection q
     clear RF;subst this;exact bd7 hf CA Lj eY λEg Cn HJ PH=>ke AG.length q' Eg e _ (DF _) (Gj h7) rL h8 (.inl rfl) (eU Cn) HJ (.inr PH)
end
theorem RG{ys:I Tx}:D4 m [] ys=([],ys):=by cases m<;>rfl
theorem RH{Y:I Tx}:D4 m Y []=(Y,[]):=by cases m with
 |zero=>rfl|succ m=>cases Y<;>rfl
theorem be6{t:Tx}{Y:I Tx}:(DG t Y).length<=Y.length:=by induction Y with
 |nil=>exact DF _|cons x Y ih=>
 refine(?_:(match CU x t with|true=>DG t Y|false=>x::Y).length<=_);cases CU x t with
 |true=>exact gw ih|false=>exact DF _
theorem Xp{t:Tx}{p q:O}(hp:p<=AG.length)(hq:q<=AG.length)(h:AG.drop q=DG t (AG.drop p)):p<=q:=by
 have z:(AG.drop q).length<=(AG.drop p).length:=h▸be6;rw[V8,V8]at z;exact ua hp▸ua hq▸fO z AG.length
theorem e_{a q b k:O}(hm:a-i+b<=k+1)(hi:i<a)(hq:i+1<=q):a-q+b<=k:=sr (B4 (Nat.succ_add _ _▸Y' (Nat.sub_lt_sub_left hi hq) b) hm)
theorem be7{a q b k:O}(hm:b+(a-j)<=k+1)(hj:j<a)(hq:j+1<=q):b+(a-q)<=k:=by rw[Lm]at hm ⊢;exact e_ hm hj hq
theorem rM{Av:I J}{x:J}{q:O}(hq:i+1<=q):(Av++[x]).length+i<=Av.length+q:=by rw[FD,uJ,NP,Lm 1 i];exact HL hq _
theorem rN{Av:I J}{x:J}(h:Av.length<=100000):(Av++[x]).length<=1000000:=by rw[FD];exact B4 (Y' h 1) (by decide)
theorem rO{l:I J}{p:O}{x:J}(h:l[p]?=G x):l.drop p=x::l.drop (p+1):=by
 refine xE (HM.mp h) ?_;intro CF e;rw[YM CF,e]
structure ec(tr N9 NA if1 NB NC ND if2 NE NF NG NH tf L3 JN JO K6 ext2 brk:As)(t1 t2:AA):Prop where
 tr:rG tr=G ([N9,NA,if1],K6,[ext2,brk])N9:eR N9=G (Jj,Fe,Fz)NA:eR NA=G (J',FO,F8)if1:eQ if1=G (t1,[NB,NC,ND],[if2])t1:Ue .Lt Jj J' t1=M
 NB:Xl NB=G (Kd,Jj)NC:N7 NC=G Fz
 ND:Lh ND=G (Fe,Fz,Jj)if2:eQ if2=G (t2,[NE,NF,NG],[NH,tf])t2:Ue .Gt Jj J' t2=M
 NE:Xl NE=G (N8,J')NF:N7 NF=G F8
 NG:Lh NG=G (FO,F8,J')NH:N7 NH=G Fz
 tf:eP tf=G ([L3],JN,[JO])L3:Lh L3=G (Fe,Fz,Jj)JN:N7 JN=G F8
 JO:Lh JO=G (FO,F8,J')K6:RA K6=G (Kd,Fe,Fz)ext2:RA ext2=G (N8,FO,F8)brk:eS brk=M
section
variable{Av:I Tx}{tr N9 NA if1 NB NC ND if2 NE NF NG NH:As}{t1 t2:AA}
theorem ed{e a:Tx}{Y ys:I Tx}:D4 (n+1) (e::Y) (a::ys)=match EZ e a with
 |true=>(e::(D4 n (DG e Y) (a::ys)).1,(D4 n (DG e Y) (a::ys)).2)|false=>match EZ a e with
 |true=>((D4 n (e::Y) (DG a ys)).1,a::(D4 n (e::Y) (DG a ys)).2)|false=>D4 n (DG e Y) (DG a ys):=rfl
theorem rP(SB:Xn B)(SK:RC K.sc)(D:ec tr N9 NA if1 NB NC ND if2 NE NF NG NH tf L3 JN JO K6 ext2 brk t1 t2){A2:HP->AR->Prop}(hX:AG.length<=100000)(hY:An.length<=100000)(hM:Av.length+m<=90000+900000)(hU:CL.length+m<=90000+900000)(hi:i<=AG.length)(hj:j<=An.length)(hm:AG.length-i+(An.length-j)<=m)(RI:Av.length<=100000)(RJ:CL.length<=100000)(hF:F.outs=F.env::C4)(hf:F.env.frame=G F.env.locals)(g:Gd B F K A ⟨Ff i j,DL AG An Av CL,4⟩ C s)(Cv:Nx F.D F.AZ Af s.heap BG C)(kn:∀k i' j' M' U' s',m=k+1->i'<=AG.length->j'<=An.length->AG.length-i'+(An.length-j')<=k->M'.length+i<=Av.length+i'->U'.length+j<=CL.length+j'->Av++(D4 m (AG.drop i) (An.drop j)).1=M'++(D4 k (AG.drop i') (An.drop j')).1->CL++(D4 m (AG.drop i) (An.drop j)).2=U'++(D4 k (AG.drop i') (An.drop j')).2->Gd B F K A ⟨Ff i' j',DL AG An M' U',4⟩ C s'->Nx F.D F.AZ Af s'.heap BG C->A2 .next s')(kB:∀i' j' s',Gd B F K A ⟨Ff i' j',DL AG An (Av++(D4 m (AG.drop i) (An.drop j)).1) (CL++(D4 m (AG.drop i) (An.drop j)).2),4⟩ C s'->Nx F.D F.AZ Af s'.heap BG C->A2 .brk s'):AH (AQ B.prog B.w) A (exec tr F.env) A2 E s:=by
 apply bd8 D.tr;intro p1 p2 p3;have BF:∀{i' j':O}{M' U':I Tx}{Ai:AR}{e:A8}{c:A4},M'.length<=1000000->U'.length<=1000000->M'++AG.drop i'=Av++(D4 m (AG.drop i) (An.drop j)).1->U'++An.drop j'=CL++(D4 m (AG.drop i) (An.drop j)).2->Gd B F K A ⟨Ff i' j',DL AG An M' U',4⟩ C Ai->Nx F.D F.AZ Af Ai.heap BG C->XU B F C Af Ai.heap e c->AH (AQ B.prog B.w) A (IF (.ref e) F.env) (λ_ Ai=>AH (AQ B.prog B.w) A (hV (.ref e) L) (λ_ Ax=>AH (AQ B.prog B.w) A (handleBy (.ref e) F.env [.ExceptHandler (G (.Name Uf p1)) L (K6::[ext2,brk]) p2]) A2 E Ax) E Ai) E Ai:=λ{i' j' M' U' Ai e c}h1 h2 h3 h4 AU FN Ei=>QR SB SK hX hY h1 h2 D.K6 D.ext2 D.brk hF hf AU FN Ei λAx Ap IC=>kB i' j' Ax (by rw[<-h3,<-h4];exact Ap) IC;refine bC2 (DH ?_);apply rI D.N9;intro q1 q2 q3 q4 q5;refine bI6 (item_at hX SK.ex SK.i g rfl rfl rfl hi Cv (.inl g.handled) (λu x hx ru=>eI g SK.eo ru λAJ AN Ab=>?_) λAJ e c hp AN Ji Mj _=>?_)
 . have Ji:=Cv.trans Ab;have PJ:i<AG.length:=(HM.mp hx).1;apply rI D.NA;intro r1 r2 r3 cb8 cb9;refine DH (bI6 (item_at hY SK.ac SK.j AN rfl rfl rfl hj Ji (.inl g.handled) (λw y hy Fd=>eI AN SK.cb7 Fd λAi AU Al=>?_) λAi e c hp AU FN Ei _=>?_))
   . have FN:=Ji.trans Al;have Ug:j<An.length:=(HM.mp hy).1;have AU:Gd B F K A ⟨G' i j x y,DL AG An Av CL,4⟩ C Ai:=PG AU rfl rfl rfl rfl rfl rfl rfl rfl;have dX:=rO hx;have dY:=rO hy;refine xE (Nat.exists_eq_add_one.mpr (J0 (Nat.sub_pos_of_lt PJ) (B4 (H4 ..) hm))) ?_;intro k hk;have HG:AG.length-i+(An.length-j)<=k+1:=hk▸hm;apply rH D.if1;intro i1;refine DH (tH (be2 D.t1 SK.e SK.a AU rfl rfl ?_));cases CF:EZ x y with
 |true=>
      rw[DA rfl];have hs:D4 m (AG.drop i) (An.drop j)=(x::(D4 k (DG x (AG.drop (i+1))) (An.drop j)).1,(D4 k (DG x (AG.drop (i+1))) (An.drop j)).2):=by rw[hk,dX,dY,ed,CF]
      refine DH (r9 D.NB SK.mi SK.e AU rfl rfl (by simpa using RI) rfl λAx Ap B8=>?_);have e3:Av.map V.str++[V.str x]=(Av++[x]).map V.str:=by simp
      rw[e3]at Ap;have Ap:Gd B F K A ⟨G' i j x y,DL AG An (Av++[x]) CL,4⟩ C Ax:=Ap;refine DH (Xo D.NC Ap SK.i SK.io rfl λEG CA Cz=>?_);have CA:Gd B F K A ⟨G' (i+1) j x y,DL AG An (Av++[x]) CL,4⟩ C EG:=PG CA (by show G (V.int ((i:AX)+1))=_;simp) rfl rfl rfl rfl rfl rfl rfl;have Lj:=FN.trans (B8.w0.trans Cz);refine DH (Xm (p:=i+1) D.ND hX SK.ex SK.i SK.io SK.e (by decide) (by decide) hF hf g.frames rfl PJ CA rfl rfl rfl Lj (.inl g.handled) (λq CV Eg h3 h4 h5 Cn HJ _=>G2 (G2 (G2 ?_))) λCV Eg e c h3 h4 Cn HJ PH _=>?_)
      . have hq:=Xp PJ (Gj h3) h4;refine kn k q j (Av++[x]) CL Eg hk (Gj h3) hj (e_ HG PJ hq) (rM hq) (DF _) ?_ ?_ (RD Cn (h5 _) (h5 _) (h5 _) (h5 _) (h5 _) (h5 _)) HJ;. rw[hs,h4];simp
        . rw[hs,h4]
      . refine BF (i':=AG.length) (j':=j) (M':=Av++[x]) (U':=CL) (rN RI) (B4 RJ (by decide)) ?_ ?_ (RD Cn (h4 _) (h4 _) (h4 _) (h4 _) (h4 _) (h4 _)) HJ (.inr PH);. rw[hs,h3,RG];simp
        . rw[hs,h3,RG]|false=>
      rw[CS (by simp)];apply rH D.if2;intro i2;refine DH (tH (be3 D.t2 SK.e SK.a AU rfl rfl ?_));cases rQ:EZ y x with
 |true=>rw[DA rfl];have hs:D4 m (AG.drop i) (An.drop j)=((D4 k (AG.drop i) (DG y (An.drop (j+1)))).1,y::(D4 k (AG.drop i) (DG y (An.drop (j+1)))).2):=by rw[hk,dX,dY,ed,CF,rQ]
        refine DH (r9 D.NE SK.un SK.a AU rfl rfl (by simpa using RJ) rfl λAx Ap B8=>?_);have e3:CL.map V.str++[V.str y]=(CL++[y]).map V.str:=by simp
        rw[e3]at Ap;have Ap:Gd B F K A ⟨G' i j x y,DL AG An Av (CL++[y]),4⟩ C Ax:=Ap;refine DH (Xo D.NF Ap SK.j SK.jo rfl λEG CA Cz=>?_);have CA:Gd B F K A ⟨G' i (j+1) x y,DL AG An Av (CL++[y]),4⟩ C EG:=PG CA rfl (by show G (V.int ((j:AX)+1))=_;simp) rfl rfl rfl rfl rfl rfl;have Lj:=FN.trans (B8.w0.trans Cz);refine DH (Xm (p:=j+1) D.NG hY SK.ac SK.j SK.jo SK.a (by decide) (by decide) hF hf g.frames rfl Ug CA rfl rfl rfl Lj (.inl g.handled) (λq CV Eg h3 h4 h5 Cn HJ _=>G2 (G2 (G2 (G2 ?_)))) λCV Eg e c h3 h4 Cn HJ PH _=>?_)
        . have hq:=Xp Ug (Gj h3) h4;refine kn k i q Av (CL++[y]) Eg hk hi (Gj h3) (be7 HG Ug hq) (DF _) (rM hq) ?_ ?_ (RD Cn (h5 _) (h5 _) (h5 _) (h5 _) (h5 _) (h5 _)) HJ;. rw[hs,h4]
          . rw[hs,h4];simp
        . refine BF (i':=i) (j':=An.length) (M':=Av) (U':=CL++[y]) (B4 RI (by decide)) (rN RJ) ?_ ?_ (RD Cn (h4 _) (h4 _) (h4 _) (h4 _) (h4 _) (h4 _)) HJ (.inr PH);. rw[hs,h3,RH]
          . rw[hs,h3,RH];simp|false=>
        rw[CS (by simp)];have hs:D4 m (AG.drop i) (An.drop j)=D4 k (DG x (AG.drop (i+1))) (DG y (An.drop (j+1))):=by rw[hk,dX,dY,ed,CF,rQ]
        refine DH (Xo D.NH AU SK.i SK.io rfl λEG CA Cz=>?_);have CA:Gd B F K A ⟨G' (i+1) j x y,DL AG An Av CL,4⟩ C EG:=PG CA (by show G (V.int ((i:AX)+1))=_;simp) rfl rfl rfl rfl rfl rfl rfl;have Lj:=FN.trans Cz;refine DH (be5 SK hX hY D.tf D.L3 D.JN D.JO PJ Ug hF hf CA Lj (λi' j' Eg h3 h4 h5 h6 Cn HJ=>G2 (G2 (G2 (G2 ?_)))) λi' j' Eg e c h3 h4 h5 h6 h7 Cn HJ PH=>?_)
        . have z1:=Xp PJ h3 h5;have z2:=uy (Xp Ug h4 h6);refine kn k i' j' Av CL Eg hk h3 h4 (B4 (HL (fO z2 _) _) (e_ HG PJ z1)) (HL (uy z1) _) (HL z2 _) ?_ ?_ Cn HJ;. rw[hs,h5,h6]
          . rw[hs,h5,h6]
        . refine BF (i':=i') (j':=j') (M':=Av) (U':=CL) (B4 RI (by decide)) (B4 RJ (by decide)) ?_ ?_ Cn HJ PH
          . rw[hs,<-h5,<-h6];rcases h7 with rfl|rfl;. rw[Jt,RG]
            . rw[Jt,RH]
          . rw[hs,<-h5,<-h6];rcases h7 with rfl|rfl;. rw[Jt,RG]
            . rw[Jt,RH]
   . refine BF (i':=i) (j':=j) (M':=Av) (U':=CL) (B4 RI (by decide)) (B4 RJ (by decide)) ?_ ?_ (RD AU rfl rfl rfl rfl rfl rfl) FN (.inl Ei);. rw[hp,Jt,RH]
     . rw[hp,Jt,RH]
 . refine BF (i':=i) (j':=j) (M':=Av) (U':=CL) (B4 RI (by decide)) (B4 RJ (by decide)) ?_ ?_ AN Ji (.inl Mj);. rw[hp,Jt,RG]
   . rw[hp,Jt,RG]
end
section
open PyProof.Rows
noncomputable def strOf:A4->U|.str x _=>x|_=>⟨#[]⟩
noncomputable def Lk(N:BW (AX×A4)):I U:=N.toList.map λe=>strOf e.2
structure NI(prog:Hf)(w:EC)(led:AK)(N:BW (AX×A4))(t:G4)(P:I U):Prop where
 el:ElemsOf (Ks prog w) N.toList
 str:∀e∈N.toList,∃x u,e.2=.str x u
 nd:(Lk N).Nodup
 mem:∀x,x∈Lk N↔x∈P
 sz:N.size<Pm
 fits:t.fits N.size=M
 led:t.led=led
 plain:N.size=0\/t.plain=A6
 le:N.size<=P.length
noncomputable def HK(prog:Hf)(w:EC)(led:AK)(h:BK)(a:A8)(P:I U):Prop:=∃N ep t,h.get? a=G {cls:=.type "set",dict:=L,data:=.set N ep t}/\NI prog w led N t P
section
variable{P:I U}
theorem be8{t:G4}:(t.orStandIn n).led=t.led:=by unfold uz;split<;>rfl
theorem be9(t:G4)(N:BW (AX×A4))(h:AX)(x:A4):(Yi t N h x).2.1.led=t.led:=by
 unfold Yi;split;. exact be8
 . rfl
theorem bf0(t:G4)(N:BW (AX×A4))(h:AX)(x:A4)(hp:t.plain=A6):(Yi t N h x).2.1.plain=A6:=by
 unfold Yi;split
 . show(uz _ _).plain=A6;unfold uz;split;. exact hp
   . rfl
 . rfl
theorem bf1{f mv:O}{l p:AK}{hs:BW AX}{r:G4×BW O}(h:bI7 m f mv l p hs=G r):r.1.led=l/\r.1.plain=p:=by
 unfold bI7 at h;simp only[Option.bind_eq_bind,bF5]at h;refine AC h ?_;(try clear h);intro _ _ h;first|(subst h;exact⟨rfl,rfl⟩)|(injection h with h;subst h;exact⟨rfl,rfl⟩)
set_option tactic.hygienic true in
theorem bf2(t:G4)(N:BW (AX×A4))(n:O):(S' t N n).2.1.led=t.led/\((S' t N n).2.1.plain=t.plain\/(S' t N n).2.1.plain=A6):=by
 unfold S';split
 . rename_i r t' o h;have :=bf1 h;dsimp only;split;. exact⟨this.1,.inl this.2⟩
   . exact⟨rfl,.inr rfl⟩
 . exact⟨rfl,.inr rfl⟩
theorem rR{N BN:BW (AX×A4)}(p:BN.toList.Perm N.toList):(Lk BN).Perm (Lk N):=p.map _
theorem NI.perm{N BN:BW (AX×A4)}{t t':G4}(h:NI prog w led N t P)(p:BN.toList.Perm N.toList)(f:t'.fits BN.size=M)(hl:t'.led=t.led)(hp:t'.plain=t.plain\/t'.plain=A6):NI prog w led BN t' P:=by
 have hz:BN.size=N.size:=by rw[<-VF,p.length_eq,VF]
 refine⟨h.el.perm p,λe m=>h.str e (p.mem_iff.mp m),(rR p).nodup_iff.mpr h.nd,λx=>((rR p).mem_iff).trans (h.mem x),hz▸h.sz,f,hl.trans h.led,?_,hz▸h.le⟩;rcases h.plain with q|q;. exact .inl (hz.trans q)
 . rcases hp with z|z;. exact .inr (z.trans q)
   . exact .inr z
theorem rT{N BN:BW (AX×A4)}{t t':G4}(ho:h.get? a=G {cls:=.type "set",dict:=L,data:=.set N ep t})(T:NI prog w led BN t' P):(h.update a (Yj BN t')).get? a=G {cls:=.type "set",dict:=L,data:=.set BN (ep+1) t'}/\HK prog w led (h.update a (Yj BN t')) a P:=by
 have hg:(h.update a (Yj BN t')).get? a=G {cls:=.type "set",dict:=L,data:=.set BN (ep+1) t'}:=by
  have :=FS (Yj BN t') ho (by rw[putSet_of BN t' rfl];rfl);rw[putSet_of BN t' rfl]at this;exact this
 exact⟨hg,BN,ep+1,t',hg,T⟩
theorem rU{g:AK->Dz DM}(hg:∀(b:AK)(AJ:AR)(Q':DM->AR->Prop),Q' () AJ->AH (AQ prog w) A (g b) Q' E AJ){N:BW (AX×A4)}{t:G4}(ho:s.heap.get? a=G {cls:=.type "set",dict:=L,data:=.set N ep t}){F4:BW (AX×A4)}{t2:G4}(T:NI prog w led F4 t2 P){rW:AK}{AS:AD AK->AR->Prop}(h:∀Q,E4 a s.heap Q->HK prog w led Q a P->AS (G M) {s with heap:=Q}):AH (AQ prog w) A (do
 storeSet a F4 t2 if(!rW&&t2.tooFull)=M then do
   g (S' t2 F4 (VM F4.size)).2.2storeSet a (S' t2 F4 (VM F4.size)).1 (S' t2 F4 (VM F4.size)).2.1pure (G M)else pure (G M)) AS E s:=by
 refine A5 (bI8 ho rfl ?_ (h_ T.sz));refine xA (rT ho T) ?_;intro Tu cc0;have rX:=Fh s.heap a (Yj F4 t2);split
 . have hp:=relayAll_perm t2 F4 (VM F4.size);have D2:=relayAll_fits t2 F4 (VM F4.size);have hl:=bf2 t2 F4 (VM F4.size);have T2:=T.perm hp D2 hl.1 hl.2;refine A5 (hg _ _ _ ?_);refine A5 (bI8 Tu rfl ?_ (h_ T2.sz));exact AW (h _ (rX.trans (Fh _ a _)) (rT Tu T2).2)
 . exact AW (h _ rX cc0)
set_option tactic.hygienic true in
theorem bf3{u:EP}{A2:AK->AR->Prop}(hS:HK prog w led s.heap a P)(bf4:P.length+1<Pm)(h:∀b Q,E4 a s.heap Q->HK prog w led Q a (P++[x])->A2 b {s with heap:=Q,toks:=s.toks+1}):AH (AQ prog w) A (v7 a (.str x u)) A2 E s:=by
 have EM:(Ks prog w).is x (.str x u)=M:=by simp[Ks,YR]
 unfold v7;refine C0 (A5 ((Ks prog w).pyHash EM ?_));refine Hq hS ?_;(try clear hS);intro N ep t ho T;have R6:N.size+1<Pm:=H3 (Ln T.le) bf4;skip;refine C0 (A5 (Yk (s:={s with toks:=s.toks+1}) ho rfl T.fits ?_));dsimp only;rw[byScan_of rfl T.sz T.el];skip;unfold setAddByScan;refine A5 ?_;refine A5 (Gm ?_);refine A5 (wpAny_setScan_of EM ho rfl T.fits T.el ?_);cases hr:List.findIdx? (λe=>(Ks prog w).is x e.2) N.toList with
 |some j=>
  skip;refine AC (List.findIdx?_eq_some_iff_getElem.mp hr) ?_;intro hj hpj _;have hx:x∈Lk N:=by
    refine xE (bp hpj) ?_;intro tk e;refine E0.mpr ⟨N.toList[j],gW hj,?_⟩;rw[e];rfl
  refine AW (AW ?_);refine h _ s.heap (gD a s.heap) ⟨N,ep,t,ho,T.el,T.str,T.nd,λy=>?_,T.sz,T.fits,T.led,T.plain,B4 T.le (by simp)⟩;rw[T.mem,Dr,CI];exact⟨.inl,λz=>z.elim id λz=>z▸(T.mem x).mp hx⟩|none=>
  skip;have hx:x∉Lk N:=λm=>by
    refine AC (E0.mp m) ?_;intro e he hp;have :=bC8.mp hr e he;refine DB (T.str e he) ?_;intro y v q;rw[q]at this hp;have hp:y=x:=hp;clear h EM hr m;subst hp;simp[Ks,YR]at this
  have hgw:∀(b:AK){AJ:AR}{Q':DM->AR->Prop},Q' () AJ->AH (AQ prog w) A (match b with|true=>YO "set.scan.the-table-gave-way"|false=>pure ()) Q' E AJ:=λb AJ Q' hq=>by cases b<;>first|exact AW hq|exact Gm hq
  have Jb:=layNew_perm t N ((Ks prog w).hash x) (.str x u);have Xq:=layNew_fits t N ((Ks prog w).hash x) (.str x u);have Uh:=be9 t N ((Ks prog w).hash x) (.str x u);have F_:=bf0 t N ((Ks prog w).hash x) (.str x u);generalize hL:Yi t N ((Ks prog w).hash x) (.str x u)=A1 at Jb Xq Uh F_ ⊢;obtain⟨F4,t1,rW,gave⟩:=A1;dsimp only at Jb Xq Uh F_ ⊢;rw[VE]at Jb;have hz:F4.size=N.size+1:=by rw[<-VF,Jb.length_eq,FD,VF];rfl
  have Ql:(Lk F4).Perm (Lk N++[x]):=by
    have :=Jb.map (λe:AX×A4=>strOf e.2);rw[N_]at this;exact this
  have fin:∀t2:G4,t2.fits F4.size=M->t2.led=t.led->t2.plain=A6->NI prog w led F4 t2 (P++[x]):=λt2 f l p=>by
    refine⟨(T.el.push EM rfl).perm Jb,λe m=>?_,?_,λy=>?_,hz▸R6,f,l.trans T.led,.inr p,?_⟩
    . rcases Dr.mp (Jb.mem_iff.mp m)with m|m;. exact T.str e m
      . rw[CI.mp m];exact⟨x,u,rfl⟩
    . refine Ql.nodup_iff.mpr (IE.mpr ⟨T.nd,by simp,λy hy z hz e=>?_⟩);rw[CI.mp hz]at e;exact hx (e▸hy)
    . rw[Ql.mem_iff,Dr,Dr,T.mem]
    . rw[hz,FD];exact Ln T.le
  refine A5 (hgw _ ?_);split
  . refine A5 ?_;skip;refine AW ?_;refine rU (s:={s with toks:=s.toks+1}) ?_ ho (fin {t1 with plain:=A6} (SetTable.fits_plain_off Xq) Uh rfl) ?_;. intro b AJ Q' hq;cases b<;>first|exact AW hq|exact Gm hq
    . intro Q RK Fb;dsimp only;exact AW (h _ Q RK Fb)
  . rename_i hpp;refine A5 (AW ?_);skip;have :t1.plain=A6:=by cases q:t1.plain with|false=>rfl|true=>exact absurd q hpp
    refine rU (s:={s with toks:=s.toks+1}) ?_ ho (fin _ Xq Uh this) ?_;. intro b AJ Q' hq;cases b<;>first|exact AW hq|exact Gm hq
    . intro Q RK Fb;dsimp only;exact AW (h _ Q RK Fb)
end
end
section
open PyProof.Rows
section
theorem HK.same{A9:A8}{P:I U}(hS:HK prog w led h A9 P)(hk:∀o,h.get? A9=G o->Q.get? A9=G o):HK prog w led Q A9 P:=by refine Hq hS ?_;(try clear hS);intro N ep t ho T;exact⟨N,ep,t,hk _ ho,T⟩
theorem bf5{AS:Dt->AR->Prop}{fp wr:I A8}{Bl:BW fa->BW fa->Prop}{Pv:O->A4->Prop}{St:O->AR->Prop}(ss:I U)(hn:ss.length=n)(AZ:WalksS prog w A.in1 AE fp wr Bl n Pv St)(hv:∀i v,Pv i v->∃x t,ss[i]?=G x/\v=.str x t)(A9:A8)(NJ:A9∉fp)(hb:n+1<Pm):∀(k i:O)(s:AR),n-i=k->i<=n->St i s->HK prog w led s.heap A9 (ss.take i)->(∀s',Moved (A9::wr) Bl s s'->HK prog w led s'.heap A9 ss->AS (.ok (.ret .none)) s')->D7 (AQ prog w) A (.builtin "set.update.loop" ⟨[.ref A9,.ref AE],[]⟩) AS s:=by
 have rY:A9∉wr:=λh=>NJ (AZ.sub _ h);have LL:∀b∈wr,b∈A9::wr:=λb hb=>Cp _ hb;intro k;induction k with
 |zero=>
  intro i s hk hi HF hS hR;have Ja:i=n:=by(with_reducible exact Y2 (by assumption) (bD2 (by assumption)))
  clear hb hi hk;subst Ja;refine J5 bI9 ?_;skip;show AH _ A.in1 (ES (.ref AE)>>=_) _ _ s;refine A5 (AZ.done s _ _ HF λs' hm=>?_);show AH _ A.in1 (ret Hi) _ _ s';rw[<-hn,bI5]at hS;exact AW (hR s' (hm.mono LL) (hS.same λo e=>hm.heap A9 o rY e))|succ k ih=>
  intro i s hk hi HF hS hR;have CF:i<n:=by(with_reducible exact Nat.lt_of_sub_eq_succ (by assumption))
  refine J5 bI9 ?_;skip;show AH _ A.in1 (ES (.ref AE)>>=_) _ _ s;refine A5 (AZ.item i s _ _ CF HF λv s' hP bf6 hm=>?_);refine EX (hv _ _ hP) ?_;intro x t hx Aw;clear hP;subst Aw;have Fb:=hS.same (Q:=s'.heap) λo e=>hm.heap A9 o rY e;show AH _ A.in1 (Hg [M0 x t] (v7 A9 (.str x t))>>=_) _ _ s';refine A5 (C0 ?_);have hr:(ss.take i).length+1<Pm:=by rw[Pf];exact H3 (Ln (B4 (Y1 _ _) (Gj CF))) hb
  refine bf3 Fb hr λb Q RK rZ=>?_;have e:ss.take i++[x]=ss.take (i+1):=by rw[List.take_add_one,hx];rfl
  rw[e]at rZ;refine AW ⟨plainId_quiet F.plain_set_update_loop _,ih (i+1) _ (by(with_reducible exact Mine.yX (by assumption))) CF (AZ.frame _ s' _ _ bf6 (PR _) λb hb o e=>?_) rZ λKc bf7 bf8=>?_⟩;. rw[RK.2 b (λh:b=A9=>NJ (by rw[<-h];exact hb))];exact e
  . refine hR Kc (Moved.trans AZ.gtrans ((hm.mono LL).then_heap (PR _) λb o hb e=>?_) bf7) bf8;rw[RK.2 b (λh:b=A9=>hb (by rw[h];exact Co))];exact e
theorem HK.empty(ho:h.get? a=G {cls:=.type "set",dict:=L,data:=.set #[] 0 (.fresh 0 0 led)}):HK prog w led h a []:=⟨#[],0,.fresh 0 0 led,ho,⟨λe m=>(by(exfalso;cases m)),λe m=>(by(exfalso;cases m)),HN,λx=>VI,(by unfold Pm;decide),rfl,rfl,.inl rfl,DF _⟩⟩
theorem code_set_new(a:A4){PK:A4->AR->Prop}(h:PK (.ref s.heap.objs.size) {s with heap:=s.heap.push {cls:=.type "set",dict:=L,data:=.set #[] 0 (.fresh 0 0 (!w.params.followText "set-order"))}}):D7 (AQ prog w) A (.call (.builtin "set.__new__") ⟨[.type "set",a],[]⟩) (Ya PK E) s:=by
 refine Rc ?_;show AH _ A.in1 (do gJ "set.__new__" ⟨[.type "set",a],[]⟩;Kk (.builtin "set.__new__" ⟨[.type "set",a],[]⟩)) _ _ s;refine A5 (NY (F.newCall_set_1 a) (AW ⟨plainId_quiet F.plain_set_new _,J5 F.entry_set_new ?_⟩));skip;skip;have LL:=sub_set_self;obtain⟨hp,g,d,tk,os⟩:=s;skip;wp_walk;refine Rd (AW ?_);skip;skip;refine A5 (YH (AW ?_));exact AW h
theorem r_:∀{us:I A4}{ss:I U},M4 us ss->∀{i:O}{v:A4},us[i]?=G v->∃x t,ss[i]?=G x/\v=.str x t
 |_,_,.nil,i,_,h=>by simp at h|_,_,.cons x t _,0,_,h=>by simp at h;exact⟨x,t,rfl,h.symm⟩|_,_,.cons x t r,i+1,_,h=>by simpa using r_ r (i:=i) (by simpa using h)
theorem bf9{T rc re:D9}{args:I A4}{PK:A4->AR->Prop}(ft:TypeCalled T rc re)(hct:bJ0 T ⟨args,[]⟩=pure ())(bg0:D7 (AQ prog w) A.in1 (.call (.builtin rc) ⟨.type T::args,[]⟩) (Ya PK E) s)(bg1:∀obj AJ,PK obj AJ->AJ.TypeIs obj T/\D7 (AQ prog w) A.in1 (.call (.builtin re) ⟨obj::args,[]⟩) (Ya (λr Ai=>r=.none/\A2 obj Ai) E) AJ):AH (AQ prog w) A (call (.type T) args) A2 E s:=by
 refine DB ft.mro ?_;intro c cc1 bQ3;have bQ4:=ft.made;have LL:=ft.sub;refine HQ (Rc ?_);show AH _ _ (V4 (.type T) _) _ _ _;refine AW ⟨th _ (by decide+kernel),J5 F.entry_type_call ?_⟩;rw[Around.under_plain (weight_type_call_type T args []) rfl];have h1:=ft.notType;have h2:=ft.canCreate;repeat(any_goals(first|assumption|wp_step))
 refine v8 bg0 λr AJ hr=>?_;cases r with
 |error e=>exact hr|ok fl=>cases fl with
 |ret obj=>
  refine xA (bg1 _ _ hr) ?_;intro hT LB;have NK:=ft.init.lookup;have hbi:=ft.init.bind obj;repeat(any_goals(first|assumption|wp_step))
  refine v8 LB λBB Ai Xr=>?_;cases BB with
  |error e=>exact Xr|ok bg2=>cases bg2 with
  |ret r=>
   refine xA Xr ?_;(try clear Xr);intro B6 hq;subst B6;repeat(any_goals(first|assumption|wp_step))|_=>exact Xr.elim
 |_=>exact hr.elim
theorem bg3{l:A8}{ss:I U}(hh:A.handled=L)(hl:s.heap.IsList l us.toArray)(hi:M4 us ss)(hb:ss.length+1<Pm)(h:∀(Q:BK)(tk:O),HK prog w (!w.params.followText "set-order") Q s.heap.objs.size ss->(∀b o,s.heap.get? b=G o->Q.get? b=G o)->A2 (.ref s.heap.objs.size) {s with heap:=Q,toks:=tk}):AH (AQ prog w) A (call (.type "set") [.ref l]) A2 E s:=by
 refine bf9 (PK:=λobj AJ=>obj=.ref s.heap.objs.size/\AJ={s with heap:=s.heap.push {cls:=.type "set",dict:=L,data:=.set #[] 0 (.fresh 0 0 (!w.params.followText "set-order"))}}) bJ1 (F.typeCall_set_1 _) (code_set_new _ ⟨rfl,rfl⟩) λobj AJ AP=>?_;refine xA AP ?_;(try clear AP);intro BJ BP;subst BJ;subst BP;generalize Uh:(!w.params.followText "set-order")=led at h ⊢;have hS:(s.heap.push {cls:=.type "set",dict:=L,data:=.set #[] 0 (.fresh 0 0 led)}).get? s.heap.objs.size=G {cls:=.type "set",dict:=L,data:=.set #[] 0 (.fresh 0 0 led)}:=CY _ rfl;have hT:bJ2 {s with heap:=s.heap.push {cls:=.type "set",dict:=L,data:=.set #[] 0 (.fresh 0 0 led)}} (.ref s.heap.objs.size) "set":=⟨_,hS,rfl⟩;refine⟨hT,Lx bJ1.init.plain F.entry_set_init (check_set_init_1 hT ?_)⟩;have rf:l<s.heap.objs.size:=by refine AC hl ?_;(try clear hl);intro ol OQ _;exact Dh OQ
 have Eh:=bJ3 hl {cls:=.type "set",dict:=L,data:=.set #[] 0 (.fresh 0 0 led)};have Xt:bJ2 {s with heap:=s.heap.push {cls:=.type "set",dict:=L,data:=.set #[] 0 (.fresh 0 0 led)}} (.ref l) "list":=by refine CZ Eh ?_;(try clear Eh);intro ol OQ EK _;exact⟨ol,OQ,EK⟩
 have rg:l≠(s.heap.push {cls:=.type "set",dict:=L,data:=.set #[] 0 (.fresh 0 0 led)}).objs.size:=by rw[II];exact ER (fS rf)
 have NJ:s.heap.objs.size∉[(s.heap.push {cls:=.type "set",dict:=L,data:=.set #[] 0 (.fresh 0 0 led)}).objs.size,l]:=by
  rw[II];simp only[Cj,Jr,Js,gi];exact⟨ER (PS _),PY rf⟩
 have hz:us.toArray.size=ss.length:=by
  rw[List.size_toArray];clear h hb Eh rg NJ hS hT Xt hl;induction hi with|nil=>rfl|cons _ _ _ ih=>simp[ih]
 have rh:∀(A:CK)(E:A4->AR->Prop)(Q':DM->AR->Prop),A.handled=L->(∀Q tk,HK prog w led Q s.heap.objs.size ss->(∀b o,s.heap.get? b=G o->Q.get? b=G o)->Q' () {s with heap:=Q,toks:=tk})->AH (AQ prog w) A (bJ4 "set.__init__" s.heap.objs.size (.ref l)) Q' E {s with heap:=s.heap.push {cls:=.type "set",dict:=L,data:=.set #[] 0 (.fresh 0 0 led)}}:=by
  intro A E Q' hh h;skip;refine A5 (A5 (Lz Xt F.sub_list_set (Lz Xt F.sub_list_frozenset ?_)));show AH _ _ (Hh (.ref l)>>=_) _ _ _;refine A5 (Ru Xt ?_);skip;refine A5 (fy Eh (A5 (uw ?_)));have hh3:A.in1.handled=L:=by simp[hh]
  have AZ:=(Walks.list (prog:=prog) (w:=w) hh3 _ l rg us.toArray).toS;refine bf5 (A:=A) (n:=us.toArray.size) ss hz.symm AZ (λi v hv=>r_ hi (by rw[<-List.getElem?_toArray];exact hv)) s.heap.objs.size NJ (by rw[hz];exact hb) (us.toArray.size-0) 0 _ (by omega) (Ni _) ⟨⟨_,CY _ rfl,rfl,rfl⟩,bJ3 Eh _⟩ (HK.empty (C1 _ hS)) λs' hm Fb=>?_;rw[Moved.eq_with hm];refine AW (h s'.heap s'.toks Fb λb o e=>?_);have CF:=Dh e;refine hm.heap b o (λz=>?_) (C1 _ (C1 _ e));simp only[Cj,Jr,Js,II]at z;rcases z with z|z<;>rw[z]at CF;. exact J1 _ CF
  . exact absurd (PS _) (Nat.lt_asymm CF)
 unfold EB.«set.__init__»;generalize bJ4=cc2 at rh ⊢;wp_walk;refine rh _ _ _ (by simp[hh]) λQ tk Fb k'=>?_;exact AW ⟨rfl,h _ _ Fb k'⟩
end
end
section
open PyProof.Rows
section
theorem bg4{ri:Source}{A2:O->AR->Prop}(hn:n≠0)(h:∀i,i<n->A2 i {s with drawn:=s.drawn.bump ri}):AH Av A (choose ri n) A2 E s:=λ_ _ _=>⟨hn,h _ (bJ5 _ (fP hn))⟩
theorem ee:∀{l:I J}{i:O}(h:i<l.length),(l[i]::l.eraseIdx i).Perm l
 |x::l,0,_=>.refl _|x::l,i+1,h=>by
  simp only[List.getElem_cons_succ,List.eraseIdx_cons_succ];exact(bV8 ..).trans ((ee (l:=l) (by simpa using h)).cons x)
theorem rj:∀(n:O)(Y:I J)(s:AR){A2:I J->AR->Prop},Y.length=n->(∀ys dr,ys.Perm Y->A2 ys {s with drawn:=dr})->AH Av A (drawOrder n Y) A2 E s
 |0,Y,s,A2,hl,h=>by
  have :Y=[]:=gz hl;subst this;exact AW (h [] s.drawn (.refl _))|n+1,[],s,A2,hl,h=>by simp at hl|n+1,x::l,s,A2,hl,h=>by
  unfold drawOrder;refine A5 (bg4 (by simp) λi hi=>?_);rw[Hl hi];skip;refine A5 (rj n ((x::l).eraseIdx i) _ (by rw[bJ6 hi];simp at hl ⊢;exact hl) λys dr p=>?_);exact AW (h _ dr ((p.cons _).trans (ee hi)))
theorem rl{next:O->O}:∀(n k:O)(left:I J)(out:BW J),left.length=n->(v9 next n k left out).toList.Perm (out.toList++left)
 |0,_,left,out,h=>by
  have :left=[]:=gz h;subst this;unfold v9;simp|n+1,k,left,out,h=>by
  have hi:next k%left.length<left.length:=bJ5 _ (by omega);unfold v9;rw[Hl hi];refine(rl n (k+1) _ _ (by rw[bJ6 hi];(with_reducible exact Mine.vz (by assumption)))).trans ?_;rw[VE,Uq];exact(ee hi).append_left _
theorem bg5{next:O->O}{Y:BW J}:(Yl next Y).toList.Perm Y.toList:=by
 have :=rl (next:=next) Y.size 0 Y.toList #[] (by simp);simpa[Yl]using this
theorem Xu:M1 "set_iterator" "__next__" "set_iterator.__next__":=.of (owner:="set_iterator") (n:="__next__") (by rw[J6,J7];kernel_rfl) (by decide+kernel) (by decide+kernel) (by decide+kernel) (by first|exact .inl (by decide+kernel)|exact .inr (by decide+kernel)) (by rw[J8];kernel_rfl)
theorem bg6:Lv Lw "set_iterator.__next__"=G EB.«set_iterator.__next__»:=YF (by kernel_rfl)
theorem rm:bJ7.lookup (t4 ['r','o','t','a','r','e','t','i','_','t','e','s'].reverse)=G Manifest.sig_set_iterator:=by kernel_rfl
theorem bg7(a:A4):Jp "set_iterator.__next__" ⟨[a],[]⟩:=by unfold Jp;rw[i3 (id:="set_iterator.__next__") (n:=['_','_','t','x','e','n','_','_']) (o:=['r','o','t','a','r','e','t','i','_','t','e','s']) (by kernel_rfl) rm];kernel_rfl
theorem bg8:Lv Lw "set.__iter__"=G EB.«frozenset.__iter__»:=vA (id':="frozenset.__iter__") ((VN _).trans (by kernel_rfl)) (by kernel_rfl) (by decide+kernel) ((VN _).trans (by kernel_rfl))
noncomputable def RL(w:EC)(T:A8)(N:BW (AX×A4))(ep:O)(t:G4)(a AE:A8)(h:BK)(ord:I (AX×A4))(i:O)(first:A4):Prop:=(w.params.followText "set-order"=M/\ord=(Yl (w.params.setOrder a ep) N).toList/\∃k:O,first=.int k 0)\/(w.params.followText "set-order"=A6/\N.size<=1/\t.led=M/\ord=N.toList/\∃k:O,first=.int k 0/\i4 t.place k=i)\/(∃o us n ps,first=.ref T/\T≠AE/\h.get? T=G o/\o.data=.seq us n/\us.toList=(ps:I O).map (λ(p:O)=>V9 p 0)/\ord.length=ps.length/\∀(j p:O),ps[j]?=G p->∃e,N[p]?=G e/\ord[j]?=G e)
structure SW(w:EC)(T a AE:A8)(N:BW (AX×A4))(ep:O)(t:G4)(ord:I (AX×A4))(i:O)(h:BK):Prop where
 set:h.get? a=G {cls:=.type "set",dict:=L,data:=.set N ep t}it:∃first,h.get? AE=G {cls:=.type "set_iterator",dict:=L,data:=.fields #[first,.int i 0,.ref a,.int N.size 0,.int ep 0]}/\RL w T N ep t a AE h ord i first
theorem rn:i4 #[j] 0=0/\i4 #[j] (j+1)=1:=by constructor<;>simp[i4,bV9]
theorem rp{t:G4}(this:t.place.size=1):∃j,t.place=#[j]:=by
 refine⟨t.place[0],Array.ext this λn h1 h2=>?_⟩;have :n=0:=by simp at h2;exact h2
 subst this;rfl
theorem ef{A2:AK->AR->Prop}(h:A2 (w.params.followText "set-order") s):AH (AQ prog w) A setsByText A2 E s:=A5 (Rd (AW h))
theorem bg9{T:A8}{N:BW (AX×A4)}{k:O}{t:G4}(ho:s.heap.get? a=G {cls:=.type "set",dict:=L,data:=.set N ep t})(hf:t.fits N.size=M)(hF:RL w T N ep t a AE Af ord i (.int k 0)){A2:AD (A4×O)->AR->Prop}(hs:∀e(k':O),ord[i]?=G e->(∀h,RL w T N ep t a AE h ord (i+1) (.int k' 0))->A2 (G (e.2,k')) s)(hn:ord[i]?=L->A2 L s):AH (AQ prog w) A (vB a k i ep) A2 E s:=by
 unfold vB;refine A5 (Yk ho rfl hf ?_);skip;refine A5 (ef ?_);rcases hF with Aw|B6|BJ;refine IN Aw ?_;(try clear Aw);intro hb Ck k' _;subst Ck;rotate_left;refine iN B6 ?_;(try clear B6);intro hb h1 hl D8 k' hk bh0;subst D8;rotate_left;refine Jx BJ ?_;(try clear BJ);intro o us n ps hT _;rotate_left
 . rw[hb];simp only[↓vC];rw[CS (by simp)];refine A5 ?_;unfold setWalk;refine A5 (Yk ho rfl hf ?_);skip;refine A5 (ef ?_);rw[hb];skip;refine A5 (Rd (AW ?_));refine AW ?_;show A2 (gY _ (Yl (w.params.setOrder a ep) N)[i]?) s;cases hx:(Yl (w.params.setOrder a ep) N)[i]? with
 |none=>exact hn (by rw[Rw];exact hx)|some e=>exact hs e k (by rw[Rw];exact hx) λh=>.inl ⟨hb,rfl,k,rfl⟩
 . rw[hb];simp only[Kl,↓vC];injection hk with hk;have hk:=bW0 hk;subst hk;refine Pa (λGc=>?_) (λ_=>?_)
   . have :(!t.plain&&decide (N.size>1))=M:=Gc;simp at this;omega
   show AH _ _ ((if(!t.led&&!N.isEmpty)=M then R_ "set:maker-not-led"else pure ())>>=_) _ _ s;rw[hl];refine A5 (AW ?_);have hp:t.place.size=N.size:=by have :=hf;simp only[bJ8,D6,Rh]at this;exact this.1
   refine AW ?_;rw[bh0];cases hx:N[i]? with
 |none=>exact hn (by rw[Rw];exact hx)|some e=>
     have hi:i<N.size:=(gV.mp hx).1;have h0:i=0:=by(with_reducible exact Mine.wA (by assumption) (by assumption))
     subst h0;refine xE (rp (t:=t) (by(with_reducible exact Mine.wB (by assumption) (by assumption) (by assumption)))) ?_;intro j hj;obtain⟨h,x⟩:=e;rw[hj];exact hs (h,x) (j+1) (by rw[Rw];exact hx) λh=>.inr (.inl ⟨hb,h1,hl,rfl,j+1,rfl,by rw[hj];exact rn.2⟩)
 . (exfalso;cases hT)
theorem RL.el{T:A8}{N:BW (AX×A4)}{t:G4}{first:A4}(F:RL w T N ep t a AE h ord i first){P:Prop}(c1:∀k:O,first=.int k 0->P)(c2:∀o us n ps,first=.ref T->T≠AE->h.get? T=G o->o.data=.seq us n->us.toList=(ps:I O).map (λ(p:O)=>V9 p 0)->ord.length=ps.length->(∀(j p:O),ps[j]?=G p->∃e,N[p]?=G e/\ord[j]?=G e)->P):P:=F.elim (λF=>IN F λ_ _ k e=>c1 k e) λF=>F.elim (λF=>iN F λ_ _ _ _ k e _=>c1 k e) λF=>Jx F λo us n ps e r=>S8 r λa b d f g l=>c2 o us n ps e a b d f g l
theorem Ui{j:A8}{v:A4}{vs:BW A4}(g:h.get? AE=G {cls:=.type "set_iterator",dict:=L,data:=.fields vs}):(h.update AE (Rz (·.setIfInBounds j v))).get? AE=G {cls:=.type "set_iterator",dict:=L,data:=.fields (vs.setIfInBounds j v)}:=FS (Rz (·.setIfInBounds j v)) g rfl
theorem rq{T:A8}{N:BW (AX×A4)}{t:G4}(hh:A.handled=L)(hf:t.fits N.size=M)(hI:a≠AE)(AZ:SW w T a AE N ep t ord i s.heap){A2:AD A4->AR->Prop}(h1:∀e,ord[i]?=G e->∀Q,SW w T a AE N ep t ord (i+1) Q->E4 AE s.heap Q->A2 (G e.2) {s with heap:=Q})(h2:ord[i]?=L->∀Q,Ds AE s.heap Q->A2 L {s with heap:=Q}):AH (AQ prog w) A (ES (.ref AE)) A2 E s:=by
 obtain⟨ho,first,Bz,hF⟩:=AZ;have hT:s.TypeIs (.ref AE) "set_iterator":=⟨_,Bz,rfl⟩;unfold ES;refine A5 (Ro (Lu (name:=Ev "__next__") hT Xu (Gn Xu hT bg6 ?_ (bg7 _))));refine A5 (AW ?_);refine A5 (wpAny_fieldsOf Bz rfl ?_);show AH _ _ (setEntries a>>=_) _ _ s;refine A5 (bJ9 ho rfl hf ?_);rw[CS (by simp)];have rt:ord[i]?=L->∀(s':AR)(hb:Ds AE s.heap s'.heap)(he:s'={s with heap:=s'.heap}),AH (AQ prog w) A.in1 (gN (.type "StopIteration") []>>=λe=>hZ e) (λfin s'=>∃v,fin=Fin.done (Flow.ret v)/\AH (AQ prog w) A (match Except.ok (G v)with|.ok (G v)=>pure (G v)|.ok L=>R_ "iter:the-iterator's-class-has-lost-its-__next__-amid-the-walk"|.error e=>do if<-V5 e (.type "StopIteration")then pure L else throw e) A2 E s') (λe s'=>AH (AQ prog w) A (match(Except.error e:Except A4 (AD A4))with|.ok (G v)=>pure (G v)|.ok L=>R_ "iter:the-iterator's-class-has-lost-its-__next__-amid-the-walk"|.error e=>do if<-V5 e (.type "StopIteration")then pure L else throw e) A2 E s') s':=by
   intro hx s' hb he;refine A5 ?_;simp only[gN,YL];refine A5 (IG ?_ (by size_fits));refine A5 (m:=V6 _ _) (NY (a:=Hi) (by first|rfl|(simp only[V6];rfl)) ?_);refine IG ?_ (by size_fits);simp only[hZ];refine A5 (to ?_);rw[show A.in1.handled=L from hh];refine A5 (AW (gO ?_));refine A5 (Lz (T:="StopIteration") (b:=M) ⟨_,CY _ rfl,rfl⟩ gP ?_);rw[he];exact AW (h2 hx _ ((hb.push _).push _))
 refine hF.el (λk e=>?_) λo us n ps e RM rz hd s6 hl hp=>?_
 . subst e;show AH _ _ (vB a k i ep>>=_) _ _ s;refine A5 (bg9 ho hf hF (λe k' he hF'=>?_) λhx=>?_)
   . refine A5 (Ly Bz rfl (by simp) ?_);refine A5 (Ly (s:={s with heap:=_}) (Ui Bz) rfl (by simp) ?_);refine AW ⟨_,rfl,AW (h1 e he _ ⟨?_,.int k' 0,Ui (Ui Bz),hF' _⟩ ((Fh ..).trans (Fh ..)))⟩;rw[GO _ _ (CX hI),GO _ _ (CX hI)];exact ho
   . refine A5 (Ly Bz rfl (by simp) ?_);exact rt hx _ (Fh ..).extBut rfl
 . subst e;show AH _ _ (Nf (.ref T)>>=_) _ _ s;refine A5 (Ng rz hd ?_);have hui:us[i]?=(ps[i]?).map λ(p:O)=>V9 p 0:=by rw[<-Rw,s6,VJ]
   dsimp only;rw[gL,hui];cases s7:ps[i]? with
 |some p=>
     refine AC (hp i p s7) ?_;intro e Xk he2;refine A5 (A5 (Yk ho rfl hf ?_));dsimp only;rw[CS (by simp)];rw[gL,Xk];refine AW ?_;refine A5 (Ly Bz rfl (by simp) ?_);refine AW ⟨_,rfl,AW (h1 e he2 _ ⟨?_,.ref T,Ui Bz,.inr (.inr ⟨o,us,n,ps,rfl,RM,?_,hd,s6,hl,hp⟩)⟩ (Fh ..))⟩;. rw[GO _ _ (CX hI)];exact ho
     . rw[GO _ _ (CX RM)];exact rz|none=>
     refine A5 (Ly Bz rfl (by simp) ?_);refine A5 (Ly (s:={s with heap:=_}) (Ui Bz) rfl (by simp) ?_);exact rt (VG (hl▸fx.mp s7)) _ ((Fh ..).trans (Fh ..)).extBut rfl
end
end
section
open PyProof.Rows
section
theorem eg{N:BW J}:∀{ys:I O},(∀p∈ys,p<N.size)->(ys.filterMap λp=>N[p]?).map G=ys.map λp=>N[p]?
 |[],_=>rfl|p::ys,h=>by
  have hp:=h p (Co ..);rw[bB4 (Rs hp),J4,J4,eg λq m=>h q (Cp _ m),Rs hp]
theorem bh1{N:BW J}{ys:I O}(h:∀p∈ys,p<N.size):(ys.filterMap λp=>N[p]?).length=ys.length:=by have :=congrArg Rq (eg h);simpa using this
theorem bh2{N:BW J}{ys:I O}(h:∀p∈ys,p<N.size):(ys.filterMap λp=>N[p]?)[j]?=(ys[j]?).bind λp=>N[p]?:=by
 have :=congrArg (λl=>l[j]?) (eg h);simp only[VJ]at this;cases h1:ys[j]? with
 |none=>rw[h1]at this;simpa using this|some p=>rw[h1]at this;cases h2:(ys.filterMap λp=>N[p]?)[j]? with
 |none=>rw[h2]at this;simp at this|some e=>rw[h2]at this;simpa using this
theorem bh3{N:BW (AX×A4)}{t:G4}{P:I U}(ho:s.heap.get? a=G {cls:=.type "set",dict:=L,data:=.set N ep t})(T:NI prog w (!w.params.followText "set-order") N t P)(hQ:∀(AE T:A8)(ord:I (AX×A4))(Q:BK)(dr:_),s.heap.get? AE=L->(T=a\/s.heap.get? T=L)->T≠AE->ord.Perm N.toList->SW w T a AE N ep t ord 0 Q->(∀b o,s.heap.get? b=G o->Q.get? b=G o)->A2 (.ref AE) {s with heap:=Q,drawn:=dr}):AH (AQ prog w) A (PV (.ref a)) A2 E s:=by
 have hT:s.TypeIs (.ref a) "set":=⟨_,ho,rfl⟩;have hz:N.size<=FA:=h_ T.sz;refine vD hT bK0 (Gn bK0 hT bg8 ?_ (F.args_set_iter_1 _));skip;refine A5 (show AH _ _ (pure a) _ _ s from AW ?_);refine A5 (show AH _ _ (setEntries a>>=_) _ _ s from A5 (bJ9 ho rfl T.fits (AW ?_)));refine A5 ?_;skip;refine A5 (Yk ho rfl T.fits ?_);dsimp only;refine A5 (ef (AW ?_));have fin:∀(Tp:A8)(first:A4)(AJ:AR)(ord:I (AX×A4)),ord.Perm N.toList->(∀b o,s.heap.get? b=G o->AJ.heap.get? b=G o)->AJ={s with heap:=AJ.heap,drawn:=AJ.drawn}->(∀h,(∀b o,AJ.heap.get? b=G o->h.get? b=G o)->RL w Tp N ep t a AJ.heap.objs.size h ord 0 first)->(Tp=a\/s.heap.get? Tp=L)->Tp≠AJ.heap.objs.size->AH (AQ prog w) A.in1 (setEpoch a>>=λe=>newFields "set_iterator" [first,ET 0,.ref a,ET N.size,ET e]>>=λv=>ret v) (λfin s'=>∃v,fin=.done (.ret v)/\∃T' r,s'.TypeIs v T'/\Pg (.type T') "__next__"=pure (G r)/\A2 v s') E AJ:=by
  intro Tp first AJ ord hp kp he hF Wb RM;refine A5 (wpAny_setEpoch_of (kp _ _ ho) rfl T.fits ?_);refine A5 (IG ?_);refine AW ⟨_,rfl,"set_iterator",_,⟨_,CY _ rfl,rfl⟩,Xu.lookup,?_⟩;have hn:s.heap.get? AJ.heap.objs.size=L:=by cases e:s.heap.get? AJ.heap.objs.size with
 |none=>rfl|some o=>exact absurd (Dh (kp _ _ e)) (J1 _)
  have :=hQ AJ.heap.objs.size Tp ord (AJ.heap.push {cls:=.type "set_iterator",dict:=L,data:=.fields #[first,.int 0 0,.ref a,.int N.size 0,.int ep 0]}) AJ.drawn hn Wb RM hp ⟨C1 _ (kp _ _ ho),first,CY _ rfl,hF _ λb o e=>C1 _ e⟩ λb o e=>C1 _ (kp _ _ e);rw[he];exact this
 cases hb:w.params.followText "set-order"with
 |true=>
  simp only[bF9,Bool.false_and,Kl,↓vC];refine A5 (AW (fin a _ s _ bg5 (λ_ _ e=>e) rfl (λh _=>.inl ⟨hb,rfl,0,rfl⟩) (.inl rfl) (ER (Dh ho))))|false=>
  simp only[Bool.not_false,Bool.true_and];refine Pa (λGc=>?_) (λGc=>?_)
  . refine A5 (rj N.size (DN N.size) s (by simp) λys dr hp=>?_);have hl:ys.length=N.size:=by rw[hp.length_eq,bz0]
    refine A5 (gm ?_ (by rw[Jo,hl];exact hz));have CF:∀p∈ys,p<N.size:=λp m=>Nj.mp (hp.mem_iff.mp m);refine fin s.heap.objs.size _ _ (ys.filterMap λp=>N[p]?) ?_ (λb o e=>C1 _ e) rfl (λh k=>.inr (.inr ⟨_,_,_,ys,rfl,?_,k _ _ (CY _ rfl),rfl,?_,?_,?_⟩)) (.inr (GF s.heap)) ?_
    . have :=hp.filterMap λp=>N[p]?;rw[filterMap_getElem?_range]at this;exact this
    rotate_left 4
    . show s.heap.objs.size≠(bK1 _ _).objs.size;rw[II];exact ER (PS _)
    . show s.heap.objs.size≠(bK1 _ _).objs.size;rw[II];exact ER (PS _)
    . simp[ET]
    . exact bh1 CF
    . intro j p s8;have R9:p<N.size:=CF p (Ew s8);exact⟨N[p],Rs R9,by rw[bh2 CF,s8];exact Rs R9⟩
  . have :(!t.plain&&decide (N.size>1))=A6:=by cases q:(!t.plain&&decide (N.size>1))with
 |false=>rfl|true=>exact absurd q Gc
    have h1:N.size<=1:=by
      rcases T.plain with z|z;. omega
      . rw[z]at this;simp at this;exact this
    refine A5 (AW (fin a _ s _ (.refl _) (λ_ _ e=>e) rfl (λh _=>.inr (.inl ⟨hb,h1,?_,rfl,0,rfl,?_⟩)) (.inl rfl) (ER (Dh ho))));. rw[T.led,hb];rfl
    . have hp:t.place.size=N.size:=by have :=T.fits;simp only[bJ8,D6,Rh]at this;exact this.1
      by_cases h0:N.size=0
      . have :t.place=#[]:=bx2 (by(with_reducible exact uQ (by assumption) (by assumption)));rw[this];rfl
      . refine xE (rp (t:=t) (by(with_reducible exact Mine.vy (by assumption) (by assumption) (by assumption)))) ?_;intro j hj;rw[hj];exact rn.1
theorem SW.frame{T:A8}{N:BW (AX×A4)}{t:G4}(AZ:SW w T a AE N ep t ord i h)(k:∀b∈[AE,a,T],∀o,h.get? b=G o->Q.get? b=G o):SW w T a AE N ep t ord i Q:=by
 obtain⟨ho,first,Bz,hF⟩:=AZ;refine⟨k a (by simp) _ ho,first,k AE (by simp) _ Bz,?_⟩;rcases hF with x|x|B6;rotate_left;rotate_left;refine VT B6 ?_;(try clear B6);intro o us n ps e ne g r;rotate_left;. exact .inl x
 . exact .inr (.inl x)
 . exact .inr (.inr ⟨o,us,n,ps,e,ne,k T (by simp) _ g,r⟩)
theorem s9:M1 "set_iterator" "__iter__" "set_iterator.__iter__":=.of (owner:="set_iterator") (n:="__iter__") (by rw[J6,J7];kernel_rfl) (by decide+kernel) (by decide+kernel) (by decide+kernel) (by first|exact .inl (by decide+kernel)|exact .inr (by decide+kernel)) (by rw[J8];kernel_rfl)
theorem bh4:Lv Lw "set_iterator.__iter__"=G EB.«dict_keyiterator.__iter__»:=vA (id':="dict_keyiterator.__iter__") ((VN _).trans (by kernel_rfl)) (by kernel_rfl) (by decide+kernel) ((VN _).trans (by kernel_rfl))
theorem bh5(a:A4):Jp "set_iterator.__iter__" ⟨[a],[]⟩:=by unfold Jp;rw[i3 (id:="set_iterator.__iter__") (n:=['_','_','r','e','t','i','_','_']) (o:=['r','o','t','a','r','e','t','i','_','t','e','s']) (by kernel_rfl) rm];kernel_rfl
theorem bh6{T:A8}{N:BW (AX×A4)}{t:G4}(hh:A.handled=L)(hf:t.fits N.size=M)(hI:a≠AE)(hl:ord.length=N.size):WalksS prog w A AE [AE,a,T] [AE] (λa b=>b=a) N.size (λi v=>∃e,ord[i]?=G e/\v=e.2) (λi s=>T≠AE/\SW w T a AE N ep t ord i s.heap)where
 sub:=λb hb=>by simp at hb;simp[hb]
 grefl:=λ_=>rfl;gtrans:=λ_ _ _ h1 h2=>h2.trans h1;frame:=λi s Q tk st _ k=>⟨st.1,st.2.frame k⟩;item:=λi s A2 E hi st hQ=>rq hh hf hI st.2 (λe he Q W' sb=>hQ _ _ ⟨e,he,rfl⟩ ⟨st.1,W'⟩ ⟨λb o hb e=>(sb.2 b (λz=>hb (by simp[z]))).trans e,rfl,rfl,rfl,DF _⟩) λhx=>absurd (fx.mp hx) (Nat.not_le.mpr (hl▸hi));done:=λs A2 E st hQ=>rq hh hf hI st.2 (λe he=>absurd (HM.mp he).1 (hl▸J1 _)) λ_ Q eb=>hQ _ ⟨λb o hb e=>eb b o (λz=>hb (by simp[z])) e,rfl,rfl,rfl,DF _⟩;self:=λi s A2 E st hQ=>by
  obtain⟨_,ho,first,Bz,_⟩:=st;have hT:s.TypeIs (.ref AE) "set_iterator":=⟨_,Bz,rfl⟩;refine vD hT s9 (Gn s9 hT bh4 ?_ (bh5 _));show AH _ _ (ret (.ref AE)) _ _ s;exact AW ⟨_,rfl,"set_iterator",_,hT,Xu.lookup,hQ⟩
theorem bh7{r:A8}{A2:AK->AR->Prop}(hT:s.TypeIs (.ref r) "set")(h:A2 A6 s):AH (AQ prog w) A (i5 (.ref r)) A2 E s:=by
 unfold i5;refine A5 (YN hT F.slot_set_len.lookup ?_);generalize sA:("set.__len__":D9)=id0;wp_delta;rw[show gK id0=G ("set","__len__")from by subst sA;decide+kernel];subst sA;refine A5 (Lz (T:="set") (b:=M) hT sub_set_self ?_);refine Pa (λGc=>absurd Gc (by decide)) (λ_=>?_);refine Pa (λ_=>?_) (λGc=>absurd (by decide+kernel) Gc);refine A5 (Ru hT ?_);exact AW h
theorem bh8{N:I (AX×A4)}(h:∀e∈N,∃x u,e.2=.str x u):M4 (N.map (·.2)) (N.map λe=>strOf e.2):=by induction N with
 |nil=>exact .nil|cons e N ih=>
 refine DB (h e (Co ..)) ?_;intro x u q;simp only[J4,q];exact .cons x u (ih λe m=>h e (Cp _ m))
theorem bh9{P:I U}(hh:A.handled=L)(hS:HK prog w (!w.params.followText "set-order") s.heap a P){AS:I A4->AR->Prop}(hR:∀(vs:I A4)(ss:I U)(s':AR),M4 vs ss->ss.Nodup->(∀x,x∈ss↔x∈P)->(∀b o,s.heap.get? b=G o->s'.heap.get? b=G o)->s'.gens=s.gens->s'.os=s.os->AS vs s'):AH (AQ prog w) A (YG (.ref a)) AS E s:=by
 refine Hq hS ?_;(try clear hS);intro N ep t ho T;have hz:N.size<=FA:=h_ T.sz;have eh:a≠s.heap.objs.size:=ER (Dh ho);unfold YG;refine A5 (uw (J5 entry_proto_collect' ?_));skip;show AH _ A.in1 (tP []>>=λl=>Kk (.builtin "list.__iadd__" ⟨[l,.ref a],[]⟩)) _ _ s;refine A5 (IG ?_);refine AW ⟨plainId_quiet F.plain_list_iadd _,J5 entry_list_iadd' ?_⟩;skip;have Uj:(s.heap.push {cls:=.type "list",data:=.seq ([]:I A4).toArray}).get? s.heap.objs.size=G {cls:=.type "list",data:=.seq #[]}:=CY _ rfl;have Oa:(s.heap.push {cls:=.type "list",data:=.seq ([]:I A4).toArray}).get? a=G {cls:=.type "set",dict:=L,data:=.set N ep t}:=C1 _ ho;show AH _ A.in1 (Ym (.ref s.heap.objs.size) (.ref a) (.ref s.heap.objs.size)) _ _ _;unfold Ym;refine A5 (Ru (T:="set") ⟨_,Oa,rfl⟩ ?_);have h1:i6 (.ref s.heap.objs.size) (.ref a)=A6:=by simp[i6,CX eh]
 have h2:(Kr "set"==Kr "list")=A6:=by decide
 have h3:(Kr "set"==Kr "tuple")=A6:=by decide
 simp only[h1,h2,h3,bK2,Kl,Km];refine A5 (bh3 (s:={s with heap:=s.heap.push {cls:=.type "list",data:=.seq ([]:I A4).toArray}}) Oa T λAE Tp ord Q dr PL eq RM hp AZ kp=>?_);have PL:(s.heap.push {cls:=.type "list",data:=.seq ([]:I A4).toArray}).get? AE=L:=PL;have eq:Tp=a\/(s.heap.push {cls:=.type "list",data:=.seq ([]:I A4).toArray}).get? Tp=L:=eq;have kp:∀b o,(s.heap.push {cls:=.type "list",data:=.seq ([]:I A4).toArray}).get? b=G o->Q.get? b=G o:=kp;have hl:ord.length=N.size:=by rw[hp.length_eq,VF]
 have hIa:a≠AE:=λz=>by rw[<-z,Oa]at PL;(exfalso;cases PL)
 have LO:s.heap.objs.size≠AE:=λz=>by rw[<-z,Uj]at PL;(exfalso;cases PL)
 have hTS:s.heap.objs.size≠Tp:=by
   rcases eq with z|z;. rw[z];exact CX eh
   . intro q;rw[<-q,Uj]at z;(exfalso;cases z)
 have NJ:s.heap.objs.size∉[AE,a,Tp]:=by simp only[Cj,Jr,Js,gi];exact⟨LO,CX eh,hTS⟩
 have hW:=bh6 (prog:=prog) (w:=w) (A:=A.in1) (ep:=ep) (T:=Tp) (by simp[hh]) T.fits hIa hl;have key:∀(h:BK)(es:O),SW w Tp a AE N ep t ord 0 h->(∀b o,b≠s.heap.objs.size->Q.get? b=G o->h.get? b=G o)->h.get? s.heap.objs.size=G {cls:=.type "list",data:=.seq #[] es}->D7 (AQ prog w) A (.builtin "list.extend.loop" ⟨[.ref s.heap.objs.size,.ref AE,.ref s.heap.objs.size],[]⟩) (λq s'=>match q with
 |.ok (.ret v)=>AH (AQ prog w) A (match v with
 |.ref a=>load a>>=λo=>match o.data with
      |.seq Y _=>pure Y.toList|_=>R_ "internal:collect"
 |_=>R_ "internal:collect") AS E s'|.ok _=>Bj|.error e=>E e s') {s with heap:=h,drawn:=dr}:=by
   intro h es HF hk Uj;refine codeAny_extend_loopS hW hz _ NJ _ N.size 0 _ #[] es rfl (Ni _) ⟨RM,HF⟩ Uj (ItemsOf.nil _) λs' Ig c' hm Fb Oc=>?_;show AH _ A (load s.heap.objs.size>>=_) _ _ _;refine A5 (NW Fb (AW ?_));have hv:Ig.toList=ord.map (·.2):=by
    refine List.ext_getElem? λj=>?_;rw[Rw,VJ];cases q:Ig[j]? with
 |none=>
     have :N.size<=j:=by rw[<-Oc.1];simpa using q
     rw[VG (by rw[hl];exact this)];rfl|some v=>refine AC (Oc.2 j v q) ?_;intro e he Aw;clear q;subst Aw;rw[he];rfl
   rw[hv];have eu:∀e∈ord,∃x u,e.2=.str x u:=λe m=>T.str e (hp.mem_iff.mp m);have sB:(ord.map λe=>strOf e.2).Perm (Lk N):=hp.map _;refine hR _ _ s' (bh8 eu) (sB.nodup_iff.mpr T.nd) (λx=>(sB.mem_iff).trans (T.mem x)) (λb o e=>?_) hm.gens hm.os;have DU:(s.heap.push {cls:=.type "list",data:=.seq ([]:I A4).toArray}).get? b=G o:=C1 _ e;refine hm.heap b o (λz=>?_) (hk b o (ER (Dh e)) (kp b o DU));rcases Cj.mp z with z|z;. exact absurd (Dh e) (by rw[z];exact J1 _)
   . rw[CI.mp z,PL]at DU;exact(BE DU).elim
 have RN:=kp _ _ Uj;refine A5 (C0 (bh7 ⟨_,kp _ _ Oa,rfl⟩ ?_));refine Pa (λ_=>?_) (λ_=>AW ⟨plainId_quiet vE _,key _ 0 AZ (λb o _ e=>e) RN⟩);refine A5 (Gm ?_);refine A5 ?_;show AH _ _ (Rv s.heap.objs.size (·.push .none)>>=λ_=>Rv s.heap.objs.size (·.pop)) _ _ _;refine A5 (Nh RN rfl ?_);have Uk:=FS (GN (·.push Hi)) RN rfl;refine Nh (hz:=by seq_fits) Uk rfl ?_;have f0:=FS (GN (·.pop)) Uk rfl;refine AW ⟨plainId_quiet vE _,key _ _ ?_ (λb o hb e=>?_) f0⟩
 . refine AZ.frame λb hb o e=>?_;have sE:b≠s.heap.objs.size:=λh=>NJ (h▸hb);exact(GO _ _ (CX sE)).trans ((GO _ _ (CX sE)).trans e)
 . exact(GO _ _ (CX hb)).trans ((GO _ _ (CX hb)).trans e)
end
end
open PyProof.Rows(StrsAre sortedS risingS)
section
theorem bi0{x:A4}(hl:l.length<60)(hc:∀(AS:I A4->AR->Prop)(E:A4->AR->Prop),(∀vs ss s',M4 vs ss->(ss.map tx).Perm l->(∀b o,s.heap.get? b=G o->s'.heap.get? b=G o)->s'.gens=s.gens->s'.os=s.os->AS vs s')->AH (AQ prog w) A.in1 (YG x) AS E s)(hQ:∀(D:A8)(us:BW A4)(s':AR)(e:O),s.heap.get? D=L->s'.heap.get? D=G {cls:=.type "list",data:=.seq us e}->(∀b o,s.heap.get? b=G o->s'.heap.get? b=G o)->s'.gens=s.gens->s'.os=s.os->(∀h C,Aa h C ((Ea l).map .str) us.toList)->A2 (.ref D) s'):AH (AQ prog w) A (call (.builtin "sorted") [x]) A2 E s:=by
 refine bE0 bE1 bE2 bE3 (bE4 _) ?_;skip;refine A5 (m:=checkCount "sorted" 1 1 _) (AW ?_);refine A5 (hc _ _ λvs ss s' hS hp kp hg ho=>?_);have Ch:vs.length=l.length:=by
   have h1:=hp.length_eq;have h2:vs.length=ss.length:=by clear hp h1;induction hS with|nil=>rfl|cons _ _ _ ih=>simp[ih]
   simp at h1;(with_reducible exact uQ (by assumption) (by assumption))
 have hn:s.heap.get? s'.heap.objs.size=L:=by cases e:s.heap.get? s'.heap.objs.size with
 |none=>rfl|some o=>exact absurd (Dh (kp _ _ e)) (J1 _)
 refine A5 (uR ?_ (by rw[Ch];exact B4 (show l.length<=60 by(with_reducible exact Gj (by assumption))) (by decide)));have KG:(s'.heap.push {cls:=.type "list",data:=.seq vs.toArray}).get? s'.heap.objs.size=G (uS "list" vs.toArray 0):=CY _ rfl;refine A5 (C0 (Gn uT ⟨_,KG,rfl⟩ uU (bE5 bE6 KG hS.keysOf (λHy aq3 C4 e=>bE7 (by rw[<-e];exact hS)) (by omega) λbz a1 a2=>⟨_,rfl,?_⟩) (uV _)));refine CZ (bE8 hS a1 a2) ?_;intro Od h1 h2 h3;have key:Od.map tx=Ea l:=mx h3 ((h2.map tx).trans hp);refine xE (uW (vs:=vs) (out:=(bE9 bz).map (·.2)) KG) ?_;intro e he;refine AW ⟨_,rfl,hQ s'.heap.objs.size _ _ e hn he (λb o q=>?_) hg ho λh C=>?_⟩
 . have lt:=Dh (kp _ _ q);rw[uX (ER lt) (by rw[II];exact fS lt)];exact C1 _ (kp _ _ q)
 . rw[<-key];exact bx h1
end
section
variable{CR:Kx->Cd->Mine.St->AD A0}
theorem Gd.bi1(g:Gd B F K A H C s)(hh:s'.heap=s.heap)(ho:s'.os=s.os)(hg:s'.gens=s.gens):Gd B F K A H C s':=⟨g.kinds,g.len,g.nodup,g.fresh,hh▸g.live,hh▸g.D5,hh▸g.D1,hh▸g.objs,hh▸g.env,hh▸g.base,ho.trans g.os,hg.trans g.gens,g.frames,hh▸g.DT,hh▸g.Cy,g.mods,g.handled,g.depth,g.units⟩
theorem sF{Bl:Gl B A3}{y:AA}{w:A4}(hg:Di K.sc id=M)(hw:Ah A3.glob id=G (.top w))(hc:∀h,CW (AQ B.prog B.w) h w)(hp:CP y=M)(g:Gd B F K A H C s)(h:∀BG EN,Gd B F K A H BG EN->Nx F.D [] s.heap EN.heap C BG->AH (AQ B.prog B.w) A (eval y F.env) (λu s'=>AH (AQ B.prog B.w) A (CE w [u]) A2 E s') E EN):AH (AQ B.prog B.w) A (eval (.Call (.Name id p) [y] [] pos) F.env) A2 E s:=by exact Wk (Bl:=Bl) hg hw (show(CP y&&M)=M by rw[hp];rfl) g λA_ AJ AN Ab=>Lr (Fg (h A_ AJ AN Ab) (λu s' q=>Ur ⟨hc _,q⟩) λ_ _ e=>e) (K8 hp)
set_option tactic.hygienic true in
theorem Xv:∀{l:I Tx}{x:Tx},x∈Hu l↔x∈l
 |[],x=>VI|y::l,x=>by
  unfold Hu;split
  . rename_i h;refine AC (IJ.mp h) ?_;intro z hz e;rw[Xv,Cj];refine⟨.inr,λq=>q.elim (λq=>?_) id⟩;rw[q,Ec.mp e];exact Xv.mp hz
  . rw[Cj,Xv,Cj]
set_option tactic.hygienic true in
theorem f1:∀{l:I Tx},(Hu l).Nodup
 |[]=>HN|y::l=>by
  unfold Hu;split;. exact f1
  . rename_i h;refine EU.mpr ⟨λm=>?_,f1⟩;have :=YB.mp h y m;exact this (Ec.mpr rfl)
theorem f3:∀{l:I Tx},(Hu l).length<=l.length
 |[]=>DF _|y::l=>by
  unfold Hu;split;. exact gw f3
  . exact Ln f3
theorem bi2:Function.Injective tx:=λa b h=>by
 obtain⟨⟨a⟩⟩:=a;obtain⟨⟨b⟩⟩:=b;have :a=b:=h;rw[this]
theorem bi3{ss:I U}(nd:ss.Nodup)(hm:∀x,x∈ss↔x∈l.map λx=>(⟨⟨x⟩⟩:U)):(ss.map tx).Perm (Hu l):=by
 refine(bH8 ?_ f1).mpr λx=>?_
 . rw[ud,gB];exact nd.imp λh e=>h (bi2 e)
 . rw[Xv,E0];constructor
   . rintro⟨y,hy,rfl⟩;refine AC (E0.mp ((hm y).mp hy)) ?_;intro z hz Aw;subst Aw;exact hz
   . intro hx;exact⟨⟨⟨x⟩⟩,(hm _).mpr (E0.mpr ⟨x,hx,rfl⟩),rfl⟩
theorem bi4{f x:AA}{args:I AA}(h:a5 f args=G x):∃p p2 Ul,f=.Name QC p/\args=[.Call (.Name Zx p2) [x] [] Ul]:=by
 apply Cs h AF;intro c h;apply M6 h AF;intro g a k pos h;apply Cs h AF;intro y h;apply EW h AF;intro h;refine Ce h AF λq h=>?_;apply Qe (B1 q);intro p;apply Qe (Ak q);intro p2;apply Br h.symm;exact⟨p,p2,pos,rfl,rfl⟩
theorem sG(AV:(Bb P).In B.base):cC B (Fw on CR):=by
 intro n A9 K f x args pos v F A H A7 C s hp hf hs h g A2 E k;refine Hq (bi4 hs) ?_;intro p p2 Ul B6 BJ;subst B6;subst BJ;refine A0.Be h ?_;clear h;intro hc h;simp only[D6]at hc;refine xA hc ?_;(try clear hc);intro BP h3;refine xA BP ?_;(try clear BP);intro h1 h2;refine A0.Cg h ?_;clear h;intro w AB hx h;revert hx;apply A0.MW h;clear h;intro i Y hi h hx;refine A0.Bx h ?_;clear h;intro l hl h;refine A0.Be h ?_;clear h;intro f4 h;(first|(revert k;(first|apply BX h|apply B5 h|apply BY h|apply BZ h|apply B_ h);intro k)|apply BX h|apply B5 h|apply BY h|apply BZ h|apply B_ h);have f4:l.length<60:=Dk f4;refine sF (A3:=Fw on CR) (Bl:=GI AV) h1 (w:=.builtin "sorted") (by kernel_rfl) (λ_=>CW.builtin) rfl g λBG EN Fa Cq=>?_;refine bk (A3:=Fw on CR) (Bl:=GI AV) (vs:=[.ref i]) (w:=.type "set") h2 (by kernel_rfl) (λ_=>CW.type) (by simp[h3]) Fa (λA_ AJ p AN Ab=>Wj h3 (A9.e hx AN) p) λus Au Ai AU Al BB=>?_;refine Bv BB ?_;(try clear BB);intro u us Bg ru e;subst Bg;cases e;refine Bv (AU.listAt ru hi) ?_;intro a us Bu pl vr;subst Bu;rw[OS hl]at vr;have eu:=my vr;refine bg3 AU.handled (by simpa using pl.isList) eu (by rw[Jo];unfold Pm;(with_reducible exact J0 (Nat.succ_lt_succ (by assumption)) (by decide))) λQ tk hS kp=>?_;refine bi0 (l:=Hu l) (H3 f3 f4) (λAS E k=>?_) λD Dy s' e hn hd Tk hg ho hv=>?_;. refine bh9 (by simp[AU.handled]) hS λvs ss s' hs nd hm kp hg ho=>k vs ss s' hs (bi3 nd hm) kp hg ho
 . have kk:∀b o,Ai.heap.get? b=G o->s'.heap.get? b=G o:=λb o e=>Tk b o (kp b o e);have OA:Ai.heap.get? D=L:=by cases q:Ai.heap.get? D with
 |none=>rfl|some o=>have :=kp _ _ q;rw[hn]at this;exact(BE this).elim
   refine xA (AU.newList (tk:=Ai.toks) OA hd kk hv) ?_;intro g' x';exact k _ _ _ (g'.bi1 rfl ho hg) (Cq.trans (Al.trans x')) ⟨_,AU.LJ,rfl⟩
end
noncomputable def sH(A9:As):AD As:=S5 A9 L λt b e _=>HS t L λc _ _=>l1 b L λb=>l0 e L (bT (decide (c=.bool M)) L (G b))
theorem bi5{b:As}(h:sH A9=G b):∃k p1 p2,A9=.While (.Constant (.bool M) k p1) [b] [] p2:=by
 apply iE h AF;intro t b e p h;apply J9 h AF;intro c k p1 h;apply Cs h AF;intro b h;apply EW h AF;intro h;refine Ce h AF λq h=>?_;apply IM q;apply Br h.symm;exact⟨_,_,_,rfl⟩
section
variable{Av:I Tx}{tr N9 NA if1 NB NC ND if2 NE NF NG NH:As}{t1 t2:AA}
theorem bi6(SB:Xn B)(SK:RC K.sc)(D:ec tr N9 NA if1 NB NC ND if2 NE NF NG NH tf L3 JN JO K6 ext2 brk t1 t2)(hX:AG.length<=100000)(hY:An.length<=100000)(hF:F.outs=F.env::C4)(hf:F.env.frame=G F.env.locals):∀(m:O){i j:O}{Av CL:I Tx}{s:AR},AG.length-i+(An.length-j)<=m->m<=200000->i<=AG.length->j<=An.length->Av.length<=i->CL.length<=j->Gd B F K A ⟨Ff i j,DL AG An Av CL,4⟩ C s->Nx F.D F.AZ Af s.heap BG C->∀{AS:Dt->AR->Prop},(∀i' j' s',Gd B F K A ⟨Ff i' j',DL AG An (Av++(D4 m (AG.drop i) (An.drop j)).1) (CL++(D4 m (AG.drop i) (An.drop j)).2),4⟩ C s'->Nx F.D F.AZ Af s'.heap BG C->AS (.ok .next) s')->D7 (AQ B.prog B.w) A (.whileLoop (.Constant (.bool M) k0 p) [tr] [] F.env) AS s:=by
 intro m;induction m with
 |zero=>
  intro i j Av CL s hm hm2 hi hj hM hU g Cv AS kk;refine WE (tG (tC (NV ?_)));skip;exact DH (rP SB SK D hX hY (by(with_reducible exact Mine.wV (by assumption) (by assumption) (by assumption))) (by(with_reducible exact Mine.vt (by assumption) (by assumption) (by assumption))) hi hj hm (by(with_reducible exact B4 (by assumption) (B4 (by assumption) (by assumption)))) (by(with_reducible exact B4 (by assumption) (B4 (by assumption) (by assumption)))) hF hf g Cv (λk i' j' M' U' s' hk=>by(exfalso;cases hk)) (λi' j' s' g' N'=>kk i' j' s' g' N'))|succ m ih=>
  intro i j Av CL s hm hm2 hi hj hM hU g Cv AS kk;refine WE (tG (tC (NV ?_)));skip;refine DH (rP SB SK D hX hY (by omega) (by(with_reducible exact Mine.vq (by assumption) (by assumption) (by assumption) (by assumption))) hi hj hm (by(with_reducible exact B4 (by assumption) (B4 (by assumption) (by assumption)))) (by(with_reducible exact B4 (by assumption) (B4 (by assumption) (by assumption)))) hF hf g Cv (λk i' j' M' U' s' hk h1 h2 h3 h4 h5 h6 h7 g' N'=>G2 ?_) (λi' j' s' g' N'=>kk i' j' s' g' N'));injection hk with hk;subst hk;exact ih h3 (by(with_reducible exact uy (by assumption))) h1 h2 (by(with_reducible exact Mine.i_ (by assumption) (by assumption))) (by(with_reducible exact Mine.i_ (by assumption) (by assumption))) g' N' λi'' j'' Kc PF Ub=>kk i'' j'' Kc (by rw[h6,h7];exact PF) Ub
end
noncomputable def ID(k:O):As:=(Fk (Ba 26))[k]?.getD (.Pass ⟨0,0,0,0⟩)
noncomputable def G0(l:I As)(k:O):As:=l[k]?.getD (.Pass ⟨0,0,0,0⟩)
noncomputable def whB(A9:As):I As:=S5 A9 [] λ_ b _ _=>b
noncomputable def Xw(A9:As):I As:=Nn A9 [] λb _ _ _ _=>b
noncomputable def sI(A9:As):I As:=Nn A9 [] λ_ _ _ f _=>f
noncomputable def f5(A9:As):I As:=Nn A9 [] λ_ h _ _ _=>l1 h [] λh=>Yt h λ_ _ b _=>b
noncomputable def RO(A9:As):I As:=Jv A9 [] λ_ a _ _=>a
noncomputable def f6(A9:As):I As:=Jv A9 [] λ_ _ b _=>b
noncomputable def sJ(A9:As):AA:=Jv A9 (.Constant .none 0 ⟨0,0,0,0⟩) λt _ _ _=>t
noncomputable def NL:As:=G0 (whB (ID 4)) 0
noncomputable def RP:As:=G0 (Xw NL) 2
noncomputable def PM:As:=G0 (f6 RP) 0
noncomputable def Xx:As:=G0 (f6 PM) 1
theorem bi7:Fk (Ba 26)=[ID 0,ID 1,ID 2,ID 3,ID 4,ID 5]:=by kernel_rfl
theorem bi8:ec NL (G0 (Xw NL) 0) (G0 (Xw NL) 1) RP (G0 (RO RP) 0) (G0 (RO RP) 1) (G0 (RO RP) 2) PM (G0 (RO PM) 0) (G0 (RO PM) 1) (G0 (RO PM) 2) (G0 (f6 PM) 0) Xx (G0 (Xw Xx) 0) (G0 (sI Xx) 0) (G0 (sI Xx) 1) (G0 (f5 NL) 0) (G0 (f5 NL) 1) (G0 (f5 NL) 2) (sJ RP) (sJ PM):=⟨by kernel_rfl,by kernel_rfl,by kernel_rfl,by kernel_rfl,by kernel_rfl,by kernel_rfl,by kernel_rfl,by kernel_rfl,by kernel_rfl,by kernel_rfl,by kernel_rfl,by kernel_rfl,by kernel_rfl,by kernel_rfl,by kernel_rfl,by kernel_rfl,by kernel_rfl,by kernel_rfl,by kernel_rfl,by kernel_rfl,by kernel_rfl⟩
theorem bi9:sH (ID 4)=G NL:=by kernel_rfl
noncomputable def Ll:BU:=BV (Ba 26)
theorem bj0:RC Ll:=⟨by kernel_rfl,by kernel_rfl,by kernel_rfl,by kernel_rfl,by kernel_rfl,by kernel_rfl,by kernel_rfl,by kernel_rfl,by kernel_rfl,by kernel_rfl,by kernel_rfl,by kernel_rfl,by kernel_rfl⟩
noncomputable abbrev NM:Mine.Ctx:=Fw A6 λ_ _ _=>L
theorem bj1{h:I (O×Ob)}:ev NM 30 ⟨Ll,d⟩ (.s (ID 0)) ⟨[(Fe,.ref 0),(FO,.ref 1)],h,2⟩=.ok (.f .next) ⟨[(Fe,.ref 0),(FO,.ref 1)],h,2⟩:=by kernel_rfl
theorem bj2{h:I (O×Ob)}:ev NM 30 ⟨Ll,d⟩ (.s (ID 1)) ⟨[(Fe,.ref 0),(FO,.ref 1)],h,2⟩=.ok (.f .next) ⟨[(Fe,.ref 0),(FO,.ref 1),(Fz,.int 0),(F8,.int 0)],h,2⟩:=by kernel_rfl
theorem bj3{h:I (O×Ob)}:ev NM 30 ⟨Ll,d⟩ (.s (ID 2)) ⟨[(Fe,.ref 0),(FO,.ref 1),(Fz,.int 0),(F8,.int 0)],h,2⟩=.ok (.f .next) ⟨[(Fe,.ref 0),(FO,.ref 1),(Fz,.int 0),(F8,.int 0),(Kd,.ref 2)],(2,.list [])::h,3⟩:=by kernel_rfl
theorem bj4{h:I (O×Ob)}:ev NM 30 ⟨Ll,d⟩ (.s (ID 3)) ⟨[(Fe,.ref 0),(FO,.ref 1),(Fz,.int 0),(F8,.int 0),(Kd,.ref 2)],h,3⟩=.ok (.f .next) ⟨[(Fe,.ref 0),(FO,.ref 1),(Fz,.int 0),(F8,.int 0),(Kd,.ref 2),(N8,.ref 3)],(3,.list [])::h,4⟩:=by kernel_rfl
theorem bj5{h:I (O×Ob)}:ev NM 30 ⟨Ll,d⟩ (.s (ID 5)) ⟨Ff i j,h,4⟩=.ok (.f (.ret (.tup L [.ref 2,.ref 3]))) ⟨Ff i j,h,4⟩:=by kernel_rfl
theorem bj6:M1 "map" "__init__" "object.__init__":=.of (owner:="object") (n:="__init__") (by rw[J6,J7];kernel_rfl) (by decide+kernel) (by decide+kernel) (by decide+kernel) (by first|exact .inl (by decide+kernel)|exact .inr (by decide+kernel)) (by rw[J8];kernel_rfl)
theorem Um:M1 "map" "__next__" "map.__next__":=.of (owner:="map") (n:="__next__") (by rw[J6,J7];kernel_rfl) (by decide+kernel) (by decide+kernel) (by decide+kernel) (by first|exact .inl (by decide+kernel)|exact .inr (by decide+kernel)) (by rw[J8];kernel_rfl)
theorem sK:M1 "map" "__iter__" "map.__iter__":=.of (owner:="map") (n:="__iter__") (by rw[J6,J7];kernel_rfl) (by decide+kernel) (by decide+kernel) (by decide+kernel) (by first|exact .inl (by decide+kernel)|exact .inr (by decide+kernel)) (by rw[J8];kernel_rfl)
theorem sM:Lv Lw "map.__next__"=G EB.«map.__next__»:=YF (by kernel_rfl)
theorem bj7:Lv Lw "map.__new__"=G EB.«map.__new__»:=YF (by kernel_rfl)
theorem bj8:Lv Lw "map.__iter__"=G EB.«dict_keyiterator.__iter__»:=vA (id':="dict_keyiterator.__iter__") ((VN _).trans (by kernel_rfl)) (by kernel_rfl) (by decide+kernel) ((VN _).trans (by kernel_rfl))
theorem sN:bJ7.lookup (t4 ['p','a','m'].reverse)=G Manifest.sig_map:=by kernel_rfl
theorem sO(a:A4):Jp "map.__next__" ⟨[a],[]⟩:=by unfold Jp;rw[i3 (id:="map.__next__") (n:=['_','_','t','x','e','n','_','_']) (o:=['p','a','m']) (by kernel_rfl) sN];kernel_rfl
theorem bj9(a:A4):Jp "map.__iter__" ⟨[a],[]⟩:=by unfold Jp;rw[i3 (id:="map.__iter__") (n:=['_','_','r','e','t','i','_','_']) (o:=['p','a','m']) (by kernel_rfl) sN];kernel_rfl
theorem sP:mroOf (.type "map")=pure [.type "map",.type "object"]:=by rw[mroOf_type];kernel_rfl
theorem bk0:Pg (.type "map") "__new__"=pure (G (.builtin "map.__new__")):=by rw[J6,J7];kernel_rfl
theorem bk1:TypeCalled "map" "map.__new__" "object.__init__":=⟨by decide+kernel,by decide+kernel,⟨_,_,sP⟩,madeBy_type sP bk0 (by decide+kernel),by decide+kernel,by rw[J8];kernel_rfl,bj6⟩
theorem bk2(a b:A4):bJ0 "map" ⟨[a,b],[]⟩=pure ():=by kernel_rfl
theorem bk3(a b:A4):gJ "map.__new__" ⟨[.type "map",a,b],[]⟩=pure ():=by kernel_rfl
theorem bk4:Rt (.type "map") (.type "map")=pure M:=by rw[J8];kernel_rfl
theorem bk5:Pg (.type "map") "__len__"=pure L:=by rw[J6,J7];kernel_rfl
theorem bk6:Pg (.type "map") "__length_hint__"=pure L:=by rw[J6,J7];kernel_rfl
noncomputable abbrev NN(h:BK)(z TI it:A8)(f:A4):Prop:=h.get? z=G {cls:=.type "map",dict:=L,data:=.fields #[.ref TI,f],slots:=#[]}/\h.get? TI=G {cls:=.type "tuple",data:=.seq #[.ref it]}
noncomputable abbrev NO(h:BK)(l:A8):BK:=h.push {cls:=.type "list_iterator",data:=.fields #[.ref l,.int 0 0]}
noncomputable abbrev PN(h:BK)(l:A8):BK:=(NO h l).push {cls:=.type "tuple",data:=.seq #[.ref h.objs.size]}
noncomputable abbrev Xy(h:BK)(l:A8)(f:A4):BK:=(PN h l).push {cls:=.type "map",data:=.fields #[.ref (NO h l).objs.size,f]}
theorem bk7(f:A4)(l:A8)(Y:BW A4):VC (EB.«map.__new__» ⟨[.type "map",f,.ref l],[]⟩) (λ_ AS s=>s.heap.IsList l Y/\AS (.ok (.ret (.ref (PN s.heap l).objs.size))) {s with heap:=Xy s.heap l f}):=.of_wp λprog w A AS s h=>by
 obtain⟨hp,g,d,tk,os⟩:=s;refine xA h ?_;(try clear h);intro Eh h;have LL:=bk4;have qu:Heap.IsList (Shared.heap ⟨hp,g,d,tk,os⟩) l Y:=Eh;wp_walk using fy qu;exact⟨_,rfl,h⟩
section
theorem bk8{f:A4}{l:A8}{Y:BW A4}(hl:s.heap.IsList l Y)(h:∀Q z TI it,s.heap.get? z=L->s.heap.get? TI=L->s.heap.get? it=L->z≠TI->z≠it->TI≠it->NN Q z TI it f->Q.IsListIter it l 0->(∀c o,s.heap.get? c=G o->Q.get? c=G o)->A2 (.ref z) {s with heap:=Q}):AH (AQ prog w) A (call (.type "map") [f,.ref l]) A2 E s:=by
 refine callType_new bk1 (by decide) (bk2 _ _) (bk3 _ _) (λobj=>F.args_object_init_3 obj _ _) bj7 (bk7 f l Y) ⟨hl,?_⟩;have z1:(NO s.heap l).objs.size=s.heap.objs.size+1:=II ..;have z2:(PN s.heap l).objs.size=s.heap.objs.size+2:=by rw[II,z1]
 have g3:(Xy s.heap l f).get? (PN s.heap l).objs.size=G _:=CY _ rfl;have g2:(Xy s.heap l f).get? (NO s.heap l).objs.size=G _:=C1 _ (CY _ rfl);have g1:(Xy s.heap l f).get? s.heap.objs.size=G _:=C1 _ (C1 _ (CY _ rfl));show _/\_;have l1:s.heap.objs.size<=(NO s.heap l).objs.size:=by rw[z1];exact H4 ..
 have l2:s.heap.objs.size<=(PN s.heap l).objs.size:=by rw[z2];exact H4 ..
 have n1:(PN s.heap l).objs.size≠(NO s.heap l).objs.size:=by rw[z2,z1];exact uB _
 have n2:(PN s.heap l).objs.size≠s.heap.objs.size:=by rw[z2];exact PY (Nat.lt_add_of_pos_right (by decide))
 have n3:(NO s.heap l).objs.size≠s.heap.objs.size:=by rw[z1];exact uB _
 exact⟨⟨_,g3,rfl⟩,h _ _ (NO s.heap l).objs.size s.heap.objs.size (i7 l2) (i7 l1) (i7 (DF _)) n1 n2 n3 ⟨g3,g2⟩ ⟨_,g1,rfl,rfl⟩ λc o x=>C1 _ (C1 _ (C1 _ x))⟩
theorem bk9{it l:A8}{f x:A4}{k:O}{Y:BW A4}{A2:AD A4->AR->Prop}(hm:NN s.heap z TI it f)(Cc:z≠it)(bQ5:TI≠it)(hi:s.heap.IsListIter it l k)(hl:s.heap.IsList l Y)(hx:Y[k]?=G x)(h:∀Q,E4 it s.heap Q->Q.IsListIter it l (k+1)->AH (AQ prog w) A.in1 (call f [x]) (λv s'=>A2 (G v) s') (λ_ _=>Bj) {s with heap:=Q}):AH (AQ prog w) A (ES (.ref z)) A2 E s:=by
 have hT:s.TypeIs (.ref z) "map":=⟨_,hm.1,rfl⟩;unfold ES;refine A5 (Ro (Lu (name:=Ev "__next__") hT Um (Gn Um hT sM ?_ (sO _))));show AH _ _ (Ko (.ref z) 0>>=_) _ _ _;refine A5 (Gp hm.1 rfl (x:=.ref TI) rfl ?_);refine A5 (Ng hm.2 rfl ?_);simp only[<-uO,Rg,gt];refine A5 (A5 (A5 (C0 (wpAny_nextOf_list_item hi hl hx λQ QK hs=>AW (AW ?_)))));show AH _ _ (Ko (.ref z) 1>>=_) _ _ _;refine A5 (Gp ((hs.2 z Cc).trans hm.1) rfl (x:=f) rfl ?_);exact A5 (C0 (Fg (h Q hs QK) (λv s' hq=>A5 (Ph (AW ⟨v,rfl,AW hq⟩))) λ_ _ q=>q.elim))
theorem bl0{it l:A8}{f:A4}{k:O}{Y:BW A4}{A2:AD A4->AR->Prop}(hh:A.handled=L)(hm:NN s.heap z TI it f)(hi:s.heap.IsListIter it l k)(hl:s.heap.IsList l Y)(hx:Y[k]?=L)(h:∀Q,Ds it s.heap Q->A2 L {s with heap:=Q}):AH (AQ prog w) A (ES (.ref z)) A2 E s:=by
 have hT:s.TypeIs (.ref z) "map":=⟨_,hm.1,rfl⟩;unfold ES;refine A5 (Ro (Lu (name:=Ev "__next__") hT Um (Gn Um hT sM ?_ (sO _))));show AH _ _ (Ko (.ref z) 0>>=_) _ _ _;refine A5 (Gp hm.1 rfl (x:=.ref TI) rfl ?_);refine A5 (Ng hm.2 rfl ?_);simp only[<-uO,Rg,gt];refine A5 (A5 (A5 (C0 (wpAny_nextOf_list_end (by simp[hh]) hi hl hx λQ e hs he=>?_))));refine AC he ?_;(try clear he);intro o ho hc;refine A5 (Lz (T:="StopIteration") (b:=M) ⟨o,ho,hc⟩ gP ?_);exact AW (h _ hs)
theorem bl1{it:A8}{f:A4}(hm:NN s.heap z TI it f)(h:A2 (.ref z) s):AH (AQ prog w) A (PV (.ref z)) A2 E s:=by
 have hT:s.TypeIs (.ref z) "map":=⟨_,hm.1,rfl⟩;refine vD hT sK (Gn sK hT bj8 ?_ (bj9 _));show AH _ _ (ret (.ref z)) _ _ s;exact AW ⟨_,rfl,"map",_,hT,Um.lookup,h⟩
theorem bl2{it:A8}{f:A4}{A2:AK->AR->Prop}(hm:NN s.heap z TI it f)(h:A2 M s):AH (AQ prog w) A (i5 (.ref z)) A2 E s:=by
 have hT:s.TypeIs (.ref z) "map":=⟨_,hm.1,rfl⟩;unfold i5;refine A5 (YN hT bk5 ?_);show AH _ _ (Nd (Jq z) (Ev "__length_hint__")>>=_) _ _ _;exact A5 (YN hT bk6 (AW h))
theorem bl3{it:A8}{f:A4}(hm:NN s.heap z TI it f)(h:∀Q D c,s.heap.get? D=L->Q.get? D=G {cls:=.type "list",data:=.seq #[] c}->(∀b o,s.heap.get? b=G o->Q.get? b=G o)->D7 (AQ prog w) A.in1 (.builtin "list.extend.loop" ⟨[.ref D,.ref z,.none],[]⟩) (λr s'=>match r with|.ok (.ret v)=>v=.none/\A2 (.ref D) s'|.ok _=>Bj|.error e=>E e s') {s with heap:=Q}):AH (AQ prog w) A (call (.type "list") [.ref z]) A2 E s:=by
 refine callType_codes (Q₁:=λobj AJ=>obj=.ref s.heap.objs.size/\AJ={s with heap:=s.heap.push {cls:=.type "list",data:=.seq #[]}}) F.called_list (F.typeCall_list_1 _) F.entry_list_init (code_list_new _ ⟨rfl,rfl⟩) λobj AJ AP=>?_;refine xA AP ?_;(try clear AP);intro Aw B6;subst Aw;subst B6;have hS:(s.heap.push {cls:=.type "list",data:=.seq #[]}).get? s.heap.objs.size=G {cls:=.type "list",data:=.seq #[]}:=CY _ rfl;have hn:s.heap.get? s.heap.objs.size=L:=i7 (DF _);refine⟨⟨_,hS,rfl⟩,F.args_list_init_2 _ _,?_⟩;show AH _ A.in1.in1 (do let GH<-bK3 (.ref s.heap.objs.size);bW1 (.ref s.heap.objs.size) (λ_=>#[]);letGo GH.toList.reverse;Ym (.ref s.heap.objs.size) (.ref z) .none) _ _ _;refine A5 ?_;unfold bK3;refine A5 (Ng hS rfl (AW ?_));show AH _ A.in1.in1 (Rv s.heap.objs.size (λ_=>#[])>>=λ_=>letGo (#[]:BW A4).toList.reverse>>=λ_=>Ym (.ref s.heap.objs.size) (.ref z) .none) _ _ _;refine A5 (Nh hS rfl ?_);have RN:=FS (GN (λ_=>(#[]:BW A4))) hS rfl;have f7:∀b o,s.heap.get? b=G o->((s.heap.push {cls:=.type "list",data:=.seq #[]}).update s.heap.objs.size (GN (λ_=>(#[]:BW A4)))).get? b=G o:=λb o e=>(GO _ _ (CX (ER (Dh e)))).trans (C1 _ e);refine A5 (Ph ?_);have f9:NN ((s.heap.push {cls:=.type "list",data:=.seq #[]}).update s.heap.objs.size (GN (λ_=>(#[]:BW A4)))) z TI it f:=⟨f7 _ _ hm.1,f7 _ _ hm.2⟩;unfold Ym;refine A5 (Ru (T:="map") ⟨_,f9.1,rfl⟩ ?_);have bl4:s.heap.objs.size≠z:=CX (ER (Dh hm.1));have h1:i6 (.ref s.heap.objs.size) (.ref z)=A6:=by simp[i6,bl4]
 have h2:(Kr "map"==Kr "list")=A6:=by decide
 have h3:(Kr "map"==Kr "tuple")=A6:=by decide
 simp only[h1,h2,h3,bK2,Kl,Km];refine A5 (bl1 f9 ?_);refine A5 (C0 (bl2 f9 ?_));show AH _ _ (YO "list.extend.makes-room">>=λ_=>bW2 (.ref s.heap.objs.size)>>=λ_=>Kk (.builtin "list.extend.loop" ⟨[.ref s.heap.objs.size,.ref z,.none],[]⟩)) _ _ _;refine A5 (Gm ?_);refine A5 ?_;show AH _ _ (Rv s.heap.objs.size (·.push .none)>>=λ_=>Rv s.heap.objs.size (·.pop)) _ _ _;refine A5 (Nh RN rfl ?_);have Uk:=FS (GN (·.push Hi)) RN rfl;refine Nh (hz:=by seq_fits) Uk rfl ?_;have f0:=FS (GN (·.pop)) Uk rfl;refine AW ⟨plainId_quiet vE _,v8 (h _ s.heap.objs.size _ hn f0 λb o e=>?_) λr s' hr=>?_⟩
 . have hb:s.heap.objs.size≠b:=CX (ER (Dh e));rw[GO _ _ hb,GO _ _ hb];exact f7 b o e
 . cases r with
 |error e=>exact hr|ok fl=>cases fl<;>exact hr
end
noncomputable def fA:U:=⟨⟨[95,109,97,107,101]⟩⟩
theorem bl5:readsIn (Bb P) 135 (.type "type")=M:=by kernel_rfl
theorem bl6:te (Bb P) (.ref 135) (.type "type") fA=G (.get (.builtin "classmethod.__get__") (.ref 91) .none (.ref 135)):=by kernel_rfl
theorem bl7:recIn (Bb P) 91 "classmethod"=G [.ref 89,.bool A6]:=by kernel_rfl
theorem bl8{f x:AA}{args:I AA}(h:a6 f args=G x):∃p p2 p3 p4 Ul,f=.Name Zy p/\args=[.Call (.Name Zz p2) [.Attribute (.Name Sn p3) fA p4,x] [] Ul]:=by
 apply Cs h AF;intro c h;apply M6 h AF;intro g a k pos h;apply FT h AF;intro m a h;apply Cs h AF;intro y h;apply S3 h AF;intro o a p4 h;apply EW h AF;intro h;refine Ce h AF λq h=>?_;apply Qe (B1 q);intro p;apply Qe (B1 (Ak q));intro p2;apply Qe (B1 (Ak (Ak q)));intro p3;rw[E2.mp (Ak (Ak (Ak q)))];apply Br h.symm;exact⟨p,p2,p3,p4,pos,rfl,rfl⟩
section
variable{CR:Kx->Cd->Mine.St->AD A0}
theorem bl9{Bl:Gl B A3}{y z:AA}{w:A4}(hg:Di K.sc id=M)(hw:Ah A3.glob id=G (.top w))(hc:∀h,CW (AQ B.prog B.w) h w)(hp:CP y=M)(sQ:CP z=M)(g:Gd B F K A H C s)(h:∀BG EN,Gd B F K A H BG EN->Nx F.D [] s.heap EN.heap C BG->AH (AQ B.prog B.w) A (eval y F.env) (λu s'=>AH (AQ B.prog B.w) A (eval z F.env) (λu' Kc=>AH (AQ B.prog B.w) A (CE w [u,u']) A2 E Kc) E s') E EN):AH (AQ B.prog B.w) A (eval (.Call (.Name id p) [y,z] [] pos) F.env) A2 E s:=by exact Wk (Bl:=Bl) hg hw (show(CP y&&(CP z&&M))=M by rw[hp,sQ];rfl) g λA_ AJ AN Ab=>Lr (Fg (h A_ AJ AN Ab) (λu s' q=>Lr (Fg q (λu' Kc q'=>Ur ⟨hc _,q'⟩) λ_ _ e=>e) (K8 sQ)) λ_ _ e=>e) (K8 hp)
theorem bm0(on:AK)(CR:Kx->Cd->Mine.St->AD A0)(AV:(Bb P).In B.base)(hM:Di K.sc Sn=M)(g:Gd B F K A H C s)(k:∀A_ AJ m,Gd B F K A H A_ AJ->Nx F.D [] s.heap AJ.heap C A_->s.heap.get? m=L->CM B F A_ AJ.heap m->AJ.heap.get? m=G (i8 (.ref 89) (.ref 135))->A2 (.ref m) AJ):AH (AQ B.prog B.w) A (eval (.Attribute (.Name Sn p3) fA p4) F.env) A2 E s:=by
 have hn:=mP (A3:=Fw on CR) (H:=H) (p:=p3) (w:=.ref 135) hM (by kernel_rfl);skip;refine A5 (bU (GI (on:=on) (CR:=CR) AV) hn g _ _ λu A_ AJ AN Ab Aq=>A5 (El (A5 (C0 ?_))));cases Aq;have sR:(Bb P).In AJ.heap:=λb o e=>AN.base b o (AV b o e);have kp:∀b o,AJ.heap.get? b=G o->(AJ.heap.push (i8 (.ref 89) (.ref 135))).get? b=G o:=λb o e=>C1 _ e;have hg:=CY AJ.heap (o:=i8 (.ref 89) (.ref 135)) rfl;refine cls_bind sR bl5 bl6 (HQ (cm_get (s:={AJ with toks:=AJ.toks+1}) sR bl7 (handed_on rfl ?_)));exact A5 (bA8 (AW (k A_ _ _ (AN.ext (tk:=AJ.toks+1) kp) (Ab.trans (Nx.ext kp)) (HD Ab.live (GF _)) (AN.freeOf (GF _) ⟨_,hg⟩) hg)))
theorem Gx.push{w:A4}(a:Gx B F C h D Am)(r:VR h C v w):∃us m,h.get? D=G {cls:=.type "list",data:=.seq us m}/\us.size=Am.length/\(∀Q,E4 D h Q->Q.get? D=G (GN (λx=>x.push w) {cls:=.type "list",data:=.seq us m})->Gx B F C Q D (Am++[v])):=by
 refine Hp a ?_;(try clear a);intro fr us Aw vr;refine xE Aw ?_;(try clear Aw);intro m e;refine⟨us,m,e,by rw[vr.length];simp,λQ hs hd=>⟨fr.at ⟨_,hd⟩,us.push w,⟨_,hd⟩,?_⟩⟩;have im:Dw h Q:=Gu hs.extBut (λo q=>by rw[e]at q;injection q with q;subst q;rfl);rw[VE];exact(vr.Bw im).app ⟨_,_,rfl,r.Bw im,rfl⟩
theorem bm1(AV:(Bb P).In B.base)(A9:C5 B (Fw on CR) n)(hd:K.d=d+1){it mo:A8}(nz:Af.get? z=L)(nT:Af.get? TI=L)(ni:Af.get? it=L)(nD:Af.get? D=L)(nm:Af.get? mo=L)(z1:z≠it)(z2:TI≠it)(z3:D≠it)(z4:mo≠it)(z5:D≠z)(z6:D≠TI)(z7:D≠mo):∀(m k:O){Am l:I V}{H A7:Mine.St}{C:I A8}{s:AR},Vy (Fw on CR) ⟨K.sc,d⟩ (ev (Fw on CR) n) i m k Am H=.ok (.vs l) A7->Am.length<=k->k+m<=1000->Gd B F K A H C s->Nx F.D [] Af s.heap BG C->NN s.heap z TI it (.ref mo)->s.heap.get? mo=G (i8 (.ref 89) (.ref 135))->E6 s.heap C (.lst i) k it->CM B F C s.heap z->CM B F C s.heap TI->CM B F C s.heap it->CM B F C s.heap mo->Gx B F C s.heap D Am->∀{AS:Dt->AR->Prop},(∀AT s',Gd B F K A A7 AT s'->Nx F.D [] Af s'.heap BG AT->Gx B F AT s'.heap D l->AS (.ok (.ret .none)) s')->D7 (AQ B.prog B.w) A.in1 (.builtin "list.extend.loop" ⟨[.ref D,.ref z,.none],[]⟩) AS s:=by
 intro m;induction m with
 |zero=>intro k Am l H A7 C s h;exact(Ac h).elim|succ m ih=>
 intro k Am l H A7 C s h hk hkm g Cv hm fB Bz fz fT fi fm ac AS kk;refine A0.Bx h ?_;clear h;intro r hr h;refine BI hr λob hl hr=>?_;revert hl;apply IU hr AF;intro Y hr hl
 . injection hr with hr;refine AC Bz ?_;(try clear Bz);intro a ha NK;refine AC (g.obj hl ha) ?_;intro us hp vr;have hc:∀o,s.heap.get? it=G o->C2 o=A6:=λo e=>by
    refine CZ NK ?_;(try clear NK);intro o' e' c _;rw[e']at e;injection e with e;subst e;unfold C2;rw[c];rfl
   refine J5 PySem.F.entry_extend_loop ?_;rw[bA2 bK4 _];show AH _ _ (ES (.ref z)>>=_) _ _ _;rw[HY]at hr;cases r with
 |none=>
    refine xA (FG h) ?_;intro q B6;subst B6;injection q with q;subst q;refine A5 (bl0 (by simp[g.handled]) hm NK hp.isList ?_ λQ hs=>?_);. have e:=vr.none hr;simpa using e
    . refine AW (kk C _ (g.move (tk:=s.toks) fi hs hc) (Cv.F2 hs ni) ?_);exact ac.but hs (Gu hs hc) z3|some x=>
    refine A0.Cg h ?_;clear h;intro v AB hv h;refine A0.Bx hv ?_;clear hv;intro fn hf hv;refine AC (vr.get hr) ?_;intro y ey ry;refine A5 (bk9 hm z1 z2 NK hp.isList (x:=y) (by simpa using ey) λQ hs sS=>?_);have kb:Ds it s.heap Q:=hs.extBut;have im:=Gu kb hc;have AN:=g.move (tk:=s.toks) fi kb hc;have Ji:=Cv.F2 kb ni;have bm2:=ac.but kb im z3;have fC:=kb _ _ z4 fB;have bm3:=ry.Bw im;have dp:=g.depth;have un:=g.units;have AU:Gd B F ⟨K.sc,d⟩ A.in1.in1.in1 H C {s with heap:=Q}:=AN.swap (g.kinds.deep d) g.frames (by simp[g.handled]) (by show A.depth+3*d<900;(with_reducible exact Mine.yJ (by assumption) (by assumption))) (by show A.units+1+1+1+10*d<9000;(with_reducible exact Mine.wQ (by assumption) (by assumption)));refine DB ((X2 (on:=on) (CR:=CR) AV).fn 89 fn hf) ?_;intro o fd ok;refine HQ (Rc ?_);show AH _ _ (V4 (.ref mo) ⟨[y],[]⟩) _ _ _;unfold V4;refine A5 (NW fC ?_);show AH _ _ (Kk (.call (.ref 89) ⟨[.ref 135,y],[]⟩)) _ _ _;refine AW ⟨rfl,ak A9 ok hv AU ⟨_,_,rfl,rfl,_,_,rfl,bm3,rfl⟩ λu BS Ax Ap B8 BQ=>?_⟩;have Ap:Gd B F K A AB BS Ax:=Ap.swap (K':=K) (A':=A) g.kinds g.frames g.handled dp un;have sU:=bm2.nx B8 (by simp);refine Bv (sU.push BQ) ?_;intro Dy m' hD Ee up;show AH _ _ (Rv D (λx=>x.push u)>>=λ_=>Kk (.builtin "list.extend.loop" ⟨[.ref D,.ref z,.none],[]⟩)) _ _ _;refine A5 (Nh (hz:=B4 (show Dy.size<=1000 by(with_reducible exact Mine.wT (by assumption) (by assumption) (by assumption))) (by decide)) (_hz':=by rw[Array.size_push];exact B4 (show Dy.size+1<=2000 by omega) (by decide)) hD rfl ?_);have sV:E4 D Ax.heap (Ax.heap.update D (GN λx=>x.push u)):=Fh ..;have hD4:=FS (GN λx=>x.push u) hD rfl;have k4:Ds D Ax.heap (Ax.heap.update D (GN λx=>x.push u)):=sV.extBut;have bm4:=(fz.at (Q:=Q) ⟨_,kb _ _ z1 hm.1⟩).nx B8;have bm5:=(fT.at (Q:=Q) ⟨_,kb _ _ z2 hm.2⟩).nx B8;have fE:=(fm.at (Q:=Q) ⟨_,fC⟩).nx B8;have bm6:=(fi.at (Q:=Q) (let⟨o,e,_⟩:=sS;⟨o,e⟩)).nx B8;have sW:=B8.keep z _ (kb _ _ z1 hm.1) fz.C (by simp) (λ_=>rfl);have U_:=B8.keep TI _ (kb _ _ z2 hm.2) fT.C (by simp) (λ_=>rfl);have sX:=B8.keep mo _ fC fm.C (by simp) (λ_=>rfl);have sY:E6 Ax.heap BS (.lst i) (k+1) it:=E6.nx (it:=.lst i) ⟨a,ha,sS⟩ B8 fi.C (by simp);refine AC sY ?_;(try clear sY);intro a3 ha3 sZ;have TH:∀o,Ax.heap.get? D=G o->C2 o=A6:=λo e=>by rw[hD]at e;injection e with e;subst e;rfl
    refine AW ⟨plainId_quiet bK4 _,ih (k+1) h (by simp;(with_reducible assumption)) (by(with_reducible exact Mine.Yz (by assumption))) (Ap.move (tk:=Ax.toks) sU.1 k4 TH) ((Ji.trans B8).F2 k4 nD) ⟨k4 _ _ (CX z5) sW,k4 _ _ (CX z6) U_⟩ (k4 _ _ (CX z7) sX) ⟨a3,ha3,sZ.extBut k4 (CX z3)⟩ (bm4.at ⟨_,k4 _ _ (CX z5) sW⟩) (bm5.at ⟨_,k4 _ _ (CX z6) U_⟩) (bm6.at (let⟨o,e,_⟩:=sZ;⟨o,k4 _ _ (CX z3) e⟩)) (fE.at ⟨_,k4 _ _ (CX z7) sX⟩) (up _ sV hD4) kk⟩
theorem Gd.adopt(g:Gd B F K A H C s)(fD:CM B F C s.heap D)(ho:Ca B.prog B.w s.heap (C++[D]) D o):Gd B F K A (H.new o).2 (C++[D]) s:=by
 refine⟨g.kinds,by simp[Mine.St.new,g.len],?_,λa m=>?_,λa m=>?_,λa m=>?_,λc m=>?_,λi p e=>?_,g.env.ext (J:=[D]) λb o e=>e,g.base,g.os,g.gens,g.frames,g.DT,λA1 m=>?_,g.mods,g.handled,g.depth,g.units⟩
 . refine IE.mpr ⟨g.nodup,by simp,λa ha b hb e=>?_⟩;rw[CI.mp hb]at e;exact fD.C (e▸ha)
 . rcases Dr.mp m with m|m;. exact g.fresh a m
   . rw[CI.mp m];exact fD.base
 . rcases Dr.mp m with m|m;. exact g.live a m
   . rw[CI.mp m];exact fD.live
 . refine G6 (g.D5 a m) ?_;intro h1 h2 h3;refine⟨h1,λz=>?_,h3⟩;rcases Dr.mp z with z|z;. exact h2 z
   . exact fD.w (CI.mp z▸m)
 . refine xA (g.D1 c m) ?_;intro h1 h2;refine⟨λz=>?_,h2⟩;rcases Dr.mp z with z|z;. exact h1 z
   . exact fD.cells c m (CI.mp z)
 . simp only[Mine.St.new,AL]at e;cases q:BC H.n i with
 |true=>
    rw[q]at e;injection e with e;subst e;have :=CD q;exact⟨D,by rw[<-this,<-g.len];simp,ho⟩|false=>
    rw[q]at e;refine AC (g.objs i p e) ?_;intro b p' r;exact⟨b,FY p',r.mono (Dw.refl _) λ_ e=>e⟩
 . refine xA (g.Cy A1 m) ?_;intro h1 h2;refine⟨λz=>?_,h2⟩;rcases Dr.mp z with z|z;. exact h1 z
   . exact fD.outs (CI.mp z▸m)
theorem Nx.adopt(x:Nx AM AZ Af h BG C)(nD:Af.get? D=L):Nx AM AZ Af h BG (C++[D]):=by
 refine AC x.pre ?_;intro J e hb;refine⟨⟨J++[D],by rw[e,Uq],λb m=>?_⟩,x.live,x.Bw,x.same⟩;rcases Dr.mp m with m|m;. exact hb b m
 . rw[CI.mp m];exact nD
theorem s_(AV:(Bb P).In B.base):cD B (Fw on CR):=by
 intro n A9 Sc K f x args pos v F A H A7 C s hp hf hs h g A2 E k;refine vZ (bl8 hs) ?_;intro p p2 p3 p4 Ul BJ BP;subst BJ;subst BP;refine A0.Be h ?_;clear h;intro hc h;simp only[D6]at hc;refine xA hc ?_;(try clear hc);intro Bq h4;refine xA Bq ?_;(try clear Bq);intro Ck h3;obtain⟨h1,h2⟩:=Ck;refine A0.Cg h ?_;clear h;intro w AB hx h;revert hx;apply A0.MW h;clear h;intro i Y hi h hx;refine A0.Be h ?_;clear h;intro pr h;have key:∃d,K.d=d+1:=by cases hd:K.d with
 |zero=>rw[hd]at h;exact(Ac h).elim|succ d=>exact⟨d,rfl⟩
 refine xE key ?_;(try clear key);intro d hd;rw[hd]at h;refine A0.L8 h ?_;clear h;intro l Bc hm h;refine xA (FG h) ?_;intro q Bg;subst Bg;injection q with q;subst q;refine sF (A3:=Fw on CR) (Bl:=GI AV) h1 (w:=.type "list") (by kernel_rfl) (λ_=>CW.type) rfl g λBG EN Fa Cq=>?_;refine bl9 (A3:=Fw on CR) (Bl:=GI AV) h2 (w:=.type "map") (by kernel_rfl) (λ_=>CW.type) rfl h4 Fa λA_ AJ AN Ab=>?_;refine bm0 on CR AV h3 AN λAu Ai mo AU Al nm fm fB=>?_;refine A9.e hx AU _ _ λu BS Ax Ap B8 BQ=>?_;refine Bv (Ap.listAt BQ hi) ?_;intro a us Bu hp vr;subst Bu;have fF:=B8.keep mo _ fB fm.C (by simp) (λ_=>rfl);have fE:=fm.nx B8;refine bk8 hp.isList λQ z TI it nz nT ni n1 n2 n3 PO NK kp=>?_;have CA:=Ap.ext (tk:=Ax.toks) kp;have Cz:Nx F.D [] Ax.heap Q BS BS:=Nx.ext kp;refine bl3 (s:={Ax with heap:=Q}) PO λh5 D c nD hD Ke=>?_;have Cn:=Ap.ext (tk:=Ax.toks) λb o e=>Ke b o (kp b o e);have EL:Nx F.D [] Ax.heap h5 BS BS:=Nx.ext λb o e=>Ke b o (kp b o e);refine AC (id BQ) ?_;intro cc3 haL fG;injection fG with fG;subst fG;have fH:Ax.heap.get? D=L:=by cases e:Ax.heap.get? D with
 |none=>rfl|some o=>rw[kp D o e]at nD;(exfalso;cases nD)
 have Mb:∀{b o},Q.get? b=G o->D≠b:=λe z=>by rw[<-z]at e;exact absurd (e.symm.trans nD) (by simp)
 refine AC (id NK) ?_;intro oi ei _;have Gw:=(Cq.trans (Ab.trans (Al.trans B8)));have fK:=kp _ _ fF;have nmo:s.heap.get? mo=L:=HD Cq.live (HD Ab.live nm);refine bm1 AV A9 hd (Af:=s.heap) (BG:=C) (mo:=mo) (HD Gw.live nz) (HD Gw.live nT) (HD Gw.live ni) (HD Gw.live fH) nmo n2 n3 (Mb ei) (λz=>by rw[z]at fF;exact absurd (fF.symm.trans ni) (by simp)) (Mb PO.1) (Mb PO.2) (Mb fK) 60 0 (Am:=[]) hm (DF _) (by decide) Cn (Gw.trans EL) ⟨Ke _ _ PO.1,Ke _ _ PO.2⟩ (Ke _ _ fK) ⟨_,haL,(let⟨o,e,r⟩:=NK;⟨o,Ke _ _ e,r⟩)⟩ (Ap.freeOf nz ⟨_,Ke _ _ PO.1⟩) (Ap.freeOf nT ⟨_,Ke _ _ PO.2⟩) (Ap.freeOf ni ⟨_,Ke _ _ ei⟩) (fE.at ⟨_,Ke _ _ fK⟩) ⟨Ap.freeOf fH ⟨_,hD⟩,#[],⟨_,hD⟩,rfl⟩ λWM TK Gb bm7 sa=>⟨rfl,?_⟩;refine Hp sa ?_;(try clear sa);intro fD us6 C9 v6;refine xE C9 ?_;(try clear C9);intro cc4 e6;exact k _ _ TK (Gb.adopt fD (o:=.list l) ⟨us6,⟨cc4,e6⟩,v6.mono (J:=[D]) (Dw.refl _)⟩) (bm7.adopt (HD Gw.live fH)) ⟨D,by rw[<-Gb.len];simp,rfl⟩
end
theorem bm8(P:Dq):cQ (Bb P) 382 (DE (Ba 26)):=⟨by kernel_rfl,by kernel_rfl,by kernel_rfl,by kernel_rfl,by kernel_rfl,by kernel_rfl⟩
theorem bm9:JI (DE (Ba 26)) [.ref 0,.ref 1]=G [(Fe,.ref 0),(FO,.ref 1)]:=by kernel_rfl
section
variable{CR:Kx->Cd->Mine.St->AD A0}
theorem bn0(AV:(Bb P).In B.base):Xn B:=⟨_,_,Tz AV (by kernel_rfl),Tz AV (by kernel_rfl),by kernel_rfl,by kernel_rfl⟩
theorem bn1:Ml B NM:=⟨λh=>(by exact(BE h).elim),λh=>(by exact(BE h).elim),λh=>(by exact(BE h).elim),λh=>(by exact(BE h).elim),λh=>(by exact(BE h).elim)⟩
theorem bn2:Ts B NM:=λh=>absurd h (by intro z;exact(E5 z).elim)
theorem bn3(AV:(Bb P).In B.base):Ok B NM (Bb P):=⟨cS AV,nZ,cU,X2 AV,GI AV,nc,n_,bn2,sG AV,s_ AV,bn1⟩
theorem bn4(AV:(Bb P).In B.base)(hX:AG.length<=100000)(hY:An.length<=100000)(hF:F.outs=F.env::C4)(hf:F.env.frame=G F.env.locals)(g:Gd B F ⟨Ll,d⟩ A ⟨[(Fe,.ref 0),(FO,.ref 1)],[(0,.list (AG.map .str)),(1,.list (An.map .str))],2⟩ C s):CJ B F ⟨Ll,d⟩ A ⟨[],DL AG An (D4 (AG.length+An.length) AG An).1 (D4 (AG.length+An.length) AG An).2,4⟩ C s (J3 (Fk (Ba 26)) F.env) (FR (.ret (.tup L [.ref 2,.ref 3]))):=by
 intro A2 E k;rw[bi7];have AE:=Wy (bn3 AV) 30;refine DH (AE.s.s bj1 g _ _ λu A_ AJ AN Ab Aq=>?_);cases Aq;refine DH (AE.s.s bj2 AN _ _ λu Au Ai AU Al BB=>?_);cases BB;refine DH (AE.s.s bj3 AU _ _ λu BS Ax Ap B8 BQ=>?_);cases BQ;refine DH (AE.s.s bj4 Ap _ _ λu Ie EG CA Cz JQ=>?_);cases JQ;have CA:Gd B F ⟨Ll,d⟩ A ⟨Ff 0 0,DL AG An [] [],4⟩ Ie EG:=CA.view (λp hp=>by
 simp only[Ff,Cj,Jr,Js]at hp;rcases hp with rfl|rfl|rfl|rfl|rfl|rfl<;>rfl) (λp hp=>by
 simp only[DL,Cj,Jr,Js]at hp;rcases hp with rfl|rfl|rfl|rfl<;>rfl);refine vU (bi5 bi9) ?_;intro k0 p1 p2 e;rw[e];refine DH (tK (bi6 (Af:=EG.heap) (BG:=Ie) (bn0 AV) bj0 bi8 hX hY hF hf (AG.length+An.length) (by(with_reducible exact Mine.vk _ _)) (by omega) (Ni _) (Ni _) (DF _) (DF _) CA (Nx.refl ..) λi' j' Eg Cn HJ=>?_));refine DH (AE.s.s bj5 Cn _ _ λu WM TK Gb GG sd=>?_);refine AC sd ?_;(try clear sd);intro w Aw Fd;subst Aw;rw[YP,YP]at Gb;refine k _ WM TK (Gb.view (λp hp=>by(exfalso;cases hp)) (λp hp=>?_)) (Ab.trans (Al.trans (B8.trans (Cz.trans (HJ.trans GG))))) ⟨w,rfl,Fd⟩;simp only[DL,Cj,Jr,Js]at hp;rcases hp with rfl|rfl|rfl|rfl<;>rfl
theorem RQ:DV BA (.list (l.map .str))=.list (l.map .str):=by
 show Ob.list (Cr BA _)=_;rw[LQ]
theorem bn5(AV:(Bb P).In B.base):Ts B (Fw on CR):=by
 intro _ F K A H C s i j AG An u u' g Cc hX hY hd hi hj r r';obtain⟨d,hd⟩:∃d,K.d=d+1:=⟨K.d-1,by(with_reducible exact Mine.yI (by assumption))⟩;have hX:=Ef hX;have hY:=Ef hY;refine DB (Mm AV (Mo AV) (bm8 P)) ?_;intro o fd ok;have lt:∀{i o},AL H.h i=G o->i<H.n:=λh=>by
  refine AC (g.objs _ _ h) ?_;intro a ha _;rw[<-g.len];exact(HM.mp ha).1
 have Xs:Sub H ⟨[],[(0,.list (AG.map .str)),(1,.list (An.map .str))],2⟩ [i,j]:=by
  refine⟨rfl,by simp[Cc],λk m=>?_,λk o e=>?_⟩
  . simp only[Cj,Jr,Js]at m;rcases m with rfl|rfl;. exact lt hi
    . exact lt hj
  . have m:=T3 e;simp only[Cj,Jr,Js,bH5]at m;rcases m with B6|BJ;refine xA B6 ?_;(try clear B6);intro BP Bq;subst BP;subst Bq;rotate_left;refine xA BJ ?_;(try clear BJ);intro Bg Bu;subst Bg;subst Bu;rotate_left;. exact⟨i,rfl,by rw[RQ];exact hi⟩
    . exact⟨j,rfl,by rw[RQ];exact hj⟩
 refine nh (d:=K.d) (MU:=[.ref 0,.ref 1]) (X3:=.tup L [.ref 2,.ref 3]) (AB:=⟨[],DL AG An (D4 (AG.length+An.length) AG An).1 (D4 (AG.length+An.length) AG An).2,4⟩) (B7:=[i,j]) (λ{F A C s us}g' Fu=>aF2 (H:=⟨[],[(0,.list (AG.map .str)),(1,.list (An.map .str))],2⟩) (AB:=⟨[],DL AG An (D4 (AG.length+An.length) AG An).1 (D4 (AG.length+An.length) AG An).2,4⟩) ok bm9 hd (.inr rfl) (λhF hf PF=>bn4 AV hX hY hF hf PF) g' Fu) rfl (DF _) g Xs ?_ (args:=[.ref i,.ref j]) rfl rfl ⟨_,_,rfl,r,_,_,rfl,r',rfl⟩;refine⟨rfl,(show 2<=4 by decide),rfl,λk o e=>?_⟩;simp only[Mine.St.new,AL]at e;cases q:BC (H.n+1) k with
 |true=>
  rw[q]at e;injection e with e;subst e;exact .inl ⟨3,_,rfl,(CD q).symm,RQ.symm⟩|false=>
  rw[q]at e;cases q2:BC H.n k with
 |true=>
    rw[q2]at e;injection e with e;subst e;exact .inl ⟨2,_,rfl,(CD q2).symm,RQ.symm⟩|false=>
    rw[q2]at e;have e:AL H.h k=G o:=e;by_cases h1:k=i
    . clear Xs Cc r;subst h1;rw[hi]at e;injection e with e;subst e;exact .inl ⟨0,_,rfl,rfl,RQ.symm⟩
    . by_cases h2:k=j
      . clear Xs Cc r';subst h2;rw[hj]at e;injection e with e;subst e;exact .inl ⟨1,_,rfl,rfl,RQ.symm⟩
      . exact .inr ⟨e,by simp[h1,h2]⟩
end
theorem bn6(B:Bs)(P:Dq)(AV:(Bb P).In B.base):Dg B:=⟨λ_=>bn5 AV,λ_=>sG AV,λ_=>s_ AV⟩
noncomputable def lkR:Look:={strict:=A6,foot:=L,bare:=[]}
theorem bn7:S0 Fj Fj.main.body "vars"=A6:=by unfold S0;rw[Yn];kernel_rfl
theorem bn8:S0 Fj Fj.main.body "dir"=A6:=by unfold S0;rw[Yn];kernel_rfl
theorem bn9:S0 Fj Fj.main.body "locals"=A6:=by unfold S0;rw[Yn];kernel_rfl
theorem bo0:noRoadLSs lkR Fj.main.body=M:=by rw[bK5];kernel_rfl
theorem bo1:namesResolve Fj=M:=by rw[Fast.te8377067652309620493];kernel_rfl
theorem bo2:(namesMeet Fj Fj.main.body λ_ n=>attrL n)=M:=by rw[Yn];kernel_rfl
theorem bo3:looksOpen Fj=M:=by
 have h:(["vars","dir","locals"]:I U).filter (S0 Fj Fj.main.body)=[]:=by rw[Ye,bn7,Ye,bn8,Ye,bn9];rfl
 have k:(!(uv Fj.main.body).all cThrough.contains)=A6:=by kernel_rfl
 unfold looksOpen;rw[h,k];exact S1 (S1 (S1 (S1 (S1 (by kernel_rfl) (by kernel_rfl)) bo1) (by kernel_rfl)) bo0) bo2
theorem bo4:M5={M5 with prog:=Fj}:=congrArg (λp=>({M5 with prog:=p}:OpenLaw)) Hr
theorem row_said:bK6 M5=M:=by
 rw[bo4];unfold bK6;rw[Yn,bK5,Fast.named_eq];iterate 18(refine S1 ?_ (by kernel_rfl))
 unfold OpenRow.wellSaid OpenRow.partSaid;iterate 15(refine S1 ?_ (by kernel_rfl))
 exact bo3
end
end Mine
theorem PySem.Challenge.cw_rt0116_01_holds : PySem.Challenge.rw_rt0116_01.Holds := by
 refine holds_law Mine.row_said λsaid=>?_;exact Mine.ba9 (Mine.bb7 Mine.bn6) (by assumption)
