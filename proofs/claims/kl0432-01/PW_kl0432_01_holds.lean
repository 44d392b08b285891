import PyProof.Rows.All
import Wide.All
import OpenK.AllK
import Wide.FinOn
import KE.KBytesWalk
import KE.KStopIter
import KE.KTryOn
import KE.KDictSum
import KE.KEqDict
import KE.KLam
import KE.BytesMake
import Lean
import PySem.Challenge.RW_kl0432_01
open PySem PySem.Spec PySem.Calls PyProof.Rows PySem.W
set_option Elab.async false
set_option linter.all false
set_option maxRecDepth 100000
set_option maxHeartbeats 4000000
set_option tactic.hygienic false
set_option genInjectivity false
set_option genSizeOf false
namespace Mine.Internal
open _root_.List renaming mem_cons_self->aa,mem_cons_of_mem->ab,length_map->ak,mem_of_getElem? ->ao,mem_singleton->aA,getElem?_eq_some_iff->aB,mem_append_left->aE,mem_map->aG,getElem?_map->aJ,range->aN,mem_cons->aP,mem_range->aY,map_map->a0,length_append->ba,mem_append->bc,map_append->bj,mem_filter->bo,length_filter_le->bu,getElem?_range->bz,map_cons->bA,mem_flatMap->bG,getElem?_eq_getElem->bJ,length_cons->bK,mem_append_right->bL,nodup_append->bP,getD_eq_getElem?_getD->bR,append_assoc->bU,map_congr_left->b5,nodup_cons->cg,perm_middle->cu,append_nil->cy,take_length->cK,any_eq_true->cS,sum_cons->da,mem_of_getLast? ->df,take_add_one->dF,flatMap_cons->dG,length_take->dR,drop_eq_getElem_cons->dZ,take_of_length_le->d7,getElem?_set_self->eA,getElem?_append_left->eE,length_zipIdx->eW,append_of_mem->eX,not_mem_nil->eZ,length_range->fq,foldl_append->fu,drop_zero->fy,filter_congr->fz,foldl_cons->fF,cons_append->fU,mem_filterMap->fV,all_eq_true->fW,filter_append->fX,length_drop->fY,mem_of_mem_drop->gn,drop_append_of_le_length->gq,getLast?_eq_some_getLast->gu,toList_toArray->gP,mem_map_of_mem->gR,sublist_cons_self->gW,filter_eq_nil_iff->gY,filter_cons->hZ,getElem?_eq_none->il,mem_iff_getElem? ->iq,take_succ_cons->jb,map_eq_nil_iff->jc,zipIdx_map_fst->jd,find?_cons->jV,getLast_cons->kg,getElem?_set_ne->kI,length_take_le'->kL,length->kM,nodup_nil->kQ,lookup_cons->lh,nodup_range->lp,count_eq_zero->mD,take_append_drop->oq,drop_length->ox,zipIdx_cons->oy,mem_of_mem_take->pC,eq_nil_of_length_eq_zero->pD,filter_nil->qg,range_succ->qh,nil_append->qj,mem_zipIdx_iff_getElem? ->ql,filterMap_cons->qp,getElem?_eq_none_iff->sv,size_toArray->sV,mem_of_head? ->sW,count_append->sX,getElem?_cons_succ->uj,isEmpty_iff->uu,map_flatMap->uw,mem_nil_iff->uy,map_nil->vg,set_set->vi,sum_append->vx,take_zero->xr,map_id->xA,length_pos_iff->zy,any_cons->zI,find?_eq_none->Al,getElem?_drop->An,count->Ap,any_map->CH,reverse_cons->CR,eq_nil_iff_forall_not_mem->E9,take_append_of_le_length->Fo,length_nil->GX,dropLast_concat_getLast->GZ,drop_drop->JK,getElem?_append_right->JO,perm_append_singleton->JP,pairwise_iff_getElem->JY,extract_eq_drop_take->JZ,getLast?_eq_some_iff->J0,all_cons->Ni,map_drop->Nx,getElem?_take_of_lt->NA,length_eq_zero_iff->NY,drop_of_length_le->Qg,set_append_right->Q4,getElem?_of_mem->Tv,getElem?_mapIdx->TB,getElem?_zipIdx->TC,getLast?_append->TT,flatMap_append->UB,drop_succ_cons->UC
open _root_.Option renaming some->ae,none->av,map_eq_some_iff->aL,bind_eq_some_iff->dq,isSome_iff_exists->dI,bind_eq_none_iff->ek,isSome_none->Ak,toList_some->Am,bind_some->EW,map_some->GP,map_eq_none_iff->Qd
open _root_.PySem renaming wpAny_bind->ag,Value->ai,Shared->aq,wpAny_pure->ar,Addr->ay,wpAny->aS,model->aX,Str->bb,Around->bh,foldedSetIterable->bw,wpAny_holding->bE,Expr->bH,FuncData->cm,wpAny_of_eq->cN,sliceBounds->c7,wpAny_call_entry->dp,Program->dB,builtinLookup_eq_fast->dC,Heap->dH,wpAny_field->dS,eval->dW,wpAny_callSpecial?_slot->dX,Stmt->d6,World->d9,sizeLine->er,wpAny_call->eF,wpAny_setField->eH,wpAny_mono->eR,wpAny_truthy_bool->eU,holding->eV,typeLookup_type->fg,Scope->fh,starEach->fo,wpAny_ite_split->f5,DictEntry->gA,wpAny_Call_NameR->gB,wpAny_askSetting->gC,Env->gV,wpAny_specialOf->h8,standAt->iE,wpAny_standAt->iH,checkBuiltinCall->iI,typeLookup->iQ,isSubtype_type->iR,codeAny->iV,wpAny_newObj_type->jg,codeAny_call_builtin->jj,assignEach->jB,typeOf->jT,Pos->jX,call->ku,letOwnedTupleGo->kJ,codeAny_of_tree->kK,codeAny_builtin->kO,wpAny_loadPart'->kP,Comprehension->kS,wpAny_attempt->kT,backTo->lj,wpAny_pyIter_list->lr,intKind->lu,wpAny_setState_of->ly,sysModules->lY,pyNext->l0,call_meets->l6,specialOf->mA,getMethod->mB,Sem->mF,wpAny_rule->oj,Obj->o6,rawInt->pE,callWith->pF,letTemporaryGo->pG,bindArgs->pJ,wpAny_loadPart->pK,codeAny_call_function->qq,wpAny_execs_cons->ra,pyIter->rb,argsOk->ri,attributeBase->ro,plainId_quiet->rp,importedModules->su,aRefKeyMayBeTheName->sU,getAttr->s9,compStart->tA,isInstance->ui,Flow->uk,wpAny_pyIter_tuple->um,entryFor->uq,ret->vn,OsState->vo,mainGlobals->vp,strIterType->vq,wpAny_alloc->vr,valueAt->vt,wpAny_pyIter_slot->vz,field->vH,behindInMarks->wA,assign->wB,swapsWithSole->wC,swappedStores->wD,Result->wF,PyData->wG,Operator->xo,swapsWith->xp,cellsFrom->xq,slicePick->xt,wpAny_isInstance->xy,PlainAttrs->zu,wpAny_pyNext_list_item->zv,strKind_is->zw,sliceRange->zx,Model->zG,wpAny_isTrue_Compare1->Ah,wpAny_allTrue_Or_cons->Ai,wpAny_pyNext_list_end->Aj,NameKind->CF,newFunctionEnv->CG,someArgs->CL,builtinKind->CO,wpAny_seqItems->CP,Arguments->CX,treeTable->CY,wpAny_Assign_stores->EX,list_getitem_lookup->E3,wpAny_Tuple_spliced->E4,wpAny_setEntries_of->E8,cameBackBy->GR,intKind_is->GV,Tok->HX,call->Jv,execs->Jx,bootBuiltins->Jy,leaving->JB,getItem->JC,baseText->JD,codeAny_func->JF,call_meetsIn->JH,wpAny_mkText->JM,byteArr->JN,isSubtype->Nh,clausesOf->Nk,seqIndex? ->Nl,JoinOk->Nm,opaqueClassAbove->Nu,entryFor_of_tree->Nv,wpAny_BinOp->NO,again->NP,subscripted->NR,Fin->NZ,unpackItems->N0,pushCells_keeps->Qb,splitId->Q3,wpAny_Name->Tw,BoolOp->Tz,wpAny_load->TA,wpAny_operateT->TJ,typeIs_str->TK,table->TL,newExc->TM,boundAndCalled->TO,isSubtype_stop->TR,evalArgs_none->UE
open _root_.Nat renaming le_trans->aw,le_of_ble_eq_true->bg,le_refl->bp,lt_of_le_of_lt->b7,lt_of_lt_of_le->cb,lt_succ_of_lt->cI,ne_of_lt->c8,le_add_right->dD,mod_lt->ee,le_of_lt->eB,zero_add->eC,pow_le_pow_right->e7,testBit_eq_decide_div_mod_eq->fx,zero_le->gp,lt_or_ge->gX,add_mul->iS,lt_succ_self->jf,succ_lt_succ->jk,le_succ->jC,ne_of_gt->jI,mul_assoc->jY,le_of_eq->ll,succ_ne_zero->lq,testBit_two_pow->lC,add_assoc->l5,add_sub_cancel_left->mG,le_of_succ_le->nj,succ_ne_self->ou,min_le_right->ow,two_pow_pos->qi,add_le_add_left->qo,mul_comm->rg,zero_mul->rh,lt_trichotomy->sQ,lt_of_not_le->uA,testBit_lt_two_pow->vh,strongRecOn->vI,succ->xn,eq_of_testBit_eq->xu,one_mul->xv,mul_le_mul_right->xx,lt_irrefl->zJ,pow_succ->CI,le_of_lt_succ->CJ,lt_trans->CQ,succ_le_succ->E5,and_two_pow_sub_one_eq_mod->E7,testBit_and->GU,not_lt_zero->GY,not_lt->Jw,mod_two_eq_zero_or_one->JJ,mul_le_mul->JL,testBit_two_pow_mul->NU,testBit_mul_two_pow->NV,le_of_succ_le_succ->Qf,not_succ_le_self->TG,add_le_add_right->TI,not_succ_le_zero->TU,mul_le_mul_left->UD
open _root_.PySem.Heap renaming get?_push_of_some->az,get?_push_size->aW,lt_size->bN,get?_update_self->bS,size_push->fO,get?_update_other->iF,SameBut->ji,ExtBut->ry,MadeExcOf->TN
open _root_.Bool renaming false->aH,true->aI,eq_iff_iff->cj,and_eq_true_iff->cn,false_ne_true->cF,false_eq_true->dj,and_eq_true->dQ,or_eq_true->jU,and_false->kN,or_false->zH,not_eq_true'->CD,noConfusion->EZ,toNat_true->GW,true_and->Ny
open _root_.Option.some renaming inj->aO
open _root_.Classical renaming byContradiction->bO
open _root_.Exists renaming imp->bQ
open _root_.Array renaming getElem?_toList->bV,getElem?_eq_getElem->dY,length_toList->eK,toList_append->lB,mem_toList_iff->pI,getElem?_eq_some_iff->rx,toList_inj->ur,any_toList->uv,toList_extract->xw,toList_push->CE,getElem?_eq_none->Qa
open _root_.PySem.Heap.SameBut renaming update->bY,refl->JQ
open _root_.Int renaming toNat_natCast->b8,natCast_nonneg->dJ,ofNat->fB,lt_of_lt_of_le->rv,one_mul->sT,toNat->ux,fdiv_eq_ediv_of_nonneg->JG,ofNat_inj->Nz,add_zero->P9
open _root_.Trans renaming trans->cG
open _root_.PySem.Challenge renaming rw_kl0432_01->cQ
open _root_.PySem.Value renaming ref->cY,none->eG,builtin->iG,int->jS,type->lX,bytes->CM,isStrOf_shape->E1,bool->TQ
open _root_.PySem.Builtin.Str renaming occurrences->cZ,strSub->fk,strKind->mR
open _root_.Pure renaming pure->dg
open _root_.PySem.Obj renaming data_mapFields->dP,isFreed_of_fields->iW,putName->om,cls_mapFields->pL,mapFields->Fl
open _root_.PySem.F renaming plainAttrs_str->eM,slot_tuple_iterator_next->fA,plainAttrs_list->fQ,slot_list_append->iT,type_list_append->iU,slot_str_split->jW,slot_tuple_iterator_next->l8,called_set->mC,slot_str_join->nz,type_str_join->nA,slot_tuple_iter->uB,plainAttrs_list->uC,slot_list_iadd->vj,slot_tuple_getattribute->vk,entry_str_split->vy,plainAttrs_dict->vG,args_tuple_iterator_next_1->Aq,entry_tuple_iterator_next->Bz,args_str_split_2->GT,slot_dict_items->JI,type_str_split->Nr,slot_tuple_index->Nw,slot_dict_itemiterator_iter->NT,plain_tuple_new->NW,plainAttrs_dict->N1,args_tuple_iterator_next_1->Qe,slot_tuple_eq->Qh,entry_tuple_iterator_next->Q5,slot_dict_get->Q7,slot_tuple_ne->Q8,store_object->TP
open _root_.PySem.Str renaming ofString->fc,ofString->Ao
open _root_.PySem.W.Looks renaming of_pure->fe,ld->sx
open _root_.PySem.W renaming Frag->fH,findIn->fJ,Looks->iL,dictOf->i3,putName_dict->mS,looks_findIn->mT,check_slot->rz,instObj->Ag,kdk_entry_next->E6,specialIn->Fh,findCls->Fi,absHeap->Fj,methodObj->Fm,boot_heap->P8,lookIn_dict->Q1,takesIn->Uz,SharedT->UA,hideAll->UF
open _root_.PySem.Txt renaming join->fP,split->Nn,count->Np
open _root_.Ne renaming symm->gf
open _root_.PySem.Calls renaming call_function_entry->gv,docDef->mz,Name_function_global->Jz,evalArgs_plain->JA
open _root_.PySem.Around renaming under_plainId->gQ,frames_deeper->CN
open _root_.PyProof.Rows renaming Attribute_any_->gZ,callWith_def->iJ,MethodCall_->i5,IntsAre->uo,callWith_builtin1->EY,mapSeq_app->NS
open _root_.List.Perm renaming refl->ic,swap->jh,of_eq->G0
open _root_.LawfulBEq renaming eq_of_beq->jD
open _root_.PyProof.Rows.F renaming plain_set_update_loop->lD,entry_set_update_loop->zA
open _root_.PySem.Builtin renaming bitAnd->lZ
open _root_.Function renaming comp->l7
open _root_.PySem.Builtin.SmallTypes renaming nextOf->mH
open _root_.PySem.W.KBw renaming iter_typeIs->oo,slot_next->rA,IsBytesIter->By
open _root_.PySem.PyData renaming strOk->pH,depthAll->zK,canLayAll0->JE
open _root_.UInt8 renaming toNat->pM
open _root_.PySem.Builtin.Tuple renaming tupleCompareSizes->qk
open _root_.Inhabited renaming default->rj
open _root_.Prod.mk renaming inj->sO,injEq->Nj
open _root_.PySem.Builtin.Int renaming intBits->sR
open _root_.List.Sublist renaming refl->sS
open _root_.List.cons renaming inj->s8,injEq->GQ
open _root_.Prod renaming fst->uz,ext->TS
open _root_.PySem.Builtin.List renaming listTooLong->wH,listLengthHint->Q6
open _root_.Lean.Parser.Tactic renaming tacticSeq1Indented->xO,tacticSeq->GO
open _root_.PySem.Builtin.Range renaming small->E0
open _root_.PySem.Code renaming compLoop->Fk,compStart->TF
open _root_.ForInStep renaming yield->GS
open _root_.PySem.Data renaming func->Ng
open _root_.Int.ofNat renaming inj->Nq
open _root_.And renaming intro->NQ
noncomputable section
section
variable {T1 T2 T3 T4 T5:Sort _}{g:Prop}
theorem dU{A R:Prop}(h:A/\R)(f:A->R->g):g:=h.elim λa h=>f a h
theorem cJ{R:T1->Prop}(h:∃a,R a)(f:∀a,R a->g):g:=h.elim λa h=>f a h
theorem G1{A B R:Prop}(h:A/\B/\R)(f:A->B->R->g):g:=h.elim λa h=>h.elim λb h=>f a b h
theorem aK{B R:T1->Prop}(h:∃a,B a/\R a)(f:∀a,B a->R a->g):g:=h.elim λa h=>h.elim λb h=>f a b h
theorem oz{R:T1->T2->Prop}(h:∃a,∃b,R a b)(f:∀a,∀b,R a b->g):g:=h.elim λa h=>h.elim λb h=>f a b h
theorem Q9{A B C R:Prop}(h:A/\B/\C/\R)(f:A->B->C->R->g):g:=h.elim λa h=>h.elim λb h=>h.elim λc h=>f a b c h
theorem mI{A:Prop}{C R:T1->Prop}(h:A/\∃b,C b/\R b)(f:A->∀b,C b->R b->g):g:=h.elim λa h=>h.elim λb h=>h.elim λc h=>f a b c h
theorem vJ{A:Prop}{R:T1->T2->Prop}(h:A/\∃b,∃c,R b c)(f:A->∀b,∀c,R b c->g):g:=h.elim λa h=>h.elim λb h=>h.elim λc h=>f a b c h
theorem ef{B C R:T1->Prop}(h:∃a,B a/\C a/\R a)(f:∀a,B a->C a->R a->g):g:=h.elim λa h=>h.elim λb h=>h.elim λc h=>f a b c h
theorem eD{C R:T1->T2->Prop}(h:∃a,∃b,C a b/\R a b)(f:∀a,∀b,C a b->R a b->g):g:=h.elim λa h=>h.elim λb h=>h.elim λc h=>f a b c h
theorem N2{A B C D R:Prop}(h:A/\B/\C/\D/\R)(f:A->B->C->D->R->g):g:=h.elim λa h=>h.elim λb h=>h.elim λc h=>h.elim λd h=>f a b c d h
theorem qr{A:Prop}{C D R:T1->Prop}(h:A/\∃b,C b/\D b/\R b)(f:A->∀b,C b->D b->R b->g):g:=h.elim λa h=>h.elim λb h=>h.elim λc h=>h.elim λd h=>f a b c d h
theorem uD{A:Prop}{D R:T1->T2->Prop}(h:A/\∃b,∃c,D b c/\R b c)(f:A->∀b,∀c,D b c->R b c->g):g:=h.elim λa h=>h.elim λb h=>h.elim λc h=>h.elim λd h=>f a b c d h
theorem BA{B C D R:T1->Prop}(h:∃a,B a/\C a/\D a/\R a)(f:∀a,B a->C a->D a->R a->g):g:=h.elim λa h=>h.elim λb h=>h.elim λc h=>h.elim λd h=>f a b c d h
theorem cC{C D R:T1->T2->Prop}(h:∃a,∃b,C a b/\D a b/\R a b)(f:∀a,∀b,C a b->D a b->R a b->g):g:=h.elim λa h=>h.elim λb h=>h.elim λc h=>h.elim λd h=>f a b c d h
theorem oH{D R:T1->T2->T3->Prop}(h:∃a,∃b,∃c,D a b c/\R a b c)(f:∀a,∀b,∀c,D a b c->R a b c->g):g:=h.elim λa h=>h.elim λb h=>h.elim λc h=>h.elim λd h=>f a b c d h
theorem J1{A B C D E R:Prop}(h:A/\B/\C/\D/\E/\R)(f:A->B->C->D->E->R->g):g:=h.elim λa h=>h.elim λb h=>h.elim λc h=>h.elim λd h=>h.elim λe h=>f a b c d e h
theorem CZ{A:Prop}{R:T1->T2->T3->T4->Prop}(h:A/\∃b,∃c,∃d,∃e,R b c d e)(f:A->∀b,∀c,∀d,∀e,R b c d e->g):g:=h.elim λa h=>h.elim λb h=>h.elim λc h=>h.elim λd h=>h.elim λe h=>f a b c d e h
theorem C0{B C D E R:T1->Prop}(h:∃a,B a/\C a/\D a/\E a/\R a)(f:∀a,B a->C a->D a->E a->R a->g):g:=h.elim λa h=>h.elim λb h=>h.elim λc h=>h.elim λd h=>h.elim λe h=>f a b c d e h
theorem ir{C D E R:T1->T2->Prop}(h:∃a,∃b,C a b/\D a b/\E a b/\R a b)(f:∀a,∀b,C a b->D a b->E a b->R a b->g):g:=h.elim λa h=>h.elim λb h=>h.elim λc h=>h.elim λd h=>h.elim λe h=>f a b c d e h
theorem cE{D E R:T1->T2->T3->Prop}(h:∃a,∃b,∃c,D a b c/\E a b c/\R a b c)(f:∀a,∀b,∀c,D a b c->E a b c->R a b c->g):g:=h.elim λa h=>h.elim λb h=>h.elim λc h=>h.elim λd h=>h.elim λe h=>f a b c d e h
theorem Ar{A:Prop}{D E F R:T1->T2->Prop}(h:A/\∃b,∃c,D b c/\E b c/\F b c/\R b c)(f:A->∀b,∀c,D b c->E b c->F b c->R b c->g):g:=h.elim λa h=>h.elim λb h=>h.elim λc h=>h.elim λd h=>h.elim λe h=>h.elim λi h=>f a b c d e i h
theorem As{C D E F R:T1->T2->Prop}(h:∃a,∃b,C a b/\D a b/\E a b/\F a b/\R a b)(f:∀a,∀b,C a b->D a b->E a b->F a b->R a b->g):g:=h.elim λa h=>h.elim λb h=>h.elim λc h=>h.elim λd h=>h.elim λe h=>h.elim λi h=>f a b c d e i h
theorem lG{D E F R:T1->T2->T3->Prop}(h:∃a,∃b,∃c,D a b c/\E a b c/\F a b c/\R a b c)(f:∀a,∀b,∀c,D a b c->E a b c->F a b c->R a b c->g):g:=h.elim λa h=>h.elim λb h=>h.elim λc h=>h.elim λd h=>h.elim λe h=>h.elim λi h=>f a b c d e i h
theorem cq{E F R:T1->T2->T3->T4->Prop}(h:∃a,∃b,∃c,∃d,E a b c d/\F a b c d/\R a b c d)(f:∀a,∀b,∀c,∀d,E a b c d->F a b c d->R a b c d->g):g:=h.elim λa h=>h.elim λb h=>h.elim λc h=>h.elim λd h=>h.elim λe h=>h.elim λi h=>f a b c d e i h
theorem xP{C D E F H R:T1->T2->Prop}(h:∃a,∃b,C a b/\D a b/\E a b/\F a b/\H a b/\R a b)(f:∀a,∀b,C a b->D a b->E a b->F a b->H a b->R a b->g):g:=h.elim λa h=>h.elim λb h=>h.elim λc h=>h.elim λd h=>h.elim λe h=>h.elim λi h=>h.elim λj h=>f a b c d e i j h
theorem g6{D E F H R:T1->T2->T3->Prop}(h:∃a,∃b,∃c,D a b c/\E a b c/\F a b c/\H a b c/\R a b c)(f:∀a,∀b,∀c,D a b c->E a b c->F a b c->H a b c->R a b c->g):g:=h.elim λa h=>h.elim λb h=>h.elim λc h=>h.elim λd h=>h.elim λe h=>h.elim λi h=>h.elim λj h=>f a b c d e i j h
theorem tB{E F H R:T1->T2->T3->T4->Prop}(h:∃a,∃b,∃c,∃d,E a b c d/\F a b c d/\H a b c d/\R a b c d)(f:∀a,∀b,∀c,∀d,E a b c d->F a b c d->H a b c d->R a b c d->g):g:=h.elim λa h=>h.elim λb h=>h.elim λc h=>h.elim λd h=>h.elim λe h=>h.elim λi h=>h.elim λj h=>f a b c d e i j h
theorem wI{D E F H I R:T1->T2->T3->Prop}(h:∃a,∃b,∃c,D a b c/\E a b c/\F a b c/\H a b c/\I a b c/\R a b c)(f:∀a,∀b,∀c,D a b c->E a b c->F a b c->H a b c->I a b c->R a b c->g):g:=h.elim λa h=>h.elim λb h=>h.elim λc h=>h.elim λd h=>h.elim λe h=>h.elim λi h=>h.elim λj h=>h.elim λk h=>f a b c d e i j k h
theorem dK{E F H I R:T1->T2->T3->T4->Prop}(h:∃a,∃b,∃c,∃d,E a b c d/\F a b c d/\H a b c d/\I a b c d/\R a b c d)(f:∀a,∀b,∀c,∀d,E a b c d->F a b c d->H a b c d->I a b c d->R a b c d->g):g:=h.elim λa h=>h.elim λb h=>h.elim λc h=>h.elim λd h=>h.elim λe h=>h.elim λi h=>h.elim λj h=>h.elim λk h=>f a b c d e i j k h
theorem iK{F H I R:T1->T2->T3->T4->T5->Prop}(h:∃a,∃b,∃c,∃d,∃e,F a b c d e/\H a b c d e/\I a b c d e/\R a b c d e)(f:∀a,∀b,∀c,∀d,∀e,F a b c d e->H a b c d e->I a b c d e->R a b c d e->g):g:=h.elim λa h=>h.elim λb h=>h.elim λc h=>h.elim λd h=>h.elim λe h=>h.elim λi h=>h.elim λj h=>h.elim λk h=>f a b c d e i j k h
theorem qt{D E F H I J R:T1->T2->T3->Prop}(h:∃a,∃b,∃c,D a b c/\E a b c/\F a b c/\H a b c/\I a b c/\J a b c/\R a b c)(f:∀a,∀b,∀c,D a b c->E a b c->F a b c->H a b c->I a b c->J a b c->R a b c->g):g:=h.elim λa h=>h.elim λb h=>h.elim λc h=>h.elim λd h=>h.elim λe h=>h.elim λi h=>h.elim λj h=>h.elim λk h=>h.elim λl h=>f a b c d e i j k l h
theorem jZ{D E F H I J K R:T1->T2->T3->Prop}(h:∃a,∃b,∃c,D a b c/\E a b c/\F a b c/\H a b c/\I a b c/\J a b c/\K a b c/\R a b c)(f:∀a,∀b,∀c,D a b c->E a b c->F a b c->H a b c->I a b c->J a b c->K a b c->R a b c->g):g:=h.elim λa h=>h.elim λb h=>h.elim λc h=>h.elim λd h=>h.elim λe h=>h.elim λi h=>h.elim λj h=>h.elim λk h=>h.elim λl h=>h.elim λm h=>f a b c d e i j k l m h
end
@[elab_as_elim] theorem aj{α:Sort u}{a b:α}{P:α->Prop}(e:a=b)(h:P b):P a:=e▸h
@[elab_as_elim] theorem fZ{α:Sort u}{a b:α}{P:α->Prop}(e:a=b)(h:P a):P b:=e▸h
@[elab_as_elim] theorem gj{a b:Prop}{P:Prop->Prop}(e:a↔b)(h:P b):P a:=propext e▸h
@[elab_as_elim] theorem rwj{a b:Prop}{P:Prop->Prop}(e:a↔b)(h:P a):P b:=propext e▸h
noncomputable def ep{α:Type}(n:Nonempty α)(P:α->Prop):α:=@Classical.epsilon α n λa=>¬P a
theorem rB{α:Type}{n:Nonempty α}{P:α->Prop}(h:P (ep n P))(a:α):P a:=bO λq=>(Classical.epsilon_spec (p:=λa=>¬P a) ⟨a,q⟩) h
theorem j8{α β:Type}:Nonempty α->Nonempty β->Nonempty (α×β):=λ⟨a⟩ ⟨b⟩=>⟨(a,b)⟩
theorem neQ{α:Type}:Nonempty (α->Prop):=⟨λz=>True⟩
theorem ta{α β:Type}:Nonempty (α->β->Prop):=⟨λz z=>True⟩
theorem gD{α:Type}:Nonempty (List α):=⟨[]⟩
theorem neO{α:Type}:Nonempty (Option α):=⟨av⟩
theorem neF{α β:Type}(n:Nonempty β):Nonempty (α->β):=n.elim λb=>⟨λz=>b⟩
theorem eN:Nonempty Nat:=⟨0⟩
theorem Ra:Nonempty Int:=⟨0⟩
section
variable {T1 T2 T3 T4 T5 T6 T7 T8 T9 T10 T11 T12 T13 T14 T15 T16:Type}(n1:Nonempty T1)(n2:Nonempty T2)(n3:Nonempty T3)(n4:Nonempty T4)(n5:Nonempty T5)(n6:Nonempty T6)(n7:Nonempty T7)(n8:Nonempty T8)(n9:Nonempty T9)(QO:Nonempty T10)(Ud:Nonempty T11)(Ue:Nonempty T12)(n13:Nonempty T13)(n14:Nonempty T14)(n15:Nonempty T15)(n16:Nonempty T16)
def ap2(S:T1->T2->Prop)(t:T1×T2):Prop:=S t.1 t.2
noncomputable def Qi(S:T1->T2->Prop):T1×T2:=ep (j8 n1 n2) (ap2 S)
theorem Fp(S:T1->T2->Prop)(h:ap2 S (Qi n1 n2 S))(x1:T1)(x2:T2):S x1 x2:=rB h (x1,x2)
def ap4(S:T1->T2->T3->T4->Prop)(t:T1×T2×T3×T4):Prop:=S t.1 t.2.1 t.2.2.1 t.2.2.2
noncomputable def G2(S:T1->T2->T3->T4->Prop):T1×T2×T3×T4:=ep (j8 n1 (j8 n2 (j8 n3 n4))) (ap4 S)
theorem vK(S:T1->T2->T3->T4->Prop)(h:ap4 S (G2 n1 n2 n3 n4 S))(x1:T1)(x2:T2)(x3:T3)(x4:T4):S x1 x2 x3 x4:=rB h (x1,x2,x3,x4)
def ap6(S:T1->T2->T3->T4->T5->T6->Prop)(t:T1×T2×T3×T4×T5×T6):Prop:=S t.1 t.2.1 t.2.2.1 t.2.2.2.1 t.2.2.2.2.1 t.2.2.2.2.2
noncomputable def Fq(S:T1->T2->T3->T4->T5->T6->Prop):T1×T2×T3×T4×T5×T6:=ep (j8 n1 (j8 n2 (j8 n3 (j8 n4 (j8 n5 n6))))) (ap6 S)
theorem uE(S:T1->T2->T3->T4->T5->T6->Prop)(h:ap6 S (Fq n1 n2 n3 n4 n5 n6 S))(x1:T1)(x2:T2)(x3:T3)(x4:T4)(x5:T5)(x6:T6):S x1 x2 x3 x4 x5 x6:=rB h (x1,x2,x3,x4,x5,x6)
def ap8(S:T1->T2->T3->T4->T5->T6->T7->T8->Prop)(t:T1×T2×T3×T4×T5×T6×T7×T8):Prop:=S t.1 t.2.1 t.2.2.1 t.2.2.2.1 t.2.2.2.2.1 t.2.2.2.2.2.1 t.2.2.2.2.2.2.1 t.2.2.2.2.2.2.2
noncomputable def NB(S:T1->T2->T3->T4->T5->T6->T7->T8->Prop):T1×T2×T3×T4×T5×T6×T7×T8:=ep (j8 n1 (j8 n2 (j8 n3 (j8 n4 (j8 n5 (j8 n6 (j8 n7 n8))))))) (ap8 S)
theorem BB(S:T1->T2->T3->T4->T5->T6->T7->T8->Prop)(h:ap8 S (NB n1 n2 n3 n4 n5 n6 n7 n8 S))(x1:T1)(x2:T2)(x3:T3)(x4:T4)(x5:T5)(x6:T6)(x7:T7)(x8:T8):S x1 x2 x3 x4 x5 x6 x7 x8:=rB h (x1,x2,x3,x4,x5,x6,x7,x8)
def ap10(S:T1->T2->T3->T4->T5->T6->T7->T8->T9->T10->Prop)(t:T1×T2×T3×T4×T5×T6×T7×T8×T9×T10):Prop:=S t.1 t.2.1 t.2.2.1 t.2.2.2.1 t.2.2.2.2.1 t.2.2.2.2.2.1 t.2.2.2.2.2.2.1 t.2.2.2.2.2.2.2.1 t.2.2.2.2.2.2.2.2.1 t.2.2.2.2.2.2.2.2.2
noncomputable def zL(S:T1->T2->T3->T4->T5->T6->T7->T8->T9->T10->Prop):T1×T2×T3×T4×T5×T6×T7×T8×T9×T10:=ep (j8 n1 (j8 n2 (j8 n3 (j8 n4 (j8 n5 (j8 n6 (j8 n7 (j8 n8 (j8 n9 QO))))))))) (ap10 S)
theorem uF(S:T1->T2->T3->T4->T5->T6->T7->T8->T9->T10->Prop)(h:ap10 S (zL n1 n2 n3 n4 n5 n6 n7 n8 n9 QO S))(x1:T1)(x2:T2)(x3:T3)(x4:T4)(x5:T5)(x6:T6)(x7:T7)(x8:T8)(x9:T9)(MV:T10):S x1 x2 x3 x4 x5 x6 x7 x8 x9 MV:=rB h (x1,x2,x3,x4,x5,x6,x7,x8,x9,MV)
def ap12(S:T1->T2->T3->T4->T5->T6->T7->T8->T9->T10->T11->T12->Prop)(t:T1×T2×T3×T4×T5×T6×T7×T8×T9×T10×T11×T12):Prop:=S t.1 t.2.1 t.2.2.1 t.2.2.2.1 t.2.2.2.2.1 t.2.2.2.2.2.1 t.2.2.2.2.2.2.1 t.2.2.2.2.2.2.2.1 t.2.2.2.2.2.2.2.2.1 t.2.2.2.2.2.2.2.2.2.1 t.2.2.2.2.2.2.2.2.2.2.1 t.2.2.2.2.2.2.2.2.2.2.2
noncomputable def HY(S:T1->T2->T3->T4->T5->T6->T7->T8->T9->T10->T11->T12->Prop):T1×T2×T3×T4×T5×T6×T7×T8×T9×T10×T11×T12:=ep (j8 n1 (j8 n2 (j8 n3 (j8 n4 (j8 n5 (j8 n6 (j8 n7 (j8 n8 (j8 n9 (j8 QO (j8 Ud Ue))))))))))) (ap12 S)
theorem C6(S:T1->T2->T3->T4->T5->T6->T7->T8->T9->T10->T11->T12->Prop)(h:ap12 S (HY n1 n2 n3 n4 n5 n6 n7 n8 n9 QO Ud Ue S))(x1:T1)(x2:T2)(x3:T3)(x4:T4)(x5:T5)(x6:T6)(x7:T7)(x8:T8)(x9:T9)(MV:T10)(QP:T11)(QQ:T12):S x1 x2 x3 x4 x5 x6 x7 x8 x9 MV QP QQ:=rB h (x1,x2,x3,x4,x5,x6,x7,x8,x9,MV,QP,QQ)
def ap14(S:T1->T2->T3->T4->T5->T6->T7->T8->T9->T10->T11->T12->T13->T14->Prop)(t:T1×T2×T3×T4×T5×T6×T7×T8×T9×T10×T11×T12×T13×T14):Prop:=S t.1 t.2.1 t.2.2.1 t.2.2.2.1 t.2.2.2.2.1 t.2.2.2.2.2.1 t.2.2.2.2.2.2.1 t.2.2.2.2.2.2.2.1 t.2.2.2.2.2.2.2.2.1 t.2.2.2.2.2.2.2.2.2.1 t.2.2.2.2.2.2.2.2.2.2.1 t.2.2.2.2.2.2.2.2.2.2.2.1 t.2.2.2.2.2.2.2.2.2.2.2.2.1 t.2.2.2.2.2.2.2.2.2.2.2.2.2
noncomputable def N3(S:T1->T2->T3->T4->T5->T6->T7->T8->T9->T10->T11->T12->T13->T14->Prop):T1×T2×T3×T4×T5×T6×T7×T8×T9×T10×T11×T12×T13×T14:=ep (j8 n1 (j8 n2 (j8 n3 (j8 n4 (j8 n5 (j8 n6 (j8 n7 (j8 n8 (j8 n9 (j8 QO (j8 Ud (j8 Ue (j8 n13 n14))))))))))))) (ap14 S)
theorem J2(S:T1->T2->T3->T4->T5->T6->T7->T8->T9->T10->T11->T12->T13->T14->Prop)(h:ap14 S (N3 n1 n2 n3 n4 n5 n6 n7 n8 n9 QO Ud Ue n13 n14 S))(x1:T1)(x2:T2)(x3:T3)(x4:T4)(x5:T5)(x6:T6)(x7:T7)(x8:T8)(x9:T9)(MV:T10)(QP:T11)(QQ:T12)(x13:T13)(x14:T14):S x1 x2 x3 x4 x5 x6 x7 x8 x9 MV QP QQ x13 x14:=rB h (x1,x2,x3,x4,x5,x6,x7,x8,x9,MV,QP,QQ,x13,x14)
def ap16(S:T1->T2->T3->T4->T5->T6->T7->T8->T9->T10->T11->T12->T13->T14->T15->T16->Prop)(t:T1×T2×T3×T4×T5×T6×T7×T8×T9×T10×T11×T12×T13×T14×T15×T16):Prop:=S t.1 t.2.1 t.2.2.1 t.2.2.2.1 t.2.2.2.2.1 t.2.2.2.2.2.1 t.2.2.2.2.2.2.1 t.2.2.2.2.2.2.2.1 t.2.2.2.2.2.2.2.2.1 t.2.2.2.2.2.2.2.2.2.1 t.2.2.2.2.2.2.2.2.2.2.1 t.2.2.2.2.2.2.2.2.2.2.2.1 t.2.2.2.2.2.2.2.2.2.2.2.2.1 t.2.2.2.2.2.2.2.2.2.2.2.2.2.1 t.2.2.2.2.2.2.2.2.2.2.2.2.2.2.1 t.2.2.2.2.2.2.2.2.2.2.2.2.2.2.2
noncomputable def Fs(S:T1->T2->T3->T4->T5->T6->T7->T8->T9->T10->T11->T12->T13->T14->T15->T16->Prop):T1×T2×T3×T4×T5×T6×T7×T8×T9×T10×T11×T12×T13×T14×T15×T16:=ep (j8 n1 (j8 n2 (j8 n3 (j8 n4 (j8 n5 (j8 n6 (j8 n7 (j8 n8 (j8 n9 (j8 QO (j8 Ud (j8 Ue (j8 n13 (j8 n14 (j8 n15 n16))))))))))))))) (ap16 S)
theorem Au(S:T1->T2->T3->T4->T5->T6->T7->T8->T9->T10->T11->T12->T13->T14->T15->T16->Prop)(h:ap16 S (Fs n1 n2 n3 n4 n5 n6 n7 n8 n9 QO Ud Ue n13 n14 n15 n16 S))(x1:T1)(x2:T2)(x3:T3)(x4:T4)(x5:T5)(x6:T6)(x7:T7)(x8:T8)(x9:T9)(MV:T10)(QP:T11)(QQ:T12)(x13:T13)(x14:T14)(x15:T15)(x16:T16):S x1 x2 x3 x4 x5 x6 x7 x8 x9 MV QP QQ x13 x14 x15 x16:=rB h (x1,x2,x3,x4,x5,x6,x7,x8,x9,MV,QP,QQ,x13,x14,x15,x16)
end
theorem gK{α:Type u}{a:α}{P:Prop}(h:av=ae a):P:=by cases h
theorem nomS{α:Type u}{a:α}{P:Prop}(h:ae a=av):P:=by cases h
theorem eo{α:Type u}{a:α}{P:Prop}(h:a∈([]:List α)):P:=by cases h
theorem vL{P:Prop}(h:aH=aI):P:=by cases h
theorem J3{P:Prop}(h:aI=aH):P:=by cases h
theorem Rb{α:Type u}{a:α}{l:List α}{P:Prop}(h:[]=a::l):P:=by cases h
theorem J4{α:Type u}{a:α}{l:List α}{P:Prop}(h:a::l=[]):P:=by cases h
@[elab_as_elim] theorem TV{P:Nat->Prop}{i:Nat}(h:i < 3)(a:P 0)(b:P 1)(c:P 2):P i:=by cases i with|zero=>exact a|succ i=>cases i with|zero=>exact b|succ i=>cases i with|zero=>exact c|succ i=>omega
theorem lt4s{P:Nat->Prop}{i:Nat}(h:i < 4)(a:P 0)(b:P 1)(c:P 2)(d:P 3):P i:=by cases i with|zero=>exact a|succ i=>exact TV (P:=λi=>P (i+1)) (by omega) b c d
@[elab_as_elim] theorem lt5{P:Nat->Prop}{i:Nat}(h:i < 5)(a:P 0)(b:P 1)(c:P 2)(d:P 3)(e:P 4):P i:=by cases i with|zero=>exact a|succ i=>exact lt4s (P:=λi=>P (i+1)) (by omega) b c d e
def aR:Lean.Syntax:= .node .none `Lean.Parser.Tactic.tacticSeq #[.node .none `Lean.Parser.Tactic.tacticSeq1Indented #[.node .none `null #[.node .none `Lean.Parser.Tactic.intros #[.atom .none "intros",.node .none `null #[]],.atom .none ";",.node .none `Lean.Parser.Tactic.tacticRfl #[.atom .none "rfl"]]]]
def aD:Lean.Syntax:= .node .none `Lean.Parser.Tactic.tacticSeq #[.node .none `Lean.Parser.Tactic.tacticSeq1Indented #[.node .none `null #[.node .none `Lean.Parser.Tactic.decide #[.atom .none "decide",.node .none `Lean.Parser.Tactic.optConfig #[.node .none `null #[]]]]]]
section
open PySem.W.Fast
noncomputable def Ft:CX:={posonlyargs:=[],args:=[],vararg:=av,kwonlyargs:=[],kw_defaults:=[],kwarg:=av,defaults:=[]}
noncomputable def BC:fh:={kind:= .function,names:=[],isGenerator:=aH,isCoroutine:=aH,more:=[]}
noncomputable def cM(i:Nat):d6:=Challenge.pw_kl0432_01.main.body.getD i (.Pass ⟨0,0,0,0⟩)
noncomputable def jl(i j:Nat):d6:=match cM i with
 | .ClassDef _ _ _ body .. =>body.getD j (.Pass ⟨0,0,0,0⟩)
 |_=> .Pass ⟨0,0,0,0⟩
noncomputable def md:d6->bb| .FunctionDef n .. =>n|_=>""
noncomputable def wJ:d6->CX| .FunctionDef _ a .. =>a|_=>Ft
noncomputable def fR:d6->List d6| .FunctionDef _ _ b .. =>b|_=>[]
noncomputable def bk:d6->fh| .FunctionDef _ _ _ _ _ _ s .. =>s|_=>BC
noncomputable def oJ:List bb:=["OPTIMIZED","NEWLOCALS","VARARGS","VARKEYWORDS","NESTED","GENERATOR","NOFREE","COROUTINE","ITERABLE_COROUTINE","ASYNC_GENERATOR"]
noncomputable abbrev xB(st:d6)(pm cd doc:ai):cm:=mz (md st) (wJ st) (fR st) (bk st) pm cd doc
noncomputable def eS(K:fH)(C:ay)(name:bb):Bool:=((clsIn K C).any λcd=>cd.hasDict) && fJ K (.ref C) name == ae av && fJ K (.ref C) "__getattribute__" == ae (ae (.builtin "object.__getattribute__"))
noncomputable def jm(K:fH)(C f:ay)(name:bb):Bool:=fJ K (.ref C) "__getattribute__" == ae (ae (.builtin "object.__getattribute__")) && fJ K (.ref C) "__getattr__" == ae av && fJ K (.ref C) name == ae (ae (.ref f)) && typeIn K (.ref f) == ae (.type "function")
noncomputable def fj(K:fH)(C:ay)(name:bb):Bool:=fJ K (.ref C) "__setattr__" == ae (ae (.builtin "object.__setattr__")) && plainOver K C && takerIn K C name == ae av && (clsIn K C).any (·.hasDict)
noncomputable abbrev Av(st:d6)(qual:bb)(pm cd doc:ai):cm:={xB st pm cd doc with qualname:=qual}
noncomputable def sy(K:fH)(C f:ay)(name:bb):Bool:=plainGet K C name && hasDictIn K C && fJ K (.ref C) name == ae (ae (.ref f)) && isFn K (.ref f) && Fh K (.ref f) "__get__" == ae (ae (.builtin "function.__get__")) && Uz K (.ref f) == ae aH && !copiedNames.contains name
noncomputable def BD(K:fH)(a:ay):o6:=(K.lookup a).getD {cls:= .none,data:= .plain}
noncomputable def pmIn(K:fH)(a:ay):ai:=match (BD K a).data with| .func fd=>fd.pyModule|_=> .none
noncomputable def dcIn(K:fH)(a:ay):ai:=match (BD K a).data with| .func fd=>fd.doc|_=> .none
noncomputable def i6(K:fH)(cd:ai)(q:bb):Bool:=match cd with
 | .ref c=>(match (BD K c).data with
  | .fields vs=>(match (vs[1]? :Option ai) with|some (Value.str n _)=>n == q|_=>aH)
  |_=>aH) && (K.lookup c).isSome
 |_=>aH
noncomputable def strip:Data->Data
 | .func fd=> .func {fd with pyModule:= .none,doc:= .none}
 |d=>d
noncomputable def xc(K:fH)(a:ay):Option Data:=(K.lookup a).map λo=>strip o.data
noncomputable def BE(K:fH)(x:bb):Option ai:=match (BD K 3).data with| .dict es _=>nsFind es x|_=>av
noncomputable def TX:Nat->List bb->List gA
 |_,[]=>[]
 |i,n::l=>⟨2 ^ i,.int (2 ^ i) (253+2*i),.str n (254+2*i)⟩::TX (i+1) l
noncomputable def J5(K:fH)(a:ay):List gA:=match (BD K a).data with| .dict es _=>es.toList|_=>[]
noncomputable def Rc:List (ay×ay×d6):=[(72,71,cM 4),(172,171,cM 7),(179,178,cM 8),(256,255,cM 13),(263,262,cM 14),(270,269,cM 15),(275,274,cM 17),(280,279,cM 18),(285,284,cM 19),(290,289,cM 20),(297,296,cM 21),(302,301,cM 22),(307,306,cM 23)]
noncomputable def meL:List (ay×ay×d6×bb):=[(193,192,jl 10 0,"_netrclex.__init__"),(200,199,jl 10 1,"_netrclex._read_char"),(207,206,jl 10 2,"_netrclex.get_token"),(214,213,jl 10 3,"_netrclex.push_token"),(235,234,jl 12 1,"TupleComp.__init__"),(242,241,jl 12 2,"TupleComp.compare"),(90,89,jl 5 4,"_ExceptionTableEntryBase.__new__")]
noncomputable def Rd:List (bb×ay):=[("pretty_flags",72),("COMPILER_FLAG_NAMES",65),("_ExceptionTableEntry",162),("_parse_varint",172),("_parse_exception_table",179),("_netrclex",217),("TupleComp",245),("add_func_stats",256),("add_callers",263),("count_calls",270),("_law_given",275),("_law_spelled",280),("_law_octets",285),("_law_back",290),("_law_run",297),("_law_hear",302),("law",307),("__builtins__",4)]
noncomputable def mnL:List bb:=["range","len","sum","enumerate","int","bool","list","set","sorted","hex","next","iter","ord","chr","bytes","isinstance","tuple","StopIteration","type","issubclass"]
noncomputable def gtL:List (ay×bb):=[(132,"start"),(135,"end"),(138,"target"),(141,"depth"),(144,"lasti")]
noncomputable def oA(K:fH):=(Rc.map λq=>(xc K q.1,i6 K (.ref q.2.1) (md q.2.2)),meL.map λq=>(xc K q.1,i6 K (.ref q.2.1) q.2.2.2),Rd.map λq=>BE K q.1,mnL.map (BE K))
noncomputable def vA:=(Rc.map λq=>(ae (Ng (mz (md q.2.2) (wJ q.2.2) (fR q.2.2) (bk q.2.2) .none (.ref q.2.1) .none)),aI),meL.map λq=>(ae (Ng (Av q.2.2.1 q.2.2.2 .none (.ref q.2.1) .none)),aI),Rd.map λq=>ae (cY q.2),mnL.map λz=>(av:Option ai))
noncomputable def oB(K:fH):=(K.lookup 65,K.lookup 36,xc K 43,i6 K (.ref 42) "_tuplegetter.__get__",(K.lookup 3).isSome)
noncomputable def vB:=(ae ({cls:= .type "dict",data:= .dict (TX 0 oJ).toArray 10}:o6),ae ({cls:= .type "tuple",data:= .seq #[.none] 0}:o6),ae (Ng {Av (jl 2 1) "_tuplegetter.__get__" .none (.ref 42) .none with defaults:= .ref 36}),aI,aI)
noncomputable def oC(K:fH):List Bool:=[eS K 217 "pushback",eS K 217 "lineno",eS K 217 "instream",eS K 217 "whitespace",fj K 217 "pushback",fj K 217 "lineno",fj K 217 "instream",fj K 217 "whitespace",jm K 217 200 "_read_char",jm K 217 207 "get_token",jm K 217 214 "push_token",eS K 245 "comp_select_list",fj K 245 "comp_select_list",jm K 245 242 "compare",makesIn K 217,keepIn K (.ref 217),makesIn K 245,keepIn K (.ref 245),sy K 217 200 "_read_char",readsIn K 162 (.type "type"),keepIn K (.ref 162),eS K 60 "index",codeHdIn K 274 272,codeHdIn K 306 304]
noncomputable def vC:List Bool:=List.replicate 24 aI
noncomputable def oD(K:fH):=(fJ K (.ref 217) "__init__",fJ K (.ref 245) "__init__",fJ K (.ref 162) "__getattribute__",fJ K (.ref 162) "__getattr__",fJ K (.ref 162) "__eq__",fJ K (.ref 162) "__iter__",typeIn K (.ref 193),typeIn K (.ref 235),subIn K (.type "tuple") (.ref 162),subIn K (.ref 162) (.type "tuple"),Fi K (.ref 162) (.type "type") "__new__",recIn K 150 "staticmethod",Fi K (.type "tuple") (.type "type") "__new__",Fi K (.type "tuple") (.type "type") "__getitem__")
noncomputable def vD:=(ae (ae (cY 193)),ae (ae (cY 235)),ae (ae (iG "tuple.__getattribute__")),ae (av:Option ai),ae (ae (iG "tuple.__eq__")),ae (ae (iG "tuple.__iter__")),ae (lX "function"),ae (lX "function"),ae aH,ae aI,ae (CFound.get (.builtin "staticmethod.__get__") (.ref 150) .none (.ref 162)),ae [cY 90],ae (CFound.val (.builtin "tuple.__new__")),ae (CFound.val (.builtin "tuple.__getitem__")))
noncomputable def oX(a k:ai->bb->mF (Option ai))(b h:ai->ai->mF Bool)(c:ai->mF (Option String))(d:ai->mF (List ai))(e:String->Args->mF Unit)(f:String->ai->mF Unit)(g:ai->mF Bool)(K:fH)(S:Setting):=(peek K S (a (.ref 162) "__call__"),peek K S (b (.ref 162) (.type "type")),peek K S (c (.ref 162)),peek K S (d (.ref 162)),(λt:ay=>peek K S (e "tuple.__new__" {pos:=[.ref 162,.ref t]})),peek K S (f "tuple.__new__" (.ref 162)),peek K S (g (.ref 162)),peek K S (h (.ref 162) (.type "tuple")),peek K S (h (.ref 162) (.ref 162)),peek K S (h (.ref 162) (.type "object")),peek K S (k (.ref 162) "__init__"))
noncomputable def oE:=oX mA iQ ui Nh Bind.madeBy mroOf iI Bind.madeHere isType
noncomputable def oG:=oX tw4214721358667687652 tw1381439984260040727 tw6571733998842723752 tw16098473122060591676 tw6838149247815620303 tw9541985092090588186 tw10254737850608025244 tw7909335148693498415 tw10380811246957099773
theorem oE_eq:oE=oG:=by delta oE oG;rw [te4214721358667687652,te6571733998842723752,te6838149247815620303,te9541985092090588186,te10254737850608025244,te7909335148693498415,te10380811246957099773,te16098473122060591676,te1381439984260040727]
noncomputable def vE(_:Setting):=(ae (ae (iG "type.__call__")),ae aI,ae (av:Option String),ae [cY 162,.ref 149,.type "tuple",.type "object"],(λ_:ay=>ae ()),ae (),ae aI,ae aI,ae aI,ae aI,ae (ae (iG "object.__init__")))
noncomputable def J6(K:fH):Option Bool:=match K.lookup 162 with
 |some ⟨.type "type",_,.cls cd,_⟩=>ae cd.hasDel
 |_=>av
noncomputable def oF(K:fH):=(gtL.map λq=>(fJ K (.ref 162) q.2,Fh K (.ref q.1) "__get__",Uz K (.ref q.1),K.lookup q.1,getL "index" (J5 K (q.1 - 1)),(K.lookup (q.1 - 1)).map λo=>(o.cls,o.dict,o.slots)),J6 K)
noncomputable def vF:=((gtL.zipIdx.map λ(q:(ay×bb)×Nat)=>(ae (ae (cY q.1.1)),ae (ae (cY 43)),ae aI,ae (Ag 60 (q.1.1 - 1)),ae (ae (jS q.2 (394+10*q.2))),ae (lX "dict",(av:Option ay),(#[]:Array (Option ai))))),ae aH)
noncomputable def Fu(K:fH):=(oA K,oB K,oC K,oD K,oG K,oF K)
noncomputable def N4:=(vA,vB,vC,vD,vE,vF)
def J7(_:d9)(h:dH):Prop:=∃K:fH,K.In h/\K.lookup 272=av/\K.lookup 304=av/\Fu K=N4/\∀P∈[272,304],h.get? P=ae (tabObj #[])
structure Cx where
 w:d9
 s:aq
 mg:bb->Option ai
def C7(c:Cx):Prop:=∀(q:dB) (loose:List bb) (RR:WRecords) (XP:(bb->Option ai)->dH->Prop) (s0:aq) (mb:bb->Option ai) (fa:ay) (args:List WData) (bB:List ai) (cl:bb->Option ay) (mean:ExcName->Option ai) (E:ai->aq->Prop),
 Ground q loose RR XP c.w s0 c.mg mb c.s.heap->importsNone q=aI->J7 c.w c.s.heap->c.mg "law"=ae (.ref fa)->c.s.gens=#[]->(cQ.row.toRowW.claim).pre args=aI->WellAll c.w.params c.s.heap bB args->
 aS (aX cQ.row.toRowW.prog c.w) callerA (Jv (.ref fa) bB) (λv s'=>GoodWG (cQ.row.toRowW.claim) cl mean args c.s (.ok (.ret v)) s') E c.s
theorem Qj:Nonempty Cx:=⟨⟨⟨λz z=>0,{strHash:=λz=>0,shareClass:=λz=>0,mergeTok:=λt=>t,idOf:=λz=>0,idOfShared:=λz z=>0,followText:=λz=>aH,idOfImm:=λz=>0}⟩,{},λz=>av⟩⟩
@[irreducible] noncomputable def cx:Cx:=@Classical.epsilon Cx Qj λc=>¬C7 c
theorem J8(h:C7 cx)(c:Cx):C7 c:=bO λn=>by
 unfold cx at h;exact @Classical.epsilon_spec_aux Cx Qj (λc=>¬C7 c) ⟨c,n⟩ h
theorem zM:Nonempty aq:=⟨{}⟩
theorem Fb:Nonempty d9:=⟨cx.w⟩
theorem Fv:Nonempty bh:=⟨callerA⟩
theorem cL:Nonempty ay:=inferInstance
theorem gL:Nonempty ai:=inferInstance
theorem neE:Nonempty gV:=inferInstance
theorem sY:Nonempty dB:=inferInstance
end
noncomputable def Fw:List ay:=[162,161,149,148,217,216,245,244,60,59,3,2,36,42,43,65,132,135,138,141,144,131,134,137,140,143,150,71,72,89,90,171,172,178,179,192,193,199,200,206,207,213,214,234,235,241,242,255,256,262,263,269,270,274,275,279,280,284,285,289,290,296,297,301,302,306,307]
noncomputable def lH(h:dH):List ay->fH
 |[]=>[]
 |a::l=>match h.get? a with
  |some o=>(a,o)::lH h l
  |none=>lH h l
theorem G3(h:dH):∀l:List ay,(lH h l).In h/\∀a,a∉l->(lH h l).lookup a=av
 |[]=>⟨(λa o e=>by exact gK e),λz z=>rfl⟩
 |b::l=>by
  refine dU (G3 h l) λh1 h2=>?_;show Frag.In (match h.get? b with|some o=>(b,o)::lH h l|none=>lH h l) h/\∀a,a∉b::l->(match h.get? b with|some o=>(b,o)::lH h l|none=>lH h l).lookup a=av;cases hb:h.get? b with
  |none=>exact ⟨h1,λa ha=>h2 a λq=>ha (ab _ q)⟩
  |some o=>
   refine ⟨λa o' e=>?_,λa ha=>?_⟩
   ·rw [lh] at e;by_cases xb:a=b
    ·subst xb;rw [show (a == a)=aI from by simp] at e
     (have lA:=aO e;clear e;subst lA);exact hb
    ·rw [show (a == b)=aH from by simpa using xb] at e;exact h1 a o' e
   ·(refine aj (lh ..) ?_;refine aj (show (a == b)=aH from by simpa using λq:a=b=>ha (q▸aa)) ?_)
    exact h2 a λq=>ha (ab _ q)
section
noncomputable def N5(p:dB)(w:d9)(n0:Nat)(ann:Option ai):Nat->UA->Thread->Option UA
 |0,_,_=>av
 |n+1,s,t=>match through t with
  |true=>ae s
  |false=>match Fast.tw6613529449190102663 n0 ann t with
   |false=>av
   |true=>match Fast.tw10156331382660048174 (Fast.tw11892475500146522536 Fast.tw14364793385576792824) p w s t with
    |some (s',t')=>N5 p w n0 ann n s' t'
    |none=>av
theorem Aw{p:dB}{w:d9}{n0:Nat}{ann:Option ai}:∀{n:Nat} {s s':UA} {t:Thread},N5 p w n0 ann n s t=ae s'->topRun CY p w n0 ann n s.abs t=ae s'.abs
 |0,_,_,_,h=>by cases h
 |n+1,s,s',t,h=>by
  unfold N5 at h;unfold topRun;cases ht:through t with
  |true=>rw [ht] at h;cases h;rfl
  |false=>
   rw [ht] at h;dsimp only at h ⊢;rw [<- Fast.te6613529449190102663] at h;cases ho:stepOk n0 ann t with
   |false=>rw [ho] at h;cases h
   |true=>
    rw [ho] at h;dsimp only at h ⊢;rw [<- Fast.te10156331382660048174,<- Fast.te11892475500146522536,<- Fast.te14364793385576792824] at h;cases hs:stepT (denote CY) p w s t with
    |none=>rw [hs] at h;cases h
    |some q=>obtain ⟨s1,t1⟩:=q;rw [hs] at h;rw [stepT_spec hs];exact Aw h
noncomputable def mkT:List o6->Nat->BT->BT
 |[],_,t=>t
 |o::l,n,t=>mkT l (n+1) (t.ins n o)
noncomputable def st0(w:d9)(os:vo):UA:=⟨mkT (P8 w.params).objs.toList 0 .nil,11,(P8 w.params).life,#[],boot_drawn,boot_toks,os⟩
theorem N6(w:d9)(os:vo):(st0 w os).abs=⟨P8 w.params,#[],boot_drawn,boot_toks,os⟩:=by kernel_rfl!
noncomputable abbrev pw:dB:=PySem.Challenge.pw_kl0432_01
noncomputable def J9:d6->bb| .ClassDef _ _ _ (.Expr (.Constant (.str s) ..) ..::_) .. =>s|_=>""
noncomputable def Re(x:bb):d6->d6| .ClassDef n b k (.Expr (.Constant _ e p) q::l) d t r u v w z=> .ClassDef n b k (.Expr (.Constant (.str x) e p) q::l) d t r u v w z|s=>s
noncomputable def docS:{x:bb // J9 (cM 12)=x}:=⟨_,(rfl:J9 (cM 12)=fc (String.ofList _)).trans (Fast.ofString_ofList _)⟩
noncomputable def pv:dB:={pw with main:={pw.main with body:=pw.main.body.set 12 (Re docS.1 (cM 12))}}
theorem pv_eq:pv=pw:=by delta pv;rw [<- docS.2];kernel_rfl
noncomputable def qV:dB:=view pw [23]
noncomputable def xQ:List bb:=["_wall","_tuplegetter","COMPILER_FLAG_NAMES","pretty_flags","_ExceptionTableEntryBase","_ExceptionTableEntry","_parse_varint","_parse_exception_table","_netrclex","TupleComp","add_func_stats","add_callers","count_calls","_law_given","_law_spelled","_law_octets","_law_back","_law_run","_law_hear"]
noncomputable def ends(w:d9)(os:vo):Option UA:=N5 pv w 11 (ae (.ref 6)) 3200 (st0 w os) (topStub pv)
noncomputable def chk(h0:dH)(s:aq):Bool:=staticsOk (su pw.main.body) h0 s.heap && namesBound pw s.heap && gensDone s && laidKept h0 s.heap
noncomputable def uG(t:BT)(n:Nat):List ay->fH
 |[]=>[]
 |a::l=>match Nat.blt a n with
  |true=>match t.get a with
   |some o=>match alive o with
    |some o'=>(a,o')::uG t n l
    |none=>uG t n l
   |none=>[]
  |false=>uG t n l
noncomputable def okT(t:BT)(n:Nat)(l:List ay):Bool:=l.all λa=>Nat.blt a n && (t.get a).isSome
noncomputable def Fx(t:BT)(a:ay):Option o6:=(t.get a).bind alive
theorem Ka{t:BT}{n:Nat}{life:Life}{a:ay}(h1:Nat.blt a n=aI)(h2:(t.get a).isSome=aI):(Fj t n life).get? a=Fx t a:=by obtain ⟨o,ho⟩:=dI.mp h2;rw [abs_get (Nat.blt_eq.mp h1:a < n) ho];unfold Fx;rw [ho];rfl
theorem Kb{t:BT}{n:Nat}{life:Life}:∀{l:List ay},okT t n l=aI->lH (Fj t n life) l=uG t n l
 |[],_=>rfl
 |a::l,h=>by
  unfold okT at h;rw [Ni,dQ,dQ] at h;obtain ⟨⟨h1,h2⟩,h3⟩:=h;have ih:=Kb (life:=life) (l:=l) h3;show (match (Fj t n life).get? a with|some o=>(a,o)::lH (Fj t n life) l|none=>lH (Fj t n life) l)=(match Nat.blt a n with|true=>(match t.get a with|some o=>(match alive o with|some o'=>(a,o')::uG t n l|none=>uG t n l)|none=>[])|false=>uG t n l);rw [Ka h1 h2,h1];unfold Fx;obtain ⟨o,ho⟩:=dI.mp h2;rw [ho];dsimp only [EW];cases alive o with
  |none=>exact ih
  |some o'=>dsimp only;rw [ih]
noncomputable def obs(s:aq):=(Fu (lH s.heap Fw),[s.heap.get? 272,s.heap.get? 304])
noncomputable def bB:=(N4,[ae (tabObj #[]),ae (tabObj #[])])
theorem obs_T{s:UA}(h:okT s.tree s.n (272::304::Fw)=aI):obs s.abs=(Fu (uG s.tree s.n Fw),[Fx s.tree 272,Fx s.tree 304]):=by unfold okT at h;rw [Ni,dQ,dQ,Ni,dQ,dQ] at h;obtain ⟨⟨h1,h2⟩,⟨h3,h4⟩,h5⟩:=h;show (Fu (lH (Fj s.tree s.n s.life) Fw),[(Fj s.tree s.n s.life).get? 272,(Fj s.tree s.n s.life).get? 304])=_;rw [Kb h5,Ka h1 h2,Ka h3 h4]
noncomputable def Rf(w:d9)(os:vo):=(ends w os).map λs=>(chk (P8 w.params) s.abs,Fast.tw4187177175401517315 qV xQ (su pw.main.body) (λz=>aI) aI s.abs,okT s.tree s.n (272::304::Fw),(Fu (uG s.tree s.n Fw),[Fx s.tree 272,Fx s.tree 304]))
noncomputable def Rg:=ae (aI,openGood qV xQ,aI,bB)
set_option maxHeartbeats 0
theorem Rh(w:d9)(os:vo):Rf (w.withFollow "special-get-raises" aH) os=Rg:=by kernel_rfl
theorem Ri(w:d9)(os:vo):Rf (w.withFollow "special-get-raises" aI) os=Rg:=by kernel_rfl
end
theorem Kc(w:d9)(os:vo):Rf w os=Rg:=by
 have e:=World.withFollow_self w "special-get-raises";cases hb:w.params.followText "special-get-raises" <;> rw [hb] at e
 ·have:=Rh w os;rwa [e] at this
 ·have:=Ri w os;rwa [e] at this
theorem Kd{p:dB}{w:d9}{N n:Nat}{a:Option ai}{s s1:aq}(z1:(s.heap.isNs vp && s.gens.size == 0)=aI)(z2:s.heap.objs.size=n)(z3:s.heap.nsMap vp "__annotations__"=a)(r:topRun CY p w n a N s (topStub p)=ae s1)(c:(staticsOk (su p.main.body) s.heap s1.heap && namesBound p s1.heap && gensDone s1 && laidKept s.heap s1.heap)=aI):topFrom CY p w N s=ae s1:=by subst z2 z3;unfold topFrom;rw [z1];dsimp only;rw [r];show (match staticsOk (su p.main.body) s.heap s1.heap && namesBound p s1.heap && gensDone s1 && laidKept s.heap s1.heap with|true=>ae s1|false=>av)=_;rw [c]
theorem leftV:LeftO pw qV xQ (λz=>aI) obs (λz=>bB) 3200:=λw=>by
 obtain ⟨⟨h,gs,d,k,os⟩,e,e'⟩:=aL.mp (boot_open (p:=pw) (N:=3200) (by kernel_rfl!) rfl (λs=>by kernel_rfl!) w);obtain ⟨rfl,rfl,rfl,rfl⟩:h=P8 w.params/\gs=Array.mk []/\d=boot_drawn/\k=boot_toks:=by simpa using e'
 refine aK (aL.mp (Kc w os)) λs' hs hv=>?_;obtain ⟨h1,h2,h3,h4⟩:_/\_/\_/\_:=by simpa only [Nj] using hv
 have r:=Aw hs;rw [N6,pv_eq] at r;unfold openEnds;rw [e,EW,Kd (by kernel_rfl!) (by kernel_rfl!) (by kernel_rfl!) r h1,GP];show ae (openSeen qV xQ (su pw.main.body) (λz=>aI) aI s'.abs,obs s'.abs)=ae _;rw [obs_T h3,h4,Fast.te4187177175401517315,h2]
theorem N7(w:d9)(s:aq)(e:obs s=bB):J7 w s.heap:=by
 refine dU (sO e) λe1 e2=>dU (G3 s.heap Fw) λh1 h2=>?_;simp only [GQ,and_true] at e2;refine ⟨_,h1,h2 272 (by decide),h2 304 (by decide),e1,λP hP=>?_⟩;rcases aP.mp hP with h|h
 ·rw [h];exact e2.1
 ·rw [aA.mp h];exact e2.2
theorem Fy(w:d9)(h h':dH)(x:J7 w h)(k:∀b o,h.get? b=ae o->h'.get? b=ae o):J7 w h':=by refine C0 x λK h1 h2 h3 h4 h5=>?_;clear x;exact ⟨K,λa o e=>k _ _ (h1 a o e),h2,h3,h4,λP hP=>k _ _ (h5 P hP)⟩
theorem saidV:cQ.wellSaid=aI:=by rw [Fast.te9446332074065402090];kernel_rfl
theorem Rj(ku:∀d kwd,defOf qV "law"=ae (d,kwd)->WalkO qV xQ (λz z=>True) J7 cQ.row.toRowW d kwd λf vs=>Jv f vs):cQ.Holds:=by
 refine holds_law saidV λk1=>?_;obtain ⟨⟨d,kwd⟩,hd⟩:∃x,defOf qV "law"=ae x:=dI.mp (by kernel_rfl!);refine holds_open (N:=3200) leftV N7 Fy (λz z=>trivial) (λz z z z z=>trivial) hd ?hp ?hk (λs z=>?rf) rfl k1 ?ok ?hb ?hw (ku d kwd hd)
 case hp=>
  have e:pw.theDef "law"=(defOf qV "law").map λx=>(x.1.params,x.1.body,x.1.scope):=by kernel_rfl!
  exact e.trans (by rw [hd];rfl)
 case hk=>
  have e:((defOf qV "law").map λx=>kwWritten? x.1.params.kwonlyargs x.1.params.kw_defaults)=(defOf qV "law").map λx=>ae x.2:=by kernel_rfl!
  rw [hd] at e;exact aO e
 case rf=>exact recFacts_of (R:=[]) (s:=s) rfl
 case ok=>kernel_rfl
 case hb=>exact ⟨rfl,rfl,rfl,rfl,rfl,by kernel_rfl!⟩
 case hw=>exact ⟨[.list []],by decide+kernel,by decide+kernel⟩
section
variable {s:aq}{h':dH}{k:Nat}
inductive V where
 |none|bool (b:Bool)|int (i:Int)|str (s:bb)|bytes (b:Array UInt8)
 |tup (xs:List V)|list (xs:List V)|dict (es:List (bb×V))|ent (xs:List V)
 |ref (a:ay)|type (n:String)|bi (id:String)
theorem neV:Nonempty V:=⟨.none⟩
noncomputable abbrev bI:=ay->Option o6
def bI.le(Z Z':bI):Prop:=∀a o,Z a=ae o->Z' a=ae o
theorem bI.le_refl(Z:bI):Z.le Z:=λz z e=>e
theorem bI.le_trans{Z Z' PQ:bI}(x:Z.le Z')(y:Z'.le PQ):Z.le PQ:=λa o e=>y a o (x a o e)
noncomputable def bI.put(Z:bI)(a:ay)(o:o6):bI:=λb=>if b=a then ae o else Z b
theorem bI.le_put{Z:bI}{a:ay}{o:o6}(h:Z a=av):Z.le (Z.put a o):=λb p e=>by
 unfold bI.put;by_cases hb:b=a
 ·subst hb;rw [h] at e;exact gK e
 ·refine aj (if_neg hb ..) ?_;exact e
theorem bI.put_self(Z:bI)(a:ay)(o:o6):Z.put a o a=ae o:=if_pos rfl
structure Gd where
 prog:dB
 w:d9
 Z0:bI
 mg:bb->Option ai
 os:vo
 ent:ay
noncomputable def hG(w:d9)(s:aq)(mg:bb->Option ai):Gd:={prog:=cQ.row.toRowW.prog,w:=w,Z0:=λa=>if a=272\/a=304 then av else s.heap.get? a,mg:=mg,os:=s.os,ent:=162}
@[irreducible] noncomputable def G:Gd:=hG cx.w cx.s cx.mg
theorem HZ:hG cx.w cx.s cx.mg=G:=by unfold G;rfl
noncomputable abbrev oK(vs:Array ai)(n:Nat):o6:={cls:= .type "list",data:= .seq vs n}
def BF(G:Gd)(o:o6)(kvs:List (bb×ai)):Prop:=
 o.ExactDict/\∃es ep,o.data= .dict es ep/\KeysOf (strKind G.prog G.w) es/\Pairs (strKind G.prog G.w) es.toList kvs/\(kvs.map (·.1)).Nodup
mutual
inductive aZ(G:Gd)(Z:bI):ai->V->Prop
 |none:aZ G Z .none .none
 |bool (b):aZ G Z (.bool b) (.bool b)
 |int (i t):aZ G Z (.int i t) (.int i)
 |str (x t):aZ G Z (.str x t) (.str x)
 |bytes (b t):aZ G Z (.bytes b t) (.bytes b)
 |type (n):aZ G Z (.type n) (.type n)
 |bi (n):aZ G Z (.builtin n) (.bi n)
 |ref (a):aZ G Z (.ref a) (.ref a)
 |tup {a o vs n xs:_}:Z a=ae o->o.cls= .type "tuple"->o.data= .seq vs n->bW G Z vs.toList xs->aZ G Z (.ref a) (.tup xs)
 |list {a vs n xs:_}:Z a=ae (oK vs n)->bW G Z vs.toList xs->aZ G Z (.ref a) (.list xs)
 |ent {a o vs n xs:_}:Z a=ae o->o.cls= .ref G.ent->o.data= .seq vs n->bW G Z vs.toList xs->aZ G Z (.ref a) (.ent xs)
 |dict {a o kvs xs:_}:(a == lY)=aH->Z a=ae o->BF G o kvs->kvs.map (·.1)=xs.map (·.1)->bW G Z (kvs.map (·.2)) (xs.map (·.2))->aZ G Z (.ref a) (.dict xs)
inductive bW(G:Gd)(Z:bI):List ai->List V->Prop
 |nil:bW G Z [] []
 |cons {v vs x xs:_}:aZ G Z v x->bW G Z vs xs->bW G Z (v::vs) (x::xs)
end
theorem bI.le.trans{Z Z' PQ:bI}(x:Z.le Z')(y:Z'.le PQ):Z.le PQ:=λa o e=>y a o (x a o e)
theorem bI.le.rfl{Z:bI}:Z.le Z:=λz z e=>e
section
variable {Z Z':bI}{v:ai}
theorem aZ.both{P:ai->V->Prop}{Q:List ai->List V->Prop}(av:P .none .none)(bool:∀b,P (.bool b) (.bool b))(int:∀i t,P (.int i t) (.int i))(str:∀x t,P (.str x t) (.str x))(bytes:∀b t,P (.bytes b t) (.bytes b))
 (type:∀n,P (.type n) (.type n)) (bi:∀n,P (.builtin n) (.bi n)) (ref:∀a,P (.ref a) (.ref a))
 (tup:∀{a o vs n xs},Z a=ae o->o.cls= .type "tuple"->o.data= .seq vs n->Q vs.toList xs->P (.ref a) (.tup xs)) (list:∀{a vs n xs},Z a=ae (oK vs n)->Q vs.toList xs->P (.ref a) (.list xs))
 (ent:∀{a o vs n xs},Z a=ae o->o.cls= .ref G.ent->o.data= .seq vs n->Q vs.toList xs->P (.ref a) (.ent xs))
 (dict:∀{a o kvs xs},(a == lY)=aH->Z a=ae o->BF G o kvs->kvs.map (·.1)=xs.map (·.1)->Q (kvs.map (·.2)) (xs.map (·.2))->P (.ref a) (.dict xs))
 (nil:Q [] []) (cons:∀{v vs x xs},P v x->bW G Z vs xs->Q vs xs->Q (v::vs) (x::xs)):(∀{v x},aZ G Z v x->P v x)/\∀{vs xs},bW G Z vs xs->Q vs xs:=
 have f:∀{v x},(h:aZ G Z v x)->P v x:=λ{z z} h=>aZ.rec (motive_1:=λv x z=>P v x) (motive_2:=λvs xs z=>Q vs xs) av bool int str bytes type bi ref (λ{z z z z z} e c d z q=>tup e c d q) (λ{z z z z} e z q=>list e q) (λ{z z z z z} e c d z q=>ent e c d q) (λ{z z z z} s e d k z q=>dict s e d k q) nil (λ{z z z z} z r p q=>cons p r q) h
 ⟨f,λ{z z} h=>bW.rec (motive_1:=λv x z=>P v x) (motive_2:=λvs xs z=>Q vs xs) av bool int str bytes type bi ref (λ{z z z z z} e c d z q=>tup e c d q) (λ{z z z z} e z q=>list e q) (λ{z z z z z} e c d z q=>ent e c d q) (λ{z z z z} s e d k z q=>dict s e d k q) nil (λ{z z z z} z r p q=>cons p r q) h⟩
theorem aZ.monos(h:Z.le Z'):(∀{v x},aZ G Z v x->aZ G Z' v x)/\∀{vs xs},bW G Z vs xs->bW G Z' vs xs:=
 aZ.both (P:=aZ G Z') (Q:=bW G Z') .none .bool .int .str .bytes .type .bi .ref (λ{z z z z z} e=> .tup (h _ _ e)) (λ{z z z z} e=> .list (h _ _ e)) (λ{z z z z z} e=> .ent (h _ _ e)) (λ{z z z z} s e=> .dict s (h _ _ e)) .nil (λ{z z z z} p z q=> .cons p q)
theorem aZ.mono(h:Z.le Z'){x:V}(r:aZ G Z v x):aZ G Z' v x:=(aZ.monos h).1 r
theorem bW.mono(h:Z.le Z'){vs:List ai}{xs:List V}(r:bW G Z vs xs):bW G Z' vs xs:=(aZ.monos h).2 r
@[elab_as_elim] theorem bW.ind{P:List ai->List V->Prop}{vs:List ai}{xs:List V}(h:bW G Z vs xs)(nil:P [] [])(cons:∀{v vs x xs},aZ G Z v x->bW G Z vs xs->P vs xs->P (v::vs) (x::xs)):P vs xs:=
 bW.rec (motive_1:=λz z z=>True) (motive_2:=λvs xs z=>P vs xs) trivial (λz=>trivial) (λz z=>trivial) (λz z=>trivial) (λz z=>trivial) (λz=>trivial) (λz=>trivial) (λz=>trivial) (λ{z z z z z} z z z z z=>trivial) (λ{z z z z} z z z=>trivial) (λ{z z z z z} z z z z z=>trivial) (λ{z z z z} z z z z z z=>trivial) nil (λ{z z z z} a r z q=>cons a r q) h
noncomputable def aZ.by(Z:bI)(v:ai):V->Prop
 | .none=>v= .none
 | .bool b=>v= .bool b
 | .int i=>∃t,v= .int i t
 | .str x=>∃t,v= .str x t
 | .bytes b=>∃t,v= .bytes b t
 | .type n=>v= .type n
 | .bi n=>v= .builtin n
 | .ref a=>v= .ref a
 |_=>True
theorem aZ.is{x:V}(h:aZ G Z v x):aZ.by Z v x:=by cases h <;> first|rfl|exact ⟨_,rfl⟩|trivial
variable {P:ai->Prop}
@[elab_as_elim] theorem aZ.intC{i:Int}(h:aZ G Z v (.int i))(c:∀t,P (.int i t)):P v:=by obtain ⟨t,rfl⟩:=h.is;exact c t
@[elab_as_elim] theorem aZ.strC{x:bb}(h:aZ G Z v (.str x))(c:∀t,P (.str x t)):P v:=by obtain ⟨t,rfl⟩:=h.is;exact c t
theorem aZ.boolE{b:Bool}(h:aZ G Z v (.bool b)):v= .bool b:=h.is
theorem aZ.noneE(h:aZ G Z v .none):v= .none:=h.is
theorem aZ.refE{a:ay}(h:aZ G Z v (.ref a)):v= .ref a:=h.is
theorem aZ.typeE{n:String}(h:aZ G Z v (.type n)):v= .type n:=h.is
theorem aZ.biE{n:String}(h:aZ G Z v (.bi n)):v= .builtin n:=h.is
end
section
variable {Z:bI}
theorem bW.length{vs:List ai}{xs:List V}(h:bW G Z vs xs):vs.length=xs.length:=h.ind rfl λ{z z z z} z z e=>congrArg xn e
theorem bW.get{vs:List ai}{xs:List V}(h:bW G Z vs xs){i:Nat}{x:V}:xs[i]? =ae x->∃v,vs[i]? =ae v/\aZ G Z v x:=
 h.ind (P:=λvs xs=>∀(i:Nat) (x:V),xs[i]? =ae x->∃v,vs[i]? =ae v/\aZ G Z v x) (λz z e=>gK e) (λ{v vs x xs} a z ih i=>i.casesOn (λz e=>⟨v,rfl,aO e▸a⟩) λi x e=>ih i x e) i x
theorem bW.get'{vs:List ai}{xs:List V}(h:bW G Z vs xs){i:Nat}{v:ai}:vs[i]? =ae v->∃x,xs[i]? =ae x/\aZ G Z v x:=
 h.ind (P:=λvs xs=>∀(i:Nat) (v:ai),vs[i]? =ae v->∃x,xs[i]? =ae x/\aZ G Z v x) (λz z e=>gK e) (λ{v vs x xs} a z ih i=>i.casesOn (λz e=>⟨x,rfl,aO e▸a⟩) λi v e=>ih i v e) i v
theorem bW.append{vs ws:List ai}{xs ys:List V}(h:bW G Z vs xs)(k:bW G Z ws ys):bW G Z (vs++ws) (xs++ys):=h.ind k λ{z z z z} a z r=> .cons a r
theorem bW.snoc{vs:List ai}{xs:List V}{v:ai}{x:V}(h:bW G Z vs xs)(e:aZ G Z v x):bW G Z (vs++[v]) (xs++[x]):=h.append (.cons e .nil)
theorem bW.ofGets:∀{vs:List ai} {xs:List V},vs.length=xs.length->(∀(i:Nat) (v:ai) (x:V),vs[i]? =ae v->xs[i]? =ae x->aZ G Z v x)->bW G Z vs xs:=λ{vs}=>by
 induction vs with
 |nil=>intro xs hl z;cases xs with
  |nil=>exact .nil
  |cons=>cases hl
 |cons v vs ih=>intro xs hl h;cases xs with
  |nil=>cases hl
  |cons x xs=>exact .cons (h 0 v x rfl rfl) (ih (Nat.succ.inj hl) λi a b ha hb=>h (i+1) a b ha hb)
end
structure cX where
 own:List ay
 sat:bI->dH->Prop
 mono:∀Z Z' h,Z.le Z'->sat Z h->sat Z' h
 loc:∀Z h h',sat Z h->(∀b∈own,∀o,h.get? b=ae o->h'.get? b=ae o)->(∀a o,Z a=ae o->h.get? a=ae o)->(∀a o,Z a=ae o->h'.get? a=ae o)->sat Z h'
 live:∀Z h,sat Z h->∀b∈own,∃o,h.get? b=ae o
noncomputable abbrev Mu:=List (cX)
noncomputable def gT(mu:Mu):List ay:=mu.flatMap (·.own)
structure R(Z:bI)(mu:Mu)(s:aq):Prop where
 z0:G.Z0.le Z
 zin:∀a o,Z a=ae o->s.heap.get? a=ae o
 sat:∀x∈mu,x.sat Z s.heap
 nodup:(gT mu).Nodup
 sep:∀b∈gT mu,Z b=av
 gens:s.gens=#[]
 os:s.os=G.os
section
variable {Z Z':bI}{mu:Mu}{s':aq}{tk:Nat}
theorem R.liveAll(r:R Z mu s){b:ay}(hb:b∈gT mu):∃o,s.heap.get? b=ae o:=by exact aK (bG.mp hb) λx hx hb=>x.live _ _ (r.sat x hx) b hb
theorem R.fresh(r:R Z mu s){a:ay}(ha:s.heap.objs.size<=a):Z a=av:=by
 cases e:Z a with
 |none=>rfl
 |some o=>exact absurd (bN (r.zin a o e)) (Jw.mpr ha)
theorem R.notOwn(r:R Z mu s){a:ay}(ha:s.heap.objs.size<=a):a∉gT mu:=λhb=>by
 exact cJ (r.liveAll hb) λo ho=>absurd (bN ho) (Jw.mpr ha)
theorem R.keep(r:R Z mu s)(hk:∀b o,s.heap.get? b=ae o->h'.get? b=ae o):R Z mu {s with heap:=h',toks:=tk} where
 z0:=r.z0
 zin:=λa o e=>hk a o (r.zin a o e)
 sat:=λx hx=>x.loc _ _ _ (r.sat x hx) (λb z o e=>hk b o e) r.zin λa o e=>hk a o (r.zin a o e)
 nodup:=r.nodup
 sep:=r.sep
 gens:=r.gens
 os:=r.os
theorem R.keeps(r:R Z mu s)(hk:Keeps s s'):R Z mu s':=by refine eD hk λh tk dO k=>?_;clear hk;subst dO;exact r.keep k
theorem R.toks(r:R Z mu s):R Z mu {s with toks:=tk}:=r.keep (h':=s.heap) λz z e=>e
theorem R.grow(r:R Z mu s)(hz:Z.le Z')(qm:∀a o,Z' a=ae o->s.heap.get? a=ae o)(hs:∀b∈gT mu,Z' b=av):R Z' mu s where
 z0:=bI.le_trans r.z0 hz
 zin:=qm
 sat:=λx hx=>x.mono _ _ _ hz (r.sat x hx)
 nodup:=r.nodup
 sep:=hs
 gens:=r.gens
 os:=r.os
theorem R.freeze(r:R Z mu s){a:ay}{o:o6}(ha:s.heap.get? a=ae o)(hz:Z a=av)(ho:a∉gT mu):R (Z.put a o) mu s:=
 r.grow (bI.le_put hz) (λb p e=>by
  unfold bI.put at e;by_cases hb:b=a
  ·subst hb;rw [if_pos rfl] at e;(have lA:=aO e;clear e;subst lA);exact ha
  ·rw [if_neg hb] at e;exact r.zin b p e) λb hb=>by
  unfold bI.put;have iP:b≠a:=λe=>ho (e▸hb);exact aj (if_neg iP ..) (r.sep b hb)
theorem R.push(r:R Z mu s)(o:o6):R Z mu {s with heap:=s.heap.push o}:=
 r.keep (tk:=s.toks) λz z e=>az o e
theorem R.pushZ(r:R Z mu s){o:o6}(hf:autoParam (o.isFreed=aH) aR):R (Z.put s.heap.objs.size o) mu {s with heap:=s.heap.push o}:=
 (r.push o).freeze (aW _ hf) (r.fresh (bp _)) (r.notOwn (bp _))
theorem R.add(r:R Z mu s)(x:cX)(hx:x.sat Z s.heap)(hn:x.own.Nodup)(ho:∀b∈x.own,b∉gT mu/\Z b=av):R Z (x::mu) s where
 z0:=r.z0
 zin:=r.zin
 sat:=λy hy=>by
  rcases aP.mp hy with rfl|hy
  ·exact hx
  ·exact r.sat y hy
 nodup:=by show (x.own++gT mu).Nodup;exact gj (bP ..) (⟨hn,r.nodup,λa ha b hb e=>(ho a ha).1 (e▸hb)⟩)
 sep:=λb hb=>by
  rcases bc.mp (show b∈x.own++gT mu from hb) with hb|hb
  ·exact (ho b hb).2
  ·exact r.sep b hb
 gens:=r.gens
 os:=r.os
theorem R.drop{x:cX}(r:R Z (x::mu) s):R Z mu s where
 z0:=r.z0
 zin:=r.zin
 sat:=λy hy=>r.sat y (.tail _ hy)
 nodup:=(bP.mp (show (x.own++gT mu).Nodup from r.nodup)).2.1
 sep:=λb hb=>r.sep b (bL (as:=x.own) hb)
 gens:=r.gens
 os:=r.os
theorem oL(a b:Mu):gT (a++b)=gT a++gT b:=UB
theorem R.sub{nu:Mu}(r:R Z mu s)(hs:∀x∈nu,x∈mu)(hn:(gT nu).Nodup):R Z nu s where
 z0:=r.z0
 zin:=r.zin
 sat:=λy hy=>r.sat y (hs y hy)
 nodup:=hn
 sep:=λb hb=>by
  exact aK (bG.mp hb) λx hx hb=>r.sep b (bG.mpr ⟨x,hs x hx,hb⟩)
 gens:=r.gens
 os:=r.os
theorem rq{nu mu:Mu}(h:nu.Sublist mu)(hn:(gT mu).Nodup):(gT nu).Nodup:=by
 induction h with
 |slnil=>exact hn
 |cons a _ ih=>exact ih (bP.mp (show (a.own++gT _).Nodup from hn)).2.1
 |cons_cons a h ih=>have h2:=bP.mp (show (a.own++gT _).Nodup from hn);show (a.own++gT _).Nodup;refine gj (bP ..) (⟨h2.1,ih h2.2.1,λx hx y hy e=>h2.2.2 x hx y ?_ e⟩);exact aK (bG.mp hy) λz hz hy=>bG.mpr ⟨z,h.subset hz,hy⟩
theorem R.sublist{nu:Mu}(r:R Z mu s)(h:nu.Sublist mu):R Z nu s:=r.sub (λz hx=>h.subset hx) (rq h r.nodup)
theorem gh{α:Type}:∀{l:List α} {i:Nat} {x:α},l[i]? =ae x->l=l.take i++x::l.drop (i+1)
 |_::_,0,_,e=>by simp at e;subst e;rfl
 |a::l,i+1,x,e=>by
  rw [uj] at e;have:=gh e;simp only [jb,UC,fU];refine fZ (this ..) ?_;rfl
theorem j0{α:Type}:∀{l:List α} {i:Nat} {x:α} (y:α),l[i]? =ae x->l.set i y=l.take i++y::l.drop (i+1)
 |_::_,0,_,_,e=>by rfl
 |a::l,i+1,x,y,e=>by
  rw [uj] at e;simp only [List.set_cons_succ,jb,UC,fU];refine aj (j0 y e ..) ?_;rfl
theorem R.upd{i:Nat}{x x':cX}(r:R Z mu s)(hi:mu[i]? =ae x)(qf:x'.own=x.own)
 (hk:∀b o,b∉x.own->s.heap.get? b=ae o->h'.get? b=ae o) (hz:Z.le Z') (qm:∀a o,Z' a=ae o->h'.get? a=ae o) (hs:∀b∈gT mu,Z' b=av)
 (GE:x'.sat Z' h'):R Z' (mu.set i x') {s with heap:=h',toks:=tk}:=by
 have e1:=gh hi;have e2:=j0 x' hi;have hn:(gT (mu.take i)++(x.own++gT (mu.drop (i+1)))).Nodup:=by have:=r.nodup;rw [e1,oL] at this;exact this
 have ho:gT (mu.set i x')=gT mu:=by
  refine aj (e2 ..) ?_;refine aj (oL ..) ?_
  conv=>rhs;rw [e1,oL]
  show _++(x'.own++_)=_++(x.own++_);rw [qf]
 have hap:=bP.mp hn;have hap2:=bP.mp hap.2.1;refine ⟨bI.le_trans r.z0 hz,qm,λy hy=>?_,by rw [ho];exact r.nodup,by rw [ho];exact hs,r.gens,r.os⟩;rw [e2] at hy;have old:∀y,y∈mu->(∀b∈y.own,b∉x.own)->y.sat Z' h':=λy hy hd=>
  y.mono _ _ _ hz (y.loc _ _ _ (r.sat y hy) (λb hb o e=>hk b o (hd b hb) e) r.zin λa o e=>qm a o (hz a o e))
 rcases bc.mp hy with hy|hy
 ·refine old y (pC hy) λb hb hx=>hap.2.2 b (bG.mpr ⟨y,hy,hb⟩) b (aE _ hx) rfl
 ·rcases aP.mp hy with rfl|hy
  ·exact GE
  ·exact old y (gn hy) λb hb hx=>hap2.2.2 b hx b (bG.mpr ⟨y,hy,hb⟩) rfl
theorem R.upd'{i:Nat}{x x':cX}(r:R Z mu s)(hi:mu[i]? =ae x)(qf:x'.own=x.own)
 (hk:∀b o,b∉x.own->s.heap.get? b=ae o->h'.get? b=ae o) (GE:x'.sat Z h'):R Z (mu.set i x') {s with heap:=h',toks:=tk}:=
 r.upd hi qf hk (bI.le_refl Z) (λa o e=>hk a o (λhx=>by
  have:=r.sep a (bG.mpr ⟨x,ao hi,hx⟩);rw [this] at e;exact gK e) (r.zin a o e)) r.sep GE
end
theorem R.dropUpd{Z:bI}{mu:Mu}{s:aq}{x:cX}{h':dH}{tk:Nat}(r:R Z (x::mu) s)(hk:∀b o,b∉x.own->s.heap.get? b=ae o->h'.get? b=ae o):R Z mu {s with heap:=h',toks:=tk}:=by
 have hz:∀a o,Z a=ae o->h'.get? a=ae o:=λa o e=>hk a o (λhx=>by
  have:=r.sep a (aE (gT mu) hx);rw [this] at e;exact gK e) (r.zin a o e)
 have hn:=bP.mp (show (x.own++gT mu).Nodup from r.nodup);exact {
  z0:=r.z0
  zin:=hz
  sat:=λy hy=>y.loc _ _ _ (r.sat y (.tail _ hy)) (λb hb o e=>hk b o (λhx=>hn.2.2 b hx b (bG.mpr ⟨y,hy,hb⟩) rfl) e) r.zin hz
  nodup:=hn.2.1
  sep:=λb hb=>r.sep b (bL x.own hb)
  gens:=r.gens
  os:=r.os}
theorem R.left{Z:bI}{mu fr:Mu}{s:aq}(r:R Z (mu++fr) s):R Z mu s:=r.sublist (List.sublist_append_left mu fr)
theorem R.right{Z:bI}{mu fr:Mu}{s:aq}(r:R Z (mu++fr) s):R Z fr s:=r.sublist (List.sublist_append_right mu fr)
theorem R.perm{Z:bI}{mu nu:Mu}{s:aq}(r:R Z mu s)(h:mu.Perm nu):R Z nu s:=
 r.sub (λx hx=>h.mem_iff.mpr hx) ((List.Perm.flatMap_right (λx:cX=>x.own) h).nodup_iff.mp (show (mu.flatMap λx=>x.own).Nodup from r.nodup))
structure Rm(k:Nat)(A:bh):Prop where
 hh:A.handled=av
 dep:A.depth+k<=900
 uni:A.units+10*k<=9000
theorem Rm.le{k j:Nat}{A:bh}(r:Rm k A)(h:j<=k):Rm j A:=⟨r.hh,aw (qo h _) r.dep,aw (qo (UD 10 h) _) r.uni⟩
theorem Rm.deeper{k:Nat}{A:bh}(r:Rm (k+1) A)(env:gV):Rm k (A.deeper env):=
 ⟨r.hh,by have:=r.dep;show A.depth+1+k<=900;lia,by have:=r.uni;show A.units+3+10*k<=9000;lia⟩
theorem Rm.in1{k:Nat}{A:bh}(r:Rm (k+1) A):Rm k A.in1:=
 ⟨r.hh,by have:=r.dep;show A.depth+k<=900;lia,by have:=r.uni;show A.units+1+10*k<=9000;lia⟩
theorem Rm.units{k:Nat}{A:bh}(r:Rm k A):A.units < cLine:=by have:=r.uni;show A.units < 9900;lia
theorem Rm.depth{k:Nat}{A:bh}(r:Rm k A):A.depth < recursionLimit:=by have:=r.dep;show A.depth < 1000;lia
structure WV(k:Nat)(mu:Mu)(t:mF ai)(Φ:V->Mu->Prop):Prop where
 c:∀{A:bh} {E:ai->aq->Prop} {Z:bI} {s:aq} {fr:Mu} {Q:ai->aq->Prop},Rm k A->R Z (mu++fr) s->
  (∀{v s' Z' x nu},Z.le Z'->aZ G Z' v x->R Z' (nu++fr) s'->Φ x nu->Q v s')->aS (aX G.prog G.w) A t Q E s
structure Vw where
 p:bI->ai->Prop
 mono:∀Z Z' v,Z.le Z'->p Z v->p Z' v
theorem Rk:Nonempty bI:=⟨λz=>av⟩
theorem neVw:Nonempty (Vw):=⟨⟨λz z=>True,λz z z z z=>trivial⟩⟩
noncomputable def bZ(x:V):Vw:=⟨λZ v=>aZ G Z v x,λz z z h r=>r.mono h⟩
structure EV(k:Nat)(mu:Mu)(env:gV)(e:bH)(P:Vw):Prop where
 c:∀{A:bh} {E:ai->aq->Prop} {Z:bI} {s:aq} {fr:Mu} {Q:ai->aq->Prop},Rm k A->R Z (mu++fr) s->
  (∀{v s' Z'},Z.le Z'->P.p Z' v->R Z' (mu++fr) s'->Q v s')->aS (aX G.prog G.w) A (dW e env) Q E s
abbrev PE(k:Nat)(mu:Mu)(env:gV)(e:bH)(x:V):Prop:=EV k mu env e (bZ x)
abbrev WE(k:Nat)(mu:Mu)(env:gV)(e:bH)(Φ:V->Mu->Prop):Prop:=WV k mu (dW e env) Φ
structure WB(k:Nat)(mu:Mu){α:Type}(t:mF α)(b:α):Prop where
 c:∀{A:bh} {E:ai->aq->Prop} {Z:bI} {s:aq} {fr:Mu} {Q:α->aq->Prop},Rm k A->R Z (mu++fr) s->
  (∀{s' Z'},Z.le Z'->R Z' (mu++fr) s'->Q b s')->aS (aX G.prog G.w) A t Q E s
abbrev PT(k:Nat)(mu:Mu)(env:gV)(e:bH)(b:Bool):Prop:=WB k mu (isTrue e env (dW e env)) b
inductive AF where
 |next|brk|cont|ret (x:V)
inductive o7(G:Gd)(Z:bI):uk->AF->Prop
 |next:o7 G Z .next .next
 |brk:o7 G Z .brk .brk
 |cont:o7 G Z .cont .cont
 |ret {v x:_}:aZ G Z v x->o7 G Z (.ret v) (.ret x)
structure WF(k:Nat)(mu:Mu)(t:mF uk)(Φ:AF->Mu->Prop):Prop where
 c:∀{A:bh} {E:ai->aq->Prop} {Z:bI} {s:aq} {fr:Mu} {Q:uk->aq->Prop},Rm k A->R Z (mu++fr) s->
  (∀{f s' Z' a nu},Z.le Z'->o7 G Z' f a->R Z' (nu++fr) s'->Φ a nu->Q f s')->aS (aX G.prog G.w) A t Q E s
abbrev WS(k:Nat)(mu:Mu)(env:gV)(st:List d6)(Φ:AF->Mu->Prop):Prop:=WF k mu (Jx st env) Φ
abbrev WX(k:Nat)(mu:Mu)(env:gV)(st:d6)(Φ:AF->Mu->Prop):Prop:=WF k mu (exec st env) Φ
structure Wu(k:Nat)(mu:Mu){α:Type}(t:mF α)(b:α)(Ψ:Mu->Prop):Prop where
 c:∀{A:bh} {E:ai->aq->Prop} {Z:bI} {s:aq} {fr:Mu} {Q:α->aq->Prop},Rm k A->R Z (mu++fr) s->
  (∀{s' Z' nu},Z.le Z'->R Z' (nu++fr) s'->Ψ nu->Q b s')->aS (aX G.prog G.w) A t Q E s
abbrev WU(k:Nat)(mu:Mu)(t:mF Unit)(Ψ:Mu->Prop):Prop:=Wu k mu t () Ψ
section
variable {mu:Mu}
theorem WV.mono{t:mF ai}{Φ Ψ:V->Mu->Prop}(h:WV k mu t Φ)(hi:∀x nu,Φ x nu->Ψ x nu):WV k mu t Ψ:=⟨λ{y y y y y y} hA r q=>h.c hA r λ{y y y y y} z a b p=>q z a b (hi _ _ p)⟩
end
variable {Z:bI}{mu:Mu}{j i:Nat}{x:bb}{env:gV}{L:ay}{y:V}{p:jX}
noncomputable abbrev Ax:=List (bb×Option ay)
noncomputable abbrev el:=List (Option V)
noncomputable def fK(Z:bI)(h:dH)(m:bb->Option ai)(x:bb):Option ay->Option V->Prop
 |none,av=>True
 |none,ae y=>∃v,m x=ae v/\aZ G Z v y
 |some c,av=>∃ov,h.IsCell c ov
 |some c,ae y=>∃v,h.IsCell c (ae v)/\aZ G Z v y
def ed(Z:bI)(h:dH)(m:bb->Option ai)(lay:Ax)(bB:el):Prop:=∀(j:Nat) (x:bb) (c:Option ay),lay[j]? =ae (x,c)->∃o,bB[j]? =ae o/\fK Z h m x c o
section
variable {Z':bI}{h:dH}{m m':bb->Option ai}{lay:Ax}{bB:el}{c:Option ay}{o o':Option V}
theorem fK.mono(hz:Z.le Z')(s:fK Z h m x c o):fK Z' h m x c o:=by
 cases c <;> cases o
 ·trivial
 ·obtain ⟨v,a,b⟩:=s;exact ⟨v,a,b.mono hz⟩
 ·exact s
 ·obtain ⟨v,a,b⟩:=s;exact ⟨v,a,b.mono hz⟩
theorem ed.mono(hz:Z.le Z')(s:ed Z h m lay bB):ed Z' h m lay bB:=λj x c e=>(s j x c e).imp λz q=>⟨q.1,q.2.mono hz⟩
theorem IsCell.at{c:ay}{v:Option ai}(x:h.IsCell c v)(hk:∀o,h.get? c=ae o->h'.get? c=ae o):h'.IsCell c v:=x.imp λo q=>⟨hk o q.1,q.2⟩
theorem fK.loc(s:fK Z h m x c o)(hk:∀b,c=ae b->∀o,h.get? b=ae o->h'.get? b=ae o)(hm:m' x=m x):fK Z h' m' x c o:=by
 cases c <;> cases o
 ·trivial
 ·obtain ⟨v,a,b⟩:=s;exact ⟨v,hm.trans a,b⟩
 ·obtain ⟨ov,a⟩:=s;exact ⟨ov,IsCell.at a (hk _ rfl)⟩
 ·obtain ⟨v,a,b⟩:=s;exact ⟨v,IsCell.at a (hk _ rfl),b⟩
theorem C8{b:ay}(e:lay[j]? =ae (x,ae b)):b∈lay.filterMap (·.2):=fV.mpr ⟨_,ao e,rfl⟩
theorem ed.loc(s:ed Z h m lay bB)(hk:∀b∈lay.filterMap (·.2),∀o,h.get? b=ae o->h'.get? b=ae o)(hm:∀x∈lay.map (·.1),m' x=m x):ed Z h' m' lay bB:=
 λj x c e=>(s j x c e).imp λz q=>⟨q.1,q.2.loc (λb hb=>hk b (C8 (hb▸e))) (hm x (aG.mpr ⟨_,ao e,rfl⟩))⟩
theorem ed.live(s:ed Z h m lay bB)(b:ay)(hb:b∈lay.filterMap (·.2)):∃o,h.get? b=ae o:=by
 refine aK (fV.mp hb) λq h1 h2=>cJ (Tv h1) λj hj=>aK (s j q.1 (ae b) (hj.trans (congrArg (λc=>ae (q.1,c)) h2))) λo z hs=>?_;cases o with
 |none=>exact hs.elim λz w=>w.imp λz q=>q.1
 |some y=>exact hs.elim λz w=>w.1.imp λz q=>q.1
theorem BG(hn:(lay.filterMap (·.2)).Nodup){i:Nat}{y:bb}{b:ay}(hi:lay[i]? =ae (x,ae b))(hj:lay[j]? =ae (y,ae b)):i=j:=by
 have key:∀{i j:Nat} {x y:bb},i < j->lay[i]? =ae (x,ae b)->lay[j]? =ae (y,ae b)->False:=λ{z z z z} hlt hi hj=>by
  exact cJ (aB.mp hi) λh1 e1=>cJ (aB.mp hj) λh2 e2=>JY.mp (List.pairwise_filterMap.mp hn) _ _ h1 h2 hlt b (by (refine aj (e1 ..) ?_;rfl)) b (by (refine aj (e2 ..) ?_;rfl)) rfl
 exact (sQ i j).elim (λq=>(key q hi hj).elim) λq=>q.elim id λq=>(key q hj hi).elim
theorem BI(hn:(lay.map (·.1)).Nodup){i:Nat}{c d:Option ay}(hi:lay[i]? =ae (x,c))(hj:lay[j]? =ae (x,d)):i=j:=by
 have key:∀{i j:Nat} {c d:Option ay},i < j->lay[i]? =ae (x,c)->lay[j]? =ae (x,d)->False:=λ{z z z z} hlt hi hj=>by
  exact cJ (aB.mp hi) λh1 e1=>cJ (aB.mp hj) λh2 e2=>JY.mp (List.pairwise_map.mp hn) _ _ h1 h2 hlt (by (refine aj (e1 ..) ?_;refine aj (e2 ..) ?_;rfl))
 exact (sQ i j).elim (λq=>(key q hi hj).elim) λq=>q.elim id λq=>(key q hj hi).elim
theorem C9(hv:bB[j]? =ae o):(bB.set j o')[j]? =ae o':=eA (aB.mp hv).1
theorem ed.set(s:ed Z h m lay bB)(e:lay[j]? =ae (x,c))(hs:fK Z h' m' x c o)(hn:(lay.map (·.1)).Nodup)(hc:(lay.filterMap (·.2)).Nodup)(hm:∀y,y≠x->m' y=m y)
 (hk:∀b∈lay.filterMap (·.2),c≠ae b->∀o,h.get? b=ae o->h'.get? b=ae o):ed Z h' m' lay (bB.set j o):=λi y d q=>by
 refine aK (s i y d q) λp hv w=>?_;by_cases Bu:j=i
 ·subst Bu;cases e.symm.trans q;exact ⟨o,C9 hv,hs⟩
 ·exact ⟨p,(kI Bu).trans hv,w.loc (λb hb=>hk b (C8 (hb▸q)) λQR=>Bu (BG hc (QR▸e) (hb▸q))) (hm y λhy=>Bu (BI hn e (hy▸q)))⟩
theorem ed.weak(s:ed Z h m lay bB)(e:bB[j]? =ae o)(hi:∀x c,fK Z h m x c o->fK Z h m x c o'):ed Z h m lay (bB.set j o'):=λi y d q=>by
 refine aK (s i y d q) λp hv w=>?_;by_cases Bu:j=i
 ·subst Bu;cases e.symm.trans hv;exact ⟨o',C9 hv,hi _ _ w⟩
 ·exact ⟨p,(kI Bu).trans hv,w⟩
theorem ed.cons(w:fK Z h m x c o)(s:ed Z h m lay bB):ed Z h m ((x,c)::lay) (o::bB):=λi y d q=>by
 cases i with
 |zero=>cases q;exact ⟨o,rfl,w⟩
 |succ i=>exact s i y d q
end
abbrev Ax.nd(lay:Ax):Prop:=(lay.map (·.1)).Nodup
noncomputable def bq(L:ay)(lay:Ax)(bB:el):cX where
 own:=L::lay.filterMap (·.2)
 sat:=λZ h=>lay.nd/\∃m,h.Ns L m/\ed Z h m lay bB
 mono:=λZ Z' h hz ⟨n,m,a,b⟩=>⟨n,m,a,b.mono hz⟩
 loc:=λZ h h' ⟨n,m,a,b⟩ hk _ _=>⟨n,m,a.at' (λo e=>hk L aa o e),b.loc (λc hc=>hk c (ab _ hc)) λz z=>rfl⟩
 live:=λZ h ⟨n,m,a,b⟩ c hc=>by
  rcases aP.mp hc with rfl|hc
  ·obtain ⟨o,_,_,ho,_⟩:=a;exact ⟨o,ho⟩
  ·exact b.live c hc
structure g7(G:Gd):Prop where
 g:∀h:dH,(∀a o,G.Z0 a=ae o->h.get? a=ae o)->h.Ns vp G.mg
 b:∀h:dH,(∀a o,G.Z0 a=ae o->h.get? a=ae o)->∃mb,h.Ns builtinsNs mb/\∀x:bb,x≠"__name__"->mb x=Jy x
 lim:∀h:dH,(∀a o,G.Z0 a=ae o->h.get? a=ae o)->h.NoLimit
 sysm:∃o,G.Z0 lY=ae o
structure du(env:gV):Prop where
 kind:env.scope.kind= .function
 globals:env.globals=vp
 builtins:env.builtins=builtinsNs
section
variable {lay:Ax}{bB:el}{c:ay}
theorem R.z0in(r:R Z mu s):∀a o,G.Z0 a=ae o->s.heap.get? a=ae o:=λa o e=>r.zin a o (r.z0 a o e)
theorem R.slot{lay:Ax}{c:Option ay}(r:R Z mu s)(hf:bq L lay bB∈mu)(hl:lay[j]? =ae (x,c))(hv:bB[j]? =ae (ae y)):
 ∃m,s.heap.Ns L m/\fK Z s.heap m x c (ae y):=by
 refine mI (r.sat _ hf) λz m hn hs=>aK (hs _ _ _ hl) λo h1 h2=>?_;rw [hv] at h1;(have lA:=aO h1;clear h1;subst lA);exact ⟨m,hn,h2⟩
theorem Rl(he:du env)(hk:env.kindOf x=ae .local)(hf:bq env.locals lay bB∈mu)(hl:lay[j]? =ae (x,av))(hv:bB[j]? =ae (ae y))(hd:autoParam ((x == ("__debug__":bb))=aH) aD):
 PE k mu env (.Name x p) y:=⟨λ{A E Z s fr Q} hA r q=>by
 obtain ⟨m,hn,v,hm,hr⟩:=r.slot (aE fr hf) hl hv;exact Tw (wpAny_loadName_local he.kind hk hn hm (q .rfl hr r)) hd⟩
theorem N8(he:du env)(hk:env.kindOf x=ae .cell)(hc:env.cells.lookup x=ae c)(hf:bq L lay bB∈mu){z:bb}(hl:lay[j]? =ae (z,ae c))(hv:bB[j]? =ae (ae y))(hd:autoParam ((x == ("__debug__":bb))=aH) aD):
 PE k mu env (.Name x p) y:=⟨λ{A E Z s fr Q} hA r q=>by
 obtain ⟨m,hn,v,hm,hr⟩:=r.slot (aE fr hf) hl hv;exact Tw (wpAny_loadName_cell he.kind hk hc hm (q .rfl hr r)) hd⟩
theorem N9(he:du env)(hk:env.kindOf x=ae .free)(hc:env.cells.lookup x=ae c)(hf:bq L lay bB∈mu){z:bb}(hl:lay[j]? =ae (z,ae c))(hv:bB[j]? =ae (ae y))(hd:autoParam ((x == ("__debug__":bb))=aH) aD)
 (hd':autoParam ((x == ("__classdict__":bb))=aH) aD):PE k mu env (.Name x p) y:=⟨λ{A E Z s fr Q} hA r q=>by
 obtain ⟨m,hn,v,hm,hr⟩:=r.slot (aE fr hf) hl hv;exact Tw (wpAny_loadName_free he.kind hk hc hm (q .rfl hr r) hd') hd⟩
theorem Oa(B:g7 G)(he:du env)(hk:env.kindOf x=ae .globalImplicit){v:ai}(hm:G.mg x=ae v)(hv:aZ G G.Z0 v y)(hd:autoParam ((x == ("__debug__":bb))=aH) aD):
 PE k mu env (.Name x p) y:=⟨λ{A E Z s fr Q} hA r q=>by
 with_reducible refine Jz he.kind hk ?_ hd
 with_reducible refine loadGlobal_global (he.globals▸B.g _ r.z0in) hm ?_
 exact (q .rfl (hv.mono r.z0) r)⟩
theorem Qk(B:g7 G)(he:du env)(hk:env.kindOf x=ae .globalImplicit){v:ai}(hm:G.mg x=av)(hb:Jy x=ae v)(hv:aZ G G.Z0 v y)(hn:autoParam (x≠"__name__") aD)
 (hd:autoParam ((x == ("__debug__":bb))=aH) aD):PE k mu env (.Name x p) y:=⟨λ{A E Z s fr Q} hA r q=>by
 exact aK (B.b _ r.z0in) λmb h1 h2=>Jz he.kind hk (loadGlobal_builtin (he.globals▸B.g _ r.z0in) hm (he.builtins▸h1) ((h2 x hn).trans hb) (q .rfl (hv.mono r.z0) r)) hd
⟩
theorem R.ownNodup{x:cX}(r:R Z mu s)(hi:mu[i]? =ae x):x.own.Nodup:=by
 have h1:(gT (mu.take i)++(x.own++gT (mu.drop (i+1)))).Nodup:=by have:=r.nodup;rw [gh hi,oL] at this;exact this
 exact (bP.mp (bP.mp h1).2.1).1
theorem Rn{A:bh}{E:ai->aq->Prop}{v:ai}{Q:Unit->aq->Prop}(r:R Z mu s)(he:du env)(hk:env.kindOf x=ae .local)(hi:mu[i]? =ae (bq env.locals lay bB))(hl:lay[j]? =ae (x,av))
 (hv:aZ G Z v y) (h:∀s',R Z (mu.set i (bq env.locals lay (bB.set j (ae y)))) s'->Q () s'):aS (aX G.prog G.w) A (storeName env x v) Q E s:=by
 refine mI (r.sat _ (ao hi)) λhnd m hn hs=>?_;have qf:(env.locals::lay.filterMap (·.2)).Nodup:=r.ownNodup hi;have hc:(lay.filterMap (·.2)).Nodup:=(cg.mp qf).2;refine wpAny_storeName_local hk hn (λh' SQ ud=>h _ ?_) (by refine aj (he.kind ..) ?_;rfl);refine r.upd' hi rfl (λb o hb e=>(ud.2 b λq=>hb (q▸aa)).trans e) ⟨hnd,_,SQ,?_⟩;exact hs.set hl ⟨v,by simp,hv⟩ hnd hc (λz hz=>by simp [hz]) λb hb u o e=>(ud.2 b λq=>(cg.mp qf).1 (q▸hb)).trans e
theorem Ob{A:bh}{E:ai->aq->Prop}{v:ai}{Q:Unit->aq->Prop}(r:R Z mu s)(he:du env)(hk:env.kindOf x=ae .cell)(hcl:env.cells.lookup x=ae c)(hi:mu[i]? =ae (bq L lay bB)){z:bb}(hl:lay[j]? =ae (z,ae c))
 (hv:aZ G Z v y) (h:∀s',R Z (mu.set i (bq L lay (bB.set j (ae y)))) s'->Q () s'):aS (aX G.prog G.w) A (storeName env x v) Q E s:=by
 obtain ⟨hnd,m,hn,hs⟩:=r.sat _ (ao hi);have qf:(L::lay.filterMap (·.2)).Nodup:=r.ownNodup hi;have hc:(lay.filterMap (·.2)).Nodup:=(cg.mp qf).2;have JV:c∈lay.filterMap (·.2):=fV.mpr ⟨_,ao hl,rfl⟩;have hLc:L≠c:=λq=>(cg.mp qf).1 (q▸JV);obtain ⟨o,h1,h2⟩:=hs _ _ _ hl;have MW:∃ov,s.heap.IsCell c ov:=by
  cases o with
  |none=>exact h2
  |some y=>obtain ⟨v,a,_⟩:=h2;exact ⟨_,a⟩
 obtain ⟨ov,MW⟩:=MW;refine wpAny_storeName_cell he.kind hk hcl MW λh' hv' ud=>h {s with heap:=h'} (r.upd' (tk:=s.toks) hi rfl (λb o hb e=>(ud.2 b λq=>hb (q▸ab _ JV)).trans e) ⟨hnd,_,hn.sameBut ud hLc,?_⟩);exact hs.set hl ⟨v,hv',hv⟩ hnd hc (λz hz=>rfl) λb hb iP o e=>(ud.2 b λq=>iP (by (refine aj (q ..) ?_;rfl))).trans e
theorem R.weak{o o':Option V}(r:R Z mu s)(hi:mu[i]? =ae (bq L lay bB))(hv:bB[j]? =ae o)(ho:∀h m x c,fK Z h m x c o->fK Z h m x c o'):
 R Z (mu.set i (bq L lay (bB.set j o'))) s:=by
 exact mI (r.sat _ (ao hi)) λhnd m hn hs=>r.upd' (h':=s.heap) (tk:=s.toks) hi rfl (λz z z e=>e) ⟨hnd,m,hn,hs.weak hv λx c=>ho _ _ x c⟩
theorem fK.forget{h:dH}{m:bb->Option ai}{c:Option ay}{o:Option V}(e:fK Z h m x c o):fK Z h m x c av:=by
 cases c <;> cases o
 ·trivial
 ·trivial
 ·exact e
 ·obtain ⟨v,a,_⟩:=e;exact ⟨_,a⟩
theorem fK.as{h:dH}{m:bb->Option ai}{c:Option ay}{z:V}(e:fK Z h m x c (ae y))(hi:∀v,aZ G Z v y->aZ G Z v z):fK Z h m x c (ae z):=by
 cases c
 ·obtain ⟨v,a,b⟩:=e;exact ⟨v,a,hi v b⟩
 ·obtain ⟨v,a,b⟩:=e;exact ⟨v,a,hi v b⟩
end
variable {P Q S:Vw}{lay:Ax}{bB:el}{c b:Bool}{e:bH}
def rk(h:dH)(Z:bI)(a:ay)(xs:List V):Prop:=∃vs n,h.get? a=ae (oK vs n)/\bW G Z vs.toList xs
def Ql(G:Gd)(h:dH)(Z:bI)(a:ay)(es:List (bb×V)):Prop:=
 (a == lY)=aH/\∃kvs,h.DictOf (strKind G.prog G.w) a kvs/\kvs.map (·.1)=es.map (·.1)/\bW G Z (kvs.map (·.2)) (es.map (·.2))
noncomputable def me(mu:Mu)(xs:List V):Vw:=
 ⟨λZ v=>∃a,v= .ref a/\∀Z' s,Z.le Z'->R Z' mu s->rk s.heap Z' a xs,λZ Z' v h=>bQ λa u=>⟨u.1,λPQ s h' r=>u.2 PQ s (bI.le_trans h h') r⟩⟩
noncomputable def NC(mu:Mu)(es:List (bb×V)):Vw:=
 ⟨λZ v=>∃a,v= .ref a/\∀Z' s,Z.le Z'->R Z' mu s->Ql G s.heap Z' a es,λZ Z' v h=>bQ λa u=>⟨u.1,λPQ s h' r=>u.2 PQ s (bI.le_trans h h') r⟩⟩
noncomputable def bl(a:ay)(xs:List V):cX where
 own:=[a]
 sat:=λZ h=>rk h Z a xs
 mono:=λZ Z' h hz=>bQ λvs=>bQ λn u=>⟨u.1,u.2.mono hz⟩
 loc:=λZ h h' w hk z z=>w.imp λvs=>bQ λn u=>⟨hk a aa _ u.1,u.2⟩
 live:=λZ h w b hb=>w.elim λvs w=>w.elim λn u=>⟨_,aA.mp hb▸u.1⟩
noncomputable def cD(a:ay)(es:List (bb×V)):cX where
 own:=[a]
 sat:=λZ h=>Ql G h Z a es
 mono:=λZ Z' h hz w=>⟨w.1,w.2.imp λkvs u=>⟨u.1,u.2.1,u.2.2.mono hz⟩⟩
 loc:=λZ h h' w hk z z=>⟨w.1,w.2.imp λkvs u=>⟨u.1.imp λo=>bQ λes=>bQ λep v=>⟨hk a aa _ v.1,v.2⟩,u.2⟩⟩
 live:=λZ h w b hb=>w.2.elim λkvs u=>u.1.elim λo v=>v.elim λes v=>v.elim λep v=>⟨_,aA.mp hb▸v.1⟩
structure B2(k:Nat)(mu:Mu)(f:ai->ai->mF ai)(P Q S:Vw):Prop where
 c:∀{A:bh} {E:ai->aq->Prop} {Z:bI} {s:aq} {fr:Mu} {v u:ai} {T:ai->aq->Prop},Rm k A->R Z (mu++fr) s->P.p Z v->Q.p Z u->
  (∀{w s' Z'},Z.le Z'->S.p Z' w->R Z' (mu++fr) s'->T w s')->aS (aX G.prog G.w) A (f v u) T E s
abbrev xR(k:Nat)(mu:Mu)(op:xo)(P Q S:Vw):Prop:=B2 k mu (binaryOp op) P Q S
abbrev te(k:Nat)(mu:Mu)(op:CmpOp)(P Q:Vw)(b:Bool):Prop:=B2 k mu (compareOp op) P Q (bZ (.bool b))
section
variable {l r:bH}{x:V}{op:xo}{CU:CmpOp}
theorem rk.list{Z:bI}{v:ai}{xs:List V}(h:aZ G Z v (.list xs)):∃a vs n,v= .ref a/\Z a=ae (oK vs n)/\bW G Z vs.toList xs:=by cases h with|list e r=>exact ⟨_,_,_,rfl,e,r⟩
theorem BJ{Z:bI}{v:ai}{xs:List V}(h:aZ G Z v (.list xs)):(me mu xs).p Z v:=
 (rk.list h).imp λ_ ⟨_,_,e,z,r⟩=>⟨e,λZ' s hz R=>⟨_,_,R.zin _ _ (hz _ _ z),r.mono hz⟩⟩
theorem Od{Z:bI}{v:ai}{es:List (bb×V)}(h:aZ G Z v (.dict es)):(NC mu es).p Z v:=by
 cases h with
 |dict q e d f r=>refine Ar d λd1 NI ep d2 d3 d4 d5=>?_;clear d;exact ⟨_,rfl,λZ' s hz R=>⟨q,_,⟨_,_,_,R.zin _ _ (hz _ _ e),d1,d2,d3,d4,d5⟩,f,r.mono hz⟩⟩
theorem EV.mono(h:EV k mu env e P)(hi:∀Z v,P.p Z v->Q.p Z v):EV k mu env e Q:=⟨λ{z z z z z z} hA r q=>h.c hA r λ{z z z} a b c=>q a (hi _ _ b) c⟩
theorem dE{xs:List V}(h:PE k mu env e (.list xs)):EV k mu env e (me mu xs):=EV.mono h λz z q=>BJ q
theorem uH{a:ay}{xs:List V}(h:PE k mu env e (.ref a))(hm:bl a xs∈mu):EV k mu env e (me mu xs):=EV.mono h λZ v q=>⟨a,q.refE,λZ' s hz r=>r.sat _ hm⟩
theorem pN{es:List (bb×V)}(h:PE k mu env e (.dict es)):EV k mu env e (NC mu es):=EV.mono h λz z q=>Od q
theorem wK{a:ay}{es:List (bb×V)}(h:PE k mu env e (.ref a))(hm:cD a es∈mu):EV k mu env e (NC mu es):=EV.mono h λZ v q=>⟨a,q.refE,λZ' s hz r=>r.sat _ hm⟩
theorem aU{i:Int}{kk}:PE k mu env (.Constant (.int i) kk p) (.int i):=⟨λ{z z z z z z} hA r q=>wpAny_Constant_int (q .rfl (aZ.int _ _) r.toks)⟩
theorem cO{t:bb}{kk}:PE k mu env (.Constant (.str t) kk p) (.str t):=⟨λ{z z z z z z} hA r q=>wpAny_Constant_str (q .rfl (aZ.str _ _) r.toks)⟩
theorem Ke{b:Bool}{kk}:PE k mu env (.Constant (.bool b) kk p) (.bool b):=⟨λ{z z z z z z} hA r q=>wpAny_Constant_bool (q .rfl (aZ.bool _) r)⟩
theorem Kf{kk}:PE k mu env (.Constant .none kk p) .none:=⟨λ{z z z z z z} hA r q=>wpAny_Constant_none (q .rfl aZ.none r)⟩
theorem br(hl:EV k mu env l P)(hr:EV k mu env r Q)(ho:xR k mu op P Q S):EV k mu env (.BinOp l op r p) S:=⟨λ{z z z z z z} hA R q=>by
 with_reducible refine NO ?_
 exact hl.c hA R λz1 p1 r1=>hr.c hA r1 λz2 p2 r2=>ho.c hA r2 (P.mono _ _ _ z2 p1) p2 λz3 p3 r3=>q (z1.trans (z2.trans z3)) p3 r3⟩
theorem mJ(hl:EV k mu env l P)(hr:EV k mu env r Q)(ho:te k mu CU P Q b)(hm:wA CU r=aH:=by with_unfolding_all rfl):PE k mu env (.Compare l [CU] [r] p) (.bool b):=⟨λ{z z z z z z} hA R q=>by
 with_reducible refine wpAny_Compare1 ?_ hm
 exact hl.c hA R λz1 p1 r1=>hr.c hA r1 λz2 p2 r2=>ho.c hA r2 (P.mono _ _ _ z2 p1) p2 λz3 p3 r3=>q (z1.trans (z2.trans z3)) p3 r3⟩
theorem c9(hl:EV k mu env l P)(hr:EV k mu env r Q)(ho:te k mu CU P Q b)(hm:wA CU r=aH:=by with_unfolding_all rfl):PT k mu env (.Compare l [CU] [r] p) b:=⟨λ{z z z z z z} hA R q=>by
 with_reducible refine Ah ?_ hm
 exact hl.c hA R λ{z z z} z1 p1 r1=>hr.c hA r1 λ{z z z} z2 p2 r2=>ho.c hA r2 (P.mono _ _ _ z2 p1) p2 λ{z z z} z3 p3 r3=>(aZ.boolE p3)▸eU (q (z1.trans (z2.trans z3)) r3)⟩
theorem Fz(h:PT k mu env e b):PT k mu env (.UnaryOp .Not e p) (!b):=⟨λ{z z z z z z} hA R q=>wpAny_isTrue_Not (h.c hA R q)⟩
abbrev FA(k:Nat)(mu:Mu)(env:gV)(op:Tz)(es:List bH)(b:Bool):Prop:=WB k mu (allTrue op es env) b
theorem oM{bop:Tz}{es:List bH}(h:FA k mu env bop es b):PT k mu env (.BoolOp bop es p) b:=⟨λ{z z z z z z} hA R q=>by
 with_reducible refine wpAny_isTrue_BoolOp ?_
 exact h.c hA R q⟩
theorem BK:FA k mu env .And [] aI:=⟨λ{z z z z z z} hA R q=>wpAny_allTrue_And_nil (q .rfl R)⟩
theorem jn:FA k mu env .Or [] aH:=⟨λ{z z z z z z} hA R q=>wpAny_allTrue_Or_nil (q .rfl R)⟩
theorem Da{es:List bH}(h:PT k mu env e b)(hr:b=aI->FA k mu env .And es c):FA k mu env .And (e::es) (b && c):=⟨λ{z z z z z z} hA R q=>by
 with_reducible refine wpAny_allTrue_And_cons ?_
 refine h.c hA R λ{s1 Z1} z1 r1=>?_;cases b with
 |false=>exact q z1 r1
 |true=>exact (hr rfl).c hA r1 λ{z z} z2 r2=>q (z1.trans z2) r2⟩
theorem iM{es:List bH}(h:PT k mu env e b)(hr:b=aH->FA k mu env .Or es c):FA k mu env .Or (e::es) (b || c):=⟨λ{z z z z z z} hA R q=>by
 with_reducible refine Ai ?_
 refine h.c hA R λ{s1 Z1} z1 r1=>?_;cases b with
 |true=>exact q z1 r1
 |false=>exact (hr rfl).c hA r1 λ{z z} z2 r2=>q (z1.trans z2) r2⟩
theorem uI{t a f:bH}(ht:PT k mu env t b)(ha:b=aI->EV k mu env a P)(hf:b=aH->EV k mu env f P):EV k mu env (.IfExp t a f p) P:=⟨λ{z z z z z z} hA R q=>by
 with_reducible refine wpAny_IfExp ?_
 refine ht.c hA R λ{s1 Z1} z1 r1=>?_;cases b with
 |true=>exact (ha rfl).c hA r1 λ{z z z} z2 p2 r2=>q (z1.trans z2) p2 r2
 |false=>exact (hf rfl).c hA r1 λ{z z z} z2 p2 r2=>q (z1.trans z2) p2 r2⟩
section
variable {f:ai->ai->mF ai}{a b:Int}
theorem B2.ii{c:Int}(h:∀{A:bh} {E:ai->aq->Prop} {s:aq} {t u:HX} {T:ai->aq->Prop},T (.int c s.toks) {s with toks:=s.toks+1}->aS (aX G.prog G.w) A (f (.int a t) (.int b u)) T E s):B2 k mu f (bZ (.int a)) (bZ (.int b)) (bZ (.int c)):=
 ⟨λ{z z z z z z z z} hA R hp hq q=>aZ.intC hp λt=>aZ.intC hq λu=>h (q .rfl (.int _ _) R.toks)⟩
theorem B2.iib(h:∀{A:bh} {E:ai->aq->Prop} {s:aq} {t u:HX} {T:ai->aq->Prop},T (.bool c) s->aS (aX G.prog G.w) A (f (.int a t) (.int b u)) T E s):B2 k mu f (bZ (.int a)) (bZ (.int b)) (bZ (.bool c)):=
 ⟨λ{z z z z z z z z} hA R hp hq q=>aZ.intC hp λt=>aZ.intC hq λu=>h (q .rfl (.bool _) R)⟩
theorem B2.ssb{a b:bb}(h:∀{A:bh} {E:ai->aq->Prop} {s:aq} {t u:HX} {T:ai->aq->Prop},T (.bool c) s->aS (aX G.prog G.w) A (f (.str a t) (.str b u)) T E s):B2 k mu f (bZ (.str a)) (bZ (.str b)) (bZ (.bool c)):=
 ⟨λ{z z z z z z z z} hA R hp hq q=>aZ.strC hp λt=>aZ.strC hq λu=>h (q .rfl (.bool _) R)⟩
theorem fC:xR k mu .Add (bZ (.int a)) (bZ (.int b)) (bZ (.int (a+b))):= .ii PyProof.Rows.add_int
theorem vM:xR k mu .Sub (bZ (.int a)) (bZ (.int b)) (bZ (.int (a - b))):= .ii PyProof.Rows.sub_int
theorem Kg(h:IntMulOk a b):xR k mu .Mult (bZ (.int a)) (bZ (.int b)) (bZ (.int (a*b))):= .ii λ{z z z z z z} q=>PyProof.Rows.mul_int q h
theorem Ro(h:b≠0):xR k mu .Mod (bZ (.int a)) (bZ (.int b)) (bZ (.int (a.fmod b))):= .ii (PyProof.Rows.mod_int' h)
theorem Rp(h:b≠0)(hn:Builtin.divisionGoesByPylong a b=aH):xR k mu .FloorDiv (bZ (.int a)) (bZ (.int b)) (bZ (.int (a.fdiv b))):= .ii λ{z z z z z z} q=>PyProof.Rows.floordiv_int h q (.inl hn)
theorem Rq(h:0<=b)(hz:(sR a:Int)*b<=2 ^ 27):xR k mu .Pow (bZ (.int a)) (bZ (.int b)) (bZ (.int (a ^ b.toNat))):= .ii (PyProof.Rows.pow_int h hz)
theorem Kh(h:0<=b)(h2:b<=1000000)(ha:a.natAbs < 2 ^ 64):xR k mu .LShift (bZ (.int a)) (bZ (.int b)) (bZ (.int (a*2 ^ b.toNat))):= .ii (PyProof.Rows.lshift_int_small h h2 ha)
theorem Rt(h:0<=b):xR k mu .RShift (bZ (.int a)) (bZ (.int b)) (bZ (.int (a.fdiv (2 ^ b.toNat)))):= .ii (PyProof.Rows.rshift_int h)
theorem qu:xR k mu .BitAnd (bZ (.int a)) (bZ (.int b)) (bZ (.int (lZ a b))):= .ii PyProof.Rows.and_int
theorem qv:te k mu .Eq (bZ (.int a)) (bZ (.int b)) (a == b):= .iib PyProof.Rows.eq_int
theorem FB:te k mu .NotEq (bZ (.int a)) (bZ (.int b)) (a != b):= .iib PyProof.Rows.ne_int
theorem Dc:te k mu .Lt (bZ (.int a)) (bZ (.int b)) (decide (a < b)):= .iib PyProof.Rows.lt_int
theorem G4:te k mu .Gt (bZ (.int a)) (bZ (.int b)) (decide (b < a)):= .iib PyProof.Rows.gt_int
theorem cm_le:te k mu .LtE (bZ (.int a)) (bZ (.int b)) (decide (a<=b)):= .iib PyProof.Rows.le_int
theorem o8(h:PE k mu env e (.int a)):PE k mu env (.UnaryOp .USub e p) (.int (-a)):=⟨λ{z z z z z z} hA R q=>by
 with_reducible refine wpAny_UnaryOp ?_
 exact h.c hA R λ{z z z} z1 p1 r1=>aZ.intC p1 λt=>PyProof.Rows.neg_int (q z1 (aZ.int _ _) r1.toks)⟩
end
theorem FD{a b:bb}(h:a.length+b.length<=er):xR k mu .Add (bZ (.str a)) (bZ (.str b)) (bZ (.str (a++b))):=
 ⟨λ{z z z z z z z z} hA R hp hq q=>aZ.strC hp λt=>aZ.strC hq λu=>PyProof.Rows.add_str (λt' tk=>q .rfl (aZ.str _ _) R.toks) h⟩
theorem rC{a b:bb}:te k mu .Eq (bZ (.str a)) (bZ (.str b)) (a == b):= .ssb PyProof.Rows.eq_str
theorem tC{a b:bb}:te k mu .NotEq (bZ (.str a)) (bZ (.str b)) (a != b):= .ssb PyProof.Rows.ne_str
theorem Ki{a b:Bool}:te k mu .NotEq (bZ (.bool a)) (bZ (.bool b)) (a != b):=
 ⟨λ{z z z z z z z z} hA R hp hq q=>(aZ.boolE hp)▸(aZ.boolE hq)▸PyProof.Rows.ne_bool (q .rfl (.bool _) R)⟩
theorem Dd{a b:bb}:te k mu .In (bZ (.str a)) (bZ (.str b)) (!(cZ b a 0 b.length 1).isEmpty):= .ssb PyProof.Rows.in_str
structure Tr(k:Nat)(mu:Mu)(P:Vw)(b:Bool):Prop where
 c:∀{A:bh} {E:ai->aq->Prop} {Z:bI} {s:aq} {fr:Mu} {v:ai} {T:Bool->aq->Prop},Rm k A->R Z (mu++fr) s->P.p Z v->
  (∀{s' Z'},Z.le Z'->R Z' (mu++fr) s'->T b s')->aS (aX G.prog G.w) A (truthy v) T E s
theorem xS{a:Int}:Tr k mu (bZ (.int a)) (a != 0):=⟨λ{z z z z z z z} hA R hp q=>aZ.intC hp λt=>PyProof.Rows.truthy_int (q .rfl R)⟩
theorem qw{a:Bool}:Tr k mu (bZ (.bool a)) a:=⟨λ{z z z z z z z} hA R hp q=>(aZ.boolE hp)▸eU (q .rfl R)⟩
theorem G5{xs:List V}(hl:xs.length < 2 ^ 60):Tr k mu (me mu xs) (!xs.isEmpty):=⟨λ{A E Z s fr v T} hA R ⟨a,e,w⟩ q=>by
 subst e;refine eD (w Z s .rfl R.left) λvs n h1 h2=>?_;have SR:vs.size=xs.length:=eK.symm.trans h2.length;have hL:s.heap.IsList a vs:=⟨_,h1,rfl,n,rfl⟩;have hb:(!vs.isEmpty)= !xs.isEmpty:=by unfold Array.isEmpty;refine aj (SR ..) ?_;cases xs <;> rfl
 with_reducible refine wpAny_truthy_list hL (by refine aj (SR ..) ?_;lia) ?_
 first|exact hb▸q .rfl R.toks|(rw [hb];exact q .rfl R.toks)⟩
theorem kU(h:EV k mu env e P)(ht:Tr k mu P b)(he:autoParam (isTrue e env (dW e env)=(do let v <- dW e env;iE e.pos;eV [v] (truthy v))) aR):PT k mu env e b:=⟨λ{z z z z z z} hA R q=>by
 with_reducible refine wpAny_isTrue_value ?_ he
 exact h.c hA R λ{z z z} z1 p1 r1=>ht.c hA r1 p1 λ{z z} z2 r2=>q (z1.trans z2) r2⟩
end
variable {Φ:AF->Mu->Prop}{nu:Mu}
inductive Sl(env:gV)(L:ay)(lay:Ax)(x:bb)(j:Nat):Prop
 |loc (h1:autoParam (env.kindOf x=ae .local) aR) (h2:autoParam (L=env.locals) aR) (h3:autoParam (lay[j]? =ae (x,av)) aR) (h4:autoParam ((x == ("__debug__":bb))=aH) aR):Sl env L lay x j
 |cell (c:ay) (z:bb) (h1:autoParam (env.kindOf x=ae .cell) aR) (h2:autoParam (env.cells.lookup x=ae c) aR) (h3:autoParam (lay[j]? =ae (z,ae c)) aR) (h4:autoParam ((x == ("__debug__":bb))=aH) aR):Sl env L lay x j
 |free (c:ay) (z:bb):env.kindOf x=ae .free->env.cells.lookup x=ae c->lay[j]? =ae (z,ae c)->(x == ("__debug__":bb))=aH->(x == ("__classdict__":bb))=aH->Sl env L lay x j
theorem ah(he:du env)(sl:Sl env L lay x j)(hf:bq L lay bB∈mu)(hv:bB[j]? =ae (ae y)):PE k mu env (.Name x p) y:=by
 cases sl with
 |loc hk hL hl hd=>subst hL;exact Rl he hk hf hl hv hd
 |cell c z hk hc hl hd=>exact N8 he hk hc hf hl hv hd
 |free c z hk hc hl hd hd'=>exact N9 he hk hc hf hl hv hd hd'
theorem cH{α:Type}{l fr:List α}{i:Nat}{x:α}(h:l[i]? =ae x):(l++fr)[i]? =ae x:=by refine aj (eE (aB.mp h).1 ..) ?_;exact h
theorem gE{α:Type}{l fr:List α}{i:Nat}{x y:α}(h:l[i]? =ae x):(l++fr).set i y=l.set i y++fr:=
 List.set_append_left i y (aB.mp h).1
theorem xT{A:bh}{E:ai->aq->Prop}{v:ai}{Q:Unit->aq->Prop}{fr:Mu}(r:R Z (mu++fr) s)(he:du env)(sl:Sl env L lay x j)(hi:mu[i]? =ae (bq L lay bB))
 (CB:env.kindOf x≠ae .free) (hv:aZ G Z v y) (h:∀s',R Z (mu.set i (bq L lay (bB.set j (ae y)))++fr) s'->Q () s'):aS (aX G.prog G.w) A (storeName env x v) Q E s:=by
 cases sl with
 |loc hk hL hl hd=>subst hL;exact Rn r he hk (cH hi) hl hv λs' r'=>h s' (by refine fZ (gE hi ..) ?_;exact r')
 |cell c z hk hc hl hd=>exact Ob r he hk hc (cH hi) hl hv λs' r'=>h s' (by refine fZ (gE hi ..) ?_;exact r')
 |free c z hk hc hl hd hd'=>exact absurd hk CB
structure mK(k:Nat)(mu:Mu)(env:gV)(t:bH)(x:V)(Ψ:Mu->Prop):Prop where
 c:∀{A:bh} {E:ai->aq->Prop} {Z:bI} {s:aq} {fr:Mu} {v:ai} {Q:Unit->aq->Prop},Rm k A->R Z (mu++fr) s->aZ G Z v x->
  (∀{s' Z' nu},Z.le Z'->R Z' (nu++fr) s'->Ψ nu->Q () s')->aS (aX G.prog G.w) A (wB t env v) Q E s
structure H1(k:Nat)(mu:Mu)(env:gV)(ts:List bH)(xs:List V)(Ψ:Mu->Prop):Prop where
 len:ts.length=xs.length
 plain:(jB ts env).all (λq=>!q.1)=aI
 c:∀{A:bh} {E:ai->aq->Prop} {Z:bI} {s:aq} {fr:Mu} {vs:List ai} {Q:Unit->aq->Prop},Rm k A->R Z (mu++fr) s->bW G Z vs xs->
  (∀{s' Z' nu},Z.le Z'->R Z' (nu++fr) s'->Ψ nu->Q () s')->aS (aX G.prog G.w) A (assignInOrder ((jB ts env).map (·.2)) vs) Q E s
section
variable {Ψ:Mu->Prop}
theorem aQ(he:du env)(sl:Sl env L lay x j)(hi:mu[i]? =ae (bq L lay bB))(h:Ψ (mu.set i (bq L lay (bB.set j (ae y)))))(CB:autoParam ((env.kindOf x == ae .free)=aH) aR):mK k mu env (.Name x p) y Ψ:=
 ⟨λ{z z z z z z z} hA r hv q=>wpAny_assign_Name (xT r he sl hi (beq_eq_false_iff_ne.mp CB) hv λs' r'=>q .rfl r' h)⟩
theorem bW.nil_inv{vs:List ai}(h:bW G Z vs []):vs=[]:=pD h.length
theorem bW.cons_inv{vs:List ai}{y:V}{ys:List V}(h:bW G Z vs (y::ys)):∃v rt,vs=v::rt/\aZ G Z v y/\bW G Z rt ys:=by cases h with|cons a b=>exact ⟨_,_,rfl,a,b⟩
theorem bW.uncons{v:ai}{vs:List ai}{y:V}{ys:List V}(h:bW G Z (v::vs) (y::ys)):aZ G Z v y/\bW G Z vs ys:=by cases h with|cons a b=>exact ⟨a,b⟩
theorem iX(h:Ψ mu):H1 k mu env [] [] Ψ:=⟨rfl,rfl,λ{z z z z z z z} hA r hv q=>hv.nil_inv▸ar (q .rfl r h)⟩
theorem wL{t:bH}{ts:List bH}(hs:∀a p,t≠ .Starred a p):jB (t::ts) env=(aH,wB t env)::jB ts env:=by cases t <;> first|rfl|exact absurd rfl (hs _ _)
theorem cv{t:bH}{ts:List bH}{xs:List V}(hl:ts.length=xs.length)(hp:(jB ts env).all (λq=>!q.1)=aI)(h:mK k mu env t y λnu=>H1 k nu env ts xs Ψ)(hs:∀a p,t≠ .Starred a p:=by intro z z h;cases h):H1 k mu env (t::ts) (y::xs) Ψ:=
 ⟨congrArg xn hl,by refine aj (wL hs ..) ?_;exact hp,λ{z z z z z z z} hA r hv q=>by
  refine aj (wL hs ..) ?_;obtain ⟨v,vs,rfl,hv,hr⟩:=hv.cons_inv;exact ag (bE (h.c hA r hv λ{z z z} z1 r1 w=>w.c hA r1 (hr.mono z1) λ{z z z} z2=>q (z1.trans z2)))⟩
theorem o9{l:List (Bool×(ai->mF Unit))}(h:l.all (λq=>!q.1)=aI):l.findIdx? (·.1)=av:=
 List.findIdx?_eq_none_iff.mpr λx hx=>by have:=fW.mp h x hx;simpa using this
theorem nB{env:gV}(ts:List bH):(jB ts env).length=ts.length:=by
 induction ts with
 |nil=>rfl
 |cons t ts ih=>cases t <;> exact congrArg xn ih
theorem aZ.tup_inv{v:ai}{xs:List V}(h:aZ G Z v (.tup xs)):∃a o vs n,v= .ref a/\Z a=ae o/\o.cls= .type "tuple"/\o.data= .seq vs n/\bW G Z vs.toList xs:=by cases h with|tup e c d r=>exact ⟨_,_,_,_,rfl,e,c,d,r⟩
theorem aZ.ent_inv{v:ai}{xs:List V}(h:aZ G Z v (.ent xs)):∃a o vs n,v= .ref a/\Z a=ae o/\o.cls= .ref G.ent/\o.data= .seq vs n/\bW G Z vs.toList xs:=by cases h with|ent e c d r=>exact ⟨_,_,_,_,rfl,e,c,d,r⟩
theorem i7{ts:List bH}{kk:Nat}{xs:List V}(h:H1 k mu env ts xs Ψ):mK k mu env (.Tuple ts kk p) (.tup xs) Ψ:=⟨λ{A E Z s fr v Q} hA r hv q=>by
 refine dK (hv.tup_inv) λa o vs n eT e hc hd hr=>?_;subst eT;have hT:s.heap.IsTuple a vs:=⟨_,r.zin _ _ e,hc,_,hd⟩;have hn:(jB ts env).length=vs.size:=(nB ts).trans (h.len.trans hr.length.symm);exact wpAny_assign_Tuple hA.hh hT hn (o9 h.plain) λh' hx=>h.c hA (r.keep (tk:=s.toks) λb o e=>hx b o (c8 (bN e)) e) hr q⟩
theorem bC(h:Φ .next mu):WS k mu env [] Φ:=⟨λ{z z z z z z} hA r q=>wpAny_execs_nil (q .rfl .next r h)⟩
noncomputable def thenS(k:Nat)(env:gV)(rest:List d6)(Φ:AF->Mu->Prop):AF->Mu->Prop
 | .next,nu=>WS k nu env rest Φ
 |f,nu=>Φ f nu
@[elab_as_elim] theorem o7.by{P:uk->AF->Prop}{f:uk}{a:AF}(h:o7 G Z f a)(n:P .next .next)(b:P .brk .brk)(c:P .cont .cont)(r:∀v x,aZ G Z v x->P (.ret v) (.ret x)):P f a:=
 o7.rec (motive:=λf a z=>P f a) n b c (λ{v x} h=>r v x h) h
theorem aC{st:d6}{rest:List d6}(h:WX k mu env st (thenS k env rest Φ)):WS k mu env (st::rest) Φ:=⟨λ{z z z z z z} hA r q=>by
 with_reducible refine ra ?_
 refine h.c hA r λ{f s1 Z1 a nu} z1 f1 r1 w=>?_
 revert w
 exact o7.by f1 (λw=>WF.c (show WS k nu env rest Φ from w) hA r1 λ{z z z z z} z2=>q (z1.trans z2)) (q z1 .brk r1) (q z1 .cont r1) λv x hv=>q z1 (.ret hv) r1⟩
theorem cf{Θ:V->Mu->Prop}(h:PE k mu env e y)(hΘ:Θ y mu):WE k mu env e Θ:=⟨λ{z z z z z z} hA r q=>h.c hA r λ{z z z} a b c=>q a b c hΘ⟩
theorem b4{pos:jX}{t:bH}(hv:WE k mu env e λy nu=>mK k nu env t y (Φ .next))(hs:wC [t] e pos.line env=dg aH)(hw:wD [t] e env=dg av)
 (ht:autoParam (jB [t] env=[(aH,wB t env)]) aR):WX k mu env (.Assign [t] e pos) Φ:=⟨λ{z z z z z z} hA r q=>by
 with_reducible refine EX ?_ hs hw
 refine aj (ht ..) ?_;exact hv.c hA r λ{z z z z z} z1 q1 r1 w=>w.c hA r1 q1 λ{z z z} z2=>q (z1.trans z2) .next⟩
theorem bX{pos:jX}{t:bH}(hv:PE k mu env e y)(ha:mK k mu env t y (Φ .next))(hs:wC [t] e pos.line env=dg aH)(hw:wD [t] e env=dg av)
 (ht:autoParam (jB [t] env=[(aH,wB t env)]) aR):WX k mu env (.Assign [t] e pos) Φ:=b4 (cf hv ha) hs hw ht
theorem ig{pos:jX}(h:WE k mu env e λz nu=>Φ .next nu)(hi:autoParam (interactive env=aH) aR)(hs:autoParam (xp e av pos.line env=dg aH) aR):WX k mu env (.Expr e pos) Φ:=⟨λ{z z z z z z} hA r q=>by
 with_reducible refine wpAny_Expr_any ?_ hi hs
 exact h.c hA r λ{z z z z z} z1 z=>q z1 .next⟩
theorem gw{pos:jX}(h:WE k mu env e λy nu=>Φ (.ret y) nu):WX k mu env (.Return (ae e) pos) Φ:=⟨λ{z z z z z z} hA r q=>by
 with_reducible refine wpAny_Return_some ?_
 exact h.c hA r λ{z z z z z} z1 q1=>q z1 (.ret q1)⟩
theorem Ru{pos:jX}(h:Φ .brk mu):WX k mu env (.Break pos) Φ:=⟨λ{z z z z z z} hA r q=>wpAny_Break (q .rfl .brk r h)⟩
theorem G6{pos:jX}(h:Φ .cont mu):WX k mu env (.Continue pos) Φ:=⟨λ{z z z z z z} hA r q=>wpAny_Continue (q .rfl .cont r h)⟩
structure Wt(k:Nat)(mu:Mu)(t:mF Bool)(Θ:Bool->Mu->Prop):Prop where
 c:∀{A:bh} {E:ai->aq->Prop} {Z:bI} {s:aq} {fr:Mu} {Q:Bool->aq->Prop},Rm k A->R Z (mu++fr) s->
  (∀{b s' Z' nu},Z.le Z'->R Z' (nu++fr) s'->Θ b nu->Q b s')->aS (aX G.prog G.w) A t Q E s
abbrev WT(k:Nat)(mu:Mu)(env:gV)(e:bH)(Θ:Bool->Mu->Prop):Prop:=Wt k mu (isTrue e env (dW e env)) Θ
theorem PT.wt{Θ:Bool->Mu->Prop}(h:PT k mu env e b)(hΘ:Θ b mu):WT k mu env e Θ:=⟨λ{z z z z z z} hA r q=>h.c hA r λ{z z} z1 r1=>q z1 r1 hΘ⟩
noncomputable def brP:Bool->Prop->Prop->Prop
 |true,p,_=>p
 |false,_,q=>q
theorem xU{pos:jX}{body orelse:List d6}(h:WT k mu env e λc nu=>brP c (WS k nu env body Φ) (WS k nu env orelse Φ)):WX k mu env (.If e body orelse pos) Φ:=⟨λ{z z z z z z} hA r q=>by
 with_reducible refine wpAny_If ?_
 refine h.c hA r λ{c s1 Z1 nu} z1 r1 w=>?_;cases c with
 |true=>exact WF.c (show WS k nu env body Φ from w) hA r1 λ{z z z z z} z2=>q (z1.trans z2)
 |false=>exact WF.c (show WS k nu env orelse Φ from w) hA r1 λ{z z z z z} z2=>q (z1.trans z2)⟩
theorem iY{pos:jX}{body orelse:List d6}(h:PT k mu env e b)(h1:b=aI->WS k mu env body Φ)(h2:b=aH->WS k mu env orelse Φ):WX k mu env (.If e body orelse pos) Φ:=
 xU (h.wt (by cases b;exact h2 rfl;exact h1 rfl))
structure CS(I:ay)(ctx:Mu)(t:bH)(xs:List V)(it:Nat->cX):Prop where
 item:∀(i:Nat) (x:V),xs[i]? =ae x->∀{A:bh} {E:ai->aq->Prop} {Z:bI} {s:aq} {fr:Mu} {Q:Option ai->aq->Prop},Rm 1 A->(∀o∈ctx,o∈fr)->R Z (it i::fr) s->
  (∀{v s1},(∀{E:ai->aq->Prop} {T:Unit->aq->Prop},(∀{s2 Z'},Z.le Z'->aZ G Z' v x->R Z' (it (i+1)::fr) s2->T () s2)->aS (aX G.prog G.w) A (kJ t (.ref I) v) T E s1)->Q (ae v) s1)->
  wpAny (aX G.prog G.w) A (l0 (.ref I)) Q E s
 done:∀{A:bh} {E:ai->aq->Prop} {Z:bI} {s:aq} {fr:Mu} {Q:Option ai->aq->Prop},Rm 1 A->(∀o∈ctx,o∈fr)->R Z (it xs.length::fr) s->
  (∀{s1 Z'},Z.le Z'->R Z' fr s1->Q av s1)->aS (aX G.prog G.w) A (l0 (.ref I)) Q E s
 self:∀(i:Nat) {A:bh} {E:ai->aq->Prop} {Z:bI} {s:aq} {fr:Mu} {Q:ai->aq->Prop},Rm 1 A->R Z (it i::fr) s->
  (∀{s1},R Z (it i::fr) s1->Q (.ref I) s1)->aS (aX G.prog G.w) A (rb (.ref I)) Q E s
structure pd(k:Nat)(mu:Mu)(env:gV)(e t:bH)(ctx:Mu)(xs:List V):Prop where
 has:∀o∈ctx,o∈mu
 c:∀{A:bh} {E:ai->aq->Prop} {Z:bI} {s:aq} {fr:Mu} {Q:ai->aq->Prop},Rm k A->R Z (mu++fr) s->
  (∀{I it s' Z'},CS I ctx t xs it->Z.le Z'->R Z' (it 0::(mu++fr)) s'->Q (.ref I) s')->
  wpAny (aX G.prog G.w) A (dW e env) (λx s1=>aS (aX G.prog G.w) A (rb x) Q E s1) E s
noncomputable def kW(Inv:Mu->Prop)(Φ:AF->Mu->Prop):AF->Mu->Prop
 | .next,nu=>Inv nu
 | .cont,nu=>Inv nu
 | .brk,nu=>Φ .next nu
 | .ret y,nu=>Φ (.ret y) nu
noncomputable def oN(T:uk->aq->Prop)(P:aq->Prop):uk->aq->Prop
 | .next,s=>P s
 | .cont,s=>P s
 | .brk,s=>T .next s
 | .ret v,s=>T (.ret v) s
theorem oN.of{T:uk->aq->Prop}{P:aq->Prop}{fr:Mu}{Inv:Mu->Prop}{f:uk}{a:AF}(h:o7 G Z f a)(w:kW Inv Φ a nu)(hn:Inv nu->P s)(hq:∀{g c},o7 G Z g c->Φ c nu->T g s):oN T P f s:=by
 revert w
 exact o7.by h hn (hq .next) hn λv x hv=>hq (.ret hv)
structure ForT(prog:dB)(w:d9)(A:bh)(env:gV)(target:bH)(body orelse:List d6)(it:ai)(T:uk->aq->Prop)(P:aq->Prop)(s:aq):Prop where
 c:∀{E:ai->aq->Prop} {Q:Option ai->aq->Prop},(∀{s1},(∀{E:ai->aq->Prop},aS (aX prog w) A (Jx orelse env) T E s1)->Q av s1)->
  (∀{v s1},(∀{E:ai->aq->Prop},aS (aX prog w) A (kJ target it v) (λz s2=>aS (aX prog w) A (wB target env v) (λz s3=>aS (aX prog w) A (Jx body env) (oN T P) E s3) E s2) E s1)->Q (ae v) s1)->
  wpAny (aX prog w) A (l0 it) Q E s
theorem BL{prog:dB}{w:d9}{A:bh}{E:ai->aq->Prop}{target:bH}{body orelse:List d6}{it:ai}{T:uk->aq->Prop}(I:Nat->aq->Prop)
 (turn:∀n s,I n s->ForT prog w A env target body orelse it T (λs'=>∃m,m < n/\I m s') s) (n:Nat) (h:I n s):
 iV (aX prog w) A (.forLoop target it body orelse env) (λr s'=>match r with| .ok f=>T f s'| .error e=>GR (aX prog w) A env E e s') s:=
 codeAny_forLoop_any I (λn s hI=>(turn n s hI).c (λ{z} h=>h) λ{v s1} h=>eR h (λz s2 h=>eR h (λz s3 h=>eR h (λf s4 h=>by cases f <;> exact h) λz z e=>e) λz z e=>e) λz z e=>e) n h
structure BM(Z:bI)(Inv:Nat->Mu->Prop)(m:Nat)(it:Nat->cX)(fr:Mu)(n:Nat)(s':aq):Prop where
 ex:∃i Z' nu,n=m+1 - i/\i<=m/\Z.le Z'/\R Z' (it i::(nu++fr)) s'/\Inv i nu
theorem BM.lt{Inv:Nat->Mu->Prop}{m:Nat}{it:Nat->cX}{fr:Mu}{s':aq}{i:Nat}{Z':bI}(hi:i < m)(z:Z.le Z')(r:R Z' (nu++(it (i+1)::fr)) s')(h:Inv (i+1) nu):∃n,n < m+1 - i/\BM Z Inv m it fr n s':=
 ⟨m+1 - (i+1),Nat.sub_lt_sub_left (cI hi) (jf _),⟨i+1,Z',nu,rfl,hi,z,r.perm cu,h⟩⟩
@[elab_as_elim] theorem BM.by{P:Nat->Prop}{Inv:Nat->Mu->Prop}{m:Nat}{it:Nat->cX}{fr:Mu}{n:Nat}{s':aq}(h:BM Z Inv m it fr n s')(item:∀{i Z' nu},i < m->Z.le Z'->R Z' (it i::(nu++fr)) s'->Inv i nu->P (m+1 - i))
 (done:∀{Z' nu},Z.le Z'->R Z' (it m::(nu++fr)) s'->Inv m nu->P (m+1 - m)):P n:=by
 refine g6 (h.ex) λi Z' nu gi hi z r inv=>?_;subst gi;rcases Nat.lt_or_eq_of_le hi with h|rfl
 ·exact item h z r inv
 ·exact done z r inv
theorem G7{A:bh}{E:ai->aq->Prop}{I:ay}{it:Nat->cX}{fr:Mu}{Z1:bI}{Q:uk->aq->Prop}{t:bH}{body orelse:List d6}{ctx:Mu}{xs:List V}(Inv:Nat->Mu->Prop)(hit:CS I ctx t xs it)(hk:1<=k)(h0:Inv 0 mu)(q7:∀i nu,Inv i nu->∀o∈ctx,o∈nu)
 (step:∀i x nu,xs[i]? =ae x->Inv i nu->mK k nu env t x λru=>WS k ru env body (kW (Inv (i+1)) Φ)) (fin:∀nu,Inv xs.length nu->WS k nu env orelse Φ) (hA:Rm k A) (z1:Z.le Z1) (r:R Z1 (it 0::(mu++fr)) s)
 (q:∀{f s' Z' a nu},Z.le Z'->o7 G Z' f a->R Z' (nu++fr) s'->Φ a nu->Q f s'):iV (aX G.prog G.w) A (.forLoop t (.ref I) body orelse env) (λr s'=>match r with| .ok f=>Q f s'| .error e=>GR (aX G.prog G.w) A env E e s') s:=by
 refine BL (BM Z Inv xs.length it fr) (λn s' h=>h.by ?_ ?_) (xs.length+1) ⟨0,Z1,mu,rfl,gp _,z1,r,h0⟩
 ·intro i Z' nu hi z r inv;refine ⟨λ{y y} hn hs=>hit.item i _ (bJ hi) (hA.le hk) (λo ho=>aE _ (q7 i nu inv o ho)) r λ{v s3} h3=>hs (h3 λ{s4 Z4} z4 hv r4=>?_)⟩;refine (step i _ nu (bJ hi) inv).c hA (r4.perm cu.symm) hv λ{s5 Z5 nu5} z5 r5 w5=>w5.c hA r5 λ{f s6 Z6 a nu6} z6 f6 r6 w6=>oN.of (fr:=fr) f6 w6 (BM.lt hi (z.trans (z4.trans (z5.trans z6))) r6) λ{y y} hg=>q (z.trans (z4.trans (z5.trans z6))) hg (R.drop (r6.perm cu))
 ·intro Z' nu z r inv;exact ⟨λ{y y} hn hs=>hit.done (hA.le hk) (λo ho=>aE _ (q7 _ nu inv o ho)) r λ{y y} z3 r3=>hn ((fin nu inv).c hA r3 λ{y y y y y} z4=>q (z.trans (z3.trans z4)))⟩
theorem jN{pos:jX}{t:bH}{body orelse:List d6}{ctx:Mu}{xs:List V}(Inv:Nat->Mu->Prop)(src:pd k mu env e t ctx xs)(hk:1<=k)(h0:Inv 0 mu)(q7:∀i nu,Inv i nu->∀o∈ctx,o∈nu)
 (step:∀i x nu,xs[i]? =ae x->Inv i nu->mK k nu env t x λru=>WS k ru env body (kW (Inv (i+1)) Φ))
 (fin:∀nu,Inv xs.length nu->WS k nu env orelse Φ) (hf:autoParam (∀x,bw e env x=dg x) aR):WX k mu env (.For t e body orelse pos) Φ:=⟨λ{A E Z s fr Q} hA r q=>by
 with_reducible refine wpAny_For ?_ hf
 exact src.c hA r λ{z z z z} hit z2 r2=>G7 Inv hit hk h0 q7 step fin hA z2 r2 q⟩
structure WhI(Z:bI)(Inv:Nat->Mu->Prop)(fr:Mu)(n:Nat)(s':aq):Prop where
 ex:∃Z' nu,Z.le Z'/\R Z' (nu++fr) s'/\Inv n nu
theorem H2{prog:dB}{w:d9}{A:bh}{E:ai->aq->Prop}{test:bH}{body orelse:List d6}{T:uk->aq->Prop}(I:Nat->aq->Prop)
 (turn:∀n s,I n s->∀{E:ai->aq->Prop} {Q:Bool->aq->Prop},(∀{s1},(∀{E:ai->aq->Prop},aS (aX prog w) A (Jx body env) (oN T λs'=>∃m,m < n/\I m s') E s1)->Q aI s1)->
  (∀{s1},(∀{E:ai->aq->Prop},aS (aX prog w) A (Jx orelse env) T E s1)->Q aH s1)->aS (aX prog w) A (isTrue test env (dW test env)) Q E s) (n:Nat) (h:I n s):
 iV (aX prog w) A (.whileLoop test body orelse env) (λr s'=>match r with| .ok f=>T f s'| .error e=>GR (aX prog w) A env E e s') s:=
 codeAny_whileLoop I (λn s hI=>turn n s hI (λ{z} h=>(if_pos rfl).symm▸eR h (λf s4 h=>by cases f <;> exact h) λz z e=>e) λ{z} h=>(if_neg cF).symm▸h) n h
theorem xV{pos:jX}{body orelse:List d6}(Inv:Nat->Mu->Prop)(n:Nat)(h0:Inv n mu)
 (turn:∀n nu,Inv n nu->WT k nu env e λc ru=>brP c (WS k ru env body (kW (λue=>∃m,m < n/\Inv m ue) Φ)) (WS k ru env orelse Φ)):WX k mu env (.While e body orelse pos) Φ:=⟨λ{A E Z s fr Q} hA r q=>by
 with_reducible refine wpAny_While ?_
 refine H2 (WhI Z Inv fr) (λn s' h=>?_) n ⟨Z,mu,.rfl,r,h0⟩;intro E Q2 ht hf;refine cC (h.ex) λZ' nu z r inv=>(turn n nu inv).c hA r λ{c s1 Z1 ru} z1 r1 w1=>?_;cases c with
 |true=>exact ht (WF.c (show WS k ru env body _ from w1) hA r1 λ{f s2 Z2 a ue} z2 f2 r2 w2=>oN.of (fr:=fr) f2 w2 (λ⟨m,hm,hi⟩=>⟨m,hm,⟨Z2,ue,z.trans (z1.trans z2),r2,hi⟩⟩) λ{y y} hg=>q (z.trans (z1.trans z2)) hg r2)
 |false=>exact hf (WF.c (show WS k ru env orelse Φ from w1) hA r1 λ{y y y y y} z2=>q (z.trans (z1.trans z2)))⟩
end
variable {t:bH}{xs:List V}
noncomputable def BN:List String:=["enumerate","zip","dict_itemiterator","dict_reverseitemiterator","odict_iterator","itertools.zip_longest","itertools.pairwise"]
theorem FE{M:zG}{A:bh}{E:ai->aq->Prop}{s:aq}{t:bH}{x:bb}{p:jX}{I:ay}{v:ai}{Q:Unit->aq->Prop}(h:Q () s):aS M A (kJ (.Name x p) (.ref I) v) Q E s:=ar h
theorem wM{M:zG}{A:bh}{E:ai->aq->Prop}{s:aq}{t:bH}{I:ay}{v:ai}{n:String}{o:o6}{Q:Unit->aq->Prop}(ho:s.heap.get? I=ae o)(hc:o.cls= .type n)
 (hn:BN.contains n=aH) (h:Q () s):aS M A (kJ t (.ref I) v) Q E s:=by
 have key:∀a:ay,aS M A (do
  let o <- load I
  match o.cls,o.data with
  | .type n,.fields vs=>
   if BN.contains n && vs[0]? == ae (pE a) then
    rule "for.unpacks-the-owned-tuple"
    updateField I 0 .none
  |_,_=>dg ():mF Unit) Q E s:=λa=>by
  refine ag (TA ho ?_);obtain ⟨cls,d,data,sl⟩:=o;subst hc;cases data <;> first|exact ar h|(simp only [hn,Bool.false_and,dj,if_false];exact ar h)
 unfold kJ;cases t <;> first|exact ar h|(cases v <;> first|exact ar h|exact key _)
noncomputable def itW(I:ay)(fp:List ay)(Zf:bI)(Ff:∀b∈fp,b≠I->∃o,Zf b=ae o)(St:dH->Prop)
 (GF:∀h h',St h->(∀b∈fp,∀o,h.get? b=ae o->h'.get? b=ae o)->St h') (hl:∀h,St h->∃o,h.get? I=ae o):cX where
 own:=[I]
 sat:=λZ h=>Zf.le Z/\St h
 mono:=λZ Z' h hz ⟨a,b⟩=>⟨bI.le_trans a hz,b⟩
 loc:=λZ h h' ⟨a,b⟩ hk hz MX=>⟨a,GF h h' b λc hc o e=>by
  by_cases hI:c=I
  ·subst hI;exact hk c aa o e
  ·refine cJ (Ff c hc hI) λo' Ug=>?_;have h1:=hz c o' (a _ _ Ug);rw [e] at h1;(have lA:=aO h1;clear h1;subst lA);exact MX c _ (a _ _ Ug)⟩
 live:=λZ h ⟨a,b⟩ c hc=>by simp at hc;subst hc;exact hl h b
theorem CS.ofWalks{I:ay}{fp:List ay}{n:Nat}{P:Nat->ai->Prop}{St:Nat->dH->Prop}{Zf:bI}{c:String}(W:∀A:bh,A.handled=av->Walks G.prog G.w A I fp [I] n P St)(hn:xs.length=n)
 (Ff:∀b∈fp,b≠I->∃o,Zf b=ae o) (hP:∀i v x,xs[i]? =ae x->P i v->aZ G Zf v x) (hc:∀i h,St i h->∃o,h.get? I=ae o/\o.cls= .type c) (hcn:BN.contains c=aH):
 CS I [] t xs λi=>itW I fp Zf Ff (St i) ((W {} rfl).frame i) λh s=>(hc i h s).imp λz q=>q.1 where
 item:=λi x hx {A E Z s fr Q} hA z r q=>by
  have hs:=r.sat _ aa;exact (W A hA.hh).item i s _ E (hn▸(aB.mp hx).1) hs.2 λv h' tk hp hst' hk=>q λ{E T} p=>aK (hc _ _ hst') λo ho hcl=>wM (s:={s with heap:=h',toks:=tk}) ho hcl hcn (p .rfl ((hP i v x hx hp).mono hs.1) (r.upd' (x':=itW I fp Zf Ff (St (i+1)) ((W {} rfl).frame _) _) (i:=0) (h':=h') (tk:=tk) rfl rfl hk ⟨hs.1,hst'⟩))
 done:=λ{A E Z s fr Q} hA z r q=>by
  have hs:=r.sat _ aa;rw [hn] at hs;exact (W A hA.hh).done s _ E hs.2 λh' tk hk=>q .rfl (r.dropUpd hk)
 self:=λi {A E Z s fr Q} hA r q=>(W A hA.hh).self i s _ E (r.sat _ aa).2 (q r)
variable {Ps:List (Vw)}{pos:jX}{A:bh}{E:ai->aq->Prop}
inductive j3(Z:bI):List ai->List (Vw)->Prop
 |nil:j3 Z [] []
 |cons {v vs P Ps:_}:P.p Z v->j3 Z vs Ps->j3 Z (v::vs) (P::Ps)
section
variable {vs:List ai}
theorem j3.cons_inv(h:j3 Z vs (P::Ps)):∃v rt,vs=v::rt/\P.p Z v/\j3 Z rt Ps:=by cases h with|cons a r=>exact ⟨_,_,rfl,a,r⟩
theorem j3.none(h:j3 Z vs ([]:List (Vw))):vs=[]:=by cases h;rfl
theorem j3.one(h:j3 Z vs [P]):∃v,vs=[v]/\P.p Z v:=
 h.cons_inv.imp λv w=>w.elim λz w=>⟨w.2.2.none▸w.1,w.2.1⟩
theorem j3.two(h:j3 Z vs [P,Q]):∃v u,vs=[v,u]/\P.p Z v/\Q.p Z u:=
 by obtain ⟨v,_,rfl,a,r⟩:=h.cons_inv;obtain ⟨u,rfl,b⟩:=r.one;exact ⟨v,u,rfl,a,b⟩
theorem j3.three(h:j3 Z vs [P,Q,S]):∃v u w,vs=[v,u,w]/\P.p Z v/\Q.p Z u/\S.p Z w:=
 by obtain ⟨v,_,rfl,a,r⟩:=h.cons_inv;obtain ⟨u,w,rfl,b,c⟩:=r.two;exact ⟨v,u,w,rfl,a,b,c⟩
end
theorem gF{Z:bI}{v:ai}{i:Int}(h:(bZ (.int i):Vw).p Z v):∃t,v= .int i t:=aZ.is h
theorem gU{Z:bI}{v:ai}{x:bb}(h:(bZ (.str x):Vw).p Z v):∃t,v= .str x t:=aZ.is h
structure tD(k:Nat)(mu:Mu)(env:gV)(es:List bH)(Ps:List (Vw)):Prop where
 len:es.length=Ps.length
 plain:∀pos,(lj pos (fo es env)).any (·.1)=aH
 c:∀{A:bh} {E:ai->aq->Prop} {Z:bI} {s:aq} {fr:Mu} {pos:jX} {Q:List ai->aq->Prop},Rm k A->R Z (mu++fr) s->
  (∀{vs s' Z'},Z.le Z'->j3 Z' vs Ps->R Z' (mu++fr) s'->Q vs s')->aS (aX G.prog G.w) A (spliced (lj pos (fo es env))) Q E s
structure Fn(k:Nat)(mu:Mu)(f:ai)(Ps:List (Vw))(S:Vw):Prop where
 c:∀{A:bh} {E:ai->aq->Prop} {Z:bI} {s:aq} {fr:Mu} {vs:List ai} {Q:ai->aq->Prop},Rm k A->R Z (mu++fr) s->j3 Z vs Ps->
  (∀{w s' Z'},Z.le Z'->S.p Z' w->R Z' (mu++fr) s'->Q w s')->aS (aX G.prog G.w) A (ku f vs) Q E s
section
variable {p':jX}{o:bH}{es:List bH}{fr:Mu}{Q:ai->aq->Prop}
theorem aT:tD k mu env [] []:=⟨rfl,λz=>rfl,λ{z z z z z z z} hA r q=>ar (q .rfl .nil r)⟩
theorem et(hs:∀a p,e≠ .Starred a p):fo (e::es) env=(aH,dW e env)::fo es env:=by cases e <;> first|rfl|exact absurd rfl (hs _ _)
theorem au(h:EV k mu env e P)(hr:tD k mu env es Ps)(hs:∀a p,e≠ .Starred a p:=by intro z z h;cases h):tD k mu env (e::es) (P::Ps):=
 ⟨congrArg xn hr.len,λpos=>by
  refine aj (et hs ..) ?_;exact hr.plain pos,λ{A E Z s fr pos Q} hA r q=>by
  refine aj (et hs ..) ?_;show aS _ A (dW e env >>=λv=>eV [v] (spliced (lj pos (fo es env))) >>=λr=>dg ([v]++r)) Q E s;exact ag (h.c hA r λ{z z z} z1 p1 r1=>ag (bE (hr.c hA r1 λ{z z z} z2 p2 r2=>ar (q (z1.trans z2) (.cons (P.mono _ _ _ z2 p1) p2) r2))))⟩
theorem tD.any(ha:tD k mu env (e::es) Ps)(hs:∀a p,e≠ .Starred a p):(lj pos ((aH,dW e env)::fo es env)).any (·.1)=aH:=et hs▸ha.plain pos
theorem BO{id:String}(hf:PE k mu env (.Name x p) (.bi id))(ha:tD k mu env (e::es) Ps)(hs:∀a p,e≠ .Starred a p)(hA:Rm k A)(r:R Z (mu++fr) s)
 (h:∀{vs s' Z'},Z.le Z'->j3 Z' vs Ps->R Z' (mu++fr) s'->aS (aX G.prog G.w) A (ku (.builtin id) vs) Q E s'):aS (aX G.prog G.w) A (dW (.Call (.Name x p) (e::es) [] pos) env) Q E s:=by
 with_reducible refine gB ?_
 exact hf.c hA r λ{f s1 Z1} z1 q1 r1=>aj (aZ.biE q1 ..) (EY (ha.c hA r1 λ{z z z} z2 q2 r2=>h (z1.trans z2) q2 r2) (et hs) (ha.any hs))
theorem sA{T:String}(hf:PE k mu env (.Name x p) (.type T))(ha:tD k mu env (e::es) Ps)(hs:∀a p,e≠ .Starred a p)(hA:Rm k A)(r:R Z (mu++fr) s)
 (h:∀{vs s' Z'},Z.le Z'->j3 Z' vs Ps->R Z' (mu++fr) s'->aS (aX G.prog G.w) A (ku (.type T) vs) Q E s'):aS (aX G.prog G.w) A (dW (.Call (.Name x p) (e::es) [] pos) env) Q E s:=by
 with_reducible refine gB ?_
 exact hf.c hA r λ{f s1 Z1} z1 q1 r1=>aj (aZ.typeE q1 ..) (PyProof.Rows.callWith_type1 (ha.c hA r1 λ{z z z} z2 q2 r2=>h (z1.trans z2) q2 r2) (et hs) (ha.any hs))
theorem Oe{a:ay}{ob:o6}{fd:cm}(hf:PE k mu env (.Name x p) (.ref a))(h0:G.Z0 a=ae ob)(hd:ob.data= .func fd)(ha:tD k mu env (e::es) Ps)(hs:∀a p,e≠ .Starred a p)(hA:Rm k A)(r:R Z (mu++fr) s)
 (h:∀{vs s' Z'},Z.le Z'->j3 Z' vs Ps->R Z' (mu++fr) s'->aS (aX G.prog G.w) A (ku (.ref a) vs) Q E s'):aS (aX G.prog G.w) A (dW (.Call (.Name x p) (e::es) [] pos) env) Q E s:=by
 with_reducible refine gB ?_
 exact hf.c hA r λ{f s1 Z1} z1 q1 r1=>aj (aZ.refE q1 ..) (iJ hd (ha.c hA r1 λ{z z z} z2 q2 r2=>⟨r2.z0in _ _ h0,h (z1.trans z2) q2 r2⟩) (et hs))
theorem ej{id:String}(hf:PE k mu env (.Name x p) (.bi id))(ha:tD k mu env (e::es) Ps)(hF:Fn k mu (.builtin id) Ps S)(hs:∀a p,e≠ .Starred a p:=by intro z z h;cases h):
 EV k mu env (.Call (.Name x p) (e::es) [] pos) S:=⟨λ{z z z z z z} hA r q=>BO hf ha hs hA r λ{z z z} z2 q2 r2=>hF.c hA r2 q2 λ{z z z} z3=>q (z2.trans z3)⟩
theorem iZ{T:String}(hf:PE k mu env (.Name x p) (.type T))(ha:tD k mu env (e::es) Ps)(hF:Fn k mu (.type T) Ps S)(hs:∀a p,e≠ .Starred a p:=by intro z z h;cases h):
 EV k mu env (.Call (.Name x p) (e::es) [] pos) S:=⟨λ{z z z z z z} hA r q=>sA hf ha hs hA r λ{z z z} z2 q2 r2=>hF.c hA r2 q2 λ{z z z} z3=>q (z2.trans z3)⟩
theorem Kj{a:ay}{ob:o6}{fd:cm}(hf:PE k mu env (.Name x p) (.ref a))(h0:G.Z0 a=ae ob)(hd:ob.data= .func fd)(ha:tD k mu env (e::es) Ps)(hF:Fn k mu (.ref a) Ps S)(hs:∀a p,e≠ .Starred a p:=by intro z z h;cases h):
 EV k mu env (.Call (.Name x p) (e::es) [] pos) S:=⟨λ{z z z z z z} hA r q=>Oe hf h0 hd ha hs hA r λ{z z z} z2 q2 r2=>hF.c hA r2 q2 λ{z z z} z3=>q (z2.trans z3)⟩
structure Ty(mu:Mu)(P:Vw)(T:String):Prop where
 run:∀(Z:bI) (s:aq) (fr:Mu) (v:ai),R Z (mu++fr) s->P.p Z v->s.TypeIs v T/\∀a,v= .ref a->∃ob,s.heap.get? a=ae ob/\ob.dict=av
theorem mL{a:bb}:Ty mu (bZ (.str a)) "str":=⟨λZ s fr v r h=>aZ.strC h λz=>⟨rfl,λa e=>nomatch e⟩⟩
theorem Ty.at{T:String}{a:ay}{o:o6}(ho:s.heap.get? a=ae o)(hc:o.cls= .type T)(hd:o.dict=av):s.TypeIs (.ref a) T/\∀b,cY a= .ref b->∃ob,s.heap.get? b=ae ob/\ob.dict=av:=
 ⟨⟨_,ho,hc⟩,λb e=>⟨o,Value.ref.inj e▸ho,hd⟩⟩
theorem G8:Ty mu (me mu xs) "list":=⟨λZ s fr v r ⟨a,e,q⟩=>by
 exact eD (q Z s .rfl r.left) λvs n h1 h2=>e▸Ty.at h1 rfl rfl⟩
theorem tD.unstar(ha:tD k mu env (e::es) Ps):∀a p,e≠ .Starred a p:=λa p he=>by
 subst he;exact EZ (ha.plain ⟨0,0,0,0⟩)
theorem BP{id T:String}{name:bb}{apos:jX}(ho:EV k mu env o P)(ht:Ty mu P T)(hpl:(lj pos (fo es env)).any (·.1)=aH)(pa:zu T)(slot:Slot T name id)
 (MY:jT (.builtin id)=dg (.type "method_descriptor")) (hl:(apos.endLine == pos.line)=aI) (hsz:es.length < 29) (so:ro o name env (dW o env)=dW o env) (hA:Rm k A) (r:R Z (mu++fr) s)
 (h:∀{v s' Z'},Z.le Z'->P.p Z' v->R Z' (mu++fr) s'->aS (aX G.prog G.w) A (pF pos (.builtin id) [v] (lj pos (fo es env)) []) Q E s'):aS (aX G.prog G.w) A (dW (.Call (.Attribute o name apos) es [] pos) env) Q E s:=by
 with_reducible refine wpAny_Call_method so ?_ hl pa slot MY ?_
 ·refine aj (show (lj pos (fo es env)).all (λx=>!x.1)=aI from fW.mpr λq hq=>by rw [CD,Bool.eq_false_iff];exact λh=>List.any_eq_false.mp hpl q hq h) ?_;exact decide_eq_true (show es.length+0+0 < 30 from cI hsz)
 exact ho.c hA r λ{ov s1 Z1} z1 q1 r1=>⟨(ht.run Z1 s1 fr ov r1 q1).1,(ht.run Z1 s1 fr ov r1 q1).2,h z1 q1 r1⟩
theorem Kk{id T:String}{name:bb}{apos:jX}(ho:EV k mu env o P)(ht:Ty mu P T)(ha:tD k mu env es Ps)(pa:zu T)(slot:Slot T name id)
 (MY:jT (.builtin id)=dg (.type "method_descriptor")) (hl:(apos.endLine == pos.line)=aI) (hsz:es.length < 29) (so:ro o name env (dW o env)=dW o env) (hA:Rm k A) (r:R Z (mu++fr) s)
 (h:∀{v vs s' Z'},Z.le Z'->j3 Z' (v::vs) (P::Ps)->R Z' (mu++fr) s'->aS (aX G.prog G.w) A (ku (.builtin id) (v::vs)) Q E s'):aS (aX G.prog G.w) A (dW (.Call (.Attribute o name apos) es [] pos) env) Q E s:=by
 refine BP ho ht (ha.plain pos) pa slot MY hl hsz so hA r λ{ov s1 Z1} z1 q1 r1=>callWith_builtin (ha.plain pos) ?_;have fin:∀{vs s2 Z2},Z1.le Z2->j3 Z2 vs Ps->R Z2 (mu++fr) s2->aS (aX G.prog G.w) A (ku (.builtin id) ([ov]++vs) []) Q E s2:=λ{z z z} z2 q2 r2=>h (z1.trans z2) (.cons (P.mono _ _ _ z2 q1) q2) r2;have hr:=ha.c (E:=E) (pos:=pos) hA r1 fin;cases es with
 |nil=>exact UE (fin .rfl (pD ha.len.symm▸.nil) r1)
 |cons e es=>rw [et ha.unstar] at hr ⊢;exact JA hr
theorem f7{id T:String}{name:bb}{apos:jX}(ho:EV k mu env o P)(ht:Ty mu P T)(ha:tD k mu env es Ps)(hF:Fn k mu (.builtin id) (P::Ps) S)(pa:zu T)(slot:Slot T name id)
 (MY:jT (.builtin id)=dg (.type "method_descriptor")) (hl:(apos.endLine == pos.line)=aI) (hsz:autoParam (es.length < 29) aD) (so:autoParam (ro o name env (dW o env)=dW o env) aR):
 EV k mu env (.Call (.Attribute o name apos) es [] pos) S:=⟨λ{z z z z z z} hA r q=>Kk ho ht ha pa slot MY hl hsz so hA r λ{z z z z} z1 q1 r1=>hF.c hA r1 q1 λ{z z z} z2=>q (z1.trans z2)⟩
end
noncomputable def itWT(wr fp:List ay)(Zf:bI)(Ff:∀b∈fp,b∉wr->∃o,Zf b=ae o)(St:dH->Prop)
 (GF:∀h h',St h->(∀b∈fp,∀o,h.get? b=ae o->h'.get? b=ae o)->St h') (hl:∀h,St h->∀b∈wr,∃o,h.get? b=ae o):cX where
 own:=wr
 sat:=λZ h=>Zf.le Z/\St h
 mono:=λZ Z' h hz ⟨a,b⟩=>⟨bI.le_trans a hz,b⟩
 loc:=λZ h h' ⟨a,b⟩ hk hz MX=>⟨a,GF h h' b λc hc o e=>by
  by_cases hI:c∈wr
  ·exact hk c hI o e
  ·refine cJ (Ff c hc hI) λo' Ug=>?_;have h1:=hz c o' (a _ _ Ug);rw [e] at h1;(have lA:=aO h1;clear h1;subst lA);exact MX c _ (a _ _ Ug)⟩
 live:=λZ h ⟨a,b⟩ c hc=>hl h b c hc
theorem CS.ofWalksT{I:ay}{wr fp:List ay}{n:Nat}{Pt:Nat->Array ai->Prop}{St:Nat->dH->Prop}{Mid:Nat->ay->dH->Prop}{Zf:bI}{elts:List bH}{kk:Nat}
 (W:∀A:bh,A.handled=av->WalksT G.prog G.w A I fp wr n Pt St Mid) (hn:xs.length=n)
 (Ff:∀b∈fp,b∉wr->∃o,Zf b=ae o) (hP:∀i bB x,xs[i]? =ae x->Pt i bB->∃ys,x= .tup ys/\bW G Zf bB.toList ys)
 (hl:∀i h,St i h->∀b∈wr,∃o,h.get? b=ae o):
 CS I [] (.Tuple elts kk p) xs λi=>itWT wr fp Zf Ff (St i) ((W {} rfl).frame i) (hl i) where
 item:=λi x hx {A E Z s fr Q} hA z r q=>by
  have hs:=r.sat _ aa;refine (W A hA.hh).item i s _ E (hn▸(aB.mp hx).1) hs.2 λT bB h' tk hp hT hTup hMid hk=>q λ{E2 T2} p=>(W A hA.hh).go elts kk _ i T {s with heap:=h',toks:=tk} _ E2 hMid λh'' hst'' hk''=>aK (hP i bB x hx hp) λys dO hys=>?_;subst dO;obtain ⟨o,ho,hc,m,hd⟩:=hTup;exact p (bI.le_put (r.fresh hT)) (.tup (bI.put_self ..) hc hd (hys.mono (hs.1.trans (bI.le_put (r.fresh hT)))))
   (R.freeze (r.upd' (x':=itWT wr fp Zf Ff (St (i+1)) ((W {} rfl).frame _) (hl _)) (i:=0) (h':=h'') (tk:=tk) rfl rfl (λb o hb e=>hk'' b o hb (hk b o hb e)) ⟨hs.1,hst''⟩) (hk'' T o ((W A hA.hh).apart i T h' hMid) ho) (r.fresh hT) (r.notOwn hT))
 done:=λ{A E Z s fr Q} hA z r q=>by
  have hs:=r.sat _ aa;rw [hn] at hs;exact (W A hA.hh).done s _ E hs.2 λh' tk hk=>q .rfl (r.dropUpd hk)
 self:=λi {A E Z s fr Q} hA r q=>(W A hA.hh).self i s _ E (r.sat _ aa).2 (q r)
theorem R.addNew{Z:bI}{s:aq}{mu:Mu}{h':dH}{tk:Nat}(r:R Z mu s)(x:cX)(hk:∀b o,s.heap.get? b=ae o->h'.get? b=ae o)(hx:x.sat Z h')(hn:x.own.Nodup)(ho:∀b∈x.own,s.heap.objs.size<=b):
 R Z (x::mu) {s with heap:=h',toks:=tk}:=(r.keep hk).add x hx hn λb hb=>⟨r.notOwn (ho b hb),r.fresh (ho b hb)⟩
theorem R.swap{Z:bI}{s:aq}{mu:Mu}{h':dH}{tk i:Nat}{a:cX}(r:R Z mu s)(hi:mu[i]? =ae a)(x:cX)(hk:∀b o,b∉a.own->s.heap.get? b=ae o->h'.get? b=ae o)(hx:x.sat Z h')(hn:x.own.Nodup)(ho:∀b∈x.own,b∈a.own\/s.heap.objs.size<=b):
 R Z (mu.set i x) {s with heap:=h',toks:=tk}:=by
 have r1:R Z (a::(mu.take i++mu.drop (i+1))) s:=R.perm (gh hi▸r) cu;refine aj (j0 _ hi ..) (((r1.dropUpd hk).add x hx hn λb hb=>(ho b hb).elim (λh=>⟨λh2=>?_,r1.sep b (aE (gT _) h)⟩) λh=>⟨λh2=>r1.notOwn h (bL a.own h2),r1.fresh h⟩).perm cu.symm);exact (bP.mp (show (a.own++gT (mu.take i++mu.drop (i+1))).Nodup from r1.nodup)).2.2 b h b h2 rfl
theorem eg{a:ay}:[a].Nodup:=cg.mpr ⟨eZ,.nil⟩
theorem kX{a b:ay}(h:b∈[a]):a<=b:=ll (aA.mp h).symm
theorem pO{Z:bI}{s:aq}{nu:Mu}{n:Nat}{P:Nat->ai->Prop}{St:Nat->dH->Prop}{c:String}{fp:List ay}{T:Prop}(r:R Z nu s)(W:∀A:bh,A.handled=av->Walks G.prog G.w A s.heap.objs.size fp [s.heap.objs.size] n P St)(hn:xs.length=n)
 (Ff:∀b∈fp,b≠s.heap.objs.size->∃o,Z b=ae o) (hP:∀i v x,xs[i]? =ae x->P i v->aZ G Z v x) (hc:∀i h,St i h->∃o,h.get? s.heap.objs.size=ae o/\o.cls= .type c) (hcn:BN.contains c=aH)
 {h':dH} (hk:∀b o,s.heap.get? b=ae o->h'.get? b=ae o) (h0:St 0 h') (q:∀{it:Nat->cX},CS s.heap.objs.size [] t xs it->R Z (it 0::nu) {s with heap:=h'}->T):T:=
 q (CS.ofWalks (Zf:=Z) W hn Ff hP hc hcn) (r.addNew (tk:=s.toks) _ hk ⟨.rfl,h0⟩ eg λz h=>kX h)
theorem vN{Z:bI}{I a:ay}{o:o6}(e:Z a=ae o):∀b∈[I,a],b≠I->∃o,Z b=ae o:=λb hb hn=>
 (aP.mp hb).elim (λq=>absurd q hn) λq=>⟨o,aA.mp q▸e⟩
theorem nC{Z:bI}{vs:Array ai}{i:Nat}{v:ai}{x:V}(hr:bW G Z vs.toList xs)(hx:xs[i]? =ae x)(hp:vs[i]? =ae v):aZ G Z v x:=by refine aK (hr.get hx) λv' h1 h2=>?_;cases hp.symm.trans (bV.symm.trans h1);exact h2
theorem b9{Z:bI}{vs:Array ai}(hr:bW G Z vs.toList xs):xs.length=vs.size:=hr.length.symm.trans eK
theorem Ay{Z:bI}{s:aq}{nu:Mu}{v:ai}{A:bh}{E Q:ai->aq->Prop}(r:R Z nu s)(h:aZ G Z v (.list xs))(q:∀{I it s'},CS I [] t xs it->R Z (it 0::nu) s'->Q (.ref I) s'):aS (aX G.prog G.w) A (rb v) Q E s:=by
 refine cE (rk.list h) λa vs n eT e1 hr=>?_;subst eT;have hL:s.heap.IsList a vs:=⟨_,r.zin _ _ e1,rfl,n,rfl⟩;exact lr hL (pO (c:="list_iterator") r (λA hh=>Walks.list hh s.heap.objs.size a (c8 (bN (r.zin _ _ e1))) vs) (b9 hr) (vN e1) (λi v x=>nC hr) (λi h hs=>hs.1.imp λz w=>⟨w.1,w.2.1⟩) (by decide)
  (λb o e=>az _ e) ⟨⟨_,aW _ rfl,rfl,rfl⟩,hL.at λo e=>az _ e⟩ q)
theorem dA(h:PE k mu env e (.list xs)):pd k mu env e t [] xs:=⟨λz h=>(eo h),λ{z z z z z z} hA r q=>h.c hA r λ{z z z} z1 q1 r1=>Ay r1 q1 λ{z z z} hit=>q hit z1⟩
theorem IsTuple.at{h h':dH}{a:ay}{vs:Array ai}(x:h.IsTuple a vs)(hk:∀o,h.get? a=ae o->h'.get? a=ae o):h'.IsTuple a vs:=x.imp λo w=>⟨hk o w.1,w.2⟩
theorem xC(h:PE k mu env e (.tup xs)):pd k mu env e t [] xs:=⟨λz h=>(eo h),λ{A E Z s fr Q} hA r q=>by
 refine h.c hA r λ{x s1 Z1} z1 q1 r1=>dK (aZ.tup_inv q1) λa o vs n gi e1 hc hd hr=>?_;subst gi;have hL:s1.heap.IsTuple a vs:=⟨_,r1.zin _ _ e1,hc,n,hd⟩;exact um hL (pO (c:="tuple_iterator") r1 (λA hh=>Walks.tuple hh s1.heap.objs.size a (c8 (bN (r1.zin _ _ e1))) vs) (b9 hr) (vN e1) (λi v x=>nC hr) (λi h hs=>hs.1.imp λz w=>⟨w.1,w.2.1⟩) (by decide)
  (λb o e=>az _ e) ⟨⟨_,aW _ rfl,rfl,rfl⟩,IsTuple.at hL λo e=>az _ e⟩ λ{z} hit r'=>q hit z1 r')⟩
noncomputable def rD(a b:Int):List V:=(aN (b - a).toNat).map λ(i:Nat)=> .int (a+i)
theorem tf(a b:Int):Builtin.Range.rangeSize a b 1=((b - a).toNat:Int):=by
 unfold Builtin.Range.rangeSize;refine aj (if_pos (by decide) ..) ?_
 split
 ·refine aj (Int.ediv_one ..) ?_;lia
 ·lia
theorem wN{a b:Int}(h1: -(2 ^ 60) < a)(h2:a < 2 ^ 60)(h3: -(2 ^ 60) < b)(h4:b < 2 ^ 60):E0 a b 1=aI:=by unfold E0;refine aj (tf ..) ?_;simp only [Builtin.Range.rangeFitsLong,dQ,jU,decide_eq_true_eq,beq_iff_eq];refine ⟨⟨⟨⟨⟨by lia,by exact rv (by assumption) (by decide)⟩,by lia,by exact rv (by assumption) (by decide)⟩,by lia,by lia⟩,by lia,by lia⟩,.inr ?_⟩;refine aj (if_pos (by decide) ..) ?_;simp only [dQ,decide_eq_true_eq];lia
theorem Of{I:ay}(a:Int)(n:Nat)(hl:xs.length=n)(hx:∀(i:Nat) (x:V),xs[i]? =ae x->x=V.int (a+i)){Zf:bI}:∃it:Nat->cX,CS I [] t xs it/\(it 0).own=[I]/\
 ∀(h:dH) (Z:bI),Zf.le Z->IsRangeIter h I a n 1->(it 0).sat Z h:=by
 refine ⟨_,CS.ofWalks (Zf:=Zf) (c:="range_iterator") (λA hh=>Walks.range hh I a 1 n) hl (λb hb hn=>absurd (aA.mp hb) hn) (λi v x h1 h2=>by
  refine cJ h2 λtk iC=>?_;clear h2;subst iC;(refine aj (hx i x h1 ..) ?_;refine aj (Int.mul_one ..) ?_);exact aZ.int _ _) (λi h hs=>⟨_,hs,rfl⟩) (by decide),rfl,λh Z hz hi=>⟨hz,?_⟩⟩
 show IsRangeIter h I (a+((0:Nat):Int)*1) ((n:Int) - ((0:Nat):Int)) 1;refine aj (show a+((0:Nat):Int)*1=a from P9 a) ?_;refine aj (show (n:Int) - ((0:Nat):Int)=n from Int.sub_zero _) ?_;exact hi
theorem FF(a b:Int):(rD a b).length=(b - a).toNat:=by exact (ak ..).trans fq
theorem FG(a b:Int):∀(i:Nat) (x:V),(rD a b)[i]? =ae x->x=V.int (a+i):=λi x h=>by
 unfold rD at h;rw [aJ] at h;refine aK (aL.mp h) λj hj kG=>?_;subst kG;have h2:=(aB.mp hj).2;simp at h2;subst h2;rfl
theorem xW{Z:bI}{s:aq}{nu:Mu}{a b:Int}{ob:o6}{A:bh}{E Q:ai->aq->Prop}{t1 t2 t3:HX}{tk:Nat}(r:R Z nu s)(ho:ob={cls:= .type "range",data:= .fields #[.int a t1,.int b t2,.int 1 t3]})
 (hs:E0 a b 1=aI) (q:∀{I it s'},CS I [] t (rD a b) it->R Z (it 0::nu) s'->Q (.ref I) s'):aS (aX G.prog G.w) A (rb (.ref s.heap.objs.size)) Q E {s with heap:=s.heap.push ob,toks:=tk}:=by
 subst ho;refine wpAny_pyIter_range (aW _ rfl) hs (aj (tf ..) ?_);refine ef (Of (t:=t) (I:=(s.heap.push {cls:= .type "range",data:= .fields #[.int a t1,.int b t2,.int 1 t3]}).objs.size) a (b - a).toNat (FF a b) (FG a b) (Zf:=Z)) λit hit qf GE=>q hit (r.addNew (it 0) (λb o e=>az _ (az _ e)) (GE _ _ .rfl (aW _ rfl)) (qf▸eg) λb hb=>?_);rw [qf] at hb;(refine aj (aA.mp hb ..) ?_;refine aj (fO ..) ?_);exact jC _
theorem qx{e1 e2:bH}{x:bb}{a b:Int}(hf:PE k mu env (.Name x p) (.type "range"))(h1:PE k mu env e1 (.int a))(h2:PE k mu env e2 (.int b))(ha: -(2 ^ 60) < a/\a < 2 ^ 60)(hb: -(2 ^ 60) < b/\b < 2 ^ 60)
 (zk:∀a p,e1≠ .Starred a p:=by intro z z h;cases h) (GG:∀a p,e2≠ .Starred a p:=by intro z z h;cases h):
 pd k mu env (.Call (.Name x p) [e1,e2] [] pos) t [] (rD a b):=⟨λz h=>(eo h),λ{A E Z s fr Q} hA r q=>by
 refine sA hf (au h1 (au h2 aT GG) zk) zk hA r λ{vs s2 Z2} z2 q2 r2=>cC (q2.two) λv1 v2 ma q5 q6=>?_;subst ma;refine aZ.intC q5 λt1=>aZ.intC q6 λt2=>?_
 with_reducible refine call_range_2 ?_
 exact xW r2 rfl (wN ha.1 ha.2 hb.1 hb.2) λ{z z z} hit=>q hit z2⟩
theorem FH{e1:bH}{x:bb}{b:Int}(hf:PE k mu env (.Name x p) (.type "range"))(h1:PE k mu env e1 (.int b))(hb: -(2 ^ 60) < b/\b < 2 ^ 60)
 (zk:∀a p,e1≠ .Starred a p:=by intro z z h;cases h):pd k mu env (.Call (.Name x p) [e1] [] pos) t [] (rD 0 b):=⟨λz h=>(eo h),λ{A E Z s fr Q} hA r q=>by
 refine sA hf (au h1 aT zk) zk hA r λ{vs s2 Z2} z2 q2 r2=>aK (q2.one) λv1 mE q5=>?_;subst mE;refine aZ.intC q5 λt1=>?_
 with_reducible refine call_range_1 ?_
 exact xW r2 rfl (wN (by decide) (by decide) hb.1 hb.2) λ{z z z} hit=>q hit z2⟩
theorem fL{e1:bH}{x:bb}{b:Int}{n:Nat}(hf:PE k mu env (.Name x p) (.type "range"))(h1:PE k mu env e1 (.int b))(hn:b=n)(hb:n < 2 ^ 60)
 (zk:∀a p,e1≠ .Starred a p:=by intro z z h;cases h):pd k mu env (.Call (.Name x p) [e1] [] pos) t [] ((aN n).map λ(i:Nat)=>V.int i):=by
 have:=FH (t:=t) (pos:=pos) hf h1 (by lia) zk;subst hn;unfold rD at this;simpa using this
noncomputable def nD(x:bb):List V:=x.cps.toList.map λc=> .str ⟨#[c]⟩
theorem qz(x:bb):(x.cps.all (· < 128)=aI/\vq x="str_ascii_iterator")\/(x.cps.all (· < 128)=aH/\vq x="str_iterator"):=by
 unfold vq;cases h:x.cps.all (· < 128)
 ·exact .inr ⟨rfl,by rfl⟩
 ·exact .inl ⟨rfl,by rfl⟩
theorem Kl{A:bh}(hh:A.handled=av)(I:ay)(x:bb)(tk:HX):Walks G.prog G.w A I [I] [I] x.cps.size (SignAt x) (λi h=>h.IsStrIter I (vq x) x tk i):=by
 rcases qz x with ⟨_,e⟩|⟨_,e⟩ <;> refine aj (e ..) ?_
 ·exact Walks.strAscii hh I x tk
 ·exact Walks.strWide hh I x tk
theorem tE(x:bb){i:Nat}{y:V}{v:ai}{Z:bI}(h:(nD x)[i]? =ae y)(hs:SignAt x i v):aZ G Z v y:=by refine eD hs λc u hc q8=>?_;clear hs;subst q8;unfold nD at h;rw [aJ,bV,hc] at h;simp at h;subst h;exact aZ.str _ _
theorem Og{x:bb}(h:PE k mu env e (.str x)):pd k mu env e t [] (nD x):=⟨λz h=>(eo h),λ{A E Z s fr Q} hA r q=>by
 exact h.c hA r λ{v s1 Z1} z1 q1 r1=>aZ.strC q1 λtk=>wpAny_pyIter_strU (pO (c:=vq x) r1 (λA hh=>Kl hh s1.heap.objs.size x tk) (by exact ak ..) (λb hb hn=>absurd (aA.mp hb) hn) (λi v y=>tE x)
  (λi h hs=>hs.imp λz w=>⟨w.1,w.2.1⟩) (by rcases qz x with ⟨_,e⟩|⟨_,e⟩ <;> refine aj (e ..) ?_ <;> decide) (λb o e=>az _ e) ⟨_,aW _ rfl,rfl,rfl⟩ λ{z} hit r'=>q hit z1 r')⟩
section
variable {tp:jX}{kk:Nat}{elts:List bH}
noncomputable def rE(xs:List V):List V:=xs.mapIdx λi x=> .tup [.int (i:Nat),x]
theorem H3(xs:List V):(rE xs).length=xs.length:=by simp [rE]
theorem H4(xs:List V){i:Nat}{y:V}(h:(rE xs)[i]? =ae y):∃x,xs[i]? =ae x/\y= .tup [.int (i:Nat),x]:=by unfold rE at h;rw [TB] at h;exact aK (aL.mp h) λx h1 h2=>⟨x,h1,h2.symm⟩
def tF.S0(e0 it:ay)(fp:List ay)(St:Nat->dH->Prop)(Zf:bI)(_:Nat):Prop:=∀{tp:jX} {xs:List V} {kk:Nat} {elts:List bH} {n:Nat} {P:Nat->ai->Prop} (iP:e0≠it) (hfe:e0∉fp) (hif:it∈fp) (D:∀A:bh,A.handled=av->Draws G.prog G.w A it fp n P St) (hn:xs.length=n) (Ff:∀b∈fp,b≠it->∃o,Zf b=ae o) (hP:∀i v x,xs[i]? =ae x->P i v->aZ G Zf v x),∃I:Nat->cX,CS e0 [] (.Tuple elts kk tp) (rE xs) I/\(I 0).own=[e0,it]/\∀(h:dH) (Z:bI),Zf.le Z->IsEnum h e0 it 0 .none->St 0 h->(I 0).sat Z h
namespace tF
@[irreducible] def e0:=Fq cL cL gD ta Rk eN S0
def e0_:=e0.1
def sC:=e0.2.1
def fp_:=e0.2.2.1
def St_:=e0.2.2.2.1
def Zf_:=e0.2.2.2.2.1
theorem T0:S0 e0_ sC fp_ St_ Zf_ e0.2.2.2.2.2:=by
 intro tp xs kk elts n P iP hfe hif D hn Ff hP;refine ⟨_,CS.ofWalksT (p:=tp) (elts:=elts) (kk:=kk) (Zf:=Zf_) (λA hh=>WalksT.enumerateD (D A.in1 hh) e0_ iP hfe hif) ((H3 xs).trans hn) (λb hb hn=>?_) (λi bB x hx hp=>?_) (λi h hs b hb=>?_),rfl,λh Z hz h1 h2=>⟨hz,⟨_,h1⟩,h2⟩⟩
 ·rcases aP.mp hb with rfl|hb
  ·exact absurd aa hn
  ·exact Ff b hb λq=>hn (q▸ab _ aa)
 ·refine aK (H4 xs hx) λy h1 dO=>?_;subst dO;refine eD hp λtk v hv eT=>?_;clear hp;subst eT;exact ⟨_,rfl,.cons (.int _ _) (.cons (hP i v y h1 hv) .nil)⟩
 ·rcases aP.mp hb with rfl|hb
  ·exact hs.1.elim λz ho=>⟨_,ho⟩
  ·exact aA.mp hb▸(D {} rfl).live i h hs.2
end tF
theorem tF{e0 it:ay}{fp:List ay}{St:Nat->dH->Prop}{Zf:bI}:tF.S0 e0 it fp St Zf 0:=by with_unfolding_all exact uE _ _ _ _ _ _ tF.S0 @tF.T0 e0 it fp St Zf 0
theorem vO{Z:bI}{s:aq}{nu:Mu}{fp:List ay}{n:Nat}{P:Nat->ai->Prop}{St:Nat->dH->Prop}{A:bh}{E Q:ai->aq->Prop}(r:R Z nu s)(D:∀A:bh,A.handled=av->Draws G.prog G.w A s.heap.objs.size fp n P St)
 (hfe:s.heap.objs.size+1∉fp) (hif:s.heap.objs.size∈fp) (hn:xs.length=n) (Ff:∀b∈fp,b≠s.heap.objs.size->∃o,Z b=ae o) (hP:∀i v x,xs[i]? =ae x->P i v->aZ G Z v x)
 {h':dH} (he:IsEnum h' (s.heap.objs.size+1) s.heap.objs.size 0 .none) (h0:St 0 h') (hk:∀b o,s.heap.get? b=ae o->h'.get? b=ae o)
 (q:∀{I it s'},CS I [] (.Tuple elts kk tp) (rE xs) it->R Z (it 0::nu) s'->Q (.ref I) s'):aS (aX G.prog G.w) A (rb (.ref (s.heap.objs.size+1))) Q E {s with heap:=h'}:=by
 with_reducible refine wpAny_pyIter_enum he ?_
 refine ef (tF (xs:=xs) (Zf:=Z) (elts:=elts) (kk:=kk) (tp:=tp) (ou _) hfe hif D hn Ff hP) λit hit qf GE=>q hit (r.addNew (tk:=s.toks) (it 0) hk (GE _ _ .rfl he h0) ?_ λb hb=>?_)
 ·refine aj (qf ..) ?_;exact cg.mpr ⟨λh=>ou _ (aA.mp h),eg⟩
 ·rw [qf] at hb;rcases aP.mp hb with q|hb
  ·refine aj (q ..) ?_;exact jC _
  ·exact kX hb
theorem G9{I a:ay}(h:a < I):I+1∉[I,a]:=λq=>(aP.mp q).elim (ou _) λq=>jI (cI h) (aA.mp q)
theorem H5{e1:bH}(hf:PE k mu env (.Name x p) (.type "enumerate"))(h1:PE k mu env e1 (.list xs))(zk:∀a p,e1≠ .Starred a p:=by intro z z h;cases h):
 pd k mu env (.Call (.Name x p) [e1] [] pos) (.Tuple elts kk tp) [] (rE xs):=⟨λz h=>(eo h),λ{A E Z s fr Q} hA r q=>by
 refine sA hf (au h1 aT zk) zk hA r λ{vs s2 Z2} z2 q2 r2=>aK (q2.one) λv1 gi q5=>?_;subst gi;refine cE (rk.list q5) λa vs n iC e1 hr=>?_;subst iC;have hL:s2.heap.IsList a vs:=⟨_,r2.zin _ _ e1,rfl,n,rfl⟩;have SS:=bN (r2.zin _ _ e1);exact call_enumerate_list hL λh' he Uh hsz hk=>vO r2 (λA hh=>Draws.list hh s2.heap.objs.size a (c8 SS) vs) (G9 SS) aa (b9 hr) (vN e1) (λi v x=>nC hr) he ⟨Uh,hL.at λo e=>hk _ _ e⟩ hk λ{z z z} hit=>q hit z2⟩
theorem Km{A:bh}(hh:A.handled=av)(I:ay)(x:bb)(tk:HX):Draws G.prog G.w A I [I] x.cps.size (λi v=>∃c u,x.cps[i]? =ae c/\v= .str ⟨#[c]⟩ u) (λi h=>h.IsStrIter I (vq x) x tk i):=by
 rcases qz x with ⟨_,e⟩|⟨_,e⟩ <;> refine aj (e ..) ?_
 ·exact Draws.strAscii hh I x tk
 ·exact Draws.strWide hh I x tk
theorem H7{e1:bH}{y:bb}(hf:PE k mu env (.Name x p) (.type "enumerate"))(h1:PE k mu env e1 (.str y))(zk:∀a p,e1≠ .Starred a p:=by intro z z h;cases h):
 pd k mu env (.Call (.Name x p) [e1] [] pos) (.Tuple elts kk tp) [] (rE (nD y)):=⟨λz h=>(eo h),λ{A E Z s fr Q} hA r q=>by
 refine sA hf (au h1 aT zk) zk hA r λ{vs s2 Z2} z2 q2 r2=>aK (q2.one) λv1 kG q5=>?_;subst kG;exact aZ.strC q5 λtk=>call_enumerate_str λh' he Uh hsz hk=>vO r2 (λA hh=>Km hh s2.heap.objs.size y tk) (λh=>ou _ (aA.mp h)) aa (by exact ak ..) (λb hb hn=>absurd (aA.mp hb) hn) (λi v x=>tE y) he Uh hk λ{z z z} hit=>q hit z2⟩
theorem Az{α:Type}(l:List α)(inj:α->V):rE (l.map inj)=l.zipIdx.map λq=>V.tup [.int (q.2:Nat),inj q.1]:=by refine List.ext_getElem? λi=>?_;unfold rE;refine aj (TB ..) ?_;refine aj (aJ ..) ?_;refine aj (aJ ..) ?_;refine aj (TC ..) ?_;cases l[i]? <;> simp
theorem sD{α:Type}{e1:bH}{l:List α}{inj:α->V}(hf:PE k mu env (.Name x p) (.type "enumerate"))(h1:PE k mu env e1 (.list (l.map inj)))(zk:∀a p,e1≠ .Starred a p:=by intro z z h;cases h):
 pd k mu env (.Call (.Name x p) [e1] [] pos) (.Tuple elts kk tp) [] (l.zipIdx.map λq=>V.tup [.int (q.2:Nat),inj q.1]):=by
 refine fZ (Az ..) ?_;exact H5 hf h1 zk
theorem H8{e1:bH}{y:bb}(hf:PE k mu env (.Name x p) (.type "enumerate"))(h1:PE k mu env e1 (.str y))(zk:∀a p,e1≠ .Starred a p:=by intro z z h;cases h):
 pd k mu env (.Call (.Name x p) [e1] [] pos) (.Tuple elts kk tp) [] (y.cps.toList.zipIdx.map λq=>V.tup [.int (q.2:Nat),.str ⟨#[q.1]⟩]):=by
 have:=H7 (elts:=elts) (kk:=kk) (tp:=tp) (pos:=pos) hf h1 zk;unfold nD at this
 rwa [Az] at this
def aZ.dict_inv.S0(Z:bI)(es:List (bb×V)):Prop:=∀{v:ai} (h:aZ G Z v (.dict es)),∃a o kvs,v= .ref a/\(a == lY)=aH/\Z a=ae o/\BF G o kvs/\kvs.map (·.1)=es.map (·.1)/\bW G Z (kvs.map (·.2)) (es.map (·.2))
namespace aZ.dict_inv
@[irreducible] def e0:=Qi Rk gD S0
def Z_:=e0.1
def es_:=e0.2
theorem T0:S0 Z_ es_:=by intro v h;cases h with|dict s e d k r=>exact ⟨_,_,_,rfl,s,e,d,k,r⟩
end aZ.dict_inv
theorem aZ.dict_inv{Z:bI}{es:List (bb×V)}:aZ.dict_inv.S0 Z es:=by with_unfolding_all exact Fp _ _ aZ.dict_inv.S0 @aZ.dict_inv.T0 Z es
theorem Ko{es:List (bb×V)}(h:PE k mu env e (.dict es)):pd k mu env e t [] (es.map λq=> .str q.1):=⟨λz h=>(eo h),λ{A E Z s fr Q} hA r q=>by
 refine h.c hA r λ{x s1 Z1} z1 q1 r1=>wI (aZ.dict_inv q1) λa o kvs ma hq e1 mE hk hr=>?_;subst ma;refine Ar mE λd1 NI ep d2 d3 d4 d5=>?_;clear mE;have ho:=r1.zin _ _ e1;refine wpAny_pyIter_dict hq (⟨o,NI,ho,d1,d2,d3,d4,d5⟩:s1.heap.DictAt (strKind G.prog G.w) a kvs ep) (pO (c:="dict_keyiterator") r1 (λA hh=>Walks.dictKeys (knd:=strKind G.prog G.w) hh s1.heap.objs.size a (c8 (bN ho)) kvs ep) ?_ (vN e1) (λi v x hx hp=>?_)
  (λi h hs=>hs.1.imp λz w=>⟨w.1,w.2.1⟩) (by decide) (λb o e=>az _ e) ⟨⟨_,aW _ rfl,rfl,rfl⟩,o,NI,az _ ho,d1,d2,d3,d4,d5⟩ λ{z} hit r'=>q hit z1 r')
 ·(refine aj (ak ..) ?_;refine fZ (ak (f:=(·.1)) ..) ?_;refine fZ (hk ..) ?_;refine aj (ak ..) ?_;rfl)
 ·refine eD hp λkey val h1 h2=>?_;clear hp;refine cJ (E1 (show Value.isStrOf key v=aI from h2)) λtk q8=>?_;subst q8;have h3:(es.map (·.1))[i]? =ae key:=by (refine fZ (hk ..) ?_;refine aj (aJ ..) ?_;refine aj (h1 ..) ?_);rfl
  rw [aJ] at h3 hx;refine aK (aL.mp h3) λq hq uf=>?_;subst uf;rw [hq] at hx
  (have lA:=aO hx;clear hx;subst lA)
  exact aZ.str _ _⟩
noncomputable def Kp(I a:ay)(i:Nat):cX where
 own:=[I]
 sat:=λZ h=>h.IsListIter I a i
 mono:=λZ Z' h hz s=>s
 loc:=λZ h h' hs hk z z=>hs.at λo e=>hk I aa o e
 live:=λZ h ⟨o,ho,_⟩ c hc=>by simp at hc;subst hc;exact ⟨o,ho⟩
theorem xX{I a:ay}(iP:a≠I):CS I [bl a xs] t xs (Kp I a) where
 item:=λi x hx {A E Z s fr Q} hA hc r q=>by
  exact eD (r.sat _ (ab _ (hc _ aa))) λvs n h1 h2=>aK (h2.get hx) λv h3 h4=>zv (show s.heap.IsListIter I a i from r.sat _ aa) (⟨_,h1,rfl,n,rfl⟩:s.heap.IsList a vs) (bV.symm.trans h3) λh' hit hsb=>q λ{E T} p=>ef (id hit) λo ho hcl z=>wM (s:={s with heap:=h'}) ho hcl (by decide) (p .rfl h4 (r.upd' (x':=Kp I a (i+1)) (i:=0) (h':=h') (tk:=s.toks) rfl rfl (λb o hb e=>hsb.extBut b o (λq=>hb (q▸aa)) e) hit))
 done:=λ{A E Z s fr Q} hA hc r q=>by
  exact eD (r.sat _ (ab _ (hc _ aa))) λvs n h1 h2=>Aj hA.hh (show s.heap.IsListIter I a xs.length from r.sat _ aa) (⟨_,h1,rfl,n,rfl⟩:s.heap.IsList a vs) (Qa (ll (b9 h2).symm)) λh' hx=>q .rfl (r.dropUpd (tk:=s.toks) λb o hb e=>hx b o (λq=>hb (q▸aa)) e)
 self:=λi {A E Z s fr Q} hA r q=>wpAny_pyIter_listiter (r.sat _ aa) (q r)
theorem Ha{a:ay}{A:bh}{E:ai->aq->Prop}{Z:bI}{s:aq}{fr:Mu}{Q:ai->aq->Prop}(h:PE k mu env e (.ref a))(hm:bl a xs∈mu)(hA:Rm k A)(r:R Z (mu++fr) s)
 (q:∀{I s' Z'},a≠I->Z.le Z'->R Z' (Kp I a 0::(mu++fr)) s'->Q (.ref I) s'):aS (aX G.prog G.w) A (dW e env) (λx s1=>aS (aX G.prog G.w) A (rb x) Q E s1) E s:=by
 refine h.c hA r λ{x s1 Z1} z1 q1 r1=>aj (aZ.refE q1 ..) (eD (r1.sat _ (aE fr hm)) λvs n h1 h2=>?_);exact lr (⟨_,h1,rfl,n,rfl⟩:s1.heap.IsList a vs) (q (c8 (bN h1)) z1 (r1.addNew (tk:=s1.toks) (Kp s1.heap.objs.size a 0) (λb o e=>az _ e) (⟨_,aW _ rfl,rfl,rfl⟩:(s1.heap.push _).IsListIter s1.heap.objs.size a 0) eg λz h=>kX h))
theorem AA{a:ay}(h:PE k mu env e (.ref a))(hm:bl a xs∈mu):pd k mu env e t [bl a xs] xs:=⟨λo ho=>aA.mp ho▸hm,λ{z z z z z z} hA r q=>Ha h hm hA r λ{z z z} iP=>q (xX iP)⟩
end
noncomputable def De(target:bH)(ip:jX)(ifs:List bH)(ni fin:mF Fin)(it:ai)(env:gV):mF Fin:=do
 iE ip
 match <- l0 it with
 |none=>dg (.done .next)
 |some v=>
  kJ target it v
  wB target env v
  let mut ok:=aI
  for c in ifs do
   if ok then ok <- isTrue c env (dW c env)
  if ok then ni else fin
noncomputable def Hb(elt:bH)(acc:ai)(env:gV):mF Unit:=do let _ <- ku (.builtin "list.append") [acc,<- dW elt env]
noncomputable def Kq(ke ve:bH)(acc:ai)(env:gV):mF Unit:=do
 let kv <- dW ke env
 let vv <- eV [kv] (dW ve env)
 match acc with
 | .ref d=>do
  iE {ke.pos with endLine:=ve.pos.endLine,endCol:=ve.pos.endCol}
  eV [kv,vv] (dictSet d kv vv)
 |_=>unsupported "internal:dictcomp"
noncomputable def Qm(e iter:bH)(acc:ai)(env:gV)(fin:mF Fin):mF Fin:=do
 let x <- dW iter env
 iE iter.pos
 let x <- bw iter env x
 let _ <- runOwn (.compStart e 1 (<- eV [x] (rb x)) acc env) env
 fin
noncomputable def uJ(e:bH)(d:Nat)(acc:ai)(env:gV)(em:mF Unit)(it:ai):mF Fin:=em >>=λz=>NP (.compLoop e d it acc env)
noncomputable def vP(e iter:bH)(acc:ai)(env:gV)(it:ai):mF Fin:=Qm e iter acc env (NP (.compLoop e 0 it acc env))
structure TY(env:gV)(e:bH)(d:Nat)(acc:ai)(t:bH)(ip:jX)(ifs:List bH)(ni:ai->mF Fin):Prop where
 tree:∀it,compTurn e d it acc env=De t ip ifs (ni it) (NP (.compLoop e d it acc env)) it env
 fr:∀it,(TF e d it acc env).isFrame=aH/\(Fk e d it acc env).isFrame=aH
 q:∀it,(Fk e d it acc env).quiet=aI
 u:∀(A:bh) it,A.under (.compStart e d it acc env)=A/\A.under (.compLoop e d it acc env)=A
theorem Kr{elt target iter:bH}{ifs:List bH}{scope:fh}{pos:jX}{acc:ai}{env:gV}:TY env (.ListComp elt [⟨target,iter,ifs,0⟩] scope pos) 0 acc target iter.pos ifs (uJ (.ListComp elt [⟨target,iter,ifs,0⟩] scope pos) 0 acc env (Hb elt acc env)):=
 ⟨λz=>by rfl,λz=>⟨rfl,rfl⟩,λz=>rfl,λz z=>⟨rfl,rfl⟩⟩
theorem Oh{elt target iter sN fb:bH}{ifs oh:List bH}{scope:fh}{pos:jX}{acc:ai}{env:gV}:TY env (.ListComp elt [⟨target,iter,ifs,0⟩,⟨sN,fb,oh,0⟩] scope pos) 0 acc target iter.pos ifs (vP (.ListComp elt [⟨target,iter,ifs,0⟩,⟨sN,fb,oh,0⟩] scope pos) fb acc env):=
 ⟨λz=>by rfl,λz=>⟨rfl,rfl⟩,λz=>rfl,λz z=>⟨rfl,rfl⟩⟩
theorem Oi{elt target iter sN fb:bH}{ifs oh:List bH}{scope:fh}{pos:jX}{acc:ai}{env:gV}:TY env (.ListComp elt [⟨target,iter,ifs,0⟩,⟨sN,fb,oh,0⟩] scope pos) 1 acc sN fb.pos oh (uJ (.ListComp elt [⟨target,iter,ifs,0⟩,⟨sN,fb,oh,0⟩] scope pos) 1 acc env (Hb elt acc env)):=
 ⟨λz=>by rfl,λz=>⟨rfl,rfl⟩,λz=>rfl,λz z=>⟨rfl,rfl⟩⟩
theorem Rv{ke ve target iter:bH}{ifs:List bH}{scope:fh}{pos:jX}{acc:ai}{env:gV}:TY env (.DictComp ke ve [⟨target,iter,ifs,0⟩] scope pos) 0 acc target iter.pos ifs (uJ (.DictComp ke ve [⟨target,iter,ifs,0⟩] scope pos) 0 acc env (Kq ke ve acc env)):=
 ⟨λz=>by rfl,λz=>⟨rfl,rfl⟩,λz=>rfl,λz z=>⟨rfl,rfl⟩⟩
noncomputable def Qn(env:gV)(ifs:List bH):mF Bool:=forIn ifs aI λc r=>if r=aI then do let ok <- isTrue c env (dW c env);dg (GS ok) else dg (GS r)
abbrev xd(k:Nat)(mu:Mu)(env:gV)(ifs:List bH)(b:Bool):Prop:=WB k mu (Qn env ifs) b
theorem dk:xd k mu env [] aI:=⟨λ{z z z z z z} hA r q=>wpAny_tests_nil (q .rfl r)⟩
theorem fS{c:bH}(h:PT k mu env c b):xd k mu env [c] b:=⟨λ{z z z z z z} hA r q=>wpAny_tests_one (h.c hA r q)⟩
structure JR(k:Nat)(mu:Mu)(env:gV)(e:bH)(d:Nat)(acc:ai)(t:bH)(ctx:Mu)(xs:List V)(Ψ:Mu->Prop):Prop where
 c:∀{A:bh} {Z:bI} {s:aq} {fr:Mu} {I:ay} {it:Nat->cX} {T:wF->aq->Prop},Rm k A->CS I ctx t xs it->(∀o∈ctx,o∈mu++fr)->R Z (it 0::(mu++fr)) s->
  (∀{s' Z' nu},Z.le Z'->R Z' (nu++fr) s'->Ψ nu->T (.ok .next) s')->iV (aX G.prog G.w) A (.compStart e d (.ref I) acc env) T s
theorem FI{prog:dB}{w:d9}{A:bh}{R:wF->aq->Prop}{s:aq}{e:bH}{d:Nat}{it acc:ai}{env:gV}{g:kS}(hg:(Nk e)[d]? =ae g)(ha:(g.is_async != 0)=aH)(iD:(TF e d it acc env).isFrame=aH)
 (h0:iV (aX prog w) A (.compLoop e d it acc env) R s) (h:∀E,aS (aX prog w) A (rb it) (λit' s'=>iV (aX prog w) A (.compLoop e d it' acc env) R s') E s) (hq:∀it',(Fk e d it' acc env).quiet=aI)
 (hu:A.under (.compStart e d it acc env)=A):iV (aX prog w) A (.compStart e d it acc env) R s:=by
 refine kK (aj (hu ..) ?_);show aS _ _ (if (TF e d it acc env).isFrame then (tA e d it acc env).onRaise (JB env) else (tA e d it acc env).onRaise (λx=>do noteFrame x env;iE theWindowsPlace)) _ _ s;refine aj (iD ..) ?_;refine aj (if_neg cF ..) ?_;refine wpAny_notedAt ?_;unfold tA;refine aj (hg ..) ?_;refine aj (if_neg (show ¬(_=aI) from λe=>absurd (ha.symm.trans e) cF) ..) ?_;show aS _ _ (ask >>=_) _ _ s;refine ag (gC (wpAny_ite ?_))
 split
 ·first
   |exact ag (ar (ar (NQ (hq _) h0)))
   |exact ar (NQ (hq _) h0)
 ·refine ag (oj ?_);refine ag (iH ?_);exact ag (eR (h _) (λit' s' h'=>ar (NQ (hq _) h')) λz z x=>x)
abbrev WBf(k:Nat)(mu:Mu)(bf:mF Fin)(c:Code)(Ψ:Mu->Prop):Prop:=Wu k mu bf (.again c) Ψ
theorem WU.bf{d:Nat}{acc it:ai}{t:mF Unit}{Ψ:Mu->Prop}(h:WU k mu t Ψ):WBf k mu (uJ e d acc env t it) (.compLoop e d it acc env) Ψ:=⟨λ{y y y y y y} hA r q=>ag (h.c hA r λ{y y y} z r w=>ar (q z r w))⟩
def Le(nu nu':Mu):Prop:=∀Z s fr,R Z (nu++fr) s->R Z (nu'++fr) s
theorem H9{prog:dB}{w:d9}{A:bh}{T:wF->aq->Prop}{s:aq}{d:Nat}{acc it:ai}{ip:jX}{ifs:List bH}{ni:ai->mF Fin}(K:TY env e d acc t ip ifs ni)(I:Nat->aq->Prop)
 (turn:∀n s,I n s->∀{E:ai->aq->Prop} {Q:Option ai->aq->Prop},(∀{s1},T (.ok .next) s1->Q av s1)->
  (∀{v s1},(∀{E:ai->aq->Prop} {F:Bool->aq->Prop},(∀{s2},aS (aX prog w) A (ni it) (λfin s3=>fin= .again (.compLoop e d it acc env)/\∃m,m < n/\I m s3) E s2->F aI s2)->(∀{s2},(∃m,m < n/\I m s2)->F aH s2)->
   aS (aX prog w) A (kJ t it v) (λz s2=>aS (aX prog w) A (wB t env v) (λz s3=>aS (aX prog w) A (Qn env ifs) F E s3) E s2) E s1)->Q (ae v) s1)->
  aS (aX prog w) A (l0 it) Q E s) (n:Nat) (h:I n s):iV (aX prog w) A (.compLoop e d it acc env) T s:=by
 refine codeAny_loop (K.q _) I (λn s h=>?_) n h;refine aj ((K.u A _).2) ?_;show aS _ A (if (Fk e d it acc env).isFrame then (compTurn e d it acc env).onRaise (JB env) else (compTurn e d it acc env).onRaise (λx=>do noteFrame x env;theTreesLotGoes x)) _ _ s;refine aj ((K.fr _).2) ?_;refine aj (if_neg cF ..) ?_;refine wpAny_noted (aj (K.tree ..) ?_);unfold De;refine ag (iH (ag (turn n s h (λ{z} h=>ar h) λ{v s1} h=>ag (eR (h (λ{s2} h=>?_) λ{s2} h=>?_) (λz s2 h=>ag (eR h (λz s3 h=>ag h) λz z e=>e)) λz z e=>e))))
 ·exact eR h (λfin s3 h=>h.1▸⟨rfl,h.2⟩) λz z e=>e
 ·exact ar ⟨rfl,h⟩
theorem rF{d:Nat}{acc:ai}{ip:jX}{ifs:List bH}{g:kS}{ctx:Mu}{Ψ:Mu->Prop}{ni:ai->mF Fin}(K:TY env e d acc t ip ifs ni)(hk:1<=k)(hg:(Nk e)[d]? =ae g)(ha:(g.is_async != 0)=aH)
 (Inv:Nat->Mu->Prop) (h0:Inv 0 mu) (q7:∀i nu,Inv i nu->∀o∈ctx,o∈nu)
 (step:∀i x nu,xs[i]? =ae x->Inv i nu->mK k nu env t x λru=>∃b,xd k ru env ifs b/\(b=aH->∃ue,Le ru ue/\Inv (i+1) ue)/\(b=aI->∀it,WBf k ru (ni it) (.compLoop e d it acc env) (Inv (i+1))))
 (fin:∀nu,Inv xs.length nu->Ψ nu):JR k mu env e d acc t ctx xs Ψ:=⟨λ{A Z s fr I it T} hA hit hc r q=>by
 have loop:∀{s},R Z (it 0::(mu++fr)) s->iV (aX G.prog G.w) A (.compLoop e d (.ref I) acc env) T s:=λ{y} r=>by
  refine H9 K (BM Z Inv xs.length it fr) (λn s' h {E Q} hn hs=>?_) (xs.length+1) ⟨0,Z,mu,rfl,gp _,.rfl,r,h0⟩
  revert hs
  refine h.by ?_ ?_
  ·intro i Z' nu hi z r inv hs;refine hit.item i _ (bJ hi) (hA.le hk) (λo ho=>aE _ (q7 i nu inv o ho)) r λ{v s3} h3=>hs λ{E F} ft ff=>h3 λ{s4 Z4} z4 hv r4=>(step i _ nu (bJ hi) inv).c hA (r4.perm cu.symm) hv λ{s5 Z5 nu5} z5 r5 w5=>ef w5 λb hifs hf ht=>?_;clear w5;refine hifs.c hA r5 λ{s6 Z6} z6 r6=>?_;have zz:=z.trans (z4.trans (z5.trans z6));cases b with
   |false=>exact aK (hf rfl) λnu6 hle hf=>ff (BM.lt hi zz (hle _ _ _ r6) hf)
   |true=>exact ft ((ht rfl (.ref I)).c hA r6 λ{y y y} z7 r7 w7=>⟨rfl,BM.lt hi (zz.trans z7) r7 w7⟩)
  ·intro Z' nu z r inv y;exact hit.done (hA.le hk) (λo ho=>aE _ (q7 _ nu inv o ho)) r λ{y y} z3 r3=>hn (q (z.trans z3) r3 (fin nu inv))
 exact FI hg ha (K.fr _).1 (loop r) (λE'=>hit.self 0 (hA.le hk) r λ{y} r1=>loop r1) K.q (K.u A _).1⟩
theorem AB{A:bh}{E:ai->aq->Prop}{Z:bI}{s:aq}{fr nu:Mu}{v:ai}{a:ay}{ys:List V}{i:Nat}{y:V}{Q:ai->aq->Prop}(r:R Z (nu++fr) s)(hi:nu[i]? =ae (bl a ys))(hl:ys.length < 2 ^ 22)(hv:aZ G Z v y)
 (q:∀{s'},R Z (nu.set i (bl a (ys++[y]))++fr) s'->Q .none s'):aS (aX G.prog G.w) A (ku (.builtin "list.append") [.ref a,v]) Q E s:=by
 have hi':=cH (fr:=fr) hi;obtain ⟨vs,n,h2,h3⟩:=r.sat _ (ao hi');have hsz:vs.size<=er:=by refine fZ (b9 h3 ..) ?_;show _<=2 ^ 24;exact aw (eB (by assumption)) (by decide)
 refine wpAny_list_append_plain (⟨n,h2⟩:s.heap.PlainList a vs) (λh' hp hs=>q ?_) hsz;obtain ⟨m,hp⟩:=hp;exact fZ (gE hi ..) (r.upd' (tk:=s.toks) hi' rfl (λb o hb e=>hs.extBut b o (λq=>hb (q▸aa)) e) ⟨_,m,hp,by refine aj (CE ..) ?_;exact h3.snoc hv⟩)
theorem vQ{a:ay}{ys:List V}{i:Nat}{elt:bH}{Ψ:Mu->Prop}(h:WE k mu env elt λy nu=>nu[i]? =ae (bl a ys)/\ys.length < 2 ^ 22/\Ψ (nu.set i (bl a (ys++[y])))):WU k mu (Hb elt (.ref a) env) Ψ:=⟨λ{A E Z s fr Q} hA r q=>by
 unfold Hb;exact ag (h.c hA r λ{z z z z z} z1 q1 r1 w=>ag (AB r1 w.1 w.2.1 q1 λ{z} r2=>ar (q z1 r2 w.2.2)))⟩
noncomputable def aM:Nat->List (bb×CF)->Ax
 |_,[]=>[]
 |n,(x,.cell)::r=>(x,ae n)::aM (n+1) r
 |n,(x,.local)::r=>(x,av)::aM n r
 |n,(_,_)::r=>aM n r
noncomputable def nones(lay:Ax):el:=lay.map λz=>av
theorem mX(n:Nat)(x:bb)(kd:CF)(r:List (bb×CF)):aM n ((x,kd)::r)=if kd= .cell then (x,ae n)::aM (n+1) r else if kd= .local then (x,av)::aM n r else aM n r:=by cases kd <;> rfl
theorem tG(names:List (bb×CF)):∀(n:Nat),∀b∈(aM n names).filterMap (·.2),n<=b:=by
 induction names with
 |nil=>exact λz z h=>eo h
 |cons q r ih=>
  intro n b h;rw [mX] at h
  split at h
  ·rcases aP.mp (show b∈n::(aM (n+1) r).filterMap (·.2) from h) with rfl|h'
   ·exact bp _
   ·exact nj (ih (n+1) b h')
  ·split at h
   ·exact ih n b h
   ·exact ih n b h
theorem zN(names:List (bb×CF)):∀(n:Nat),((aM n names).filterMap (·.2)).Nodup:=by
 induction names with
 |nil=>exact λz=> .nil
 |cons q r ih=>
  intro n;refine aj (mX ..) ?_
  split
  ·exact cg.mpr ⟨λh=>TG n (tG r (n+1) n h),ih (n+1)⟩
  ·split
   ·exact ih n
   ·exact ih n
theorem zO(names:List (bb×CF)):∀n m:Nat,(aM n names).map (·.1)=(aM m names).map (·.1):=by
 induction names with
 |nil=>exact λz z=>rfl
 |cons q r ih=>
  intro n m;refine aj (mX ..) ?_;refine aj (mX ..) ?_
  split
  ·exact congrArg (List.cons q.1) (ih _ _)
  ·split
   ·exact congrArg (List.cons q.1) (ih _ _)
   ·exact ih n m
theorem zP{Z:bI}{m:bb->Option ai}(names:List (bb×CF)):∀(h:dH),ed Z (pushCells h names) m (aM h.objs.size names) (nones (aM h.objs.size names)):=by
 induction names with
 |nil=>exact λz z z z e=>gK e
 |cons q r ih=>
  intro h;obtain ⟨x,kd⟩:=q;cases kd
  case cell=>show ed Z (pushCells (h.push {cls:= .type "cell",data:= .cell av}) r) m ((x,ae h.objs.size)::aM (h.objs.size+1) r) (av::nones (aM (h.objs.size+1) r));have ih:=ih (h.push {cls:= .type "cell",data:= .cell av});rw [fO] at ih;exact .cons ⟨av,_,Qb r _ _ _ (aW _ rfl),rfl⟩ ih
  case «local»=>exact .cons (c:=av) (o:=av) trivial (ih h)
  all_goals exact ih h
section
variable {M:zG}
theorem AC{scope:fh}{cls:String}(r:R Z mu s)(hnd:(aM 0 scope.names).nd):
 R Z (bq s.heap.objs.size (aM (s.heap.objs.size+1) scope.names) (nones (aM (s.heap.objs.size+1) scope.names))::mu)
  {s with heap:=pushCells (s.heap.push {cls:= .type cls,data:= .dict #[]}) scope.names}:=by
 have hsz:(s.heap.push {cls:= .type cls,data:= .dict #[]}).objs.size=s.heap.objs.size+1:=fO ..;refine r.addNew (tk:=s.toks) _ (λb o e=>Qb _ _ b o (az _ e)) ⟨?_,λz=>av,(Heap.Ns.new s.heap (.type cls)).keeps (Qb _ _),?_⟩ ?_ ?_
 ·unfold Ax.nd;refine aj (zO _ _ 0 ..) ?_;exact hnd
 ·have:=zP (Z:=Z) (m:=λz=>av) scope.names (s.heap.push {cls:= .type cls,data:= .dict #[]});rw [hsz] at this;exact this
 ·refine cg.mpr ⟨λh=>?_,zN _ _⟩;exact TG _ (tG _ _ _ h)
 ·intro b hb;rcases aP.mp hb with rfl|hb
  ·exact bp _
  ·exact nj (tG _ _ _ hb)
theorem Ib{scope:fh}{globals:ay}{cl:List (bb×ay)}{qual:bb}{env:gV}{Q:gV->aq->Prop}(r:R Z mu s)(hnd:(aM 0 scope.names).nd)
 (h:∀s',s'.toks=s.toks->R Z (bq s.heap.objs.size (aM (s.heap.objs.size+1) scope.names) (nones (aM (s.heap.objs.size+1) scope.names))::mu) s'->
  Q (newEnv scope s.heap.objs.size globals (xq (s.heap.objs.size+1) scope.names cl) qual av .none (ae env) builtinsNs) s'):
 aS M A (CG scope globals cl [] qual av .none (ae env)) Q E s:=by
 simp only [CG,Option.isSome_some,if_true];refine ag (vr ?_);refine ag (wpAny_layCells _ (λname kind cells=>by cases hkc:kind == NameKind.cell <;> simp [hkc]) _ _ _ _ ?_);refine aj (show ({s with heap:=s.heap.push {cls:= .type "dict",data:= .dict #[]}}:aq).heap.objs.size=s.heap.objs.size+1 from fO ..) (ag ?_);exact aj (List.forIn_nil ..) (ar (ar (h _ rfl (AC r hnd))))
inductive i9(env:gV)(L:ay)(lay:Ax):List bb->List V->el->el->Prop
 |nil {bB:_}:i9 env L lay [] [] bB bB
 |cons {x j y xs ys bB vals':_}:Sl env L lay x j->(env.kindOf x == ae .free)=aH->i9 env L lay xs ys (bB.set j (ae y)) vals'->i9 env L lay (x::xs) (y::ys) bB vals'
theorem FJ{L:ay}{lay:Ax}(he:du env)(f:bb×ai->PUnit->mF (ForInStep PUnit))(hf:∀n v u,f (n,v) u=(do storeName env n v;dg (.yield ⟨⟩))){xs:List bb}{ys:List V}{bB vals':el}{vs:List ai}{s:aq}{Q:PUnit->aq->Prop}
 (b:i9 env L lay xs ys bB vals') (hv:bW G Z vs ys) (r:R Z (bq L lay bB::mu) s) (h:∀s',R Z (bq L lay vals'::mu) s'->Q ⟨⟩ s'):aS (aX G.prog G.w) A (forIn (xs.zip vs) ⟨⟩ f) Q E s:=by
 induction b generalizing vs s with
 |nil=>refine aj (hv.nil_inv ..) ?_;show aS _ _ (forIn [] _ _) _ _ _;refine aj (List.forIn_nil ..) ?_;exact ar (h s r)
 |@cons x j y xs ys bB vals' sl CB b ih=>obtain ⟨v,vs,rfl,hv,hr⟩:=hv.cons_inv;have CB:env.kindOf x≠ae .free:=beq_eq_false_iff_ne.mp CB;show aS _ _ (forIn ((x,v)::xs.zip vs) _ _) _ _ _;refine aj (List.forIn_cons ..) ?_;refine aj (hf ..) ?_;exact ag (ag (xT (fr:=mu) (i:=0) (mu:=[bq L lay _]) r he sl rfl CB hv λs' r'=>ar (ih hr r' h)))
theorem pP{scope:fh}{globals:ay}{cl:List (bb×ay)}{qual:bb}{func:Option ay}{code:ai}{builtins:ay}{Q:gV->aq->Prop}{xs:List bb}{ys:List V}{vals':el}{vs:List ai}(r:R Z mu s)(hnd:(aM 0 scope.names).nd)
 (he:du (newEnv scope s.heap.objs.size globals (xq (s.heap.objs.size+1) scope.names cl) qual func code av builtins)) (hv:bW G Z vs ys)
 (hb:i9 (newEnv scope s.heap.objs.size globals (xq (s.heap.objs.size+1) scope.names cl) qual func code av builtins) s.heap.objs.size (aM (s.heap.objs.size+1) scope.names) xs ys (nones (aM (s.heap.objs.size+1) scope.names)) vals')
 (h:∀s',R Z (bq s.heap.objs.size (aM (s.heap.objs.size+1) scope.names) vals'::mu) s'->
  Q (newEnv scope s.heap.objs.size globals (xq (s.heap.objs.size+1) scope.names cl) qual func code av builtins) s'):
 aS (aX G.prog G.w) A (CG scope globals cl (xs.zip vs) qual func code av builtins) Q E s:=by
 simp only [CG,Ak,dj,if_false];refine ag (vr ?_);refine ag (wpAny_layCells _ (λname kind cells=>by cases hkc:kind == NameKind.cell <;> simp [hkc]) _ _ _ _ ?_);exact aj (show ({s with heap:=s.heap.push {cls:= .type "frame",data:= .dict #[]}}:aq).heap.objs.size=s.heap.objs.size+1 from fO ..) (ag (FJ (env:=newEnv scope s.heap.objs.size globals (xq (s.heap.objs.size+1) scope.names cl) qual func code av builtins) he _ (λz z z=>rfl) hb hv (AC r hnd) λs' r'=>ar (h s' r')))
end
variable {D:ay}{Θ:V->Mu->Prop}
structure fM(D:ay)(nu:Mu)(Θ:V->Mu->Prop):Prop where
 c:∀{Z:bI} {s:aq} {fr:Mu} {T:Prop},R Z (nu++fr) s->(∀{Z' y nu'},Z.le Z'->aZ G Z' (.ref D) y->R Z' (nu'++fr) s->Θ y nu'->T)->T
theorem fM.ref(h:Θ (.ref D) nu):fM D nu Θ:=⟨λ{z z z z} r q=>q .rfl (.ref D) r h⟩
theorem R.freezeHd{x:cX}{o:o6}(r:R Z (x::mu) s)(ha:s.heap.get? D=ae o)(hD:D∈x.own):R (Z.put D o) mu s/\Z.le (Z.put D o):=by have hz:Z D=av:=r.sep D (aE (gT mu) hD);refine ⟨r.drop.freeze ha hz λh=>?_,bI.le_put hz⟩;exact (bP.mp (show (x.own++gT mu).Nodup from r.nodup)).2.2 D hD D h rfl
theorem fM.list{ys:List V}(h:Θ (.list ys) mu):fM D (bl D ys::mu) Θ:=⟨λ{Z s fr T} r q=>by
 exact eD (r.sat _ aa) λvs n h1 h2=>dU (R.freezeHd (show R Z (bl D ys::(mu++fr)) s from r) h1 aa) λr' z'=>q z' (.list (bI.put_self ..) (h2.mono z')) r' h⟩
theorem fM.dict{es:List (bb×V)}(h:Θ (.dict es) mu):fM D (cD D es::mu) Θ:=⟨λ{Z s fr T} r q=>by
 refine qr (r.sat _ aa) λw kvs dO f g=>cE dO λo NI ep h1 d1 d=>?_;clear dO;exact dU (R.freezeHd (show R Z (cD D es::(mu++fr)) s from r) h1 aa) λr' z'=>q z' (.dict w (bI.put_self ..) ⟨d1,_,_,d⟩ f (g.mono z')) r' h⟩
noncomputable abbrev pf(scope:fh)(cl:List (bb×ay))(C:ay)(env:gV):gV:=compEnvC scope (xq (C+1) scope.names cl) C env
noncomputable abbrev nE(scope:fh)(C:ay)(bB:el):cX:=bq C (aM (C+1) scope.names) bB
noncomputable abbrev uK(scope:fh)(C:ay):cX:=nE scope C (nones (aM (C+1) scope.names))
structure Acc(pB:mF ai)(Ac:ay->cX):Prop where
 c:∀{A:bh} {E:ai->aq->Prop} {Z:bI} {s:aq} {mu:Mu} {Q:ai->aq->Prop},R Z mu s->(∀{D s'},R Z (Ac D::mu) s'->Q (.ref D) s')->aS (aX G.prog G.w) A pB Q E s
theorem uL:Acc (newList []) (λD=>bl D []):=⟨λ{A E Z s mu Q} r q=>
 jg (q (r.addNew (tk:=s.toks) _ (λb o e=>az _ e) ⟨#[],0,aW _ rfl,.nil⟩ eg λz h=>kX h))⟩
structure Fc(scope:fh)(env:gV)(cl:List (bb×ay)):Prop where
 clos:closureFor scope env=dg cl
 kind:scope.kind= .function
 names:∀x∈scope.names,x.2= .local->scope.names.lookup x.1=ae .local
 nd:(aM 0 scope.names).nd
theorem Df{A:bh}{E:ai->aq->Prop}{fr:Mu}{scope:fh}{cl:List (bb×ay)}{g:kS}{gs:List kS}{pB:mF ai}{Ac:ay->cX}{ctx:Mu}{use:Option (ai->mF Unit)}{Q:ai->aq->Prop}{Ψ:ay->Mu->Prop}
 (hcl:Nk e=g::gs) (hs:∀x,bw g.iter env x=dg x) (sc:Fc scope env cl) (EP:Acc pB Ac) (src:pd k mu env g.iter t ctx xs)
 (body:∀C D,JR k (uK scope C::Ac D::mu) (pf scope cl C env) e 0 (.ref D) t ctx xs λnu=>∃bB nu',nu=nE scope C bB::nu'/\Ψ D nu')
 (hA:Rm k A) (r:R Z (mu++fr) s)
 (fin:∀{C D Z' bB nu' s'},Z.le Z'->Ψ D nu'->R Z' (nE scope C bB::(nu'++fr)) s'->compPost (aX G.prog G.w) A E use Q (.ref D) C (.ok .next) s'):
 aS (aX G.prog G.w) A (comprehension e scope env pos pB aH (dW g.iter env) use) Q E s:=by
 refine wpAny_comprehension_free hcl hs sc.clos sc.kind sc.names (src.c hA r λ{I it s2 Z2} hit z2 r2=>EP.c r2 λ{D s3} r3=>Ib r3 sc.nd λs4 z r4=>?_);refine (body s3.heap.objs.size D).c hA hit (λo ho=>aE fr (ab _ (ab _ (src.has o ho)))) (r4.perm (((jh _ _ _).cons _).trans (jh _ _ _))) λ{s5 Z5 nu} z5 r5 w5=>eD w5 λbB nu' eT w=>?_;clear w5;subst eT;have:=fin (z2.trans z5) w r5;cases use <;> exact this
theorem Ks{scope:fh}{C:ay}{bB:el}(r:R Z (nE scope C bB::mu) s):∃m,s.heap.Ns C m:=(r.sat _ aa).2.imp λz w=>w.1
theorem Dg{scope:fh}{C:ay}{bB:el}{h':dH}(r:R Z (nE scope C bB::mu) s)(hs:ji C s.heap h'):R Z mu {s with heap:=h'}:=
 r.dropUpd (tk:=s.toks) λb o hb e=>hs.extBut b o (λq=>hb (q▸aa)) e
theorem xD{scope:fh}{cl:List (bb×ay)}{g:kS}{gs:List kS}{pB:mF ai}{Ac:ay->cX}{ctx:Mu}
 (hcl:Nk e=g::gs) (hs:∀x,bw g.iter env x=dg x) (sc:Fc scope env cl) (EP:Acc pB Ac) (src:pd k mu env g.iter t ctx xs)
 (body:∀C D,JR k (uK scope C::Ac D::mu) (pf scope cl C env) e 0 (.ref D) t ctx xs λnu=>∃bB nu',nu=nE scope C bB::nu'/\fM D nu' Θ):
 WV k mu (comprehension e scope env pos pB aH (dW g.iter env)) Θ:=⟨λ{A E Z s fr Q} hA r q=>
 Df (use:=av) hcl hs sc EP src body hA r λ{C D Z' bB nu' s'} z' w r'=>by
  exact cJ (Ks r') λm hm=>⟨m,hm,λh' ud=>w.c (Dg r' ud) λ{z z z} z2=>q (z'.trans z2)⟩⟩
theorem Hc{scope:fh}{cl:List (bb×ay)}{g:kS}{gs:List kS}{pB:mF ai}{Ac:ay->cX}{ctx:Mu}{y:bb}{py spos:jX}{Φ:AF->Mu->Prop}
 (SU:xp e (ae (.Name y py)) spos.line env=dg aI)
 (hev:∀u,evalThenUse e env u=(do let _ <- comprehension e scope env pos pB aH (dW g.iter env) (ae u)))
 (hcl:Nk e=g::gs) (hs:∀x,bw g.iter env x=dg x) (sc:Fc scope env cl) (EP:Acc pB Ac) (src:pd k mu env g.iter t ctx xs)
 (body:∀C D,JR k (uK scope C::Ac D::mu) (pf scope cl C env) e 0 (.ref D) t ctx xs λnu=>∃bB nu',nu=nE scope C bB::nu'/\fM D nu' λv nu=>mK k nu env (.Name y py) v (Φ .next)):
 WX k mu env (.Assign [.Name y py] e spos) Φ:=⟨λ{A E Z s fr Q} hA r q=>by
 refine aj (exec_Assign_Name_used _ _ _ _ SU ..) (ag (iH (ag ?_)));refine aj (hev ..) (ag (Df (use:=ae (wB (.Name y py) env)) hcl hs sc EP src body hA r λ{C D Z' bB nu' s'} z' w r'=>?_));refine w.c (r'.perm cu.symm) λ{Z2 v ue} z2 q2 r2 w2=>w2.c hA r2 q2 λ{s3 Z3 Ui} z3 r3 w3=>?_;have r3':=r3.perm cu;exact cJ (Ks r3') λm hm=>⟨m,hm,λh' ud=>ar (ar (q (z'.trans (z2.trans z3)) .next (Dg r3' ud) w3))⟩⟩
theorem Wu.weak{α:Type}{bf:mF α}{c:α}{Ψ Ψ':Mu->Prop}(h:Wu k mu bf c Ψ)(hi:∀nu,Ψ nu->∃nu',Le nu nu'/\Ψ' nu'):Wu k mu bf c Ψ':=⟨λ{y y y y y y} hA r q=>h.c hA r λ{y y y} z r w=>(hi _ w).elim λy l=>q z (l.1 _ _ _ r) l.2⟩
theorem ed.nones{h:dH}{m:bb->Option ai}{lay:Ax}{bB:el}(s:ed Z h m lay bB):ed Z h m lay (nones lay):=λj x c e=>(s j x c e).elim λz w=>⟨av,by unfold Mine.Internal.nones;(refine aj (aJ ..) ?_;refine aj (e ..) ?_);rfl,w.2.forget⟩
theorem Le.forget{L:ay}{lay:Ax}{bB:el}:Le (bq L lay bB::mu) (bq L lay (nones lay)::mu):=λZ s fr r=>by
 exact mI (r.sat _ aa) λhnd m hn hs=>r.upd' (x':=bq L lay (nones lay)) (i:=0) (h':=s.heap) (tk:=s.toks) rfl rfl (λz z z e=>e) ⟨hnd,m,hn,hs.nones⟩
theorem mK.mono{x:V}{Ψ Ψ':Mu->Prop}(h:mK k mu env t x Ψ)(hi:∀nu,Ψ nu->Ψ' nu):mK k mu env t x Ψ':=⟨λ{y y y y y y y} hA r v q=>h.c hA r v λ{y y y} z r w=>q z r (hi _ w)⟩
theorem tg{a b:cX}{fr:Mu}:List.Perm (a::b::mu++fr) (a::mu++(b::fr)):=(cu.symm).cons a
theorem WB.mid{a d:cX}{α:Type}{t:mF α}{b:α}(h:WB k (a::mu) t b):WB k (a::d::mu) t b:=⟨λ{y y y y y y} hA r q=>h.c hA (r.perm tg) λ{y y} z r=>q z (r.perm tg.symm)⟩
theorem EV.mid{a d:cX}{P:Vw}(h:EV k (a::mu) env e P):EV k (a::d::mu) env e P:=⟨λ{y y y y y y} hA r q=>h.c hA (r.perm tg) λ{y y y} z v r=>q z v (r.perm tg.symm)⟩
theorem mK.mid{a d:cX}{x:V}{Ψ:Mu->Prop}(h:mK k (a::mu) env t x λnu=>∃a',nu=a'::mu/\Ψ (a'::d::mu)):mK k (a::d::mu) env t x Ψ:=
 ⟨λ{y y y y y y y} hA r v q=>h.c hA (r.perm tg) v λ{y y y} z r w=>w.elim λy w=>q z (R.perm (w.1▸r) tg.symm) w.2⟩
structure zQ(k:Nat)(mu:Mu)(scope:fh)(C:ay)(env:gV)(t:bH)(ifs:List bH)(elt:bH)(x:V)(b:Bool)(y:V):Prop where
 go:∃bB,mK k (uK scope C::mu) env t x (λnu=>nu=nE scope C bB::mu)/\xd k (nE scope C bB::mu) env ifs b/\(b=aI->PE k (nE scope C bB::mu) env elt y)
theorem gk{α β:Type}{as:List α}{p:α->Bool}{g:α->β}{i:Nat}{a:α}(h:as[i]? =ae a):((as.take (i+1)).filter p).map g=((as.take i).filter p).map g++(if p a then [g a] else []):=by
 refine aj (dF ..) ?_;refine aj (h ..) ?_;simp [fX,hZ]
 split <;> simp
theorem Dh{α:Type}{scope:fh}{C:ay}{elt iter:bH}{ifs:List bH}{spos:jX}{ctx:Mu}{di:gV}(as:List α)(inj:α->V)(pp:α->Bool)(g:α->V)(hx:xs=as.map inj)(hk:1<=k)(hsz:as.length<=2 ^ 21)(q7:∀o∈ctx,o∈mu)
 (turn:∀a∈as,zQ k mu scope C di t ifs elt (inj a) (pp a) (g a)):
 JR k (uK scope C::bl D []::mu) di (.ListComp elt [⟨t,iter,ifs,0⟩] scope spos) 0 (.ref D) t ctx xs λnu=>∃bB nu',nu=nE scope C bB::nu'/\nu'=bl D ((as.filter pp).map g)::mu:=by
 subst hx;refine rF Kr hk rfl rfl
  (λi nu=>nu=uK scope C::bl D (((as.take i).filter pp).map g)::mu) rfl (λi nu h o ho=>h▸ab _ (ab _ (q7 o ho))) (λi x nu hx h=>?_) (λnu h=>⟨_,_,h,by (refine aj (ak ..) ?_;refine aj (cK ..) ?_;rfl)⟩)
 subst h;rw [aJ] at hx;refine aK (aL.mp hx) λa ha gi=>?_;subst gi;refine ef ((turn a (ao ha)).go) λbB h1 h2 h3=>mK.mid (h1.mono λnu e=>⟨_,e,?_⟩);refine ⟨pp a,h2.mid,λhb=>⟨_,Le.forget,?_⟩,λhb it=>?_⟩
 ·(refine aj (gk ha ..) ?_;refine aj (hb ..) ?_);exact congrArg (λl=>_::bl D l::mu) (cy _).symm
 ·refine Wu.weak (Ψ:=λnu=>nu=nE scope C bB::bl D (((as.take (i+1)).filter pp).map g)::mu) (WU.bf (vQ (i:=1) (cf (h3 hb).mid ⟨rfl,?_,?_⟩))) λnu h=>⟨_,h▸Le.forget,rfl⟩
  ·exact aj (ak ..) (b7 (aw (bu _ _) (aw (kL _ _) hsz)) (show 2 ^ 21 < 2 ^ 22 by decide))
  ·(refine aj (gk ha ..) ?_;refine aj (hb ..) ?_);rfl
end
section
variable {k:Nat}{mu nu ctx:Mu}{env:gV}{p pos:jX}{e t:bH}{xs:List V}{b:Bool}{Z:bI}{s:aq}{D:ay}{Θ:V->Mu->Prop}
theorem JR.mono{d:Nat}{acc:ai}{Ψ Ψ':Mu->Prop}(h:JR k mu env e d acc t ctx xs Ψ)(hi:∀nu,Ψ nu->Ψ' nu):JR k mu env e d acc t ctx xs Ψ':=⟨λ{y y y y y y y} hA hit hc r q=>h.c hA hit hc r λ{y y y} z r w=>q z r (hi _ w)⟩
theorem WV.pe{y:V}(h:WV k mu (dW e env) λv nu=>v=y/\nu=mu):PE k mu env e y:=⟨λ{z z z z z z} hA r q=>h.c hA r λ{z z z z z} a b c w=>q a (w.1▸b) (w.2▸c)⟩
theorem Qo{α:Type}{scope:fh}{cl:List (bb×ay)}{elt iter:bH}{ifs:List bH}{spos:jX}(as:List α)(inj:α->V)(pp:α->Bool)(g:α->V)(sc:Fc scope env cl)(src:pd k mu env iter t ctx (as.map inj))(hk:1<=k)(hsz:as.length<=2 ^ 21)
 (turn:∀C a,a∈as->zQ k mu scope C (pf scope cl C env) t ifs elt (inj a) (pp a) (g a)) (hΘ:∀D,fM D (bl D ((as.filter pp).map g)::mu) Θ) (hs:autoParam (∀x,bw iter env x=dg x) aR):
 WE k mu env (.ListComp elt [⟨t,iter,ifs,0⟩] scope spos) Θ:=by
 show WV k mu (dW _ _) Θ;exact aj (eval_ListComp ..) (xD (g:=⟨t,iter,ifs,0⟩) rfl hs sc uL src λC D=>(Dh as inj pp g rfl hk hsz src.has (turn C)).mono λnu=>bQ λbB=>bQ λnu' w=>⟨w.1,w.2▸hΘ D⟩)
theorem nF{α:Type}{scope:fh}{cl:List (bb×ay)}{elt iter:bH}{ifs:List bH}{spos:jX}(as:List α)(inj:α->V)(pp:α->Bool)(g:α->V)(sc:Fc scope env cl)(src:pd k mu env iter t ctx (as.map inj))(hk:1<=k)(hsz:as.length<=2 ^ 21)
 (turn:∀C a,a∈as->zQ k mu scope C (pf scope cl C env) t ifs elt (inj a) (pp a) (g a)) (hs:autoParam (∀x,bw iter env x=dg x) aR):
 PE k mu env (.ListComp elt [⟨t,iter,ifs,0⟩] scope spos) (.list ((as.filter pp).map g)):=
 WV.pe (Qo as inj pp g sc src hk hsz turn (λD=>fM.list ⟨rfl,rfl⟩) hs)
theorem Qp{α:Type}{scope:fh}{cl:List (bb×ay)}{elt iter:bH}{ifs:List bH}{spos apos py:jX}{y:bb}{Φ:AF->Mu->Prop}(as:List α)(inj:α->V)(pp:α->Bool)(g:α->V)(sc:Fc scope env cl)(src:pd k mu env iter t ctx (as.map inj))(hk:1<=k)(hsz:as.length<=2 ^ 21)
 (turn:∀C a,a∈as->zQ k mu scope C (pf scope cl C env) t ifs elt (inj a) (pp a) (g a))
 (SU:xp (.ListComp elt [⟨t,iter,ifs,0⟩] scope spos) (ae (.Name y py)) apos.line env=dg aI)
 (hΘ:∀D,fM D (bl D ((as.filter pp).map g)::mu) λv nu=>mK k nu env (.Name y py) v (Φ .next)) (hs:autoParam (∀x,bw iter env x=dg x) aR):
 WX k mu env (.Assign [.Name y py] (.ListComp elt [⟨t,iter,ifs,0⟩] scope spos) apos) Φ:=
 Hc (g:=⟨t,iter,ifs,0⟩) (pos:=firstIterPos [⟨t,iter,ifs,0⟩] spos) SU (λu=>rfl) rfl hs sc uL src λC D=>(Dh as inj pp g rfl hk hsz src.has (turn C)).mono λnu=>bQ λbB=>bQ λnu' w=>⟨w.1,w.2▸hΘ D⟩
theorem Ic{it:ai}{fb t2:bH}{acc:ai}{CC:Mu}{xs2:List V}{Ψ:Mu->Prop}(src:pd k mu env fb t2 CC xs2)(w:JR k mu env e 1 acc t2 CC xs2 Ψ)(hs:autoParam (∀x,bw fb env x=dg x) aR):
 WBf k mu (vP e fb acc env it) (.compLoop e 0 it acc env) Ψ:=⟨λ{A E Z s fr Q} hA r q=>by
 delta vP Qm;refine ag (eR (src.c hA r λ{I it s2 Z2} hit z2 r2=>?_) (λx s1 h1=>ag (iH (ag (cN (hs x) (ag (bE h1)))))) λz z e=>e);exact ag (wpAny_runOwn (w.c (A:=A.mark av) hA hit (λo ho=>aE fr (src.has o ho)) r2 λ{z z z} z3 r3 w3=>ar (q (z2.trans z3) r3 w3)))⟩
structure Qq(k:Nat)(mu:Mu)(scope:fh)(C:ay)(bB:el)(env:gV)(t:bH)(ifs:List bH)(elt:bH)(x:V)(b:Bool)(y:V):Prop where
 go:∃vals',mK k (nE scope C bB::mu) env t x (λnu=>nu=nE scope C vals'::mu)/\xd k (nE scope C vals'::mu) env ifs b/\(b=aI->PE k (nE scope C vals'::mu) env elt y)/\
  Le (nE scope C vals'::mu) (nE scope C bB::mu)
theorem Le.mid{a a' d:cX}(h:Le (a::mu) (a'::mu)):Le (a::d::mu) (a'::d::mu):=λZ s fr r=>(h Z s (d::fr) (r.perm tg)).perm tg.symm
theorem Ie{β:Type}{scope:fh}{C:ay}{elt iter fb t2:bH}{ifs oh:List bH}{spos:jX}{CC:Mu}{di:gV}{bB:el}(ys:List V)(bs:List β)(inj:β->V)(pp:β->Bool)(g:β->V)(hx:xs=bs.map inj)(hk:1<=k)(hsz:ys.length+bs.length<=2 ^ 21)(q7:∀o∈CC,o∈mu)
 (turn:∀a∈bs,Qq k mu scope C bB di t2 oh elt (inj a) (pp a) (g a)):
 JR k (nE scope C bB::bl D ys::mu) di (.ListComp elt [⟨t,iter,ifs,0⟩,⟨t2,fb,oh,0⟩] scope spos) 1 (.ref D) t2 CC xs λnu=>nu=nE scope C bB::bl D (ys++(bs.filter pp).map g)::mu:=by
 subst hx;refine rF Oi hk rfl rfl
  (λi nu=>nu=nE scope C bB::bl D (ys++((bs.take i).filter pp).map g)::mu) (by refine aj (xr ..) ?_;first|rfl|((refine aj (qg ..) ?_;refine aj (vg ..) ?_;refine aj (cy ..) ?_;rfl))) (λi nu h o ho=>h▸ab _ (ab _ (q7 o ho))) (λi x nu hx h=>?_) (λnu h=>by (refine aj (h ..) ?_;refine aj (ak ..) ?_;refine aj (cK ..) ?_;rfl))
 subst h;rw [aJ] at hx;refine aK (aL.mp hx) λa ha dO=>?_;subst dO;refine BA ((turn a (ao ha)).go) λvals' h1 h2 h3 h4=>mK.mid (h1.mono λnu e=>⟨_,e,?_⟩);refine ⟨pp a,h2.mid,λhb=>⟨_,h4.mid,?_⟩,λhb it=>?_⟩
 ·(refine aj (gk ha ..) ?_;refine aj (hb ..) ?_);exact congrArg (λl=>_::bl D (_++l)::mu) (cy _).symm
 ·refine Wu.weak (Ψ:=λnu=>nu=nE scope C vals'::bl D (ys++((bs.take (i+1)).filter pp).map g)::mu) (WU.bf (vQ (i:=1) (cf (h3 hb).mid ⟨rfl,?_,?_⟩))) λnu h=>⟨_,h▸h4.mid,rfl⟩
  ·(refine aj (ba ..) ?_;refine aj (ak ..) ?_)
   exact b7 (aw (qo (aw (bu _ _) (kL _ _)) _) hsz) (show 2 ^ 21 < 2 ^ 22 by decide)
  ·(refine aj (gk ha ..) ?_;refine aj (hb ..) ?_);exact congrArg (λl=>_::bl D l::mu) (bU ..)
structure AD(k:Nat)(mu:Mu)(scope:fh)(C:ay)(env:gV)(t elt fb t2:bH)(oh:List bH)(x:V){β:Type}(bs:List β)(inj:β->V)(pp:β->Bool)(g:β->V):Prop where
 go:∃bB CC,mK k (uK scope C::mu) env t x (λnu=>nu=nE scope C bB::mu)/\pd k (nE scope C bB::mu) env fb t2 CC (bs.map inj)/\(∀o∈CC,o∈mu)/\
  ∀b∈bs,Qq k mu scope C bB env t2 oh elt (inj b) (pp b) (g b)
theorem pd.mid{a d:cX}(h:pd k (a::mu) env e t ctx xs):pd k (a::d::mu) env e t ctx xs:=
 ⟨λo ho=>(aP.mp (h.has o ho)).elim (λq=>q▸aa) λq=>ab _ (ab _ q),λ{y y y y y y} hA r q=>h.c hA (r.perm tg) λ{y y y y} hit z r=>q hit z (r.perm (tg.symm.cons _))⟩
theorem Ig{α β:Type}{scope:fh}{C:ay}{elt iter fb t2:bH}{oh:List bH}{spos:jX}{di:gV}(as:List α)(inj:α->V)(bs:α->List β)(zl:β->V)(pp:α->β->Bool)(g:α->β->V)(hx:xs=as.map inj)(hk:1<=k)
 (hsz:(as.flatMap bs).length<=2 ^ 21) (q7:∀o∈ctx,o∈mu) (turn:∀a∈as,AD k mu scope C di t elt fb t2 oh (inj a) (bs a) zl (pp a) (g a)) (GG:∀x,bw fb di x=dg x):
 JR k (uK scope C::bl D []::mu) di (.ListComp elt [⟨t,iter,[],0⟩,⟨t2,fb,oh,0⟩] scope spos) 0 (.ref D) t ctx xs λnu=>∃bB nu',nu=nE scope C bB::nu'/\nu'=bl D (as.flatMap λa=>((bs a).filter (pp a)).map (g a))::mu:=by
 subst hx;refine rF Oh hk rfl rfl
  (λi nu=>nu=uK scope C::bl D ((as.take i).flatMap λa=>((bs a).filter (pp a)).map (g a))::mu) (by refine aj (xr ..) ?_;first|rfl|(rw [qg,vg,cy])) (λi nu h o ho=>h▸ab _ (ab _ (q7 o ho))) (λi x nu hx h=>?_) (λnu h=>⟨_,_,h,by (refine aj (ak ..) ?_;refine aj (cK ..) ?_;rfl)⟩)
 subst h;rw [aJ] at hx;refine aK (aL.mp hx) λa ha eT=>?_;subst eT;refine ir ((turn a (ao ha)).go) λbB CC h1 h2 h3 h4=>mK.mid (h1.mono λnu e=>⟨_,e,?_⟩);refine ⟨aI,dk,λhb=>(J3 hb),λhb it=>?_⟩;have hlen:((as.take i).flatMap λa=>((bs a).filter (pp a)).map (g a)).length+(bs a).length<=2 ^ 21:=by
  have e1:as.flatMap bs=(as.take i).flatMap bs++(bs a++(as.drop (i+1)).flatMap bs):=by
   conv=>lhs;rw [gh ha]
   simp
  have e2:((as.take i).flatMap λa=>((bs a).filter (pp a)).map (g a)).length<=((as.take i).flatMap bs).length:=by
   generalize as.take i=l;induction l with
   |nil=>simp
   |cons x l ih=>
    simp only [dG,ba,ak];have:=bu (pp x) (bs x)
    with_reducible exact Nat.add_le_add (by assumption) (by assumption)
  rw [e1] at hsz;simp only [ba] at hsz;lia
 refine Wu.weak (Ψ:=λnu=>nu=nE scope C bB::bl D ((as.take (i+1)).flatMap λa=>((bs a).filter (pp a)).map (g a))::mu) (Ic h2.mid ((Ie _ (bs a) zl (pp a) (g a) rfl hk hlen h3 h4).mono λnu e=>?_) GG) λnu h=>⟨_,h▸Le.forget,rfl⟩
 rw [e,dF,ha];simp
theorem Rx{α β:Type}{scope:fh}{cl:List (bb×ay)}{elt iter fb t2:bH}{oh:List bH}{spos:jX}(as:List α)(inj:α->V)(bs:α->List β)(zl:β->V)(pp:α->β->Bool)(g:α->β->V)(sc:Fc scope env cl)(src:pd k mu env iter t ctx (as.map inj))(hk:1<=k)(hsz:(as.flatMap bs).length<=2 ^ 21)
 (turn:∀C a,a∈as->AD k mu scope C (pf scope cl C env) t elt fb t2 oh (inj a) (bs a) zl (pp a) (g a)) (hΘ:∀D,fM D (bl D (as.flatMap λa=>((bs a).filter (pp a)).map (g a))::mu) Θ) (hs:autoParam (∀x,bw iter env x=dg x) aR)
 (GG:autoParam (∀C x,bw fb (pf scope cl C env) x=dg x) aR):
 WE k mu env (.ListComp elt [⟨t,iter,[],0⟩,⟨t2,fb,oh,0⟩] scope spos) Θ:=by
 show WV k mu (dW _ _) Θ;exact aj (eval_ListComp ..) (xD (g:=⟨t,iter,[],0⟩) rfl hs sc uL src λC D=>(Ig as inj bs zl pp g rfl hk hsz src.has (turn C) (GG C)).mono λnu=>bQ λbB=>bQ λnu' w=>⟨w.1,w.2▸hΘ D⟩)
theorem Kt{α β:Type}{scope:fh}{cl:List (bb×ay)}{elt iter fb t2:bH}{oh:List bH}{spos:jX}(as:List α)(inj:α->V)(bs:α->List β)(zl:β->V)(pp:α->β->Bool)(g:α->β->V)(sc:Fc scope env cl)(src:pd k mu env iter t ctx (as.map inj))(hk:1<=k)(hsz:(as.flatMap bs).length<=2 ^ 21)
 (turn:∀C a,a∈as->AD k mu scope C (pf scope cl C env) t elt fb t2 oh (inj a) (bs a) zl (pp a) (g a)) (hs:autoParam (∀x,bw iter env x=dg x) aR)
 (GG:autoParam (∀C x,bw fb (pf scope cl C env) x=dg x) aR):
 PE k mu env (.ListComp elt [⟨t,iter,[],0⟩,⟨t2,fb,oh,0⟩] scope spos) (.list (as.flatMap λa=>((bs a).filter (pp a)).map (g a))):=
 WV.pe (Rx as inj bs zl pp g sc src hk hsz turn (λD=>fM.list ⟨rfl,rfl⟩) hs GG)
noncomputable def jE(es:List (bb×V))(x:bb)(y:V):List (bb×V):=
 if es.any (λkv=>kv.1=x) then es.map (λkv=>if kv.1=x then (kv.1,y) else kv) else es++[(x,y)]
theorem Ku{α:Type}(x:bb){l:List (bb×α)}{r:List (bb×V)}(h:l.map (·.1)=r.map (·.1)):l.any (λkv=>kv.1=x)=r.any (λkv=>kv.1=x):=by
 have e:∀{β:Type} (l:List (bb×β)),l.any (λkv=>kv.1=x)=(l.map (·.1)).any (λy=>y=x):=λ{z} l=>by refine aj (CH ..) ?_;rfl
 refine aj (e ..) ?_;refine aj (h ..) ?_;refine fZ (e ..) ?_;rfl
theorem Di{α:Type}(x:bb)(v:α)(l:List (bb×α)):(l.map (λkv=>if kv.1=x then (kv.1,v) else kv)).map (·.1)=l.map (·.1):=by refine aj (a0 ..) ?_;exact b5 λa z=>by show (if a.1=x then (a.1,v) else a).1=a.1;split <;> rfl
theorem Dj{P:List (bb×ai)->List (bb×V)->Prop}(nil:P [] [])(cons:∀{x v y l r},aZ G Z v y->P l r->P ((x,v)::l) ((x,y)::r)){l:List (bb×ai)}:∀{r:List (bb×V)},l.map (·.1)=r.map (·.1)->bW G Z (l.map (·.2)) (r.map (·.2))->P l r:=by
 induction l with
 |nil=>intro r h z;cases r with
  |nil=>exact nil
  |cons=>exact Rb h
 |cons a l ih=>intro r h w;cases r with
  |nil=>exact J4 h
  |cons c r=>obtain ⟨x,v⟩:=a;obtain ⟨y,u⟩:=c;refine dU (s8 h) λh1 h2=>?_;subst h1;exact cons w.uncons.1 (ih h2 w.uncons.2)
theorem Dk{kvs:List (bb×ai)}{es:List (bb×V)}{x:bb}{v:ai}{y:V}(hk:kvs.map (·.1)=es.map (·.1))(hr:bW G Z (kvs.map (·.2)) (es.map (·.2)))(hv:aZ G Z v y):
 (stored kvs x v).map (·.1)=(jE es x y).map (·.1)/\bW G Z ((stored kvs x v).map (·.2)) ((jE es x y).map (·.2)):=by
 delta stored jE;refine aj (Ku x hk ..) ?_
 split
 ·refine ⟨by (refine aj (Di ..) ?_;refine aj (Di ..) ?_;refine aj (hk ..) ?_;rfl),Dj (P:=λl r=>bW G Z ((l.map (λkv=>if kv.1=x then (kv.1,v) else kv)).map (·.2)) ((r.map (λkv=>if kv.1=x then (kv.1,y) else kv)).map (·.2))) .nil (λ{z u w l r} h1 ih=>?_) hk hr⟩;rw [bA,bA,bA,bA];refine .cons ?_ ih;by_cases hx:z=x
  ·rw [if_pos hx,if_pos hx];exact hv
  ·rw [if_neg hx,if_neg hx];exact h1
 ·(refine aj (bj ..) ?_;refine aj (bj ..) ?_;refine aj (bj ..) ?_;refine aj (bj ..) ?_)
  exact ⟨congrArg (·++[x]) hk,hr.append (.cons hv .nil)⟩
theorem Dl{A:bh}{E:ai->aq->Prop}{Q:Unit->aq->Prop}{a:ay}{es:List (bb×V)}{i:Nat}{x:bb}{tk:HX}{v:ai}{y:V}(r:R Z mu s)(hi:mu[i]? =ae (cD a es))(hl:es.length<=er)(hv:aZ G Z v y)
 (h:∀s',R Z (mu.set i (cD a (jE es x y))) s'->Q () s'):aS (aX G.prog G.w) A (dictSet a (.str x tk) v) Q E s:=by
 refine qr (r.sat _ (ao hi)) λq kvs h1 h2 h3=>?_;have hlen:kvs.length=es.length:=by (refine fZ (ak (f:=(·.1)) ..) ?_;refine aj (h2 ..) ?_;refine aj (ak ..) ?_;rfl)
 refine wpAny_dictSet_pairs (knd:=strKind G.prog G.w) (k:=x) (zw G.prog G.w x tk) h1 (λh' hd hs=>h _ ?_) (hlen▸hl);exact r.upd' (x':=cD a (jE es x y)) hi rfl (λb o hb e=>hs.extBut b o (λq=>hb (q▸aa)) e) ⟨q,_,hd,Dk (x:=x) h2 h3 hv⟩
theorem Oj{a:ay}{es:List (bb×V)}{i:Nat}{ke ve:bH}{x:bb}{y:V}{Ψ:Mu->Prop}(h1:PE k mu env ke (.str x))(h2:PE k mu env ve y)(hi:mu[i]? =ae (cD a es))(hl:es.length<=er)(h:Ψ (mu.set i (cD a (jE es x y)))):
 WU k mu (Kq ke ve (.ref a) env) Ψ:=⟨λ{A E Z s fr Q} hA r q=>by
 delta Kq;refine ag (h1.c hA r λ{kv s1 Z1} z1 q1 r1=>ag (bE (h2.c hA r1 λ{vv s2 Z2} z2 q2 r2=>?_)));refine cJ (gU q1) λtk dO=>?_;subst dO;exact ag (iH (bE (Dl r2 (cH hi) hl q2 λs' r'=>q (z1.trans z2) (gE hi▸r') h)))⟩
theorem Ol(B:g7 G)(r:R Z mu s):(s.heap.objs.size == lY)=aH:=by exact cJ (B.sysm) λo ho=>beq_eq_false_iff_ne.mpr (jI (bN (r.z0in _ _ ho)))
theorem vR(B:g7 G){tk:Nat}(r:R Z mu s):R Z (cD s.heap.objs.size []::mu) {s with heap:=s.heap.push {cls:= .type "dict",data:= .dict #[]},toks:=tk}:=
 r.addNew (tk:=tk) _ (λb o e=>az _ e) ⟨Ol B r,[],Heap.DictOf.new s.heap,rfl,.nil⟩ eg λz h=>kX h
theorem Dm(B:g7 G):Acc newDict (λD=>cD D []):=⟨λ{A E Z s mu Q} r q=>jg (q (vR B r))⟩
structure AE(k:Nat)(mu:Mu)(scope:fh)(C:ay)(env:gV)(t:bH)(ifs:List bH)(ke ve:bH)(x:V)(b:Bool)(kx:bb)(y:V):Prop where
 go:∃bB,mK k (uK scope C::mu) env t x (λnu=>nu=nE scope C bB::mu)/\xd k (nE scope C bB::mu) env ifs b/\(b=aI->PE k (nE scope C bB::mu) env ke (.str kx)/\PE k (nE scope C bB::mu) env ve y)
noncomputable def rG(ps:List (bb×V)):List (bb×V):=ps.foldl (λes q=>jE es q.1 q.2) []
theorem Kv(es:List (bb×V))(x:bb)(y:V):(jE es x y).length<=es.length+1:=by
 delta jE
 split
 ·refine aj (ak ..) ?_;exact jC _
 ·refine aj (ba ..) ?_;exact bp _
theorem Ih(ps:List (bb×V)):(rG ps).length<=ps.length:=by
 have:∀(ps es:List (bb×V)),(ps.foldl (λes q=>jE es q.1 q.2) es).length<=es.length+ps.length:=by
  intro ps;induction ps with
  |nil=>intro es;exact bp _
  |cons q ps ih=>intro es;refine aw (ih (jE es q.1 q.2)) ?_;refine aj (bK ..) ?_;refine aj (Nat.add_comm ps.length ..) ?_;refine fZ (l5 ..) ?_;exact TI (Kv es q.1 q.2) _
 exact aw (this ps []) (ll (eC _))
theorem xY(ps:List (bb×V))(q:bb×V):rG (ps++[q])=jE (rG ps) q.1 q.2:=fu
theorem AG{α:Type}{scope:fh}{C:ay}{ke ve iter:bH}{ifs:List bH}{spos:jX}{di:gV}(as:List α)(inj:α->V)(pp:α->Bool)(g:α->bb×V)(hx:xs=as.map inj)(hk:1<=k)(hsz:as.length<=2 ^ 21)(q7:∀o∈ctx,o∈mu)
 (turn:∀a∈as,AE k mu scope C di t ifs ke ve (inj a) (pp a) (g a).1 (g a).2):
 JR k (uK scope C::cD D []::mu) di (.DictComp ke ve [⟨t,iter,ifs,0⟩] scope spos) 0 (.ref D) t ctx xs λnu=>∃bB nu',nu=nE scope C bB::nu'/\nu'=cD D (rG ((as.filter pp).map g))::mu:=by
 subst hx;refine rF Rv hk rfl rfl
  (λi nu=>nu=uK scope C::cD D (rG (((as.take i).filter pp).map g))::mu) rfl (λi nu h o ho=>h▸ab _ (ab _ (q7 o ho))) (λi x nu hx h=>?_) (λnu h=>⟨_,_,h,by (refine aj (ak ..) ?_;refine aj (cK ..) ?_;rfl)⟩)
 subst h;rw [aJ] at hx;refine aK (aL.mp hx) λa ha eT=>?_;subst eT;refine ef ((turn a (ao ha)).go) λbB h1 h2 h3=>mK.mid (h1.mono λnu e=>⟨_,e,?_⟩);refine ⟨pp a,h2.mid,λhb=>⟨_,Le.forget,?_⟩,λhb it=>?_⟩
 ·(refine aj (gk ha ..) ?_;refine aj (hb ..) ?_);exact congrArg (λl=>_::cD D (rG l)::mu) (cy _).symm
 ·refine Wu.weak (Ψ:=λnu=>nu=nE scope C bB::cD D (rG (((as.take (i+1)).filter pp).map g))::mu) (WU.bf (Oj (i:=1) (h3 hb).1.mid (h3 hb).2.mid rfl ?_ ?_)) λnu h=>⟨_,h▸Le.forget,rfl⟩
  ·refine aw (Ih _) (aj (ak ..) ?_);exact aw (bu _ _) (aw (kL _ _) (aw hsz (show 2 ^ 21<=2 ^ 24 by decide)))
  ·(refine aj (gk ha ..) ?_;refine aj (hb ..) ?_;refine aj (if_pos rfl ..) ?_;refine aj (xY ..) ?_);rfl
theorem WE_dc{α:Type}{scope:fh}{cl:List (bb×ay)}{ke ve iter:bH}{ifs:List bH}{spos:jX}(B:g7 G)(as:List α)(inj:α->V)(pp:α->Bool)(g:α->bb×V)(sc:Fc scope env cl)(src:pd k mu env iter t ctx (as.map inj))(hk:1<=k)(hsz:as.length<=2 ^ 21)
 (turn:∀C a,a∈as->AE k mu scope C (pf scope cl C env) t ifs ke ve (inj a) (pp a) (g a).1 (g a).2) (hΘ:∀D,fM D (cD D (rG ((as.filter pp).map g))::mu) Θ) (hs:autoParam (∀x,bw iter env x=dg x) aR):
 WE k mu env (.DictComp ke ve [⟨t,iter,ifs,0⟩] scope spos) Θ:=by
 show WV k mu (dW _ _) Θ;exact aj (arm_eval_DictComp ..) (xD (g:=⟨t,iter,ifs,0⟩) rfl hs sc (Dm B) src λC D=>(AG as inj pp g rfl hk hsz src.has (turn C)).mono λnu=>bQ λbB=>bQ λnu' w=>⟨w.1,w.2▸hΘ D⟩)
theorem WX_dc{α:Type}{scope:fh}{cl:List (bb×ay)}{ke ve iter:bH}{ifs:List bH}{spos apos py:jX}{y:bb}{Φ:AF->Mu->Prop}(B:g7 G)(as:List α)(inj:α->V)(pp:α->Bool)(g:α->bb×V)(sc:Fc scope env cl)(src:pd k mu env iter t ctx (as.map inj))(hk:1<=k)(hsz:as.length<=2 ^ 21)
 (turn:∀C a,a∈as->AE k mu scope C (pf scope cl C env) t ifs ke ve (inj a) (pp a) (g a).1 (g a).2)
 (SU:xp (.DictComp ke ve [⟨t,iter,ifs,0⟩] scope spos) (ae (.Name y py)) apos.line env=dg aI)
 (hΘ:∀D,fM D (cD D (rG ((as.filter pp).map g))::mu) λv nu=>mK k nu env (.Name y py) v (Φ .next)) (hs:autoParam (∀x,bw iter env x=dg x) aR):
 WX k mu env (.Assign [.Name y py] (.DictComp ke ve [⟨t,iter,ifs,0⟩] scope spos) apos) Φ:=
 Hc (g:=⟨t,iter,ifs,0⟩) (pos:=firstIterPos [⟨t,iter,ifs,0⟩] spos) SU (λu=>rfl) rfl hs sc (Dm B) src λC D=>(AG as inj pp g rfl hk hsz src.has (turn C)).mono λnu=>bQ λbB=>bQ λnu' w=>⟨w.1,w.2▸hΘ D⟩
variable {P Q S:Vw}{x y:V}
structure Gi(k:Nat)(mu:Mu)(P Q S:Vw):Prop where
 c:∀{A:bh} {E:ai->aq->Prop} {Z:bI} {s:aq} {fr:Mu} {v u:ai} {T:ai->aq->Prop},Rm k A->R Z (mu++fr) s->P.p Z v->Q.p Z u->(∀{w s' Z'},Z.le Z'->S.p Z' w->R Z' (mu++fr) s'->T w s')->
  (∃T id,iQ (.type T) "__getitem__"=dg (ae (.builtin id))/\s.TypeIs v T)/\aS (aX G.prog G.w) A (JC v u) T E s
noncomputable def Ry(lo hi st:Option Int):Vw:=
 ⟨λZ v=>∃a vl vu vs o,v= .ref a/\Z a=ae o/\o.cls= .type "slice"/\o.data= .fields #[vl,vu,vs]/\IsPart vl lo/\IsPart vu hi/\IsPart vs st,
  λZ Z' v h=>bQ λa=>bQ λvl=>bQ λvu=>bQ λvs=>bQ λo w=>⟨w.1,h _ _ w.2.1,w.2.2⟩⟩
theorem Kw{A:bh}{E T:ai->aq->Prop}{o i:bH}(hs:∀a b,∃ops,NR i aH a b=operate ops (JC a b))(he:aS (aX G.prog G.w) A (dW o env) (λv s1=>aS (aX G.prog G.w) A (dW i env) (λu s2=>∀(T':ai->aq->Prop),(∀{w s'},T w s'->T' w s')->
 (∃U id,iQ (.type U) "__getitem__"=dg (ae (.builtin id))/\s2.TypeIs v U)/\aS (aX G.prog G.w) A (JC v u) T' E s2) E s1) E s):aS (aX G.prog G.w) A (dW (.Subscript o i p) env) T E s:=by
 with_reducible refine PyProof.Rows.Subscript_ ?_
 refine eR he (λv s1 h1=>eR h1 (λu s2 h2=>?_) λz z e=>e) λz z e=>e;refine dU (h2 (λw s3=>aS (aX G.prog G.w) A (pG o v w >>=λz=>dg w) T E s3) λ{z z} h=>ag (wpAny_letTemporaryGo (ar h))) λdO hg=>eD dO λU id hl hT=>?_;clear dO;refine cJ (hs v u) λops hs=>?_;unfold PyProof.Rows.subscriptTail;refine ag (aj (getitemInPython_of_ne hT.not_modules ..) ?_);refine ag (h8 hT hl ?_)
 first
  |exact ar (ag (hs▸TJ hg))
  |exact ag (ar (ag (hs▸TJ hg)))
  |exact ag (hs▸TJ hg)
theorem bF{o i:bH}(ho:EV k mu env o P)(hi:EV k mu env i Q)(g:Gi k mu P Q S)(hs:∀a b,∃ops,NR i aH a b=operate ops (JC a b):=by intro a b;exact ⟨_,rfl⟩):
 EV k mu env (.Subscript o i p) S:=⟨λ{z z z z z z} hA r q=>Kw hs (ho.c hA r λ{z z z} z1 q1 r1=>hi.c hA r1 λ{z z z} z2 q2 r2 T' t=>g.c hA r2 (P.mono _ _ _ z2 q1) q2 λ{z z z} z3 q3 r3=>t (q (z1.trans (z2.trans z3)) q3 r3))⟩
theorem me.at{v:ai}{fr:Mu}(h:(me mu xs).p Z v)(r:R Z (mu++fr) s):∃a vs n,v= .ref a/\s.heap.get? a=ae (oK vs n)/\bW G Z vs.toList xs:=
 h.imp λa w=>(w.2 Z s .rfl r.left).imp λvs=>bQ λn u=>⟨w.1,u⟩
noncomputable def j9(n:Nat)(i:Int):Nat:=if i < 0 then (i+n).toNat else i.toNat
theorem AH{n:Nat}{i:Int}(SV: -(n:Int)<=i)(hlt:j9 n i < n):Nl i n=ae (j9 n i):=by
 unfold Nl j9;unfold j9 at hlt
 split <;> rename_i hneg
 ·rw [if_pos hneg] at hlt;refine aj (if_pos (by simp;lia) ..) ?_;rfl
 ·rw [if_neg hneg] at hlt;refine aj (if_pos (by simp;lia) ..) ?_;rfl
theorem Rz{i:Int}(hx:xs[j9 xs.length i]? =ae y)(SV: -(xs.length:Int)<=i)(hhi:i < 2 ^ 62)(hn:xs.length < 2 ^ 62):Gi k mu (me mu xs) (bZ (.int i)) (bZ y):=⟨λ{A E Z s fr v u T} hA r hp hq q=>by
 refine cE (me.at hp r) λa vs n eT h1 h2=>?_;subst eT;refine cJ (gF hq) λtk gi=>?_;subst gi;have hL:s.heap.IsList a vs:=⟨_,h1,rfl,n,rfl⟩;refine aK (h2.get hx) λw h3 h4=>?_;rw [b9 h2] at h3 SV hn;rw [bV] at h3;refine ⟨⟨"list",_,E3,hL.typeIs⟩,?_⟩;unfold j9 at h3
 split at h3
 ·exact wpAny_getItem_list_neg hL ‹_› SV (by lia) h3 (q .rfl h4 r)
 ·exact wpAny_getItem_list hL (by exact Int.le_of_not_gt (by assumption)) (by exact rv (by assumption) (by decide)) h3 (q .rfl h4 r)⟩
theorem Kx{i:Int}(hx:xs[j9 xs.length i]? =ae y)(SV: -(xs.length:Int)<=i)(hhi:i < 2 ^ 62)(hn:xs.length < 2 ^ 62):Gi k mu (bZ (.tup xs)) (bZ (.int i)) (bZ y):=⟨λ{A E Z s fr v u T} hA r hp hq q=>by
 refine dK (aZ.tup_inv hp) λa o vs n iC e1 hc hd h2=>?_;subst iC;refine cJ (gF hq) λtk kG=>?_;subst kG;have hL:IsTup s.heap a vs:=⟨_,r.zin _ _ e1,hc,n,hd⟩;have hlt:=(aB.mp hx).1;refine aK (h2.get hx) λw h3 h4=>?_;rw [bV] at h3;exact ⟨⟨"tuple",_,PyProof.Rows.slot_tuple_getitem.lookup,hL.typeIs⟩,PyProof.Rows.getItem_tuple hL (by lia) (by exact rv (by assumption) (by decide)) (b9 h2▸AH SV hlt) h3 (q .rfl h4 r)⟩⟩
theorem gi_s{x:bb}{i:Int}{c:Nat}(hx:x.cps[j9 x.length i]? =ae c)(SV: -(x.length:Int)<=i)(hhi:i < 2 ^ 62)(hn:x.length < 2 ^ 62):Gi k mu (bZ (.str x)) (bZ (.int i)) (bZ (.str ⟨#[c]⟩)):=⟨λ{A E Z s fr v u T} hA r hp hq q=>by
 refine cJ (gU hp) λtk ma=>?_;subst ma;refine cJ (gF hq) λny mE=>?_;subst mE;refine ⟨⟨"str",_,PyProof.Rows.slot_str_getitem.lookup,rfl⟩,PyProof.Rows.getItem_str (c:=c) ?_ ?_ (q .rfl (aZ.str _ _) r.toks)⟩
 ·simp;lia
 ·refine aj (AH SV (rx.mp hx).1 ..) ?_;exact hx⟩
noncomputable def mf(es:List (bb×V))(x:bb):Option V:=(es.find? λkv=>kv.1=x).map (·.2)
theorem uM{x:bb}{l:List (bb×ai)}{r:List (bb×V)}(h:l.map (·.1)=r.map (·.1))(hr:bW G Z (l.map (·.2)) (r.map (·.2))){y:V}:mf r x=ae y->∃v,vt l x=ae v/\aZ G Z v y:=by
 refine Dj (P:=λl r=>mf r x=ae y->∃v,vt l x=ae v/\aZ G Z v y) (λe=>gK e) (λ{z u w l r} h1 ih hy=>?_) h hr;unfold mf at hy;unfold vt;rw [jV] at hy ⊢;by_cases hx:z=x
 ·rw [show decide (z=x)=aI from decide_eq_true hx] at hy ⊢;exact ⟨u,rfl,aO hy▸h1⟩
 ·rw [show decide (z=x)=aH from decide_eq_false hx] at hy ⊢;exact ih hy
theorem th{x:bb}{l:List (bb×ai)}{r:List (bb×V)}(h:l.map (·.1)=r.map (·.1))(hy:mf r x=av):vt l x=av:=by unfold mf at hy;unfold vt;rw [Qd,Al] at hy ⊢;intro a ha;exact aK (aG.mp (h▸aG.mpr ⟨a,ha,rfl⟩:a.1∈r.map (·.1))) λc hc e=>e▸hy c hc
theorem NC.at{v:ai}{fr:Mu}{es:List (bb×V)}(h:(NC mu es).p Z v)(r:R Z (mu++fr) s):∃a kvs,v= .ref a/\(a == lY)=aH/\s.heap.DictOf (strKind G.prog G.w) a kvs/\kvs.map (·.1)=es.map (·.1)/\bW G Z (kvs.map (·.2)) (es.map (·.2)):=
 h.imp λa w=>(w.2 Z s .rfl r.left).2.imp λkvs u=>⟨w.1,(w.2 Z s .rfl r.left).1,u⟩
theorem mh{es:List (bb×V)}{x:bb}(hx:mf es x=ae y):Gi k mu (NC mu es) (bZ (.str x)) (bZ y):=⟨λ{A E Z s fr v u T} hA r hp hq q=>by
 refine As (NC.at hp r) λa kvs q8 ER h1 h2 h3=>?_;subst q8;refine cJ (gU hq) λtk uf=>?_;subst uf;exact aK (uM h2 h3 hx) λw h4 h5=>⟨⟨"dict",_,PySem.slot_dict_getitem.lookup,h1.typeIs⟩,wpAny_getItem_of (knd:=strKind G.prog G.w) (k:=x) (zw G.prog G.w x tk) h1.mapOf h4 (q .rfl h5 r.toks)⟩⟩
structure Dn(k:Nat)(mu:Mu)(env:gV)(oe:Option bH)(x:Option Int):Prop where
 c:∀{A:bh} {E:ai->aq->Prop} {Z:bI} {s:aq} {fr:Mu} {T:ai->aq->Prop},Rm k A->R Z (mu++fr) s->(∀{v s' Z'},IsPart v x->Z.le Z'->R Z' (mu++fr) s'->T v s')->aS (aX G.prog G.w) A (evalPart oe env) T E s
theorem dM:Dn k mu env av av:=⟨λ{z z z z z z} hA r q=>by refine aj (evalPart_none ..) ?_;exact ar (q .none .rfl r)⟩
theorem eO{i:Int}(h:PE k mu env e (.int i)):Dn k mu env (ae e) (ae i):=⟨λ{z z z z z z} hA r q=>by
 refine aj (evalPart_some ..) ?_;exact h.c hA r λ{z z z} z1 q1 r1=>q ((gF q1).elim λz e=>e▸.int _ _) z1 r1⟩
theorem jo{lo hi st:Option bH}{l h c:Option Int}(h1:Dn k mu env lo l)(h2:Dn k mu env hi h)(h3:Dn k mu env st c):EV k mu env (.Slice lo hi st p) (Ry l h c):=⟨λ{A E Z s fr T} hA r q=>by
 with_reducible refine wpAny_Slice ?_
 exact h1.c hA r λ{z z z} q1 z1 r1=>h2.c hA r1 λ{z z z} q2 z2 r2=>h3.c hA r2 λ{v3 s3 Z3} q3 z3 r3=>q (z1.trans (z2.trans (z3.trans (bI.le_put (r3.fresh (bp _)))))) ⟨_,_,_,v3,_,rfl,bI.put_self ..,rfl,rfl,q1,q2,q3⟩ r3.pushZ⟩
noncomputable def jq{α:Type}(xs:List α)(lo hi st:Option Int):List α:=
 (zx (c7 lo hi st xs.length).1 (c7 lo hi st xs.length).2.1 (c7 lo hi st xs.length).2.2).filterMap (xs[·]?)
theorem bW.picks{vs:List ai}{xs:List V}(h:bW G Z vs xs)(l:List Nat):bW G Z (l.filterMap (vs[·]?)) (l.filterMap (xs[·]?)):=by
 induction l with
 |nil=>exact .nil
 |cons i l ih=>
  refine aj (qp ..) ?_;refine aj (qp ..) ?_;cases hi:xs[i]? with
  |none=>refine aj (sv.mpr (h.length▸sv.mp hi) ..) ?_;exact ih
  |some x=>refine aK (h.get hi) λv h1 h2=>?_;refine aj (h1 ..) ?_;exact .cons h2 ih
theorem jr{α β:Type}(f:α->β)(xs:List α)(lo hi st:Option Int):jq (xs.map f) lo hi st=(jq xs lo hi st).map f:=by unfold jq;refine aj (ak ..) ?_;refine aj (List.map_filterMap ..) ?_;exact congrArg (List.filterMap · _) (funext λi=>aJ)
theorem AI{vs:Array ai}{lo hi st:Option Int}(h:bW G Z vs.toList xs):bW G Z (xt vs lo hi st).toList (jq xs lo hi st):=by have:=h.picks (zx (c7 lo hi st vs.size).1 (c7 lo hi st vs.size).2.1 (c7 lo hi st vs.size).2.2);refine aj (show (xt vs lo hi st).toList=(zx (c7 lo hi st vs.size).1 (c7 lo hi st vs.size).2.1 (c7 lo hi st vs.size).2.2).filterMap (vs.toList[·]?) from by unfold xt;simp) ?_;unfold jq;exact aj (b9 h ..) (this)
theorem pg{lo hi st:Option Int}(h0:st≠ae 0)(hn:xs.length<=2 ^ 23):Gi k mu (me mu xs) (Ry lo hi st) (bZ (.list (jq xs lo hi st))):=⟨λ{A E Z s fr v u T} hA r hp hq q=>by
 refine cE (me.at hp r) λa vs n mP h1 h2=>?_;subst mP;obtain ⟨b,vl,vu,vst,o,rfl,hz,hc,hd,p1,p2,p3⟩:=hq;have hL:s.heap.IsList a vs:=⟨_,h1,rfl,n,rfl⟩;have hlen:=b9 h2;refine ⟨⟨"list",_,E3,hL.typeIs⟩,?_⟩;refine wpAny_getItem_list_slice hL ⟨o,r.zin _ _ hz,hc,hd⟩ p1 p2 p3 h0 ?_ (hlen▸aw hn (show 2 ^ 23<=2 ^ 24 by decide));have zz:Z.le (Z.put s.heap.objs.size {cls:= .type "list",data:= .seq (xt vs lo hi st)}):=bI.le_put (r.fresh (bp _));exact q zz (aZ.list (n:=0) (vs:=xt vs lo hi st) (bI.put_self ..) (AI (h2.mono zz))) r.pushZ⟩
variable {ys:List V}
theorem j3.vrels{vs:List ai}(h:j3 Z vs (xs.map bZ:List (Vw))):bW G Z vs xs:=by
 induction xs generalizing vs with
 |nil=>cases h.none;exact .nil
 |cons x xs ih=>refine cC (h.cons_inv) λv vs dO a r=>?_;subst dO;exact .cons a (ih r)
theorem j3.len{vs:List ai}{Ps:List (Vw)}(h:j3 Z vs Ps):vs.length=Ps.length:=by
 induction h with
 |nil=>rfl
 |cons _ _ ih=>exact congrArg xn ih
theorem j3.size{vs:List ai}(h:j3 Z vs (xs.map bZ:List (Vw)))(hl:xs.length<=2 ^ 20):vs.length<=er:=by (refine aj (h.len ..) ?_;refine aj (ak ..) ?_);exact aw hl (show 2 ^ 20<=2 ^ 24 by decide)
theorem xZ{vs:Array ai}{n tk:Nat}{T:Prop}(r:R Z mu s)(hr:bW G Z vs.toList xs)(q:∀{Z'},Z.le Z'->aZ G Z' (.ref s.heap.objs.size) (.list xs)->R Z' mu {s with heap:=s.heap.push {cls:= .type "list",data:= .seq vs n},toks:=tk}->T):T:=
 q (bI.le_put (r.fresh (bp _))) (aZ.list (vs:=vs) (n:=n) (bI.put_self ..) (hr.mono (bI.le_put (r.fresh (bp _))))) r.pushZ.toks
theorem f9{es:List bH}{kk:Nat}(h:tD k mu env es (xs.map bZ))(hl:xs.length<=2 ^ 20):PE k mu env (.Tuple es kk pos) (.tup xs):=⟨λ{A E Z s fr Q} hA r q=>by
 with_reducible refine E4 ?_
 refine h.c hA r λ{vs s1 Z1} z1 q1 r1=>⟨q1.size hl,?_⟩
 have z2:=bI.le_put (o:={cls:= .type "tuple",data:= .seq vs.toArray}) (r1.fresh (bp _));exact q (z1.trans z2) (aZ.tup (vs:=vs.toArray) (n:=0) (bI.put_self ..) rfl rfl (q1.vrels.mono z2)) r1.pushZ⟩
theorem ij{es:List bH}(h:tD k mu env es (xs.map bZ))(hl:xs.length<=2 ^ 20):PE k mu env (.List es pos) (.list xs):=⟨λ{A E Z s fr Q} hA r q=>by
 with_reducible refine wpAny_List_spliced ?_
 exact h.c hA r λ{z z z} z1 q1 r1=>⟨q1.size hl,xZ r1 q1.vrels λ{z} z2=>q (z1.trans z2)⟩⟩
theorem sE{es:List bH}(h:tD k mu env es (xs.map bZ))(hl:xs.length<=2 ^ 20)(hΘ:∀D,fM D (bl D xs::mu) Θ):WE k mu env (.List es pos) Θ:=⟨λ{A E Z s fr Q} hA r q=>by
 with_reducible refine wpAny_List_spliced ?_
 exact h.c hA r λ{vs s1 Z1} z1 q1 r1=>⟨q1.size hl,(hΘ s1.heap.objs.size).c (r1.addNew (tk:=s1.toks) (bl s1.heap.objs.size xs) (λb o e=>az _ e) ⟨vs.toArray,0,aW _ rfl,q1.vrels⟩ eg λz h=>kX h) λ{z z z} z2=>q (z1.trans z2)⟩⟩
theorem ya(B:g7 G)(hΘ:∀D,fM D (cD D []::mu) Θ):WE k mu env (.Dict [] [] pos) Θ:=⟨λ{A E Z s fr Q} hA r q=>by
 with_reducible refine wpAny_Dict_empty ?_
 exact (hΘ s.heap.objs.size).c (fr:=fr) (vR B r) q⟩
theorem uN(hl:xs.length+ys.length<=2 ^ 23):xR k mu .Add (me mu xs) (me mu ys) (bZ (.list (xs++ys))):=⟨λ{A E Z s fr v u T} hA r hp hq q=>by
 refine cE (me.at hp r) λa vs n eT h1 h2=>?_;subst eT;refine cE (me.at hq r) λb ws m gi h3 h4=>?_;subst gi;refine PySem.P.add_list (n:=n) (n2:=m) (items:=vs) (items2:=ws) h1 h3 ?_ (by (refine fZ (b9 h2 ..) ?_;refine fZ (b9 h4 ..) ?_);exact aw hl (show 2 ^ 23<=2 ^ 24 by decide));exact xZ (tk:=s.toks) r (by refine aj (lB ..) ?_;exact h2.append h4) q⟩
theorem mi(hl:xs.length<=2 ^ 40):Fn k mu (.builtin "len") [me mu xs] (bZ (.int xs.length)):=⟨λ{A E Z s fr vs Q} hA r hq q=>by
 refine aK (hq.one) λv iC hp=>?_;subst iC;refine cE (me.at hp r) λa vs n kG h1 h2=>?_;subst kG;have l1:=b9 h2;exact call_len_list (⟨_,h1,rfl,n,rfl⟩:s.heap.IsList a vs) (by refine fZ (l1 ..) ?_;lia) (l1▸q .rfl (aZ.int _ _) r.toks)⟩
theorem AJ(ns:List Int):∀n,n<=ns.length->preSum (λi=>ns.getD i 0) n=(ns.take n).sum:=by
 intro n;induction n with
 |zero=>intro z;rfl
 |succ n ih=>
  intro h;have h1:n < ns.length:=h
  (rewrite [preSum];refine aj (ih (by exact eB (by assumption)) ..) ?_)
  refine aj (dF ..) ?_;refine aj (bJ h1 ..) ?_;refine aj (vx ..) ?_;simp only [bR,bJ h1,Option.getD_some,Am,da,List.sum_nil,P9]
theorem Ky{ns:List Int}:Fn k mu (.builtin "sum") [me mu (ns.map .int)] (bZ (.int ns.sum)):=⟨λ{A E Z s fr vs Q} hA r hq q=>by
 refine aK (hq.one) λv ma hp=>?_;subst ma;refine cE (me.at hp r) λa vs n mE h1 h2=>?_;subst mE;have l1:ns.length=vs.size:=by (refine fZ (b9 h2 ..) ?_;refine aj (ak ..) ?_;rfl)
 have hL:s.heap.IsList a vs:=⟨_,h1,rfl,n,rfl⟩;refine call_sum_walkG (lr hL ?_);refine ⟨s.heap.objs.size,[s.heap.objs.size,a],[s.heap.objs.size],vs.size,_,_,λi=>ns.getD i 0,rfl,Walks.list (A:=A.in1) hA.hh s.heap.objs.size a (c8 (bN h1)) vs,⟨⟨_,aW _ rfl,rfl,rfl⟩,hL.at λo e=>az _ e⟩,?_,?_,?_⟩
 ·intro b hb;refine aj (fO ..) ?_;rcases aP.mp hb with rfl|hb
  ·exact jf _
  ·refine aj (aA.mp hb ..) ?_;exact cI (bN h1)
 ·intro i v hv;refine aK (h2.get' (bV.trans hv)) λx h3 h4=>?_;rw [aJ] at h3;refine aK (aL.mp h3) λm h5 q8=>?_;subst q8;refine cJ (gF h4) λtk uf=>?_;subst uf;exact ⟨tk,by show jS m tk=jS (ns.getD i 0) tk;(refine aj (bR ..) ?_;refine aj (h5 ..) ?_);rfl⟩
 ·intro h' tk t' hk;refine fZ (l1 ..) ?_;refine aj (AJ ns _ (bp _) ..) ?_;refine aj (cK ..) ?_;exact q .rfl (aZ.int _ _) (r.keep (tk:=tk) λb o e=>hk b o (λh=>c8 (bN e) (aA.mp h)) (az _ e))⟩
theorem Fn.ix{f:ai}{i:Int}{S:Vw}(h:∀{A:bh} {E:ai->aq->Prop} {Z:bI} {s:aq} {t:HX} {fr:Mu} {Q:ai->aq->Prop},R Z (mu++fr) s->(∀{w s'},S.p Z w->R Z (mu++fr) s'->Q w s')->aS (aX G.prog G.w) A (ku f [.int i t]) Q E s):Fn k mu f [bZ (.int i)] S:=
 ⟨λ{z z z z z z z} hA r hq q=>by obtain ⟨v,rfl,p⟩:=hq.one;exact aZ.intC p λt=>h r (q .rfl)⟩
theorem rH{c:Bool}:Fn k mu (.type "int") [bZ (.bool c)] (bZ (.int (if c then 1 else 0))):=⟨λ{z z z z z z z} hA r hq q=>by
 refine aK (hq.one) λv mP p=>?_;subst mP;refine aj (aZ.boolE p ..) ?_;exact call_int_bool (q .rfl (aZ.int _ _) r.toks)⟩
theorem Ii{i:Int}:Fn k mu (.type "bool") [bZ (.int i)] (bZ (.bool (i != 0))):= .ix λ{z z z z z z z} r q=>call_bool_int (q (aZ.bool _) r)
theorem RA{i:Int}(h0:0<=i)(h1:i<=1114111):Fn k mu (.builtin "chr") [bZ (.int i)] (bZ (.str ⟨#[i.toNat]⟩)):= .ix λ{z z z z z z z} r q=>PyProof.Rows.chr_of_range h0 h1 (q (aZ.str _ _) r.toks)
theorem RB{c:Nat}:Fn k mu (.builtin "ord") [bZ (.str ⟨#[c]⟩)] (bZ (.int c)):=⟨λ{z z z z z z z} hA r hq q=>by
 refine aK (hq.one) λv sq p=>?_;subst sq;exact aZ.strC p λt=>PySem.P.ord_of_char (q .rfl (aZ.int _ _) r.toks)⟩
theorem Kz{i:Int}(h:(JD "0x" 16 i).length<=er):Fn k mu (.builtin "hex") [bZ (.int i)] (bZ (.str (JD "0x" 16 i))):= .ix λ{z z z z z z z} r q=>PySem.P.hex_of_int (q (aZ.str _ _) r.toks) h
theorem Ij{x:bb}(hl:x.cps.size<=er):Fn k mu (.type "list") [bZ (.str x)] (bZ (.list (nD x))):=⟨λ{A E Z s fr vs Q} hA r hq q=>by
 refine aK (hq.one) λv zm p=>?_;subst zm;refine cJ (gU p) λtk ES=>?_;subst ES;refine call_list_str hA.hh x tk (λh' ny SW c' hk hg hi=>?_) hl;have hz:=r.fresh (bp s.heap.objs.size);refine q (bI.le_put hz) (aZ.list (vs:=SW) (n:=c') (bI.put_self ..) (bW.ofGets ?_ λi v y hv hy=>?_)) (R.freeze (r.keep (tk:=ny) hk) hg hz (r.notOwn (bp _)))
 ·have:=hi.1;simp [nD];with_reducible assumption
 ·exact tE x hy (hi.2 i v (bV.symm.trans hv))⟩
mutual
noncomputable def KA:V->Option wG
 | .none=>ae .none
 | .bool b=>ae (.bool b)
 | .int i=>ae (.int i)
 | .str x=>if pH x then ae (.str x) else av
 | .list xs=>(ph xs).map .list
 | .tup xs=>(ph xs).map .tuple
 |_=>av
noncomputable def ph:List V->Option (List wG)
 |[]=>ae []
 |x::xs=>(KA x).bind λd=>(ph xs).map (d::·)
end
theorem yb(hz:∀a o,Z a=ae o->s.heap.get? a=ae o):(∀{v x},aZ G Z v x->∀d,KA x=ae d->(∃as,Reads s.heap v d as)/\d.canLay0=aI)/\∀{vs xs},bW G Z vs xs->∀ds,ph xs=ae ds->(∃as,ReadsAll s.heap vs ds as)/\JE ds=aI:=
 aZ.both (P:=λv x=>∀d,KA x=ae d->(∃as,Reads s.heap v d as)/\d.canLay0=aI) (Q:=λvs xs=>∀ds,ph xs=ae ds->(∃as,ReadsAll s.heap vs ds as)/\JE ds=aI)
  (λd e=>aO e▸⟨⟨_,.none⟩,rfl⟩) (λb d e=>aO e▸⟨⟨_,.bool b⟩,rfl⟩) (λi t d e=>aO e▸⟨⟨_,.int i _⟩,rfl⟩)
  (λx t d e=>by
   have e:(if pH x then ae (PyData.str x) else av)=ae d:=e;by_cases hs:pH x
   ·exact aO ((if_pos hs).symm.trans e)▸⟨⟨_,.str x _⟩,hs⟩
   ·exact gK ((if_neg hs).symm.trans e))
  (λz z z e=>gK e) (λz z e=>gK e) (λz z e=>gK e) (λz z e=>gK e)
  (λ{a o vs n xs} e1 hc hd ih d e=>by
   refine aK (aL.mp e) λds h1 dO=>?_;subst dO;refine dU (ih ds h1) λeT h3=>cJ eT λas h2=>?_;clear eT;exact ⟨⟨_,.tuple (hz _ _ e1) hc hd h2⟩,h3⟩)
  (λ{a vs n xs} e1 ih d e=>by
   refine aK (aL.mp e) λds h1 gi=>?_;subst gi;refine dU (ih ds h1) λiC h3=>cJ iC λas h2=>?_;clear iC;exact ⟨⟨_,.list (hz _ _ e1) rfl rfl h2⟩,h3⟩)
  (λ{z z z z z} z z z z z e=>gK e) (λ{z z z z} z z z z z z e=>gK e)
  (λds e=>aO e▸⟨⟨_,.nil⟩,rfl⟩)
  (λ{v vs x xs} ih z ihs ds e=>by
   refine aK (dq.mp e) λd h1 h2=>aK (aL.mp h2) λds h3 kG=>?_;subst kG;refine dU (ih d h1) λma h5=>cJ ma λas h4=>?_;clear ma;refine dU (ihs ds h3) λmE h7=>cJ mE λbs h6=>?_;clear mE;exact ⟨⟨_,.cons h4 h6⟩,cn.mpr ⟨h5,h7⟩⟩)
theorem rI(hz:∀a o,Z a=ae o->s.heap.get? a=ae o)(x:V){v:ai}{d:wG}(h:aZ G Z v x)(e:KA x=ae d):(∃as,Reads s.heap v d as)/\d.canLay0=aI:=(yb hz).1 h d e
theorem wO(hz:∀a o,Z a=ae o->s.heap.get? a=ae o)(xs:List V){vs:List ai}{ds:List wG}(h:bW G Z vs xs)(e:ph xs=ae ds):(∃as,ReadsAll s.heap vs ds as)/\JE ds=aI:=(yb hz).2 h ds e
theorem Rm.eq{A:bh}(hA:Rm k A){n:Nat}(h:n<=100):A.units+n < 9900:=by have:=hA.uni;lia
theorem RC{dx dy:wG}(hx:KA x=ae dx)(hy:KA y=ae dy)(hd:min dx.depth dy.depth<=100):te k mu .Eq (bZ x) (bZ y) (PyData.eqv dx dy):=⟨λ{A E Z s fr v u T} hA r hp hq q=>by
 refine dU (rI (s:=s) r.zin x hp hx) λq8 h2=>cJ q8 λas h1=>?_;clear q8;refine dU (rI (s:=s) r.zin y hq hy) λuf h4=>cJ uf λbs h3=>?_;clear uf;exact SeqAt.compareEq_reads h1 h3 h2 h4 (hA.eq hd) (q .rfl (.bool _) r)⟩
theorem KB{dx dy:wG}(hx:KA x=ae dx)(hy:KA y=ae dy)(hd:min dx.depth dy.depth<=100):te k mu .NotEq (bZ x) (bZ y) (!PyData.eqv dx dy):=⟨λ{A E Z s fr v u T} hA r hp hq q=>by
 refine dU (rI (s:=s) r.zin x hp hx) λmP h2=>cJ mP λas h1=>?_;clear mP;refine dU (rI (s:=s) r.zin y hq hy) λsq h4=>cJ sq λbs h3=>?_;clear sq;exact SeqAt.compareNe_reads h1 h3 h2 h4 (hA.eq hd) (q .rfl (.bool _) r)⟩
theorem Hd(ds:List wG):PyData.eqv (.list ds) (.list [])=ds.isEmpty:=by cases ds <;> rfl
theorem Do{ds:List wG}(e:ph xs=ae ds):ds.length=xs.length:=by
 induction xs generalizing ds with
 |nil=>exact aO e▸rfl
 |cons x xs ih=>refine aK (dq.mp e) λd h1 h2=>aK (aL.mp h2) λds h3 zm=>?_;subst zm;exact congrArg xn (ih h3)
theorem yc{ds:List wG}(e:ph xs=ae ds):ds.isEmpty=xs.isEmpty:=by have:=Do e;cases xs <;> cases ds <;> first|rfl|cases this
theorem Dp{ds:List wG}(e:ph xs=ae ds):KA (.list xs)=ae (.list ds):=congrArg (Option.map PyData.list) e
theorem AK{d:wG}:min d.depth (PyData.list []).depth<=100:=aw (ow _ _) (by decide)
theorem FK(h:(ph xs).isSome=aI):te k mu .Eq (bZ (.list xs)) (bZ (.list [])) xs.isEmpty:=by
 refine cJ (dI.mp h) λds hd=>?_;have:=RC (k:=k) (mu:=mu) (y:= .list []) (Dp hd) rfl AK
 rwa [Hd,yc hd] at this
theorem BQ(h:(ph xs).isSome=aI):te k mu .NotEq (bZ (.list xs)) (bZ (.list [])) (!xs.isEmpty):=by
 refine cJ (dI.mp h) λds hd=>?_;have:=KB (k:=k) (mu:=mu) (y:= .list []) (Dp hd) rfl AK
 rwa [Hd,yc hd] at this
theorem tH{vs:List ai}{ns:List Int}(h:bW G Z vs (ns.map .int)):uo vs ns:=by
 induction ns generalizing vs with
 |nil=>cases h.nil_inv;exact .nil
 |cons n ns ih=>refine cC (h.cons_inv) λv vs ES a r=>?_;subst ES;exact aZ.intC (P:=λv=>uo (v::vs) (n::ns)) a λt=> .cons _ _ (ih r)
theorem tI{vs:List ai}{ns:List bb}(h:bW G Z vs (ns.map .str)):StrsAre vs ns:=by
 induction ns generalizing vs with
 |nil=>cases h.nil_inv;exact .nil
 |cons n ns ih=>refine cC (h.cons_inv) λv vs MZ a r=>?_;subst MZ;exact aZ.strC (P:=λv=>StrsAre (v::vs) (n::ns)) a λt=> .cons _ _ (ih r)
theorem KC{f:ai->ai->mF ai}{i:Int}{ns:List Int}{b:Bool}(h:∀{A:bh} {E:ai->aq->Prop} {s:aq} {t:HX} {a:ay} {vs:List ai} {T:ai->aq->Prop},s.heap.IsList a vs.toArray->uo vs ns->T (.bool b) s->aS (aX G.prog G.w) A (f (.int i t) (.ref a)) T E s):B2 k mu f (bZ (.int i)) (me mu (ns.map .int)) (bZ (.bool b)):=⟨λ{A E Z s fr v u T} hA r hp hq q=>by
 refine cJ (gF hp) λtk SX=>?_;subst SX;refine cE (me.at hq r) λa vs n SY h1 h2=>?_;subst SY;exact h (vs:=vs.toList) ⟨_,h1,rfl,n,rfl⟩ (tH h2) (q .rfl (.bool _) r)⟩
theorem KD{f:ai->ai->mF ai}{i:bb}{ns:List bb}{b:Bool}(h:∀{A:bh} {E:ai->aq->Prop} {s:aq} {t:HX} {a:ay} {vs:List ai} {T:ai->aq->Prop},s.heap.IsList a vs.toArray->StrsAre vs ns->T (.bool b) s->aS (aX G.prog G.w) A (f (.str i t) (.ref a)) T E s):B2 k mu f (bZ (.str i)) (me mu (ns.map .str)) (bZ (.bool b)):=⟨λ{A E Z s fr v u T} hA r hp hq q=>by
 refine cJ (gU hp) λtk PR=>?_;subst PR;refine cE (me.at hq r) λa vs n SZ h1 h2=>?_;subst SZ;exact h (vs:=vs.toList) ⟨_,h1,rfl,n,rfl⟩ (tI h2) (q .rfl (.bool _) r)⟩
theorem RD{i:Int}{ns:List Int}:te k mu .In (bZ (.int i)) (me mu (ns.map .int)) (ns.any (· == i)):=KC λ{z z z z z z z} a b q=>PyProof.Rows.in_list_ints a b q
theorem Om{i:Int}{ns:List Int}:te k mu .NotIn (bZ (.int i)) (me mu (ns.map .int)) (!ns.any (· == i)):=KC λ{z z z z z z z} a b q=>PyProof.Rows.notin_list_ints a b q
theorem FL{i:bb}{ns:List bb}:te k mu .In (bZ (.str i)) (me mu (ns.map .str)) (ns.any (· == i)):=KD λ{z z z z z z z} a b q=>PyProof.Rows.in_list_strs a b q
theorem BR{i:bb}{ns:List bb}:te k mu .NotIn (bZ (.str i)) (me mu (ns.map .str)) (!ns.any (· == i)):=KD λ{z z z z z z z} a b q=>PyProof.Rows.notin_list_strs a b q
theorem zR{x:bb}{l:List (bb×ai)}{r:List (bb×V)}(h:l.map (·.1)=r.map (·.1))(hr:bW G Z (l.map (·.2)) (r.map (·.2))):(vt l x).isSome=(mf r x).isSome:=by
 cases hd:mf r x with
 |none=>refine aj (th h hd ..) ?_;rfl
 |some y=>obtain ⟨v,hv,_⟩:=uM h hr hd;refine aj (hv ..) ?_;rfl
theorem KF{i:bb}{es:List (bb×V)}:te k mu .In (bZ (.str i)) (NC mu es) (mf es i).isSome:=⟨λ{A E Z s fr v u T} hA r hp hq q=>by
 refine cJ (gU hp) λtk q19z=>?_;subst q19z;refine As (NC.at hq r) λa kvs q20z ER h1 h2 h3=>?_;subst q20z;exact wpAny_in_of (zw G.prog G.w i tk) ER h1.mapOf (zR h2 h3▸q .rfl (.bool _) r.toks)⟩
theorem On{l:List (bb×HX)}:bW G Z (strValues l) ((l.map (·.1)).map .str):=by
 induction l with
 |nil=>exact .nil
 |cons a l ih=>exact .cons (aZ.str _ _) ih
theorem Ik{vs:List ai}{ts:List bb}(h:StrsAre vs ts):∃l:List (bb×HX),vs=strValues l/\l.map (·.1)=ts:=by
 induction h with
 |nil=>exact ⟨[],rfl,rfl⟩
 |cons y t _ ih=>obtain ⟨l,h3,h4⟩:=ih;exact ⟨(y,t)::l,by refine aj (h3 ..) ?_;rfl,congrArg (List.cons y) h4⟩
theorem He{sep:bb}{ts:List bb}(hok:Nm sep ts=aI):Fn k mu (.builtin "str.join") [bZ (.str sep),me mu (ts.map .str)] (bZ (.str (fP sep ts))):=⟨λ{A E Z s fr vs Q} hA r hq q=>by
 refine cC (hq.two) λv u q21z q1 q2=>?_;subst q21z;refine cJ (gU q1) λtk q22z=>?_;subst q22z;refine cE (me.at q2 r) λa vs n q23z h1 h2=>?_;subst q23z;exact aK (Ik (tI h2)) λl hl ht=>SC.join (⟨_,h1,rfl,n,by (refine fZ (hl ..) ?_;rfl)⟩:s.heap.IsList a (strValues l).toArray) ht hok λt' k'=>q .rfl (aZ.str _ _) r.toks⟩
theorem rJ{l:List (bb×HX)}{ts:List bb}{tk:Nat}{T:Prop}(r:R Z mu s)(e:l.map (·.1)=ts)(q:∀{Z'},Z.le Z'->aZ G Z' (.ref s.heap.objs.size) (.list (ts.map .str))->R Z' mu {s with heap:=s.heap.push {cls:= .type "list",data:= .seq (strValues l).toArray},toks:=tk}->T):T:=
 xZ r (e▸On (l:=l)) q
theorem Il{x:bb}(h1:x.length<=er)(h2:(Builtin.Str.spaceWords x (x.length+1)).length<=er):Fn k mu (.builtin "str.split") [bZ (.str x)] (bZ (.list ((Txt.words x).map .str))):=⟨λ{A E Z s fr vs Q} hA r hq q=>by
 refine aK (hq.one) λv q24z q1=>?_;subst q24z;refine cJ (gU q1) λtk q25z=>?_;subst q25z;refine l6 jW (TK _ _ _) vy (F.args_str_split_1 _) (meets_str_split_space x tk h1 h2) ?_;unfold Txt.words at q;cases hw:Builtin.Str.spaceWords x (x.length+1) == [(0,x.length)]
 ·simp only [hw,dj,if_false] at q ⊢;exact aj (strsFrom_eq ..) (rJ r (numbered_texts ..) q)
 ·simp only [hw,if_true] at q ⊢;exact rJ (l:=[(x,tk)]) r rfl q⟩
def ky.S0(x y:bb):Prop:=∀{k:Nat} {mu:Mu} (hy:(y.length == 0)=aH) (hx1:x.length<=er) (PS:(Builtin.Str.partsBetween x (cZ x y 0 x.length (x.length+1)) y.length).length<=er),Fn k mu (.builtin "str.split") [bZ (.str x),bZ (.str y)] (bZ (.list ((Nn x y).map .str)))
namespace ky
@[irreducible] def e0:=Qi inferInstance inferInstance S0
def x_:=e0.1
def y_:=e0.2
theorem T0:S0 x_ y_:=λ{k} {mu} hy hx1 PS=>⟨λ{A E Z s fr vs Q} hA r hq q=>by
 refine cC (hq.two) λv u q26z q1 q2=>?_;subst q26z;refine cJ (gU q1) λtk q27z=>?_;subst q27z;refine cJ (gU q2) λny q28z=>?_;subst q28z;unfold Nn at q;cases h1:(decide (x_.length < y_.length) || decide (mR x_ < mR y_))
 ·cases hf:(cZ x_ y_ 0 x_.length (x_.length+1)).isEmpty
  ·refine l6 jW (TK _ _ _) vy (GT _ _) (meets_str_split_sep x_ y_ tk ny h1 hy hf hx1 PS) ?_;simp only [h1,hf,dj,if_false] at q;exact aj (strsFrom_eq ..) (rJ r (numbered_texts ..) q)
  ·refine l6 jW (TK _ _ _) vy (GT _ _) (meets_str_split_not_found x_ y_ tk ny h1 hy hf) ?_;simp only [h1,hf,dj,if_false,if_true] at q;exact rJ (l:=[(x_,tk)]) r rfl q
 ·refine l6 jW (TK _ _ _) vy (GT _ _) (meets_str_split_cannot_occur x_ y_ tk ny h1) ?_;simp only [h1,if_true] at q;exact rJ (l:=[(x_,tk)]) r rfl q⟩
end ky
theorem ky{x y:bb}:ky.S0 x y:=by with_unfolding_all exact Fp _ _ ky.S0 @ky.T0 x y
theorem rK{x y:bb}:Fn k mu (.builtin "str.count") [bZ (.str x),bZ (.str y)] (bZ (.int (Np x y))):=⟨λ{z z z z z z z} hA r hq q=>by
 refine cC (hq.two) λv u q29z q1 q2=>?_;subst q29z;exact aZ.strC q1 λz=>aZ.strC q2 λz=>SC.count (q .rfl (aZ.int _ _) r.toks)⟩
theorem Dq(x:Int){vs:List ai}{ns:List Int}(h:uo vs ns):vs.countP (isInt x)=ns.countP (· == x):=by
 induction h with
 |nil=>rfl
 |cons n t _ ih=>(refine aj (List.countP_cons ..) ?_;refine aj (List.countP_cons ..) ?_;refine aj (ih ..) ?_);rfl
theorem Ds{x:Int}{ns:List Int}:Fn k mu (.builtin "list.count") [me mu (ns.map .int),bZ (.int x)] (bZ (.int (ns.countP (· == x):Nat))):=⟨λ{A E Z s fr vs Q} hA r hq q=>by
 refine cC (hq.two) λv u q30z q1 q2=>?_;subst q30z;refine cE (me.at q1 r) λa ws n q31z h1 h2=>?_;subst q31z;refine cJ (gF q2) λny q32z=>?_;subst q32z;have hi:=tH h2;exact l6 F.slot_list_count (⟨_,h1,rfl⟩:s.TypeIs (.ref a) "list") F.entry_list_count (F.args_list_count_2 _ _) (MeetsSeq.list_count a ws n (.int x ny) (isInt x) (λy hy=>eq_isInt x ny hi y (pI.mpr hy)))
  ⟨h1,by refine aj (Dq x hi ..) ?_;exact q .rfl (aZ.int _ _) r.toks⟩⟩
theorem Dt{x:Int}{ns:List Int}{j:Nat}(hj:ns[j]? =ae x)(Bv:∀m,m < j->ns[m]? ≠ae x)(hl:ns.length<=2 ^ 40):Fn k mu (.builtin "list.index") [me mu (ns.map .int),bZ (.int x)] (bZ (.int j)):=⟨λ{A E Z s fr vs Q} hA r hq q=>by
 refine cC (hq.two) λv u q33z q1 q2=>?_;subst q33z;refine cE (me.at q1 r) λa ws n q34z h1 h2=>?_;subst q34z;refine cJ (gF q2) λny q35z=>?_;subst q35z;have hlen:ws.size=ns.length:=by (refine fZ (b9 h2 ..) ?_;refine aj (ak ..) ?_;rfl)
 have hjl:=(aB.mp hj).1;have key:∀(m:Nat) (hm:m < ws.size),isInt x ws[m]=decide (ns[m]? =ae x):=by intro m hm;refine aK (h2.get' (bV.trans (dY hm))) λy h4 h5=>?_;rw [aJ] at h4;refine aK (aL.mp h4) λc h6 q36z=>?_;subst q36z;refine cJ (gF h5) λtk h7=>?_;refine aj (h7 ..) ?_;refine aj (h6 ..) ?_;show decide (c=x)=_;refine gj (decide_eq_decide ..) ?_;exact ⟨λe=>e▸rfl,aO⟩
 have hi:=tH h2;exact l6 F.slot_list_index (⟨_,h1,rfl⟩:s.TypeIs (.ref a) "list") F.entry_list_index (F.args_list_index_2 _ _) (MeetsSeq.list_index a ws n (.int x ny) (isInt x) (λy hy=>eq_isInt x ny hi y (pI.mpr hy)) j (hlen▸hjl) (by lia) (by (refine aj (key _ (hlen▸hjl) ..) ?_;refine aj (hj ..) ?_);exact decide_eq_true rfl) (λm hm hlt=>by refine aj (key ..) ?_;exact decide_eq_false (Bv m hlt)))
  ⟨h1,q .rfl (aZ.int _ _) r.toks⟩⟩
variable {es:List bH}{Φ:V->Mu->Prop}
structure FW(k:Nat)(mu:Mu)(f:ai)(xs:List V)(Φ:V->Mu->Prop):Prop where
 c:∀{A:bh} {E:ai->aq->Prop} {Z:bI} {s:aq} {fr:Mu} {vs:List ai} {Q:ai->aq->Prop},Rm k A->R Z (mu++fr) s->bW G Z vs xs->
  (∀{w s' Z' y nu},Z.le Z'->aZ G Z' w y->R Z' (nu++fr) s'->Φ y nu->Q w s')->aS (aX G.prog G.w) A (ku f vs) Q E s
structure FC(k:Nat)(mu:Mu)(f:ai)(xs:List V)(Φ:V->Mu->Prop):Prop where
 c:∀{A:bh} {E:ai->aq->Prop} {Z:bI} {s:aq} {fr:Mu} {vs:List ai} {Q:ai->aq->Prop},Rm k A->R Z (mu++fr) s->bW G Z vs xs->
  (∀{w s' Z' y nu},Z.le Z'->aZ G Z' w y->R Z' (nu++fr) s'->Φ y nu->Q w s')->iV (aX G.prog G.w) A (.call f ⟨vs,[]⟩) (λr s'=>match r with| .ok (.ret v)=>Q v s'| .ok _=>False| .error e=>E e s') s
theorem FC.fw{k:Nat}{mu:Mu}{f:ai}{xs:List V}{Φ:V->Mu->Prop}(h:FC k mu f xs Φ):FW k mu f xs Φ:=⟨λ{z z z z z z z} hA r hv q=>eF (h.c hA r hv q)⟩
structure jJ(y:V)(nu:Mu)(Φ:V->Mu->Prop):Prop where
 c:∀{Z:bI} {s:aq} {fr:Mu} {v:ai} {T:Prop},R Z (nu++fr) s->aZ G Z v y->(∀{Z' y' nu'},Z.le Z'->aZ G Z' v y'->R Z' (nu'++fr) s->Φ y' nu'->T)->T
noncomputable def lE(Φ:V->Mu->Prop):AF->Mu->Prop
 | .ret y,nu=>jJ y nu Φ
 | .next,nu=>jJ .none nu Φ
 |_,_=>False
def Kn(mu:Mu)(p:dH->Prop):Prop:=∀Z s,R Z mu s->p s.heap
noncomputable def mj(a:ay)(o:o6):cX where
 own:=[a]
 sat:=λZ h=>h.get? a=ae o
 mono:=λz z z z e=>e
 loc:=λZ h h' e hk z z=>hk a aa _ e
 live:=λZ h e b hb=>⟨_,aA.mp hb▸e⟩
noncomputable abbrev dT(fd:cm)(a L:ay):gV:=newEnv fd.scope L fd.globals (xq (L+1) fd.scope.names fd.closure) (fd.qualname++".<locals>.") (ae a) fd.code av fd.builtins
noncomputable abbrev vS(fd:cm)(L:ay)(bB:el):cX:=bq L (aM (L+1) fd.scope.names) bB
theorem Kn.app{q:dH->Prop}(h:Kn mu q)(r:R Z (mu++nu) s):q s.heap:=h Z s r.left
theorem Kn.z0{a:ay}{o:o6}(h:G.Z0 a=ae o):Kn mu λhp=>hp.get? a=ae o:=λZ s r=>r.z0in _ _ h
theorem Kn.obj{a:ay}{o:o6}(h:mj a o∈mu):Kn mu λhp=>hp.get? a=ae o:=λZ s r=>r.sat _ h
theorem Kn.sub{q:dH->Prop}(h:Kn mu q)(hs:mu.Sublist nu):Kn nu q:=λZ s r=>h Z s (r.sublist hs)
theorem jJ.keep(h:Φ y nu):jJ y nu Φ:=⟨λ{z z z z z} r v q=>q .rfl v r h⟩
theorem jJ.sub{nu':Mu}(hs:nu'.Sublist nu)(h:jJ y nu' Φ):jJ y nu Φ:=⟨λ{Z s fr v T} r w q=>h.c (r.sublist (hs.append (sS fr))) w q⟩
theorem jJ.tail{a:cX}(h:jJ y nu Φ):jJ y (a::nu) Φ:=jJ.sub (gW _ _) h
theorem Qr(B:g7 G){fd:cm}{a:ay}{ob:o6}{body:List d6}{names:List bb}{vals':ay->el}(Bw:Kn mu λhp=>hp.get? a=ae ob)(hd:ob.data= .func fd)(hcd:Kn mu λhp=>hp.CodeRec fd.code fd.qualname)(sr:fd.body= .stmts body)
 (i0:∀vs,vs.length=xs.length->pJ fd ⟨vs,[]⟩=dg (names.zip vs)) (hnd:(aM 0 fd.scope.names).nd) (he:∀L,du (dT fd a L))
 (hb:∀L,i9 (dT fd a L) L (aM (L+1) fd.scope.names) names xs (nones (aM (L+1) fd.scope.names)) (vals' L))
 (h:∀L,WS k (vS fd L (vals' L)::mu) (dT fd a L) body (lE Φ)) (wy:autoParam (fd.scope.isCoroutine=aH) aR) (mQ:autoParam (fd.scope.isGenerator=aH) aR):FC (k+1) mu (.ref a) xs Φ:=⟨λ{A E Z s fr vs Q} hA r hv q=>by
 refine qq hA.depth (Bw.app r) hd wy mQ sr (hcd.app r) (aj (i0 vs hv.length ..) ?_);refine ar (pP (vals':=vals' s.heap.objs.size) r hnd (he _) hv (hb _) λs' r'=>⟨B.lim _ r'.z0in,JF ?_⟩);refine (h s.heap.objs.size).c (hA.deeper _) r' λ{f s2 Z2 af ue} z2 f2 r2 w2=>?_
 revert w2
 exact o7.by f2 (λw=>jJ.c (show jJ .none ue Φ from w) r2 .none λ{z z z} z3=>q (z2.trans z3)) (λw=>w.elim) (λw=>w.elim) λv x hv w=>jJ.c (show jJ x ue Φ from w) r2 hv λ{z z z} z3=>q (z2.trans z3)⟩
theorem KG(B:g7 G){fd:cm}{a:ay}{ob:o6}{body:List d6}{names:List bb}{vals':ay->el}(Bw:Kn mu λhp=>hp.get? a=ae ob)(hd:ob.data= .func fd)(hcd:Kn mu λhp=>hp.CodeRec fd.code fd.qualname)(sr:fd.body= .stmts body)
 (i0:∀vs,vs.length=xs.length->pJ fd ⟨vs,[]⟩=dg (names.zip vs)) (hnd:(aM 0 fd.scope.names).nd) (he:∀L,du (dT fd a L))
 (hb:∀L,i9 (dT fd a L) L (aM (L+1) fd.scope.names) names xs (nones (aM (L+1) fd.scope.names)) (vals' L))
 (h:∀L,WS k (vS fd L (vals' L)::mu) (dT fd a L) body (lE Φ)) (wy:autoParam (fd.scope.isCoroutine=aH) aR) (mQ:autoParam (fd.scope.isGenerator=aH) aR):FW (k+1) mu (.ref a) xs Φ:=(Qr B Bw hd hcd sr i0 hnd he hb h wy mQ).fw
theorem FM(B:g7 G){fd:cm}{a:ay}{ob:o6}{body:bH}{names:List bb}{vals':ay->el}(Bw:Kn mu λhp=>hp.get? a=ae ob)(hd:ob.data= .func fd)(hcd:Kn mu λhp=>hp.CodeRec fd.code fd.qualname)(sr:fd.body= .expr body)
 (i0:∀vs,vs.length=xs.length->pJ fd ⟨vs,[]⟩=dg (names.zip vs)) (hnd:(aM 0 fd.scope.names).nd) (he:∀L,du (dT fd a L))
 (hb:∀L,i9 (dT fd a L) L (aM (L+1) fd.scope.names) names xs (nones (aM (L+1) fd.scope.names)) (vals' L))
 (h:∀L,WE k (vS fd L (vals' L)::mu) (dT fd a L) body λy nu=>jJ y nu Φ) (wy:autoParam (fd.scope.isCoroutine=aH) aR) (mQ:autoParam (fd.scope.isGenerator=aH) aR):FW (k+1) mu (.ref a) xs Φ:=⟨λ{A E Z s fr vs Q} hA r hv q=>by
 refine eF (kla_callFunE hA.depth (Bw.app r) hd wy mQ sr (hcd.app r) ?_);refine aj (i0 vs hv.length ..) (ar (pP (vals':=vals' s.heap.objs.size) r hnd (he _) hv (hb _) λs' r'=>⟨B.lim _ r'.z0in,kla_codeExpr ?_⟩));exact (h s.heap.objs.size).c (hA.deeper _) r' λ{z z z z z} z2 f2 r2 w2=>w2.c r2 f2 λ{z z z} z3=>q (z2.trans z3)⟩
structure Dv(k:Nat)(mu:Mu)(env:gV)(es:List bH)(Ψ:List V->Mu->Prop):Prop where
 c:∀{A:bh} {E:ai->aq->Prop} {Z:bI} {s:aq} {fr:Mu} {pos:jX} {Q:List ai->aq->Prop},Rm k A->R Z (mu++fr) s->
  (∀{vs s' Z' ys nu},Z.le Z'->bW G Z' vs ys->R Z' (nu++fr) s'->Ψ ys nu->Q vs s')->aS (aX G.prog G.w) A (spliced (lj pos (fo es env))) Q E s
noncomputable def kh:List bH->Bool
 |[]=>aI
 | .Starred _ _::_=>aH
 |_::r=>kh r
theorem jt(h:kh (e::es)=aI):(∀a p,e≠ .Starred a p)/\kh es=aI:=by cases e <;> first|(refine ⟨λz z h=>(nomatch h),?_⟩;exact h)|exact (vL h)
theorem kY(h:kh es=aI)(pos:jX):(lj pos (fo es env)).any (·.1)=aH:=by
 induction es with
 |nil=>rfl
 |cons e es ih=>exact dU (jt h) λh1 h2=>aj (et h1 ..) (ih h2)
theorem e8{Ψ:List V->Mu->Prop}(h:Ψ [] mu):Dv k mu env [] Ψ:=⟨λ{z z z z z z z} hA r q=>ar (q .rfl .nil r h)⟩
theorem cA{Ψ:List V->Mu->Prop}(h:WE k mu env e λy nu=>Dv k nu env es λys nu'=>Ψ (y::ys) nu')(hs:∀a p,e≠ .Starred a p:=by intro z z h;cases h):Dv k mu env (e::es) Ψ:=⟨λ{A E Z s fr pos Q} hA r q=>by
 refine aj (et hs ..) ?_;show aS _ A (dW e env >>=λv=>eV [v] (spliced (lj pos (fo es env))) >>=λr=>dg ([v]++r)) Q E s;exact ag (h.c hA r λ{z z z z z} z1 q1 r1 w1=>ag (bE (w1.c hA r1 λ{z z z z z} z2 q2 r2 w2=>ar (q (z1.trans z2) (.cons (q1.mono z2) q2) r2 w2))))⟩
theorem tD.war{Ψ:List V->Mu->Prop}(h:tD k mu env es (ys.map bZ))(hΨ:Ψ ys mu):Dv k mu env es Ψ:=⟨λ{z z z z z z z} hA r q=>h.c hA r λ{z z z} z1 q1 r1=>q z1 q1.vrels r1 hΨ⟩
theorem Hf{A:bh}{E:ai->aq->Prop}{fr:Mu}{Q:ai->aq->Prop}{Ψ:List V->Mu->Prop}{a:ay}{ob:o6}{fd:cm}{first:List ai}(ha:Dv k mu env (e::es) Ψ)(wz:kh (e::es)=aI)(hA:Rm k A)(r:R Z (mu++fr) s)
 (h:∀{vs s' Z' ys nu},Z.le Z'->bW G Z' vs ys->R Z' (nu++fr) s'->Ψ ys nu->(s'.heap.get? a=ae ob/\ob.data= .func fd)/\aS (aX G.prog G.w) A (ku (.ref a) (first++vs) []) Q E s'):aS (aX G.prog G.w) A (pF pos (.ref a) first (lj pos (fo (e::es) env)) []) Q E s:=by
 refine callWith_function (o:=ob) (fd:=fd) ?_;have hr:=ha.c (E:=E) (pos:=pos) hA r h;rw [et (jt wz).1] at hr ⊢;exact JA hr
theorem Hg{A:bh}{E:ai->aq->Prop}{fr:Mu}{Q:ai->aq->Prop}{id:String}{Ps:List (Vw)}{first:List ai}(ha:tD k mu env (e::es) Ps)(hA:Rm k A)(r:R Z (mu++fr) s)
 (h:∀{vs s' Z'},Z.le Z'->j3 Z' vs Ps->R Z' (mu++fr) s'->aS (aX G.prog G.w) A (ku (.builtin id) (first++vs) []) Q E s'):aS (aX G.prog G.w) A (pF pos (.builtin id) first (lj pos (fo (e::es) env)) []) Q E s:=by
 refine callWith_builtin (ha.plain pos) ?_;have hr:=ha.c (E:=E) (pos:=pos) hA r h;rw [et ha.unstar] at hr ⊢;exact JA hr
theorem Hh{A:bh}{E:ai->aq->Prop}{fr:Mu}{Q:ai->aq->Prop}{Ψ:List V->Mu->Prop}{id:String}{first:List ai}(ha:Dv k mu env (e::es) Ψ)(wz:kh (e::es)=aI)(hA:Rm k A)(r:R Z (mu++fr) s)
 (h:∀{vs s' Z' ys nu},Z.le Z'->bW G Z' vs ys->R Z' (nu++fr) s'->Ψ ys nu->aS (aX G.prog G.w) A (ku (.builtin id) (first++vs) []) Q E s'):aS (aX G.prog G.w) A (pF pos (.builtin id) first (lj pos (fo (e::es) env)) []) Q E s:=by
 refine callWith_builtin (kY wz pos) ?_;have hr:=ha.c (E:=E) (pos:=pos) hA r h;rw [et (jt wz).1] at hr ⊢;exact JA hr
theorem ml{f:bb}{a:ay}{ob:o6}{fd:cm}(hf:PE k mu env (.Name f p) (.ref a))(h0:G.Z0 a=ae ob)(hd:ob.data= .func fd)(ha:Dv k mu env (e::es) λys nu=>FW k nu (.ref a) ys Φ)(hs:∀a p,e≠ .Starred a p:=by intro z z h;cases h):
 WE k mu env (.Call (.Name f p) (e::es) [] pos) Φ:=⟨λ{A E Z s fr Q} hA r q=>by
 with_reducible refine gB ?_
 refine hf.c hA r λ{f s1 Z1} z1 q1 r1=>aj (aZ.refE q1 ..) ?_;exact iJ hd (ha.c hA r1 λ{z z z z z} z2 q2 r2 w2=>⟨r2.z0in _ _ h0,w2.c hA r2 q2 λ{z z z z z} z3=>q (z1.trans (z2.trans z3))⟩) (et hs)⟩
structure rL(G:Gd)(a:ay)(st:d6):Prop where
 go:∃ob pm cd doc,G.Z0 a=ae ob/\ob.data= .func (mz (md st) (wJ st) (fR st) (bk st) pm cd doc)/\∀h:dH,(∀a o,G.Z0 a=ae o->h.get? a=ae o)->h.CodeRec cd (md st)
noncomputable def qA:List (Int×ai):=oJ.mapIdx λi n=>((2:Int) ^ i,.str n (254+2*i))
def Hy(G:Gd):Prop:=
 (g7 G)/\
 (G.mg "pretty_flags"=ae (.ref 72))/\
 (G.mg "COMPILER_FLAG_NAMES"=ae (.ref 65))/\
 (G.mg "_ExceptionTableEntry"=ae (.ref 162))/\
 (G.mg "_parse_varint"=ae (.ref 172))/\
 (G.mg "_parse_exception_table"=ae (.ref 179))/\
 (G.mg "_netrclex"=ae (.ref 217))/\
 (G.mg "TupleComp"=ae (.ref 245))/\
 (G.mg "add_func_stats"=ae (.ref 256))/\
 (G.mg "add_callers"=ae (.ref 263))/\
 (G.mg "count_calls"=ae (.ref 270))/\
 (G.mg "_law_given"=ae (.ref 275))/\
 (G.mg "_law_spelled"=ae (.ref 280))/\
 (G.mg "_law_octets"=ae (.ref 285))/\
 (G.mg "_law_back"=ae (.ref 290))/\
 (G.mg "_law_run"=ae (.ref 297))/\
 (G.mg "_law_hear"=ae (.ref 302))/\
 (G.mg "range"=av)/\
 (G.mg "len"=av)/\
 (G.mg "sum"=av)/\
 (G.mg "enumerate"=av)/\
 (G.mg "int"=av)/\
 (G.mg "bool"=av)/\
 (G.mg "list"=av)/\
 (G.mg "set"=av)/\
 (G.mg "sorted"=av)/\
 (G.mg "hex"=av)/\
 (G.mg "next"=av)/\
 (G.mg "iter"=av)/\
 (G.mg "ord"=av)/\
 (G.mg "chr"=av)/\
 (G.mg "bytes"=av)/\
 (G.mg "isinstance"=av)/\
 (G.mg "tuple"=av)/\
 (G.mg "StopIteration"=av)/\
 ((65 == lY)=aH/\∀h:dH,(∀a o,G.Z0 a=ae o->h.get? a=ae o)->h.DictOf (lu G.prog G.w) 65 qA)/\
 (rL G 72 (cM 4))/\
 (rL G 172 (cM 7))/\
 (rL G 179 (cM 8))/\
 (rL G 256 (cM 13))/\
 (rL G 263 (cM 14))/\
 (rL G 270 (cM 15))/\
 (rL G 275 (cM 17))/\
 (rL G 280 (cM 18))/\
 (rL G 285 (cM 19))/\
 (rL G 290 (cM 20))/\
 (rL G 297 (cM 21))/\
 rL G 302 (cM 22)
section
variable {G:Gd}(h:Hy G)
def Hy.B:=@h.1
def Hy.m_flags:=@h.2.1
def Hy.m_names:=@h.2.2.1
def Hy.m_entry:=@h.2.2.2.1
def Hy.m_varint:=@h.2.2.2.2.1
def Hy.m_table:=@h.2.2.2.2.2.1
def Hy.m_lex:=@h.2.2.2.2.2.2.1
def Hy.m_comp:=@h.2.2.2.2.2.2.2.1
def Hy.m_stats:=@h.2.2.2.2.2.2.2.2.1
def Hy.m_callers:=@h.2.2.2.2.2.2.2.2.2.1
def Hy.m_count:=@h.2.2.2.2.2.2.2.2.2.2.1
def Hy.m_given:=@h.2.2.2.2.2.2.2.2.2.2.2.1
def Hy.m_spelled:=@h.2.2.2.2.2.2.2.2.2.2.2.2.1
def Hy.m_octets:=@h.2.2.2.2.2.2.2.2.2.2.2.2.2.1
def Hy.m_back:=@h.2.2.2.2.2.2.2.2.2.2.2.2.2.2.1
def Hy.m_run:=@h.2.2.2.2.2.2.2.2.2.2.2.2.2.2.2.1
def Hy.m_hear:=@h.2.2.2.2.2.2.2.2.2.2.2.2.2.2.2.2.1
def Hy.b_range:=@h.2.2.2.2.2.2.2.2.2.2.2.2.2.2.2.2.2.1
def Hy.b_len:=@h.2.2.2.2.2.2.2.2.2.2.2.2.2.2.2.2.2.2.1
def Hy.b_sum:=@h.2.2.2.2.2.2.2.2.2.2.2.2.2.2.2.2.2.2.2.1
def Hy.b_enumerate:=@h.2.2.2.2.2.2.2.2.2.2.2.2.2.2.2.2.2.2.2.2.1
def Hy.b_int:=@h.2.2.2.2.2.2.2.2.2.2.2.2.2.2.2.2.2.2.2.2.2.1
def Hy.b_bool:=@h.2.2.2.2.2.2.2.2.2.2.2.2.2.2.2.2.2.2.2.2.2.2.1
def Hy.b_list:=@h.2.2.2.2.2.2.2.2.2.2.2.2.2.2.2.2.2.2.2.2.2.2.2.1
def Hy.b_set:=@h.2.2.2.2.2.2.2.2.2.2.2.2.2.2.2.2.2.2.2.2.2.2.2.2.1
def Hy.b_sorted:=@h.2.2.2.2.2.2.2.2.2.2.2.2.2.2.2.2.2.2.2.2.2.2.2.2.2.1
def Hy.b_hex:=@h.2.2.2.2.2.2.2.2.2.2.2.2.2.2.2.2.2.2.2.2.2.2.2.2.2.2.1
def Hy.b_next:=@h.2.2.2.2.2.2.2.2.2.2.2.2.2.2.2.2.2.2.2.2.2.2.2.2.2.2.2.1
def Hy.b_iter:=@h.2.2.2.2.2.2.2.2.2.2.2.2.2.2.2.2.2.2.2.2.2.2.2.2.2.2.2.2.1
def Hy.b_ord:=@h.2.2.2.2.2.2.2.2.2.2.2.2.2.2.2.2.2.2.2.2.2.2.2.2.2.2.2.2.2.1
def Hy.b_chr:=@h.2.2.2.2.2.2.2.2.2.2.2.2.2.2.2.2.2.2.2.2.2.2.2.2.2.2.2.2.2.2.1
def Hy.b_bytes:=@h.2.2.2.2.2.2.2.2.2.2.2.2.2.2.2.2.2.2.2.2.2.2.2.2.2.2.2.2.2.2.2.1
def Hy.b_isinstance:=@h.2.2.2.2.2.2.2.2.2.2.2.2.2.2.2.2.2.2.2.2.2.2.2.2.2.2.2.2.2.2.2.2.1
def Hy.b_tuple:=@h.2.2.2.2.2.2.2.2.2.2.2.2.2.2.2.2.2.2.2.2.2.2.2.2.2.2.2.2.2.2.2.2.2.1
def Hy.b_stop:=@h.2.2.2.2.2.2.2.2.2.2.2.2.2.2.2.2.2.2.2.2.2.2.2.2.2.2.2.2.2.2.2.2.2.2.1
def Hy.flagD:=@h.2.2.2.2.2.2.2.2.2.2.2.2.2.2.2.2.2.2.2.2.2.2.2.2.2.2.2.2.2.2.2.2.2.2.2.1
def Hy.f72:=@h.2.2.2.2.2.2.2.2.2.2.2.2.2.2.2.2.2.2.2.2.2.2.2.2.2.2.2.2.2.2.2.2.2.2.2.2.1
def Hy.f172:=@h.2.2.2.2.2.2.2.2.2.2.2.2.2.2.2.2.2.2.2.2.2.2.2.2.2.2.2.2.2.2.2.2.2.2.2.2.2.1
def Hy.f179:=@h.2.2.2.2.2.2.2.2.2.2.2.2.2.2.2.2.2.2.2.2.2.2.2.2.2.2.2.2.2.2.2.2.2.2.2.2.2.2.1
def Hy.f256:=@h.2.2.2.2.2.2.2.2.2.2.2.2.2.2.2.2.2.2.2.2.2.2.2.2.2.2.2.2.2.2.2.2.2.2.2.2.2.2.2.1
def Hy.f263:=@h.2.2.2.2.2.2.2.2.2.2.2.2.2.2.2.2.2.2.2.2.2.2.2.2.2.2.2.2.2.2.2.2.2.2.2.2.2.2.2.2.1
def Hy.f270:=@h.2.2.2.2.2.2.2.2.2.2.2.2.2.2.2.2.2.2.2.2.2.2.2.2.2.2.2.2.2.2.2.2.2.2.2.2.2.2.2.2.2.1
def Hy.f275:=@h.2.2.2.2.2.2.2.2.2.2.2.2.2.2.2.2.2.2.2.2.2.2.2.2.2.2.2.2.2.2.2.2.2.2.2.2.2.2.2.2.2.2.1
def Hy.f280:=@h.2.2.2.2.2.2.2.2.2.2.2.2.2.2.2.2.2.2.2.2.2.2.2.2.2.2.2.2.2.2.2.2.2.2.2.2.2.2.2.2.2.2.2.1
def Hy.f285:=@h.2.2.2.2.2.2.2.2.2.2.2.2.2.2.2.2.2.2.2.2.2.2.2.2.2.2.2.2.2.2.2.2.2.2.2.2.2.2.2.2.2.2.2.2.1
def Hy.f290:=@h.2.2.2.2.2.2.2.2.2.2.2.2.2.2.2.2.2.2.2.2.2.2.2.2.2.2.2.2.2.2.2.2.2.2.2.2.2.2.2.2.2.2.2.2.2.1
def Hy.f297:=@h.2.2.2.2.2.2.2.2.2.2.2.2.2.2.2.2.2.2.2.2.2.2.2.2.2.2.2.2.2.2.2.2.2.2.2.2.2.2.2.2.2.2.2.2.2.2.1
def Hy.f302:=@h.2.2.2.2.2.2.2.2.2.2.2.2.2.2.2.2.2.2.2.2.2.2.2.2.2.2.2.2.2.2.2.2.2.2.2.2.2.2.2.2.2.2.2.2.2.2.2
end
theorem ti(H:Hy G){a:ay}{st:d6}(F:rL G a st){names:List bb}{vals':ay->el}
 (i0:∀pm cd doc vs,vs.length=xs.length->pJ (xB st pm cd doc) ⟨vs,[]⟩=dg (names.zip vs)) (hnd:(aM 0 (bk st).names).nd) (hk:(bk st).kind= .function)
 (hb:∀pm cd doc L,i9 (dT (xB st pm cd doc) a L) L (aM (L+1) (bk st).names) names xs (nones (aM (L+1) (bk st).names)) (vals' L))
 (h:∀pm cd doc L,du (dT (xB st pm cd doc) a L)->WS k (bq L (aM (L+1) (bk st).names) (vals' L)::mu) (dT (xB st pm cd doc) a L) (fR st) (lE Φ)) (wy:autoParam ((bk st).isCoroutine=aH) aR) (mQ:autoParam ((bk st).isGenerator=aH) aR):
 FW (k+1) mu (.ref a) xs Φ:=by
 exact cq (F.go) λob pm cd doc h0 hd hcd=>KG H.B (names:=names) (vals':=vals') (Kn.z0 h0) hd (λZ s r=>hcd _ r.z0in) rfl (i0 pm cd doc) hnd (λL=>⟨hk,rfl,rfl⟩) (hb pm cd doc) (λL=>h pm cd doc L ⟨hk,rfl,rfl⟩) wy mQ
theorem iN(H:Hy G)(he:du env){x:bb}{n:String}(hm:G.mg x=av)(hk:env.kindOf x=ae .globalImplicit)(hb:autoParam (Jy x=ae (.type n)) aR)(hn:autoParam (x≠"__name__") aD)(hd:autoParam ((x == ("__debug__":bb))=aH) aD):PE k mu env (.Name x p) (.type n):=
 Qk H.B he hk hm hb (aZ.type n) hn hd
theorem j4(H:Hy G)(he:du env){x:bb}{n:String}(hm:G.mg x=av)(hk:env.kindOf x=ae .globalImplicit)(hb:autoParam (Jy x=ae (.builtin n)) aR)(hn:autoParam (x≠"__name__") aD)(hd:autoParam ((x == ("__debug__":bb))=aH) aD):PE k mu env (.Name x p) (.bi n):=
 Qk H.B he hk hm hb (aZ.bi n) hn hd
theorem mn(H:Hy G)(he:du env){x:bb}{a:ay}(hm:G.mg x=ae (.ref a))(hk:env.kindOf x=ae .globalImplicit)(hd:autoParam ((x == ("__debug__":bb))=aH) aD):PE k mu env (.Name x p) (.ref a):=
 Oa H.B he hk hm (aZ.ref a) hd
section
variable {v:V}{scope:fh}{C:ay}{cl:List (bb×ay)}
theorem du.comp(h:du env)(hk:autoParam (scope.kind= .function) aR):du (pf scope cl C env):=⟨hk,h.globals,h.builtins⟩
theorem bM(h:PE k mu env e x)(e1:x=y):PE k mu env e y:=e1▸h
noncomputable abbrev TZ(scope:fh)(C:ay)(j:Nat)(v:V):cX:=nE scope C ((nones (aM (C+1) scope.names)).set j (ae v))
noncomputable abbrev RF(scope:fh)(C:ay)(i j:Nat)(v u:V):cX:=nE scope C (((nones (aM (C+1) scope.names)).set i (ae v)).set j (ae u))
theorem qB{di:gV}{t:bb}{j:Nat}{bB:el}(he:du di)(sl:Sl di C (aM (C+1) scope.names) t j)(hf:autoParam ((di.kindOf t == ae .free)=aH) aR):
 mK k (nE scope C bB::mu) di (.Name t p) v λnu=>nu=nE scope C (bB.set j (ae v))::mu:=aQ (i:=0) he sl rfl rfl hf
theorem xE{di:gV}{t u:bb}{i j kk:Nat}{p1 p2:jX}{bB:el}(he:du di)(s1:Sl di C (aM (C+1) scope.names) t i)(s2:Sl di C (aM (C+1) scope.names) u j)
 (hf:autoParam ((di.kindOf t == ae .free)=aH) aR) (hf':autoParam ((di.kindOf u == ae .free)=aH) aR):
 mK k (nE scope C bB::mu) di (.Tuple [.Name t p1,.Name u p2] kk p) (.tup [v,x]) λnu=>nu=nE scope C ((bB.set i (ae v)).set j (ae x))::mu:=
 i7 (cv rfl rfl (aQ (i:=0) he s1 rfl (cv rfl rfl (aQ (i:=0) he s2 rfl (iX rfl) hf')) hf))
theorem iu{di:gV}{t:bb}{ifs:List bH}{elt:bH}(j:Nat)(he:du di)(sl:Sl di C (aM (C+1) scope.names) t j)(hi:xd k (TZ scope C j v::mu) di ifs b)(h:b=aI->PE k (TZ scope C j v::mu) di elt y)
 (hf:autoParam ((di.kindOf t == ae .free)=aH) aR):zQ k mu scope C di (.Name t p) ifs elt v b y:=⟨_,qB he sl hf,hi,h⟩
theorem tJ{di:gV}{t u:bb}{ifs:List bH}{elt:bH}{kk:Nat}{p1 p2:jX}(i j:Nat)(he:du di)(s1:Sl di C (aM (C+1) scope.names) t i)(s2:Sl di C (aM (C+1) scope.names) u j)
 (hi:xd k (RF scope C i j v x::mu) di ifs b) (h:b=aI->PE k (RF scope C i j v x::mu) di elt y)
 (hf:autoParam ((di.kindOf t == ae .free)=aH) aR) (hf':autoParam ((di.kindOf u == ae .free)=aH) aR):zQ k mu scope C di (.Tuple [.Name t p1,.Name u p2] kk p) ifs elt (.tup [v,x]) b y:=⟨_,xE he s1 s2 hf hf',hi,h⟩
theorem BS{di:gV}{t:bb}{ifs:List bH}{ke ve:bH}{kx:bb}(j:Nat)(he:du di)(sl:Sl di C (aM (C+1) scope.names) t j)(hi:xd k (TZ scope C j v::mu) di ifs b)(h1:b=aI->PE k (TZ scope C j v::mu) di ke (.str kx))(h2:b=aI->PE k (TZ scope C j v::mu) di ve y)
 (hf:autoParam ((di.kindOf t == ae .free)=aH) aR):AE k mu scope C di (.Name t p) ifs ke ve v b kx y:=⟨_,qB he sl hf,hi,λh=>⟨h1 h,h2 h⟩⟩
theorem KH{di:gV}{t u:bb}{ifs:List bH}{ke ve:bH}{kx:bb}{kk:Nat}{p1 p2:jX}(i j:Nat)(he:du di)(s1:Sl di C (aM (C+1) scope.names) t i)(s2:Sl di C (aM (C+1) scope.names) u j)
 (hi:xd k (RF scope C i j v x::mu) di ifs b) (h1:b=aI->PE k (RF scope C i j v x::mu) di ke (.str kx)) (h2:b=aI->PE k (RF scope C i j v x::mu) di ve y)
 (hf:autoParam ((di.kindOf t == ae .free)=aH) aR) (hf':autoParam ((di.kindOf u == ae .free)=aH) aR):AE k mu scope C di (.Tuple [.Name t p1,.Name u p2] kk p) ifs ke ve (.tup [v,x]) b kx y:=⟨_,xE he s1 s2 hf hf',hi,λh=>⟨h1 h,h2 h⟩⟩
theorem kz{α:Type}(as:List α):as.filter (λz=>aI)=as:=by
 induction as with
 |nil=>rfl
 |cons a l ih=>(refine aj (hZ ..) ?_;refine aj (if_pos rfl ..) ?_;refine aj (ih ..) ?_;rfl)
theorem jO{α:Type}{elt iter t:bH}{spos:jX}(as:List α)(inj g:α->V)(sc:Fc scope env cl)(src:pd k mu env iter t ctx (as.map inj))(hk:1<=k)(hsz:as.length<=2 ^ 21)
 (turn:∀C a,a∈as->zQ k mu scope C (pf scope cl C env) t [] elt (inj a) aI (g a)) (hs:autoParam (∀x,bw iter env x=dg x) aR):
 PE k mu env (.ListComp elt [⟨t,iter,[],0⟩] scope spos) (.list (as.map g)):=by
 have:=nF (spos:=spos) as inj (λz=>aI) g sc src hk hsz turn hs
 rwa [kz] at this
theorem RG{α:Type}{elt iter t:bH}{spos:jX}(as:List α)(inj g:α->V)(sc:Fc scope env cl)(src:pd k mu env iter t ctx (as.map inj))(hk:1<=k)(hsz:as.length<=2 ^ 21)
 (turn:∀C a,a∈as->zQ k mu scope C (pf scope cl C env) t [] elt (inj a) aI (g a)) (hΘ:∀D,fM D (bl D (as.map g)::mu) Φ) (hs:autoParam (∀x,bw iter env x=dg x) aR):
 WE k mu env (.ListComp elt [⟨t,iter,[],0⟩] scope spos) Φ:=
 Qo (spos:=spos) as inj (λz=>aI) g sc src hk hsz turn (λD=>by refine aj (kz ..) ?_;exact hΘ D) hs
theorem FN{α:Type}{elt iter t:bH}{spos apos py:jX}{z:bb}{Ψ:AF->Mu->Prop}(as:List α)(inj g:α->V)(sc:Fc scope env cl)(src:pd k mu env iter t ctx (as.map inj))(hk:1<=k)(hsz:as.length<=2 ^ 21)
 (turn:∀C a,a∈as->zQ k mu scope C (pf scope cl C env) t [] elt (inj a) aI (g a))
 (SU:xp (.ListComp elt [⟨t,iter,[],0⟩] scope spos) (ae (.Name z py)) apos.line env=dg aI)
 (hΘ:∀D,fM D (bl D (as.map g)::mu) λv nu=>mK k nu env (.Name z py) v (Ψ .next)) (hs:autoParam (∀x,bw iter env x=dg x) aR):
 WX k mu env (.Assign [.Name z py] (.ListComp elt [⟨t,iter,[],0⟩] scope spos) apos) Ψ:=
 Qp (spos:=spos) as inj (λy=>aI) g sc src hk hsz turn SU (λD=>by refine aj (kz ..) ?_;exact hΘ D) hs
noncomputable def vw(mu:Mu):V->Vw
 | .list xs=>me mu xs
 | .dict es=>NC mu es
 |y=>bZ y
theorem cP(h:PE k mu env e y):EV k mu env e (vw mu y):=by cases y <;> first|exact h|exact dE h|exact pN h
theorem tK{a:Int}(h:a.natAbs < 2 ^ 64):sR a<=64:=by
 unfold sR
 split
 ·with_reducible exact gp _
 ·rename_i h0;have h0':a≠0:=by simpa using h0
  have:a.natAbs.log2 < 64:=(Nat.log2_lt (by lia)).mpr h;lia
theorem mY{a c:Int}(h: -(2 ^ 63) < a/\a < 2 ^ 63):xR k mu .Mult (bZ (.int a)) (bZ (.int c)) (bZ (.int (a*c))):=Kg (IntMulOk.of_left (tK (by lia)))
theorem sF{a c:Int}(h: -(2 ^ 63) < c/\c < 2 ^ 63):xR k mu .Mult (bZ (.int a)) (bZ (.int c)) (bZ (.int (a*c))):=Kg (IntMulOk.of_right (tK (by lia)))
theorem l9{a c:Int}(h:0 < c/\c < 2 ^ 30):xR k mu .FloorDiv (bZ (.int a)) (bZ (.int c)) (bZ (.int (a / c))):=by
 have:=Rp (k:=k) (mu:=mu) (a:=a) (b:=c) (by lia) (PyProof.noPylong_small (by lia))
 rwa [JG _ (by lia)] at this
theorem fl{a c:Int}(h:0 < c):xR k mu .Mod (bZ (.int a)) (bZ (.int c)) (bZ (.int (a % c))):=by
 have:=Ro (k:=k) (mu:=mu) (a:=a) (b:=c) (by lia)
 rwa [Int.fmod_eq_emod_of_nonneg _ (by exact Int.le_of_lt (by assumption))] at this
theorem Hi{a c:Int}(h:0<=c):xR k mu .RShift (bZ (.int a)) (bZ (.int c)) (bZ (.int (a / 2 ^ c.toNat))):=by
 have:=Rt (k:=k) (mu:=mu) (a:=a) (b:=c) h
 rwa [JG _ (Int.pow_nonneg (by decide))] at this
theorem BU{a c:Int}(ha:0<=a/\a < 2 ^ 63)(h:0<=c/\c<=1000):xR k mu .Pow (bZ (.int a)) (bZ (.int c)) (bZ (.int (a ^ c.toNat))):=Rq h.1 (by
 have:=tK (a:=a) (by lia);have h2:(sR a:Int)*c<=64*1000:=Int.mul_le_mul (by lia) h.2 h.1 (by lia);have:(64*1000:Int)<=2 ^ 27:=by decide
 with_reducible exact Int.le_trans (by assumption) (by decide))
theorem RI{t a f:bH}{i j:Int}(ht:PT k mu env t b)(ha:b=aI->PE k mu env a (.int i))(hf:b=aH->PE k mu env f (.int j)):PE k mu env (.IfExp t a f p) (.int (if b then i else j)):=
 uI ht (λh=>by refine aj (if_pos h ..) ?_;exact ha h) (λh=>by refine aj (if_neg (by rw [h];decide) ..) ?_;exact hf h)
theorem BV{t a f:bH}{i j:bb}(ht:PT k mu env t b)(ha:b=aI->PE k mu env a (.str i))(hf:b=aH->PE k mu env f (.str j)):PE k mu env (.IfExp t a f p) (.str (if b then i else j)):=
 uI ht (λh=>by refine aj (if_pos h ..) ?_;exact ha h) (λh=>by refine aj (if_neg (by rw [h];decide) ..) ?_;exact hf h)
theorem rM{α:Type}{l:List α}{f:α->bb}{sep:bb}(hok:Nm sep (l.map f)=aI):Fn k mu (.builtin "str.join") [bZ (.str sep),me mu (l.map λa=>V.str (f a))] (bZ (.str (fP sep (l.map f)))):=by
 have:=He (k:=k) (mu:=mu) (sep:=sep) (ts:=l.map f) hok
 rwa [a0] at this
theorem uO{α:Type}{l:List α}{f:α->Int}:Fn k mu (.builtin "sum") [me mu (l.map λa=>V.int (f a))] (bZ (.int (l.map f).sum)):=by
 have:=Ky (k:=k) (mu:=mu) (ns:=l.map f)
 rwa [a0] at this
theorem KI(c:Nat):(⟨#[c]⟩:bb).length<=2 ^ 22:=by show 1<=2 ^ 22;decide
theorem uP{a c:bb}(h1:a.length<=2 ^ 22)(h2:c.length<=2 ^ 22):xR k mu .Add (bZ (.str a)) (bZ (.str c)) (bZ (.str (a++c))):=FD (by show _<=2 ^ 24;lia)
theorem Qs{i:Int}(h0:0<=i)(h1:i < (xs.length:Int))(hn:xs.length < 2 ^ 60):Gi k mu (bZ (.tup xs)) (bZ (.int i)) (bZ (xs.getD i.toNat .none)):=
 Kx (by unfold j9;refine aj (if_neg (by exact Int.not_lt.mpr (by assumption)) ..) ?_;refine aj (bR ..) ?_;refine aj (bJ (by lia) ..) ?_;rfl) (by lia) (by lia) (by exact cb (by assumption) (by decide))
theorem ki{y:V}{a:cX}(h:Φ y mu):lE Φ (.ret y) (a::mu):=jJ.tail (jJ.keep h)
end
section
variable {α:Type}{M:List α->Prop}{vs:List α}
@[elab_as_elim] theorem uQ(h:vs.length=1)(f:∀a,M [a]):M vs:=by obtain ⟨a,rfl⟩:=List.length_eq_one_iff.mp h;exact f a
theorem rN{n:Nat}(h:vs.length=n+1)(f:∀a t,t.length=n->M (a::t)):M vs:=by
 cases vs with
 |nil=>cases h
 |cons a t=>exact f a t (Nat.succ.inj h)
@[elab_as_elim] theorem zS(h:vs.length=2)(f:∀a b,M [a,b]):M vs:=rN h λa t h=>uQ (M:=λt=>M (a::t)) h (f a)
@[elab_as_elim] theorem Oo(h:vs.length=3)(f:∀a b c,M [a,b,c]):M vs:=rN h λa t h=>zS (M:=λt=>M (a::t)) h (f a)
@[elab_as_elim] theorem RK(h:vs.length=4)(f:∀a b c d,M [a,b,c,d]):M vs:=rN h λa t h=>Oo (M:=λt=>M (a::t)) h (f a)
@[elab_as_elim] theorem len5(h:vs.length=5)(f:∀a b c d e,M [a,b,c,d,e]):M vs:=rN h λa t h=>RK (M:=λt=>M (a::t)) h (f a)
@[elab_as_elim] theorem len6(h:vs.length=6)(f:∀a b c d e g,M [a,b,c,d,e,g]):M vs:=rN h λa t h=>len5 (M:=λt=>M (a::t)) h (f a)
end
variable {o:bH}{i:Nat}
structure BX(k:Nat)(mu:Mu)(f:ai)(Ps:List (Vw))(Φ:V->Mu->Prop):Prop where
 c:∀{A:bh} {E:ai->aq->Prop} {Z:bI} {s:aq} {fr:Mu} {vs:List ai} {Q:ai->aq->Prop},Rm k A->R Z (mu++fr) s->j3 Z vs Ps->
  (∀{w s' Z' y nu},Z.le Z'->aZ G Z' w y->R Z' (nu++fr) s'->Φ y nu->Q w s')->aS (aX G.prog G.w) A (ku f vs) Q E s
section
variable {Ps:List (Vw)}
theorem j5(hm:bl D xs∈mu):Ty mu (bZ (.ref D)) "list":=⟨λZ s fr v r h=>by
 refine eD (r.sat _ (aE fr hm)) λvs n h1 h2=>aj (aZ.refE h ..) ?_;exact Ty.at h1 rfl rfl⟩
theorem mZ{id T:String}{name:bb}{apos:jX}(ho:EV k mu env o P)(ht:Ty mu P T)(ha:tD k mu env (e::es) Ps)(hF:BX k mu (.builtin id) (P::Ps) Φ)(pa:zu T)(slot:Slot T name id)
 (MY:jT (.builtin id)=dg (.type "method_descriptor")) (hl:(apos.endLine == pos.line)=aI) (wz:autoParam (kh (e::es)=aI) aR) (hsz:autoParam ((e::es).length < 29) aD) (so:autoParam (ro o name env (dW o env)=dW o env) aR):
 WE k mu env (.Call (.Attribute o name apos) (e::es) [] pos) Φ:=⟨λ{z z z z z z} hA r q=>Kk ho ht ha pa slot MY hl hsz so hA r λ{z z z z} z1 q1 r1=>hF.c hA r1 q1 λ{z z z z z} z2=>q (z1.trans z2)⟩
theorem kA(hi:mu[i]? =ae (bl D xs))(hl:xs.length < 2 ^ 22)(h:Φ .none (mu.set i (bl D (xs++[y])))):BX k mu (.builtin "list.append") [bZ (.ref D),bZ y] Φ:=⟨λ{z z z z z z z} hA r hq q=>by
 refine cC (hq.two) λv u dO q1 q2=>?_;subst dO;refine aj (aZ.refE q1 ..) ?_;exact AB r hi hl q2 λ{z} r2=>q .rfl .none r2 h⟩
theorem yd{fr:Mu}{h':dH}{vs:Array ai}{n tk:Nat}{ys:List V}(r:R Z (mu++fr) s)(hi:mu[i]? =ae (bl D xs))(hk:∀b o,b≠D->s.heap.get? b=ae o->h'.get? b=ae o)(h:h'.get? D=ae (oK vs n))(hr:bW G Z vs.toList ys):
 R Z (mu.set i (bl D ys)++fr) {s with heap:=h',toks:=tk}:=
 gE hi▸r.upd' (tk:=tk) (cH (fr:=fr) hi) rfl (λb o hb e=>hk b o (λq=>hb (q▸aa)) e) ⟨_,_,h,hr⟩
theorem wQ{a b:Nat}(h:a+b < 2 ^ 22):wH (a+b)=aH:=by unfold wH;have:er=2 ^ 24:=rfl;simp;exact aw (eB (by assumption)) (by decide)
theorem Im(hi:mu[i]? =ae (bl D xs))(hl:xs.length+ys.length < 2 ^ 22)(h:Φ .none (mu.set i (bl D (xs++ys)))):BX k mu (.builtin "list.extend") [bZ (.ref D),bZ (.list ys)] Φ:=⟨λ{A E Z s fr vs Q} hA r hq q=>by
 refine cC (hq.two) λv u eT q1 q2=>?_;subst eT;refine aj (aZ.refE q1 ..) (cE (rk.list q2) λb ws m gi e1 hr=>?_);subst gi;refine eD (r.sat _ (ao (cH (fr:=fr) hi))) λvs n h2 h3=>?_;have l1:=b9 h3;have l2:=b9 hr;rw [l1,l2] at hl;refine l6 F.slot_list_extend (⟨_,h2,rfl⟩:s.TypeIs (.ref D) "list") F.entry_list_extend (F.args_list_extend_2 _ _) (AutoSeq1.list_extend_list_list_0 D vs n b ws m ?_ (by show _<=2 ^ 24;lia) (by show _<=2 ^ 24+1;exact aw (eB (by assumption)) (by decide))) ⟨h2,r.zin _ _ e1,?_⟩
 ·refine aj (wQ hl ..) ?_;simp
 ·have hm:=NS vs ws n av #[];exact q .rfl .none (yd r hi (λc o hb e=>(bY ..).extBut c o hb e) ((bS _ h2 (by refine aj (hm ..) ?_;rfl)).trans (congrArg ae hm)) (by refine aj (lB ..) ?_;exact h3.append hr)) h⟩
theorem Oq(hi:mu[i]? =ae (bl D (y::xs)))(hl:xs.length < 2 ^ 22)(h:Φ y (mu.set i (bl D xs))):BX k mu (.builtin "list.pop") [bZ (.ref D),bZ (.int 0)] Φ:=⟨λ{A E Z s fr vs Q} hA r hq q=>by
 refine cC (hq.two) λv u iC q1 q2=>?_;subst iC;refine aj (aZ.refE q1 ..) (cJ (gF q2) λtk kG=>?_);subst kG;refine eD (r.sat _ (ao (cH (fr:=fr) hi))) λvs n h2 h3=>?_;have l1:xs.length+1=vs.size:=b9 h3;refine cC (h3.cons_inv) λw ws h6 h5 hr=>?_;have h4':vs[0]? =ae w:=bV.symm.trans (by refine aj (h6 ..) ?_;rfl);refine l6 F.slot_list_pop (⟨_,h2,rfl⟩:s.TypeIs (.ref D) "list") F.entry_list_pop (F.args_list_pop_2 _ _) (MeetsSeq.list_pop_at D vs n 0 tk 0 w (by decide) (by unfold Nl;refine fZ (l1 ..) ?_;simp) h4' (by refine fZ (l1 ..) ?_;show _<=2 ^ 24;lia)) ⟨h2,?_⟩;have hm:=PyProof.Rows.mapSeq_erase vs n 0 (by refine fZ (l1 ..) ?_;exact Nat.succ_pos _);exact q .rfl h5 (yd r hi (λc o hb e=>(bY ..).extBut c o hb e) ((bS _ h2 (by refine aj (hm ..) ?_;rfl)).trans (congrArg ae hm)) (by (refine aj (gP ..) ?_;refine aj (h6 ..) ?_);exact hr)) h⟩
structure ForM(Z:bI)(Inv:Nat->Nat->List V->Mu->Prop)(it:Nat->cX)(fr:Mu)(m:Nat)(s':aq):Prop where
 ex:∃i xs Z' nu,Z.le Z'/\R Z' (it i::(nu++fr)) s'/\Inv m i xs nu
theorem Hj{zo:jX}{body orelse:List d6}{Ψ:AF->Mu->Prop}(Inv:Nat->Nat->List V->Mu->Prop)(he:PE k mu env e (.ref D))(hk:1<=k)(m0:Nat)(xs0:List V)(h0:Inv m0 0 xs0 mu)(qm:∀m i xs nu,Inv m i xs nu->bl D xs∈nu)
 (step:∀m i xs nu x,Inv m i xs nu->xs[i]? =ae x->mK k nu env t x λru=>WS k ru env body (kW (λue=>∃m' Uj,m' < m/\Inv m' (i+1) Uj ue) Ψ))
 (fin:∀m i xs nu,Inv m i xs nu->xs.length=i->WS k nu env orelse Ψ) (hlen:∀m i xs nu,Inv m i xs nu->i<=xs.length) (hf:autoParam (∀x,bw e env x=dg x) aR):WX k mu env (.For t e body orelse zo) Ψ:=⟨λ{A E Z s fr Q} hA r q=>by
 with_reducible refine wpAny_For ?_ hf
 refine Ha he (qm m0 0 xs0 mu h0) hA r λ{I s1 Z1} iP z1 r1=>BL (ForM Z Inv (Kp I D) fr) (λm s' h=>?_) m0 ⟨0,xs0,Z1,mu,z1,r1,h0⟩;refine cq (h.ex) λi xs Z' nu z r inv=>?_;have hc:∀o∈[bl D xs],o∈nu++fr:=λo ho=>aA.mp ho▸aE fr (qm m i xs nu inv);rcases Nat.lt_or_eq_of_le (hlen m i xs nu inv) with hi|rfl
 ·refine ⟨λ{y y} hn hs=>(xX iP).item i _ (bJ hi) (hA.le hk) hc r λ{v s3} h3=>hs (h3 λ{s4 Z4} z4 hv r4=>?_)⟩;exact (step m i xs nu _ inv (bJ hi)).c hA (r4.perm cu.symm) hv λ{s5 Z5 nu5} z5 r5 w5=>w5.c hA r5 λ{f s6 Z6 a nu6} z6 f6 r6 w6=>oN.of (fr:=fr) f6 w6 (λ⟨m',Uj,w7,w8⟩=>⟨m',w7,i+1,Uj,Z6,nu6,z.trans (z4.trans (z5.trans z6)),r6.perm cu,w8⟩) λ{y y} hg=>q (z.trans (z4.trans (z5.trans z6))) hg (R.drop (r6.perm cu))
 ·exact ⟨λ{y y} hn hs=>(xX (t:=t) iP).done (hA.le hk) hc r λ{y y} z3 r3=>hn ((fin m _ xs nu inv rfl).c hA r3 λ{y y y y y} z4=>q (z.trans (z3.trans z4)))⟩⟩
noncomputable abbrev nV(n:Nat):V:= .int n
theorem Dw(l:List Nat):(l.map nV)=(l.map fB).map V.int:=by refine aj (a0 ..) ?_;rfl
theorem Hk(l:List Nat)(n:Nat):(l.map fB).any (· == (n:Int))=decide (n∈l):=by
 refine gj (cj ..) ?_;simp only [cS,aG,beq_iff_eq,decide_eq_true_eq];constructor
 ·intro ma;refine aK ma λz mE h=>?_;clear ma;refine aK mE λa ha q8=>?_;clear mE;subst q8;have:a=n:=Nq h;exact this▸ha
 ·exact λh=>⟨_,⟨n,h,rfl⟩,rfl⟩
theorem KJ{n:Nat}{l:List Nat}:te k mu .In (bZ (.int n)) (me mu (l.map nV)) (decide (n∈l)):=by
 have:=RD (k:=k) (mu:=mu) (i:=(n:Int)) (ns:=l.map fB)
 rwa [Hk,<- Dw] at this
theorem Hl{n:Nat}{l:List Nat}:te k mu .NotIn (bZ (.int n)) (me mu (l.map nV)) (!decide (n∈l)):=by
 have:=Om (k:=k) (mu:=mu) (i:=(n:Int)) (ns:=l.map fB)
 rwa [Hk,<- Dw] at this
theorem ew{α:Type}{as:List α}{inj:α->V}{j:Nat}{a:α}(h:as[j]? =ae a)(hn:as.length < 2 ^ 60):Gi k mu (me mu (as.map inj)) (bZ (.int (j:Nat))) (bZ (inj a)):=
 have hj:=(aB.mp h).1
 Rz (by unfold j9;refine aj (if_neg (by lia) ..) ?_;refine aj (aJ ..) ?_;show as[((j:Nat):Int).toNat]?.map inj=_;(refine aj (b8 ..) ?_;refine aj (h ..) ?_);rfl) (by lia) (by lia) (by simp;exact cb (by assumption) (by decide))
theorem xF{α:Type}{as:List α}{inj:α->V}{a:α}(h:as.getLast? =ae a)(hn:as.length < 2 ^ 60):Gi k mu (me mu (as.map inj)) (bZ (.int (-1))) (bZ (inj a)):=by
 have iP:as≠[]:=by intro e;subst e;simp at h
 have hp:0 < as.length:=zy.mpr iP;refine Rz ?_ (by simp;lia) (by decide) (by simp;exact cb (by assumption) (by decide));unfold j9;refine aj (if_pos (by decide) ..) ?_;refine aj (ak ..) ?_;refine aj (aJ ..) ?_;refine aj (show ((-1:Int)+(as.length:Nat)).toNat=as.length - 1 by lia) ?_;refine fZ (List.getLast?_eq_getElem? ..) ?_;refine aj (h ..) ?_;rfl
theorem FW.fn{f:ai}(h:FW k mu f xs λv nu=>v=y/\nu=mu):Fn k mu f (xs.map bZ) (bZ y):=⟨λ{x x x x x x x} hA r hq q=>h.c hA r hq.vrels λ{x x x x x} z w r e=>q z (e.1▸w) (e.2▸r)⟩
theorem FW.mono{Ψ:V->Mu->Prop}{f:ai}(h:FW k mu f xs Φ)(hi:∀y nu,Φ y nu->Ψ y nu):FW k mu f xs Ψ:=⟨λ{x x x x x x x} hA r hv q=>h.c hA r hv λ{x x x x x} z w r u=>q z w r (hi _ _ u)⟩
theorem FW.le{j:Nat}{f:ai}(h:FW j mu f xs Φ)(hj:j<=k):FW k mu f xs Φ:=⟨λ{z z z z z z z} hA=>h.c (hA.le hj)⟩
theorem jJ.tell{nu':Mu}(h:fM D nu λy nu=>nu'.Sublist nu/\Φ y nu'):jJ (.ref D) nu Φ:=⟨λ{x x x x x} r v q=>h.c r λ{x x x} z w r e=>q z ((aZ.refE v).symm▸w) (r.sublist (e.1.append (sS _))) e.2⟩
theorem jJ.list{nu':Mu}(hs:nu'.Sublist mu)(h:Φ (.list xs) nu'):jJ (.ref D) (bl D xs::mu) Φ:=jJ.tell (fM.list ⟨hs,h⟩)
theorem jJ.dict{nu':Mu}{es:List (bb×V)}(hs:nu'.Sublist mu)(h:Φ (.dict es) nu'):jJ (.ref D) (cD D es::mu) Φ:=jJ.tell (fM.dict ⟨hs,h⟩)
end
variable {tp:jX}{j kk:Nat}{elts:List bH}
noncomputable def Io(cl:String)(es:List (bb×V)):Vw:=
 ⟨λZ v=>∃a d o,v= .ref a/\Z a=ae o/\o.cls= .type cl/\o.data= .fields #[.ref d]/\aZ G Z (.ref d) (.dict es),
  λZ Z' v h=>bQ λa=>bQ λd=>bQ λo w=>⟨w.1,h _ _ w.2.1,w.2.2.1,w.2.2.2.1,w.2.2.2.2.mono h⟩⟩
theorem uR{i j:String}{b:Builtin}(h1:CY i=av)(h2:i.cutAt '#'=[i])(h3:PySem.W.S.canonicalZ (String.map (λc=>if (c.isAlphanum || c == '_' || c == '.')=aI then c else '_') i)++""=j)(h4:CY j=ae b):uq TL i=ae b:=
 entryFor_alias ((fastTable_eq_tree i).trans h1) h2 (PySem.W.S.canonicalZ_eq▸h3) ((fastTable_eq_tree j).trans h4)
theorem ye:uq TL "dict_itemiterator.__iter__"=ae Builtin.«dict_keyiterator.__iter__»:=
 uR (j:="dict_keyiterator.__iter__") (by kernel_rfl) rfl (by kernel_rfl) (by kernel_rfl)
section
variable {es:List (bb×V)}{x:bb}{Φ:AF->Mu->Prop}
theorem m7{v:ai}(r:R Z mu s)(h:aZ G Z v (.dict es)):∃d kvs ep,v= .ref d/\(d == lY)=aH/\s.heap.DictAt (strKind G.prog G.w) d kvs ep/\s.heap.DictOf (strKind G.prog G.w) d kvs/\kvs.map (·.1)=es.map (·.1)/\bW G Z (kvs.map (·.2)) (es.map (·.2))/\(∃o,Z d=ae o)/\
 (∀h:dH,(∀a o,Z a=ae o->h.get? a=ae o)->h.DictAt (strKind G.prog G.w) d kvs ep):=by
 refine wI (aZ.dict_inv h) λa o kvs dO hq e1 eT hk hr=>?_;subst dO;refine vJ eT λd1 NI ep d=>?_;clear eT;have ho:=r.zin _ _ e1;exact ⟨a,kvs,ep,rfl,hq,⟨o,NI,ho,d1,d⟩,⟨o,NI,ep,ho,d1,d⟩,hk,hr,⟨_,e1⟩,λh hz=>⟨o,NI,hz _ _ e1,d1,d⟩⟩
theorem rO:Ty mu (bZ (.dict es)) "dict":=⟨λZ s fr v r h=>by
 refine g6 (aZ.dict_inv h) λa o kvs gi hq e1 d z=>?_;subst gi;exact Ty.at (r.zin _ _ e1) d.1.1 d.1.2.1⟩
theorem Dx{d:ay}{cl:String}{T:Prop}(r:R Z mu s)(h:aZ G Z (.ref d) (.dict es))(q:∀{Z'},Z.le Z'->(Io cl es:Vw).p Z' (.ref s.heap.objs.size)->R Z' mu {s with heap:=s.heap.push {cls:= .type cl,data:= .fields #[.ref d]}}->T):T:=
 have z:=bI.le_put (o:={cls:= .type cl,data:= .fields #[.ref d]}) (r.fresh (bp _))
 q z ⟨_,d,_,rfl,bI.put_self ..,rfl,rfl,h.mono z⟩ r.pushZ
theorem AL:Fn k mu (.builtin "dict.values") [bZ (.dict es)] (Io "dict_values" es):=⟨λ{A E Z s fr vs Q} hA r hq q=>by
 refine aK (hq.one) λv iC p=>?_;subst iC;refine g6 (m7 r p) λd kvs ep kG hs hD hO z=>?_;subst kG;exact JH F.slot_dict_values hO.typeIs F.entry_dict_values (F.args_dict_values_1 _) (meets_dict_values (strKind G.prog G.w) d hs) ⟨⟨_,hO⟩,Dx r p q⟩⟩
theorem Dy:Fn k mu (.builtin "dict.items") [bZ (.dict es)] (Io "dict_items" es):=⟨λ{A E Z s fr vs Q} hA r hq q=>by
 refine aK (hq.one) λv ma p=>?_;subst ma;refine g6 (m7 r p) λd kvs ep mE hs hD hO z=>?_;subst mE;exact JH JI hO.typeIs F.entry_dict_items (F.args_dict_items_1 _) (meets_dict_items (strKind G.prog G.w) d hs) ⟨⟨_,hO⟩,Dx r p q⟩⟩
theorem KL(h:EV k mu env e (Io "dict_values" es)):pd k mu env e t [] (es.map (·.2)):=⟨λz h=>(eo h),λ{A E Z s fr Q} hA r q=>by
 refine h.c hA r λ{v s1 Z1} z1 q1 r1=>g6 q1 λa d o q8 hz hc hd p=>?_;clear q1;subst q8;refine jZ (m7 r1 p) λd' kvs ep e1 hs hD hO hk hr uf PU=>cJ uf λod hod=>?_;clear uf;cases e1;refine wpAny_pyIter_values (⟨o,r1.zin _ _ hz,hc,hd⟩:s1.heap.IsValuesView a d) hD (pO (c:="dict_valueiterator") r1 (λA hh=>Walks.dictValues (knd:=strKind G.prog G.w) hh s1.heap.objs.size d (c8 (bN (r1.zin _ _ hod))) kvs ep) ?_ (vN hod) (λi v x hx hp=>?_)
  (λi h hs=>hs.1.imp λz w=>⟨w.1,w.2.1⟩) (by decide) (λb o e=>az _ e) ⟨⟨_,aW _ rfl,rfl,rfl⟩,PU _ λa o e=>az _ (r1.zin _ _ e)⟩ λ{z} hit r'=>q hit z1 r')
 ·(refine aj (ak ..) ?_;refine fZ (ak (f:=(·.1)) ..) ?_;refine fZ (hk ..) ?_;refine aj (ak ..) ?_;rfl)
 ·refine cJ hp λkey h1=>?_;clear hp;obtain ⟨x',h3,h4⟩:=hr.get' (show (kvs.map (·.2))[i]? =ae v by (refine aj (aJ ..) ?_;refine aj (h1 ..) ?_);rfl);cases h3.symm.trans hx;exact h4⟩
end
variable {L:ay}{op:xo}
noncomputable def Hn(I d:ay)(Zf:bI)(n ep i:Nat):cX where
 own:=[I]
 sat:=λZ h=>Zf.le Z/\∃ok ov,IsItemIter h I d i n ep ok ov
 mono:=λZ Z' h hz w=>⟨w.1.trans hz,w.2⟩
 loc:=λZ h h' w hk z z=>⟨w.1,w.2.imp λz=>bQ λz b=>hk I aa _ b⟩
 live:=λZ h w c hc=>w.2.elim λz w=>w.elim λz b=>⟨_,aA.mp hc▸b⟩
abbrev ND(k:Nat)(mu:Mu)(op:xo)(P Q S:Vw):Prop:=B2 k mu (inplaceOp op) P Q S
section
variable {es:List (bb×V)}{x:bb}{Φ:AF->Mu->Prop}{lay:Ax}{bB:el}
theorem Ip{I d:ay}{kvs:List (bb×ai)}{ep:Nat}{Zf:bI}(hk:kvs.map (·.1)=es.map (·.1))(hr:bW G Zf (kvs.map (·.2)) (es.map (·.2)))
 (PU:∀h:dH,(∀a o,Zf a=ae o->h.get? a=ae o)->h.DictAt (strKind G.prog G.w) d kvs ep):CS I [] (.Tuple elts kk tp) (es.map λq=> .tup [.str q.1,q.2]) (Hn I d Zf kvs.length ep) where
 item:=λi x hx {A E Z s fr Q} hA z r q=>by
  refine vJ (r.sat _ aa) λhz ok ov hit=>?_;rw [aJ] at hx;refine aK (aL.mp hx) λw hq dO=>?_;subst dO;obtain ⟨v,h3,h4⟩:=hr.get (show (es.map (·.2))[i]? =ae w.2 by (refine aj (aJ ..) ?_;refine aj (hq ..) ?_);rfl);have h1:(es.map (·.1))[i]? =ae w.1:=by (refine aj (aJ ..) ?_;refine aj (hq ..) ?_);rfl
  rw [<- hk,aJ] at h1;refine aK (aL.mp h1) λkv h5 h6=>?_;rw [aJ,h5] at h3
  (have lA:=aO h3;clear h3;subst lA)
  refine wpAny_pyNext_items_item (knd:=strKind G.prog G.w) (k:=kv.1) (v:=kv.2) hit (PU _ λa o e=>r.zin _ _ (hz _ _ e)) h5 λkey h' hkey GI htup hsz hkeep=>q λ{E T} p=>wpAny_letOwnedTupleGo_items (s:={s with heap:=h'}) GI λh'' hit'' hsame=>cJ (E1 (show Value.isStrOf kv.1 key=aI from hkey)) λtk eT=>?_;subst eT;have iD:=r.fresh (bp s.heap.objs.size);exact p (bI.le_put iD) (aZ.tup (bI.put_self ..) rfl rfl (.cons (h6▸aZ.str _ _) (.cons ((h4.mono hz).mono (bI.le_put iD)) .nil)))
   (R.freeze (r.upd' (x':=Hn I d Zf kvs.length ep (i+1)) (i:=0) (h':=h'') (tk:=s.toks) rfl rfl (λc o hc e=>have hc:c≠I:=λq=>hc (q▸aa);hsame.extBut c o hc (hkeep c o hc e)) ⟨hz,_,_,hit''⟩) (hsame.extBut _ _ (jI (bN hit)) htup) iD (r.notOwn (bp _)))
 done:=λ{A E Z s fr Q} hA z r q=>by
  rw [show (es.map λq=>V.tup [.str q.1,q.2]).length=kvs.length by (refine aj (ak ..) ?_;refine fZ (ak (f:=(·.1)) ..) ?_;refine fZ (hk ..) ?_;refine aj (ak ..) ?_;rfl)] at r;exact vJ (r.sat _ aa) λhz ok ov hit=>wpAny_pyNext_items_end (knd:=strKind G.prog G.w) hA.hh hit (PU _ λa o e=>r.zin _ _ (hz _ _ e)) (il (bp _)) λh' he=>q .rfl (r.dropUpd (tk:=s.toks) λc o hc e=>he c o (λq=>hc (q▸aa)) e)
 self:=λi {A E Z s fr Q} hA r q=>by
  refine vJ (r.sat _ aa) λhz ok ov hit=>?_;have hT:s.TypeIs (.ref I) "dict_itemiterator":=⟨_,hit,rfl⟩;refine vz hT NT (dp NT hT ye ?_ (F.args_dict_itemiterator_iter_1 _));show aS _ _ (vn (.ref I)) _ _ s;exact ar ⟨_,rfl,"dict_itemiterator",_,hT,F.slot_dict_itemiterator_next.lookup,q r⟩
theorem AM(h:EV k mu env e (Io "dict_items" es)):pd k mu env e (.Tuple elts kk tp) [] (es.map λq=> .tup [.str q.1,q.2]):=⟨λz h=>(eo h),λ{A E Z s fr Q} hA r q=>by
 refine h.c hA r λ{v s1 Z1} z1 q1 r1=>g6 q1 λa d o gi hz hc hd p=>?_;clear q1;subst gi;refine jZ (m7 r1 p) λd' kvs ep e1 hs hD hO hk hr hzd PU=>?_;cases e1;exact wpAny_pyIter_items (⟨o,r1.zin _ _ hz,hc,hd⟩:s1.heap.IsItemsView a d) hD (q (Ip hk hr PU) z1 (r1.addNew (tk:=s1.toks) _ (λb o e=>az _ e) ⟨.rfl,_,_,aW _ rfl⟩ eg λz h=>kX h))⟩
theorem FO{A:bh}{E Q:ai->aq->Prop}(he:du env)(sl:Sl env L lay x j)(hf:bq L lay bB∈mu)(GJ:bB[j]? =ae (ae y))(r:R Z mu s)(q:∀{v},aZ G Z v y->Q v s):aS (aX G.prog G.w) A (loadName env x) Q E s:=by
 cases sl with
 |loc hk hL hl hd=>subst hL;obtain ⟨m,hn,w,hw,hr⟩:=r.slot hf hl GJ;exact wpAny_loadName_local he.kind hk hn hw (q hr)
 |cell c z hk hc hl hd=>obtain ⟨m,hn,w,hw,hr⟩:=r.slot hf hl GJ;exact wpAny_loadName_cell he.kind hk hc hw (q hr)
 |free c z hk hc hl hd hd'=>obtain ⟨m,hn,w,hw,hr⟩:=r.slot hf hl GJ;exact wpAny_loadName_free he.kind hk hc hw (q hr) hd'
theorem rP{v:bH}(he:du env)(sl:Sl env L lay x j)(hi:mu[i]? =ae (bq L lay bB))(GJ:bB[j]? =ae (ae y))(hv:EV k mu env v P){y':V}(ho:ND k mu op (bZ y) P (bZ y'))(h:Φ .next (mu.set i (bq L lay (bB.set j (ae y')))))(CB:autoParam ((env.kindOf x == ae .free)=aH) aR):
 WX k mu env (.AugAssign (.Name x p) op v pos) Φ:=⟨λ{A E Z s fr Q} hA r q=>by
 with_reducible refine wpAny_AugAssign_Name ?_
 exact FO he sl (aE fr (ao hi)) GJ r λ{z} q1=>hv.c hA r λ{z z z} z2 q2 r2=>ho.c hA r2 (q1.mono z2) q2 λ{z z z} z3 q3 r3=>xT r3 he sl hi (beq_eq_false_iff_ne.mp CB) q3 λs' r'=>q (z2.trans z3) .next r' h⟩
section
variable {a b:Int}
theorem FP:ND k mu .Add (bZ (.int a)) (bZ (.int b)) (bZ (.int (a+b))):= .ii PyProof.Rows.iadd_int
theorem Qt:ND k mu .BitOr (bZ (.int a)) (bZ (.int b)) (bZ (.int (Builtin.bitOr a b))):= .ii PyProof.Rows.ior_int
theorem RL:ND k mu .BitXor (bZ (.int a)) (bZ (.int b)) (bZ (.int (Builtin.bitXor a b))):= .ii PyProof.Rows.ixor_int
theorem RM(h:0<=b)(h2:b<=1000000)(ha:a.natAbs < 2 ^ 64):ND k mu .LShift (bZ (.int a)) (bZ (.int b)) (bZ (.int (a*2 ^ b.toNat))):= .ii (PyProof.Rows.ilshift_int_small h h2 ha)
end
theorem RN{a b:bb}(h:a.length+b.length<=er):ND k mu .Add (bZ (.str a)) (bZ (.str b)) (bZ (.str (a++b))):=
 ⟨λ{z z z z z z z z} hA R hp hq q=>aZ.strC hp λt=>aZ.strC hq λu=>PyProof.Rows.iadd_str (λt' tk=>q .rfl (aZ.str _ _) R.toks) h⟩
end
section
variable {ie v:bH}{es:List (bb×V)}{x:bb}{Φ:AF->Mu->Prop}
theorem wR{A:bh}{E:ai->aq->Prop}{Q:Unit->aq->Prop}{tk:HX}{w:ai}(r:R Z mu s)(hi:mu[i]? =ae (cD D es))(hl:es.length<=er)(hv:aZ G Z w y)
 (h:∀s',R Z (mu.set i (cD D (jE es x y))) s'->Q () s'):aS (aX G.prog G.w) A (setItem (.ref D) (.str x tk) w) Q E s:=by
 refine qr (r.sat _ (ao hi)) λq kvs h1 h2 h3=>?_;have hlen:kvs.length=es.length:=by (refine fZ (ak (f:=(·.1)) ..) ?_;refine aj (h2 ..) ?_;refine aj (ak ..) ?_;rfl)
 exact wpAny_setItem_pairs (knd:=strKind G.prog G.w) (k:=x) (zw G.prog G.w x tk) h1 (λh' hd hs=>h _ (r.upd' (x':=cD D (jE es x y)) hi rfl (λb o hb e=>hs.extBut b o (λq=>hb (q▸aa)) e) ⟨q,_,hd,Dk (x:=x) h2 h3 hv⟩)) (hlen▸hl)
theorem KM{Θ:V->Mu->Prop}(hv:WE k mu env v λy nu=>∃i D es x,PE k nu env o (.ref D)/\PE k nu env ie (.str x)/\nu[i]? =ae (cD D es)/\es.length<=er/\Φ .next (nu.set i (cD D (jE es x y))))
 (hs:autoParam (xp v (ae (.Subscript o ie p)) pos.line env=dg aH) aR):WX k mu env (.Assign [.Subscript o ie p] v pos) Φ:=⟨λ{A E Z s fr Q} hA r q=>by
 with_reducible refine wpAny_Assign_Subscript ?_ hs
 refine hv.c hA r λ{w s1 Z1 y nu} z1 q1 r1 u=>dK u λi D es x ho hx hi hl h=>?_;clear u;refine ho.c hA r1 λ{ov s2 Z2} z2 q2 r2=>hx.c hA r2 λ{iv s3 Z3} z3 q3 r3=>aj (aZ.refE q2 ..) ?_;exact aZ.strC q3 λtk=>wR r3 (cH hi) hl (q1.mono (z2.trans z3)) λs' r'=>q (z1.trans (z2.trans z3)) .next (gE hi▸r') h⟩
theorem qC(hv:PE k mu env v y)(ho:PE k mu env o (.ref D))(hx:PE k mu env ie (.str x))(hi:mu[i]? =ae (cD D es))(hl:es.length<=er)(h:Φ .next (mu.set i (cD D (jE es x y))))
 (hs:autoParam (xp v (ae (.Subscript o ie p)) pos.line env=dg aH) aR):WX k mu env (.Assign [.Subscript o ie p] v pos) Φ:=
 KM (Θ:=λz z=>True) (cf hv ⟨i,D,es,x,ho,hx,hi,hl,h⟩) hs
theorem Os{y0 y1:V}(ho:PE k mu env o (.ref D))(hx:PE k mu env ie (.str x))(hi:mu[i]? =ae (cD D es))(hg:mf es x=ae y0)(hv:EV k mu env v P)(hop:ND k mu op (bZ y0) P (bZ y1))(hl:es.length<=er)(h:Φ .next (mu.set i (cD D (jE es x y1))))
 (hau:autoParam (∀ov iv new,augStore ie ov iv new=(do eV [new,ov,iv] (setItem ov iv new);release [new,ov,iv] [];dg .next)) aR):WX k mu env (.AugAssign (.Subscript o ie p) op v pos) Φ:=⟨λ{A E Z s fr Q} hA r q=>by
 with_reducible refine wpAny_AugAssign_SubscriptAny ?_ hau
 refine ho.c hA r λ{ov s1 Z1} z1 q1 r1=>hx.c hA r1 λ{iv s2 Z2} z2 q2 r2=>aj (aZ.refE q1 ..) (((mh (k:=k) (mu:=mu) hg).c hA r2 ⟨D,rfl,λZ' s' hz r'=>r'.sat _ (ao hi)⟩ q2 λ{z z z} z3 q3 r3=>hv.c hA r3 λ{z z z} z4 q4 r4=>hop.c hA r4 (q3.mono z4) q4 λ{w s5 Z5} z5 q5 r5=>?_).2);exact aZ.strC q2 λtk=>wR r5 (cH hi) hl q5 λs' r'=>q (z1.trans (z2.trans (z3.trans (z4.trans z5)))) .next (gE hi▸r') h⟩
theorem BY{n:Int}:Fn k mu (.builtin "isinstance") [bZ (.int n),bZ (.type "tuple")] (bZ (.bool aH)):=⟨λ{A E Z s fr vs Q} hA r hq q=>by
 refine cC (hq.two) λv u dO q1 q2=>?_;subst dO;refine aj (aZ.typeE q2 ..) ?_;exact aZ.intC q1 λtk=>call_isinstance (isinstance_false_int (by decide) (by rfl) (by refine aj (iR ..) ?_;kernel_rfl)) (q .rfl (aZ.bool _) r.toks)⟩
theorem BZ{c:Bool}:Fn k mu (.builtin "isinstance") [bZ (.bool c),bZ (.type "bool")] (bZ (.bool aI)):=⟨λ{A E Z s fr vs Q} hA r hq q=>by
 refine cC (hq.two) λv u eT q1 q2=>?_;subst eT;refine aj (aZ.typeE q2 ..) ?_;refine aj (aZ.boolE q1 ..) ?_;exact call_isinstance_yes (Tx:="bool") rfl (by rfl) (by refine aj (iR ..) ?_;kernel_rfl) (q .rfl (aZ.bool _) r)⟩
end
noncomputable abbrev cV(c:List (bb×Int)):V:= .dict (c.map λq=>(q.1,V.int q.2))
theorem Ot(c:List (bb×Int)):(c.map λq=>(q.1,V.int q.2)).map (·.2)=(c.map (·.2)).map V.int:=by (refine aj (a0 ..) ?_;refine aj (a0 ..) ?_);rfl
theorem Ho(H:Hy G){c:List (bb×Int)}:FW (k+2) mu (.ref 270) [cV c] λy nu=>nu=mu/\y= .int (c.map (·.2)).sum:=by
 refine ti H H.f270 (names:=["callers"]) (vals':=λL=>[ae (cV c),av,av]) (λpm cd doc vs h=>?_) (by decide+kernel) rfl (λpm cd doc L=>?_) (λpm cd doc L he=>?_)
 ·exact uQ h λa=>rfl
 ·exact .cons (j:=0) .loc rfl .nil
 refine aC (ig (cf cO ?_));refine aC (bX aU (aQ (i:=0) (j:=1) he .loc rfl ?_) rfl rfl);refine aC (jN (ctx:=[]) (xs:=(c.map (·.2)).map V.int) (λi nu=>∃o,nu=bq L (aM (L+1) (bk (cM 15)).names) [ae (cV c),ae (.int ((c.map (·.2)).take i).sum),o]::mu)
  (by refine fZ (Ot ..) ?_;exact KL (f7 (ah (j:=0) he .loc aa rfl) rO aT AL (by exact vG) (by exact F.slot_dict_values) (by exact F.type_dict_values) rfl)) (by lia) ⟨av,rfl⟩ (λi nu h o ho=>(eo ho)) ?_ ?_)
 ·intro i x nu hx dO;refine cJ dO λo eT=>?_;clear dO;subst eT;rw [aJ] at hx;refine aK (aL.mp hx) λn hn gi=>?_;subst gi;refine aQ (i:=0) (j:=2) he .loc rfl (aC (rP (i:=0) (j:=1) he .loc rfl rfl (ah (j:=2) he .loc aa rfl) FP ?_));refine bC ⟨ae (.int n),?_⟩;have e1:((c.map (·.2)).take (i+1)).sum=((c.map (·.2)).take i).sum+n:=by
   refine aj (dF ..) ?_;refine aj (hn ..) ?_;refine aj (vx ..) ?_;simp only [Am,da,List.sum_nil,P9]
  refine aj (e1 ..) ?_;rfl
 ·intro nu iC;refine cJ iC λo kG=>?_;clear iC;subst kG;refine bC (aC (gw (cf (bM (ah (j:=1) he .loc aa rfl) (by (refine aj (ak ..) ?_;refine aj (cK ..) ?_;rfl))) (ki ⟨rfl,rfl⟩))))
noncomputable def uS(c:List (bb×Int))(q:bb×Int):List (bb×Int):=
 if c.any (λp=>p.1=q.1) then c.map (λp=>if p.1=q.1 then (p.1,p.2+q.2) else p) else c++[q]
theorem Dz{c:List (bb×Int)}{x:bb}{n:Int}(h:x∉c.map (·.1)):jE (c.map λq=>(q.1,V.int q.2)) x (.int n)=(c++[(x,n)]).map λq=>(q.1,V.int q.2):=by
 delta jE;rw [if_neg]
 ·simp
 ·intro h2;rw [cS] at h2;refine aK h2 λq hq hx=>?_;clear h2;refine aK (aG.mp hq) λp hp ma=>?_;subst ma;exact h (aG.mpr ⟨p,hp,by simpa using hx⟩)
theorem B1{c:List (bb×Int)}{x:bb}:mf (c.map λq=>(q.1,V.int q.2)) x=(c.find? λp=>p.1=x).map λp=>V.int p.2:=by
 delta mf;induction c with
 |nil=>rfl
 |cons a c ih=>
  refine aj (bA ..) ?_;refine aj (jV ..) ?_;refine aj (jV ..) ?_;by_cases h:a.1=x
  ·simp [h]
  ·simp only [h,decide_false];exact ih
noncomputable def oO(a b:List (bb×Int)):List (bb×Int):=b.foldl uS a
theorem Iq(c:List (bb×Int))(q:bb×Int):(uS c q).map (·.1)=if c.any (λp=>p.1=q.1) then c.map (·.1) else c.map (·.1)++[q.1]:=by
 delta uS
 split
 ·refine aj (a0 ..) ?_;congr 1;funext p;simp only [l7]
  split <;> rfl
 ·simp
theorem FQ{c:List (bb×Int)}{q:bb×Int}(h:(c.map (·.1)).Nodup):((uS c q).map (·.1)).Nodup:=by
 refine aj (Iq ..) ?_
 split
 ·exact h
 ·rename_i hn;refine gj (bP ..) (⟨h,by simp,λa ha b hb e=>?_⟩);rw [aA.mp hb] at e;exact aK (aG.mp ha) λp hp hp2=>hn (cS.mpr ⟨p,hp,by simp [hp2,e]⟩)
theorem KN{c:List (bb×Int)}{q p0:bb×Int}(hn:(c.map (·.1)).Nodup)(hf:c.find? (λp=>p.1=q.1)=ae p0):jE (c.map λq=>(q.1,V.int q.2)) q.1 (.int (p0.2+q.2))=(uS c q).map λq=>(q.1,V.int q.2):=by
 have GK:c.any (λp=>p.1=q.1)=aI:=cS.mpr ⟨p0,List.mem_of_find?_eq_some hf,by have:=List.find?_some hf;exact this⟩;delta jE uS;refine aj (if_pos GK ..) ?_;refine aj (if_pos (by rw [CH];exact GK) ..) ?_;refine aj (a0 ..) ?_;refine aj (a0 ..) ?_;refine b5 λp hp=>?_;simp only [l7];by_cases h:p.1=q.1
 ·(refine aj (if_pos h ..) ?_;refine aj (if_pos h ..) ?_)
  have:p=p0:=by
   have h0:=List.find?_some hf;simp at h0;clear GK;induction c with
   |nil=>exact eo hp
   |cons a c ih=>
    simp only [bA,cg] at hn;rw [jV] at hf;by_cases ha:a.1=q.1
    ·simp [ha] at hf;subst hf;rcases aP.mp hp with rfl|hp
     ·rfl
     ·exact absurd (aG.mpr ⟨p,hp,h.trans ha.symm⟩) hn.1
    ·simp [ha] at hf;rcases aP.mp hp with rfl|hp
     ·exact absurd h ha
     ·exact ih hn.2 hf hp
  refine aj (this ..) ?_;rfl
 ·(refine aj (if_neg h ..) ?_;refine aj (if_neg h ..) ?_;rfl)
theorem KP(c:List (bb×Int))(q:bb×Int):(uS c q).length<=c.length+1:=by
 delta uS
 split <;> simp
theorem Ir(a b:List (bb×Int)):(oO a b).length<=a.length+b.length:=by
 delta oO;induction b generalizing a with
 |nil=>simp
 |cons q b ih=>have h1:=ih (uS a q);have h2:=KP a q;simp only [fF,bK];lia
theorem DA{a b:List (bb×Int)}(h:(a.map (·.1)).Nodup):((oO a b).map (·.1)).Nodup:=by
 delta oO;induction b generalizing a with
 |nil=>exact h
 |cons q b ih=>exact ih (FQ h)
def lI.S0(k:Nat)(mu:Mu)(a b:List (bb×Int)):Prop:=∀(H:Hy G) (ha:(a.map (·.1)).Nodup) (SS:a.length<=1000) (hlb:b.length<=1000),FW (k+2) mu (.ref 263) [cV a,cV b] λy nu=>nu=mu/\y=cV (oO a b)
namespace lI
@[irreducible] def e0:=G2 eN gD gD gD S0
def k_:=e0.1
def e9:=e0.2.1
def a_:=e0.2.2.1
def b_:=e0.2.2.2
theorem T0:S0 k_ e9 a_ b_:=by
 intro H ha SS hlb;refine ti H H.f263 (names:=["target","source"]) (vals':=λL=>[ae (cV a_),ae (cV b_),av,av,av]) (λpm cd doc vs h=>?_) (by decide+kernel) rfl (λpm cd doc L=>?_) (λpm cd doc L he=>?_)
 ·exact zS h λa_ b_=>rfl
 ·exact .cons (j:=0) .loc rfl (.cons (j:=1) .loc rfl .nil)
 refine aC (ig (cf cO ?_));refine aC (b4 (ya H.B (λD=>fM.ref (aQ (i:=1) (j:=2) he .loc rfl ?_))) rfl rfl);have S1:∀n,n<=4000->n<=er:=λn h=>by show _<=2 ^ 24;exact aw (by assumption) (by decide)
 refine aC (jN (ctx:=[]) (xs:=(a_.map λq=>(q.1,V.int q.2)).map λq=> .tup [.str q.1,q.2]) (λi nu=>∃o1 o2,nu=cD D ((a_.take i).map λq=>(q.1,V.int q.2))::bq L (aM (L+1) (bk (cM 14)).names) [ae (cV a_),ae (cV b_),ae (.ref D),o1,o2]::e9)
  (AM (f7 (ah (j:=0) he .loc (ab _ aa) rfl) rO aT Dy (by exact vG) (by exact JI) (by exact F.type_dict_items) rfl)) (by lia) ⟨av,av,rfl⟩ (λi nu h o ho=>(eo ho)) ?_ ?_)
 ·intro i x nu hx mE;refine oz mE λo1 o2 q8=>?_;clear mE;subst q8;rw [aJ,aJ] at hx;refine aK (aL.mp hx) λq' ER uf=>?_;subst uf;refine aK (aL.mp ER) λq hq mP=>?_;subst mP;refine i7 (cv rfl rfl (aQ (i:=1) (j:=3) he .loc rfl (cv rfl rfl (aQ (i:=1) (j:=4) he .loc rfl (iX ?_)))));have PV:q.1∉(a_.take i).map (·.1):=λh=>by
   have e1:a_=a_.take i++q::a_.drop (i+1):=gh hq;rw [e1,bj,bA,bP] at ha;exact ha.2.2 _ h _ aa rfl
  refine aC (qC (i:=0) (ah (j:=4) he .loc (ab _ aa) rfl) (ah (j:=2) he .loc (ab _ aa) rfl) (ah (j:=3) he .loc (ab _ aa) rfl) rfl (S1 _ (by simp;lia)) ?_);refine bC ⟨ae (.str q.1),ae (.int q.2),?_⟩;refine aj (Dz PV ..) ?_;refine aj (dF ..) ?_;refine aj (hq ..) ?_;rfl
 ·intro nu sq;refine oz sq λo1 o2 zm=>?_;clear sq;subst zm;refine bC ?_;refine aj (ak ..) ?_;refine aj (ak ..) ?_;refine aj (cK ..) ?_;refine aC (jN (ctx:=[]) (xs:=(b_.map λq=>(q.1,V.int q.2)).map λq=> .tup [.str q.1,q.2]) (λi nu=>∃o1 o2,nu=cD D ((oO a_ (b_.take i)).map λq=>(q.1,V.int q.2))::bq L (aM (L+1) (bk (cM 14)).names) [ae (cV a_),ae (cV b_),ae (.ref D),o1,o2]::e9)
   (AM (f7 (ah (j:=1) he .loc (ab _ aa) rfl) rO aT Dy (by exact vG) (by exact JI) (by exact F.type_dict_items) rfl)) (by lia) ⟨o1,o2,rfl⟩ (λi nu h o ho=>(eo ho)) ?_ ?_)
  ·intro i x nu hx ES;refine oz ES λo1 o2 MZ=>?_;clear ES;subst MZ;rw [aJ,aJ] at hx;refine aK (aL.mp hx) λq' ER SX=>?_;subst SX;refine aK (aL.mp ER) λq hq SY=>?_;subst SY;have hlc:(oO a_ (b_.take i)).length<=2000:=by
    have:=Ir a_ (b_.take i);have h3:(b_.take i).length<=b_.length:=by refine aj (dR ..) ?_;exact ow _ _
    lia
   have hnd:=DA (b:=b_.take i) ha;have M0:oO a_ (b_.take (i+1))=uS (oO a_ (b_.take i)) q:=by (refine aj (dF ..) ?_;refine aj (hq ..) ?_);simp [oO]
   generalize oO a_ (b_.take i)=c at hlc hnd M0 ⊢;refine i7 (cv rfl rfl (aQ (i:=1) (j:=3) he .loc rfl (cv rfl rfl (aQ (i:=1) (j:=4) he .loc rfl (iX ?_)))));refine aC (iY (c9 (ah (j:=3) he .loc (ab _ aa) rfl) (wK (ah (j:=2) he .loc (ab _ aa) rfl) aa) KF) (λh=>?_) λh=>?_)
   ·rw [B1] at h;obtain ⟨p0,JW⟩:∃p0,c.find? (λp=>p.1=q.1)=ae p0:=by
     cases hc:c.find? (λp=>p.1=q.1) with
     |none=>rw [hc] at h;exact vL h
     |some p0=>exact ⟨p0,rfl⟩
    refine aC (iY (kU (ej (j4 H he H.b_isinstance rfl) (au (ah (j:=4) he .loc (ab _ aa) rfl) (au (iN H he H.b_tuple rfl) aT)) BY) qw) (λh=>(vL h)) λz=>?_);refine aC (Os (i:=0) (y0:= .int p0.2) (ah (j:=2) he .loc (ab _ aa) rfl) (ah (j:=3) he .loc (ab _ aa) rfl) rfl (by (refine aj (B1 ..) ?_;refine aj (JW ..) ?_);rfl) (ah (j:=4) he .loc (ab _ aa) rfl) FP (S1 _ (by simp;exact aw (by assumption) (by decide))) ?_);refine bC (bC (bC ⟨ae (.str q.1),ae (.int q.2),?_⟩));refine aj (KN hnd JW ..) ?_;refine aj (M0 ..) ?_;rfl
   ·rw [B1] at h;have hnone:c.find? (λp=>p.1=q.1)=av:=by
     cases hc:c.find? (λp=>p.1=q.1) with
     |none=>rfl
     |some p0=>rw [hc] at h;exact J3 h
    refine aC (qC (i:=0) (ah (j:=4) he .loc (ab _ aa) rfl) (ah (j:=2) he .loc (ab _ aa) rfl) (ah (j:=3) he .loc (ab _ aa) rfl) rfl (S1 _ (by simp;exact aw (by assumption) (by decide))) ?_);refine bC (bC ⟨ae (.str q.1),ae (.int q.2),?_⟩);have hnot:q.1∉c.map (·.1):=λh=>by
     refine aK (aG.mp h) λp hp hp2=>?_;have:=Al.mp hnone p hp;simp [hp2] at this
    refine aj (Dz hnot ..) ?_;refine aj (M0 ..) ?_;have:uS c q=c++[q]:=by delta uS;rw [if_neg];intro h;exact aK (cS.mp h) λp hp hp2=>hnot (aG.mpr ⟨p,hp,by simpa using hp2⟩)
    refine aj (this ..) ?_;rfl
  ·intro nu PR;refine oz PR λo1 o2 SZ=>?_;clear PR;subst SZ;refine bC ?_;refine aj (ak ..) ?_;refine aj (ak ..) ?_;refine aj (cK ..) ?_;refine aC (gw (cf (ah (j:=2) he .loc (ab _ aa) rfl) ?_));exact jJ.dict (gW _ _) ⟨rfl,rfl⟩
end lI
theorem lI{a b:List (bb×Int)}:lI.S0 k mu a b:=by with_unfolding_all exact vK _ _ _ _ lI.S0 @lI.T0 k mu a b
theorem ju{f:bb}{a:ay}{ob:o6}{fd:cm}(hf:PE k mu env (.Name f p) (.ref a))(h0:G.Z0 a=ae ob)(hd:ob.data= .func fd)(ha:tD k mu env (e::es) (ys.map bZ))(hF:FW k mu (.ref a) ys λv nu=>v=y/\nu=mu)(hs:∀a p,e≠ .Starred a p:=by intro z z h;cases h):
 PE k mu env (.Call (.Name f p) (e::es) [] pos) y:=Kj hf h0 hd ha hF.fn hs
noncomputable abbrev Qu(a b c d:Int)(q:List (bb×Int)):V:= .tup [.int a,.int b,.int c,.int d,cV q]
theorem Ou(H:Hy G){a b c d a' b' c' d':Int}{q q':List (bb×Int)}(hn:(q.map (·.1)).Nodup)(hl:q.length<=1000)(hl':q'.length<=1000):
 FW (k+3) mu (.ref 256) [Qu a b c d q,Qu a' b' c' d' q'] λy nu=>y=Qu (a'+a) (b'+b) (c'+c) (d'+d) (oO q q')/\nu=mu:=by
 refine ti H H.f256 (names:=["target","source"]) (vals':=λL=>[ae (Qu a b c d q),ae (Qu a' b' c' d' q'),av,av,av,av,av,av,av,av,av,av]) (λpm cd doc vs h=>?_) (by decide+kernel) rfl (λpm cd doc L=>?_) (λpm cd doc L he=>?_)
 ·exact zS h λa b=>rfl
 ·exact .cons (j:=0) .loc rfl (.cons (j:=1) .loc rfl .nil)
 refine aC (ig (cf cO ?_));refine aC (bX (ah (j:=1) he .loc aa rfl) (i7 (cv rfl rfl (aQ (i:=0) (j:=2) he .loc rfl (cv rfl rfl (aQ (i:=0) (j:=3) he .loc rfl (cv rfl rfl (aQ (i:=0) (j:=4) he .loc rfl (cv rfl rfl (aQ (i:=0) (j:=5) he .loc rfl (cv rfl rfl (aQ (i:=0) (j:=6) he .loc rfl (iX ?_)))))))))))) rfl rfl);refine aC (bX (ah (j:=0) he .loc aa rfl) (i7 (cv rfl rfl (aQ (i:=0) (j:=7) he .loc rfl (cv rfl rfl (aQ (i:=0) (j:=8) he .loc rfl (cv rfl rfl (aQ (i:=0) (j:=9) he .loc rfl (cv rfl rfl (aQ (i:=0) (j:=10) he .loc rfl (cv rfl rfl (aQ (i:=0) (j:=11) he .loc rfl (iX ?_)))))))))))) rfl rfl);refine cq (H.f263.go) λob Uk cd' Jq h0 hd z=>aC (gw (cf (f9 (xs:=[.int (a'+a),.int (b'+b),.int (c'+c),.int (d'+d),cV (oO q q')]) (au (br (cP (ah (j:=2) he .loc aa rfl)) (cP (ah (j:=7) he .loc aa rfl)) (by exact fC)) (au (br (cP (ah (j:=3) he .loc aa rfl)) (cP (ah (j:=8) he .loc aa rfl)) (by exact fC)) (au (br (cP (ah (j:=4) he .loc aa rfl)) (cP (ah (j:=9) he .loc aa rfl)) (by exact fC)) (au (br (cP (ah (j:=5) he .loc aa rfl)) (cP (ah (j:=10) he .loc aa rfl)) (by exact fC)) (au (ju (ys:=[cV q,cV q']) (mn H he H.m_callers rfl) h0 hd (au (ah (j:=11) he .loc aa rfl) (au (ah (j:=6) he .loc aa rfl) aT)) ((lI H hn hl hl').mono λy nu h=>⟨h.2,h.1⟩)) aT))))) (bg rfl)) (ki ⟨rfl,rfl⟩)))
noncomputable def nG(m:Nat):List Nat:=(aN 33).filter m.testBit
noncomputable def iw(m i:Nat):List Nat:=(aN i).filter m.testBit
noncomputable def lF(m i:Nat):Nat:=m / 2 ^ i*2 ^ i
theorem FR(m:Nat):lF m 0=m:=by simp [lF]
theorem DB(m i:Nat):m / 2 ^ i=2*(m / 2 ^ (i+1))+(m.testBit i).toNat:=by
 have h1:m / 2 ^ (i+1)=m / 2 ^ i / 2:=by rw [CI,Nat.div_div_eq_div_mul]
 have h2:(m.testBit i).toNat=m / 2 ^ i % 2:=by rw [fx];have:=JJ (m / 2 ^ i);rcases this with h|h <;> simp [h]
 rw [h1,h2];lia
theorem yf(m i:Nat):lF m i=lF m (i+1)+(m.testBit i).toNat*2 ^ i:=by unfold lF;rw [DB m i,iS,CI];congr 1;rw [rg 2,jY,rg 2]
theorem KQ(a i:Nat):a &&& 2 ^ i=(a.testBit i).toNat*2 ^ i:=by
 apply xu;intro j;rw [GU,lC];by_cases Bu:i=j
 ·subst Bu;cases h:a.testBit i
  ·simp
  ·simp [lC]
 ·cases h:a.testBit i
  ·simp [Bu]
  ·simp [Bu,lC]
theorem It(m i:Nat):lF m i &&& 2 ^ i=(m.testBit i).toNat*2 ^ i:=by rw [KQ];congr 2;unfold lF;rw [rg,NU];simp;rw [fx]
theorem oP(m i:Nat):iw m (i+1)=iw m i++(if m.testBit i then [i] else []):=by
 unfold iw;rw [qh,fX];congr 1;rw [hZ]
 split <;> simp
theorem DC{m i:Nat}(hi:i<=33)(h:m / 2 ^ i=0):iw m i=nG m:=by
 have:∀n,iw m (i+n)=iw m i:=by
  intro n;induction n with
  |zero=>rfl
  |succ n ih=>
   have hz:m.testBit (i+n)=aH:=by
    rw [fx];have:m < 2 ^ i:=by
     rcases gX m (2 ^ i) with h'|h'
     ·exact h'
     ·have:=Nat.div_pos h' (qi i);lia
    have h2:m / 2 ^ (i+n)=0:=Nat.div_eq_of_lt (cb this (e7 (by decide) (by exact dD _ _)));simp [h2]
   rw [<- l5,oP,hz,ih];simp
 have h2:=this (33 - i);rw [show i+(33 - i)=33 by lia] at h2;exact h2.symm
noncomputable def cB(i:Nat):bb:=if i < 10 then oJ.getD i "" else JD "0x" 16 ((2 ^ i:Nat):Int)
noncomputable def rQ(m:Nat):bb:=fP ", " ((nG m).map cB)
theorem B3:∀i,i < 33->(cB i).length<=20:=by decide+kernel
theorem FS:∀i,i < 33->(vt qA ((1:Int)*2 ^ ((i:Nat):Int).toNat)).isSome=decide (i < 10)/\(i < 10->vt qA ((1:Int)*2 ^ ((i:Nat):Int).toNat)=ae (.str (cB i) (254+2*i))):=by decide+kernel
theorem RO(i:Nat)(h:¬i < 10):JD "0x" 16 ((1:Int)*2 ^ ((i:Nat):Int).toNat)=cB i:=by
 unfold cB;refine aj (if_neg h ..) ?_;refine aj (sT ..) ?_;refine aj (b8 ..) ?_
 norm_cast
theorem RP(i:Nat)(h:i < 32):(JD "0x" 16 ((1:Int)*2 ^ ((i:Nat):Int).toNat)).length<=er:=by
 have:∀i,i < 32->(JD "0x" 16 ((1:Int)*2 ^ ((i:Nat):Int).toNat)).length<=20:=by decide+kernel
 exact aw (this i h) (by show _<=2 ^ 24;decide)
theorem B4(m:Nat):Nm ", " ((nG m).map cB)=aI:=by
 refine joinOk_of ?_;have h1:∀l:List Nat,(∀i∈l,i < 33)->((l.map cB).map (·.length)).sum<=l.length*20:=by
  intro l;induction l with
  |nil=>intro z;simp
  |cons a l ih=>intro h;have:=ih λi hi=>h i (ab _ hi);have:=B3 a (h a aa);simp only [bA,da,bK];lia
 have h2:=h1 (nG m) λi hi=>aY.mp (bo.mp hi).1;have h3:(nG m).length<=33:=by have:=bu m.testBit (aN 33);exact this
 have h4:(", ":bb).length=2:=rfl;refine aj (ak ..) ?_;refine aj (h4 ..) ?_;lia
theorem FT(H:Hy G){i:Nat}(hi:i < 32){d:bb}(hd:¬i < 10->d=cB i):Fn k mu (.builtin "dict.get") [bZ (.ref 65),bZ (.int (1*2 ^ ((i:Nat):Int).toNat)),bZ (.str d)] (bZ (.str (cB i))):=⟨λ{A E Z s fr vs Q} hA r hq q=>by
 refine lG (hq.three) λv u w dO q1 q2 q3=>?_;subst dO;refine aj (aZ.refE q1 ..) (cJ (gF q2) λtk eT=>?_);subst eT;refine cJ (gU q3) λny gi=>?_;subst gi;have hD:=H.flagD.2 s.heap r.z0in;refine JH F.slot_dict_get hD.typeIs F.entry_dict_get (F.args_dict_get_3 _ _ _) (meets_dict_get_default (knd:=lu G.prog G.w) (d:=65) (hkey:=GV G.prog G.w _ tk) (hd:=H.flagD.1) (dflt:=_)) ⟨_,hD.mapOf,?_⟩;refine dU (FS i (cI hi)) λh1 h2=>?_;by_cases h:i < 10
 ·exact aj (h2 h ..) (q .rfl (aZ.str _ _) r.toks)
 ·have:vt qA ((1:Int)*2 ^ ((i:Nat):Int).toNat)=av:=by
   cases hv:vt qA ((1:Int)*2 ^ ((i:Nat):Int).toNat) with
   |none=>rfl
   |some _=>rw [hv] at h1;exact absurd (of_decide_eq_true h1.symm) h
  refine aj (this ..) ?_;refine aj (hd h ..) ?_;exact q .rfl (aZ.str _ _) r.toks⟩
theorem KR(H:Hy G):Ty mu (bZ (.ref 65)) "dict":=⟨λZ s fr v r h=>by
 exact cE (H.flagD.2 s.heap r.z0in) λo es ep h1 h2 z=>aZ.refE h▸Ty.at h1 h2.1 h2.2.1⟩
theorem yg(m i:Nat):lZ ((lF m i:Nat):Int) (1*2 ^ ((i:Nat):Int).toNat)=(((m.testBit i).toNat*2 ^ i:Nat):Int):=by
 have h:(1:Int)*2 ^ ((i:Nat):Int).toNat=((2 ^ i:Nat):Int):=by (refine aj (sT ..) ?_;refine aj (b8 ..) ?_);norm_cast
 refine aj (h ..) ?_;refine aj (bitAnd_pp (dJ _) (dJ _) ..) ?_;refine aj (b8 ..) ?_;refine aj (b8 ..) ?_;refine aj (It ..) ?_;rfl
theorem KU{m i:Nat}(h:m.testBit i=aI):Builtin.bitXor ((lF m i:Nat):Int) (1*2 ^ ((i:Nat):Int).toNat)=((lF m (i+1):Nat):Int):=by
 refine aj (bitXor_and ..) ?_;refine aj (yg ..) ?_;refine aj (h ..) ?_;have h2:(1:Int)*2 ^ ((i:Nat):Int).toNat=((2 ^ i:Nat):Int):=by (refine aj (sT ..) ?_;refine aj (b8 ..) ?_);norm_cast
 have h3:=yf m i;rw [h] at h3;refine aj (h2 ..) ?_;simp only [GW,xv] at h3 ⊢;lia
noncomputable abbrev pfFr(L:ay)(f:Int)(D:ay)(o1 o2:Option V):cX:=bq L (aM (L+1) (bk (cM 4)).names) [ae (.int f),ae (.ref D),o1,o2]
noncomputable abbrev Iu(l:List Nat):List V:=l.map λi=>V.str (cB i)
def oQ.S0(k:Nat)(mu:Mu)(m _:Nat):Prop:=∀(H:Hy G) (h0:m≠0) (hm:m < 2 ^ 33),FW (k+2) mu (.ref 72) [nV m] λy nu=>y= .str (rQ m)/\nu=mu
namespace oQ
@[irreducible] def e0:=G2 eN gD eN eN S0
def k_:=e0.1
def e9:=e0.2.1
def m_:=e0.2.2.1
theorem T0:S0 k_ e9 m_ e0.2.2.2:=by
 intro H h0 hm;refine ti H H.f72 (names:=["flags"]) (vals':=λL=>[ae (nV m_),av,av,av]) (λpm cd doc vs h=>?_) (by decide+kernel) rfl (λpm cd doc L=>?_) (λpm cd doc L he=>?_)
 ·exact uQ h λa=>rfl
 ·exact .cons (j:=0) .loc rfl .nil
 have fm:∀{a b:cX} {l:Mu},b∈a::b::l:=ab _ aa;have fin:∀D f o1 o2,WS (k_+1) (bl D (Iu (nG m_))::pfFr L f D o1 o2::e9) (dT (xB (cM 4) pm cd doc) 72 L) ((fR (cM 4)).drop 3) (lE λy nu=>y= .str (rQ m_)/\nu=e9):=λD f o1 o2=>by
  refine aC (gw (cf (y:= .str (rQ m_)) (f7 (cP cO) (by exact mL) (au (uH (ah (j:=1) he .loc fm rfl) aa) aT) (by exact rM (f:=cB) (B4 m_)) (by exact eM) (by exact nz) (by exact nA) rfl) ?_));exact jJ.tail (jJ.tail (jJ.keep ⟨rfl,rfl⟩))
 refine aC (ig (cf cO ?_));refine aC (b4 (sE (xs:=[]) aT (bg rfl) (λD=>fM.ref (aQ (i:=1) (j:=1) he .loc rfl ?_))) rfl rfl);refine aC (jN (ctx:=[]) (xs:=(aN 32).map λ(i:Nat)=>V.int i) (λi nu=>m_ / 2 ^ i≠0/\∃o1 o2,nu=bl D (Iu (iw m_ i))::pfFr L (lF m_ i:Nat) D o1 o2::e9)
  (fL (iN H he H.b_range rfl) aU rfl (by decide)) (by lia) ⟨by simpa using h0,av,av,by refine aj (FR ..) ?_;rfl⟩ (λi nu h o ho=>(eo ho)) ?_ ?_)
 ·intro i x nu hx iC;refine vJ iC λhnz o1 o2 kG=>?_;clear iC;subst kG;rw [aJ] at hx;refine aK (aL.mp hx) λi' hi' ma=>?_;subst ma;refine cJ (aB.mp hi') λhlt he2=>?_;have hii:i'=i:=by refine fZ (he2 ..) ?_;simp
  subst hii;have hi32:i' < 32:=by exact hlt
  have hlb:(iw m_ i').length<=32:=by have:=bu m_.testBit (aN i');simp [iw] at this ⊢;lia
  refine aQ (i:=1) (j:=2) he .loc rfl (aC (bX (br (cP aU) (cP (ah (j:=2) he .loc fm rfl)) (by exact Kh (by exact dJ _) (by lia) (by decide))) (aQ (i:=1) (j:=3) he .loc rfl ?_) rfl rfl));refine aC (iY (kU (cP (br (cP (ah (j:=0) he .loc fm rfl)) (cP (ah (j:=3) he .loc fm rfl)) (by exact qu))) (by exact xS)) (λh=>?_) λh=>?_)
  ·rw [yg] at h;have hb:m_.testBit i'=aI:=by
    cases hb:m_.testBit i'
    ·rw [hb] at h;simp at h
    ·rfl
   refine aC (ig (mZ (ah (j:=1) he .loc fm rfl) (j5 (xs:=Iu (iw m_ i')) aa) (au (f7 (mn H he H.m_names rfl) (KR H) (au (ah (j:=3) he .loc fm rfl) (au (ej (j4 H he H.b_hex rfl) (au (ah (j:=3) he .loc fm rfl) aT) (by exact Kz (RP i' hi32))) aT)) (by exact FT H hi32 (λh=>RO i' h)) (by exact vG) (by exact F.slot_dict_get) (by exact F.type_dict_get) rfl) aT) (kA (i:=0) (y:= .str (cB i')) rfl (by simp;exact b7 (by assumption) (by decide)) ?_) (by exact fQ) (by exact iT) (by exact iU) rfl));refine aC (rP (i:=1) (j:=0) he .loc rfl rfl (ah (j:=3) he .loc fm rfl) RL ?_);refine aj (KU hb ..) ?_;have Ul:iw m_ (i'+1)=iw m_ i'++[i']:=by (refine aj (oP ..) ?_;refine aj (hb ..) ?_);rfl
   have hdv:m_ / 2 ^ (i'+1)=0↔lF m_ (i'+1)=0:=by
    unfold lF;have:=qi (i'+1);constructor
    ·intro h;refine aj (h ..) ?_;simp
    ·intro h;rcases Nat.mul_eq_zero.mp h with h|h
     ·exact h
     ·lia
   refine aC (iY (Fz (kU (ah (j:=0) he .loc fm rfl) xS)) (λh2=>?_) λh2=>?_)
   ·have hz:lF m_ (i'+1)=0:=by simpa using h2
    refine aC (Ru ?_);have hb2:=DC (m:=m_) (i:=i'+1) (by lia) (hdv.mpr hz);show WS (k_+1) (bl D (Iu (iw m_ i')++[.str (cB i')])::_::e9) _ _ _;refine aj (show Iu (iw m_ i')++[.str (cB i')]=Iu (nG m_) by rw [<- hb2,Ul];simp [Iu]) ?_;exact fin D _ _ _
   ·refine bC (bC (bC ⟨λh3=>?_,ae (.int i'),ae (.int (1*2 ^ ((i':Nat):Int).toNat)),?_⟩))
    ·have:=hdv.mp h3;rw [this] at h2;simp at h2
    ·refine aj (Ul ..) ?_;simp only [Iu,bj];rfl
  ·rw [yg] at h;have hb:m_.testBit i'=aH:=by
    cases hb:m_.testBit i'
    ·rfl
    ·rw [hb] at h;have h4:=qi i';simp only [GW,xv,bne_eq_false_iff_eq] at h;have h5:=Int.natCast_eq_zero.mp h;lia
   have hr:=yf m_ i';have hd:=DB m_ i';rw [hb] at hr hd;refine bC (bC ⟨λh3=>hnz (by (refine aj (hd ..) ?_;refine aj (h3 ..) ?_);rfl),ae (.int i'),ae (.int (1*2 ^ ((i':Nat):Int).toNat)),?_⟩);refine aj (oP ..) ?_;refine aj (hb ..) ?_;refine aj (show lF m_ (i'+1)=lF m_ i' by simpa using hr.symm) ?_;simp only [dj,if_false,cy];rfl
 ·intro nu mE;refine vJ mE λhnz o1 o2 q8=>?_;clear mE;subst q8;have hlen:((aN 32).map λ(i:Nat)=>V.int i).length=32:=by rfl
  rw [hlen] at hnz ⊢;have h1:m_ / 2 ^ 32=1:=by have:m_ / 2 ^ 32 < 2:=Nat.div_lt_of_lt_mul (by assumption);lia
  have hrm:lF m_ 32=2 ^ 32:=by unfold lF;(refine aj (h1 ..) ?_;rfl)
  have hb:m_.testBit 32=aI:=by (refine aj (fx ..) ?_;refine aj (h1 ..) ?_);rfl
  have Ul:nG m_=iw m_ 32++[32]:=by show iw m_ 33=_;(refine aj (oP ..) ?_;refine aj (hb ..) ?_);rfl
  have hlb:(iw m_ 32).length<=32:=by have:=bu m_.testBit (aN 32);exact this
  refine aj (hrm ..) (aC (ig (mZ (ah (j:=1) he .loc fm rfl) (j5 (xs:=Iu (iw m_ 32)) aa) (au (ej (j4 H he H.b_hex rfl) (au (ah (j:=0) he .loc fm rfl) aT) (by exact Kz (by decide+kernel))) aT) (kA (i:=0) (y:= .str (cB 32)) rfl (by simp;exact b7 (by assumption) (by decide)) ?_) (by exact fQ) (by exact iT) (by exact iU) rfl)));refine bC ?_;show WS (k_+1) (bl D (Iu (iw m_ 32)++[.str (cB 32)])::_::e9) _ _ _;refine aj (show Iu (iw m_ 32)++[.str (cB 32)]=Iu (nG m_) by rw [Ul];simp [Iu]) ?_;exact fin D _ _ _
end oQ
theorem oQ{m:Nat}:oQ.S0 k mu m 0:=by with_unfolding_all exact vK _ _ _ _ oQ.S0 @oQ.T0 k mu m 0
section
open PySem.StrLaws
noncomputable def glue:List (List Nat)->List Nat
 |[]=>[]
 |[t]=>t
 |t::u::r=>t++[44,32]++glue (u::r)
theorem yh(sep:List Nat):∀(ts:List (List Nat)) (acc:List Nat),ts.foldl (λacc p=>acc++sep++p) acc=acc++(ts.flatMap λp=>sep++p)
 |[],acc=>by simp
 |t::ts,acc=>by (refine aj (fF ..) ?_;refine aj (yh sep ts ..) ?_);simp
theorem Hp:∀(t:List Nat) (ts:List (List Nat)),glue (t::ts)=t++(ts.flatMap λp=>[44,32]++p)
 |t,[]=>(cy t).symm
 |t,u::r=>by
  show t++[44,32]++glue (u::r)=_;refine aj (Hp u r ..) ?_;exact (bU ..).trans (congrArg (t++·) (bU [44,32] u _).symm)
theorem yi(t:bb)(ts:List bb):(fP ", " (t::ts)).cps.toList=glue ((t::ts).map (·.cps.toList)):=by
 have h:∀(ts:List bb) (acc:Array Nat),(ts.foldl (λacc p=>acc++(", ":bb).cps++p.cps) acc).toList=(ts.map (·.cps.toList)).foldl (λacc p=>acc++[44,32]++p) acc.toList:=by
  intro ts;induction ts with
  |nil=>intro acc;rfl
  |cons u ts ih=>
   intro acc;refine aj (fF ..) ?_;refine aj (ih ..) ?_;refine aj (bA ..) ?_;refine aj (fF ..) ?_;have:(acc++(", ":bb).cps++u.cps).toList=acc.toList++[44,32]++u.cps.toList:=by simp;rfl
   refine aj (this ..) ?_;rfl
 show ((ts.foldl (λacc p=>acc++(", ":bb).cps++p.cps) t.cps).toList)=_;refine aj (h ..) ?_;refine aj (yh ..) ?_;refine aj (bA ..) ?_;refine aj (Hp ..) ?_;rfl
theorem DD{x:bb}{i:Nat}(h:At x ", " x.length i):x.cps.toList[i]? =ae 44:=by
 refine dU h λh1 h2=>?_;clear h;have hl:(", ":bb).length=2:=rfl;unfold Builtin.Str.subAt at h2;have h3:=jD h2;rw [hl] at h3 h1;have h4:(x.cps.extract i (i+2))[0]? =ae 44:=by refine aj (h3 ..) ?_;rfl
 rw [Array.getElem?_extract] at h4
 split at h4
 ·simpa using h4
 ·exact gK h4
theorem at_of{x:bb}{i:Nat}{r:List Nat}(h:x.cps.toList.drop i=44::32::r):At x ", " x.length i:=by
 have hl:(", ":bb).length=2:=rfl;have hlen:x.length=x.cps.toList.length:=rfl;have h0:=congrArg kM h;rw [fY] at h0;simp only [bK] at h0;refine ⟨by (refine aj (hl ..) ?_;refine aj (hlen ..) ?_);lia,?_⟩;unfold Builtin.Str.subAt;refine aj (hl ..) ?_;have:(x.cps.extract i (i+2)).toList=[44,32]:=by refine aj (xw ..) ?_;simp only [JZ];refine aj (h ..) (aj (show i+2 - i=2 by lia) ?_);rfl
 exact gj (beq_iff_eq ..) (ur.mp (this.trans rfl))
theorem rR(x:bb)(a c:Nat):(fk x a c).cps.toList=(x.cps.toList.drop a).take (c - a):=by unfold fk;refine aj (xw ..) ?_;refine aj (JZ ..) ?_;rfl
theorem yj(x:bb):∀(ts:List bb) (a:Nat) (Jr:List Nat) (f:Nat),ts≠[]->(∀t∈ts,44∉t.cps.toList)->a<=x.length->x.cps.toList.drop a=glue (ts.map (·.cps.toList))->
 ChainG x ", " x.length a Jr f->(∀k,f<=k->¬At x ", " x.length k)->partsFrom x 2 a Jr=ts
 |[],_,_,_,h,_,_,_,_,_=>absurd rfl h
 |[t],a,Jr,f,_,hc,ha,hd,QS,hf=>by
  have Bv:∀k,a<=k->¬At x ", " x.length k:=λk hk hA=>by
   have h1:=DD hA;have h2:(x.cps.toList.drop a)[k - a]? =ae 44:=by (refine aj (An ..) ?_;refine aj (show a+(k - a)=k by lia) ?_);exact h1
   rw [hd] at h2;exact hc t aa (ao h2)
  cases Jr with
  |cons c r=>exact absurd QS.2.1 (Bv c QS.1)
  |nil=>
   show [fk x a x.length]=[t];congr 1;have:(fk x a x.length).cps.toList=t.cps.toList:=by refine aj (rR ..) ?_;refine aj (hd ..) ?_;show t.cps.toList.take _=_;refine d7 ?_;have h0:=congrArg kM hd;rw [fY] at h0;have h9:x.length=x.cps.toList.length:=rfl;have h0:_=t.cps.toList.length:=h0;lia
   cases t;exact congrArg Str.mk (ur.mp this)
 |t::u::ts,a,Jr,f,_,hc,ha,hd,QS,hf=>by
  have hxl:x.length=x.cps.toList.length:=rfl;have hd':x.cps.toList.drop a=t.cps.toList++(44::32::glue ((u::ts).map (·.cps.toList))):=by exact hd.trans (bU ..)
  have hd2:x.cps.toList.drop (a+t.cps.toList.length)=44::32::glue ((u::ts).map (·.cps.toList)):=by refine fZ (JK ..) ?_;refine aj (hd' ..) ?_;refine aj (List.drop_left ..) ?_;rfl
  have hA:=at_of hd2;have Bv:∀k,a<=k->k < a+t.cps.toList.length->¬At x ", " x.length k:=λk h1 h2 hA=>by
   have h3:=DD hA;have h4:(x.cps.toList.drop a)[k - a]? =ae 44:=by (refine aj (An ..) ?_;refine aj (show a+(k - a)=k by lia) ?_);exact h3
   rw [hd',eE (by lia)] at h4;exact hc t aa (ao h4)
  cases Jr with
  |nil=>have:f=a:=QS;exact absurd hA (hf _ (by lia))
  |cons c r=>
   have hca:c=a+t.cps.toList.length:=by
    rcases sQ c (a+t.cps.toList.length) with h|h|h
    ·exact absurd QS.2.1 (Bv c QS.1 h)
    ·exact h
    ·exact absurd hA (QS.2.2.1 _ (by exact dD _ _) h)
   subst hca;have hd3:x.cps.toList.drop (a+t.cps.toList.length+2)=glue ((u::ts).map (·.cps.toList)):=by (refine fZ (JK ..) ?_;refine aj (hd2 ..) ?_);rfl
   have hle:a+t.cps.toList.length+2<=x.length:=hA.1;show fk x a (a+t.cps.toList.length)::partsFrom x 2 (a+t.cps.toList.length+2) r=t::u::ts;refine aj (yj x (u::ts) _ r f (by simp) (λv hv=>hc v (ab _ hv)) hle hd3 QS.2.2.2 hf ..) ?_;congr 1;have:(fk x a (a+t.cps.toList.length)).cps.toList=t.cps.toList:=by refine aj (rR ..) ?_;refine aj (hd' ..) ?_;refine aj (show a+t.cps.toList.length - a=t.cps.toList.length by lia) ?_;refine aj (List.take_left ..) ?_;rfl
   cases t;exact congrArg Str.mk (ur.mp this)
theorem vT{ts:List bb}(h0:ts≠[])(hc:∀t∈ts,44∉t.cps.toList):Nn (fP ", " ts) ", "=ts:=by
 obtain ⟨t,PW,rfl⟩:∃t PW,ts=t::PW:=by cases ts with|nil=>exact absurd rfl h0|cons t PW=>exact ⟨t,PW,rfl⟩
 refine aK (occ_tight (fP ", " (t::PW)) ", " (by decide)) λf h1 h2=>?_;have h3:=yj (fP ", " (t::PW)) (t::PW) 0 _ f h0 hc (gp _) (by (refine aj (fy ..) ?_;refine aj (yi ..) ?_;rfl)) h1 h2;generalize fP ", " (t::PW)=x at h1 h2 h3 ⊢;have whole:fk x 0 x.length=x:=by
  have:(fk x 0 x.length).cps.toList=x.cps.toList:=by refine aj (rR ..) ?_;exact d7 (bp _)
  cases x;exact congrArg Str.mk (ur.mp this)
 unfold Nn;have M1:(cZ x ", " 0 x.length (x.length+1))=[]->[x]=t::PW:=λh=>by
  rw [h] at h3;refine fZ (h3 ..) ?_;show [x]=[fk x 0 x.length];refine aj (whole ..) ?_;rfl
 split
 ·rename_i hk;refine M1 ?_;cases hcut:cZ x ", " 0 x.length (x.length+1) with
  |nil=>rfl
  |cons c r=>
   rw [hcut] at h1;have h4:=h1.2.1.1;have hl:(", ":bb).length=2:=rfl;have hs:mR (", ":bb)=1:=by decide+kernel
   have hx1:¬mR x < 1:=by unfold mR;split <;> (try split) <;> lia
   rw [hl] at h4;rw [hl,hs] at hk;simp only [jU,decide_eq_true_eq] at hk;lia
 ·split
  ·rename_i hk;exact M1 (by simpa using hk)
  ·refine aj (partsBetween_eq ..) ?_;exact h3
end
end
section
variable {k:Nat}{mu nu:Mu}{env:gV}{e t:bH}{es:List bH}{p pos:jX}{xs ys:List V}{Φ:V->Mu->Prop}{x y:V}
theorem qD:∀i,i < 33->∀j,j < 33->cB i=cB j->i=j:=by decide+kernel
theorem Iv:∀i,i < 33->44∉(cB i).cps.toList:=by decide+kernel
noncomputable def eY(S:Nat):List Nat:=(aN 6).filter S.testBit
noncomputable def iy(low S:Nat):bb:=fP ", " ((eY S).map λb=>cB (low+b))
noncomputable def AN(p:Nat->Bool):Nat:=(p 0).toNat+(p 1).toNat*2+(p 2).toNat*4+(p 3).toNat*8+(p 4).toNat*16+(p 5).toNat*32
theorem DE:∀a b c d e f:Bool,((a.toNat+b.toNat*2+c.toNat*4+d.toNat*8+e.toNat*16+f.toNat*32).testBit 0=a/\(a.toNat+b.toNat*2+c.toNat*4+d.toNat*8+e.toNat*16+f.toNat*32).testBit 1=b/\(a.toNat+b.toNat*2+c.toNat*4+d.toNat*8+e.toNat*16+f.toNat*32).testBit 2=c/\
 (a.toNat+b.toNat*2+c.toNat*4+d.toNat*8+e.toNat*16+f.toNat*32).testBit 3=d/\(a.toNat+b.toNat*2+c.toNat*4+d.toNat*8+e.toNat*16+f.toNat*32).testBit 4=e/\(a.toNat+b.toNat*2+c.toNat*4+d.toNat*8+e.toNat*16+f.toNat*32).testBit 5=f)/\
 a.toNat+b.toNat*2+c.toNat*4+d.toNat*8+e.toNat*16+f.toNat*32 < 64:=by decide
def kB.S0(p:Nat->Bool)(_:Nat):Prop:=∀{b:Nat} (h:b < 6),(AN p).testBit b=p b
namespace kB
@[irreducible] def e0:=Qi inferInstance eN S0
def p_:=e0.1
theorem T0:S0 p_ e0.2:=by intro b h;refine dU (DE (p_ 0) (p_ 1) (p_ 2) (p_ 3) (p_ 4) (p_ 5)) λdO z=>J1 dO λh0 h1 h2 h3 h4 h5=>?_;clear dO;delta AN;rcases (show b=0\/b=1\/b=2\/b=3\/b=4\/b=5 by lia) with rfl|rfl|rfl|rfl|rfl|rfl <;> assumption
end kB
theorem kB(p:Nat->Bool):kB.S0 p 0:=by with_unfolding_all exact Fp _ _ kB.S0 @kB.T0 p 0
theorem DF(p:Nat->Bool):AN p < 64:=(DE (p 0) (p 1) (p 2) (p 3) (p 4) (p 5)).2
theorem DG(p:Nat->Bool)(f:Nat->Nat):∀l:List Nat,((l.filter p).map f).sum=(l.map λb=>(p b).toNat*f b).sum
 |[]=>rfl
 |a::l=>by
  refine aj (hZ ..) ?_;refine aj (bA ..) ?_;refine aj (da ..) ?_;refine fZ (DG p f l ..) ?_;cases p a
  ·(refine aj (if_neg cF ..) ?_;refine aj (Bool.toNat_false ..) ?_;refine aj (rh ..) ?_;refine aj (eC ..) ?_;rfl)
  ·(refine aj (if_pos rfl ..) ?_;refine aj (bA ..) ?_;refine aj (da ..) ?_;refine aj (GW ..) ?_;refine aj (xv ..) ?_;rfl)
theorem Iw(p:Nat->Bool)(low:Nat):(((aN 6).filter p).map λb=>2 ^ (low+b)).sum=AN p*2 ^ low:=by
 refine aj (DG ..) ?_;delta AN;show (p 0).toNat*2 ^ (low+0)+((p 1).toNat*2 ^ (low+1)+((p 2).toNat*2 ^ (low+2)+((p 3).toNat*2 ^ (low+3)+((p 4).toNat*2 ^ (low+4)+((p 5).toNat*2 ^ (low+5)+0)))))=_;have e:∀i,2 ^ (low+i)=2 ^ i*2 ^ low:=λi=>by (refine aj (Nat.pow_add ..) ?_;refine aj (rg ..) ?_;rfl)
 rw [e,e,e,e,e,e,<- jY,<- jY,<- jY,<- jY,<- jY,<- jY,Nat.add_zero,<- iS,<- iS,<- iS,<- iS,<- iS];refine congrArg (·*2 ^ low) ?_;show (p 0).toNat*1+((p 1).toNat*2+((p 2).toNat*4+((p 3).toNat*8+((p 4).toNat*16+(p 5).toNat*32))))=_;rw [Nat.mul_one,<- l5,<- l5,<- l5,<- l5]
theorem B5{S low:Nat}(hS:S < 64)(hl:low < 28):nG (S*2 ^ low)=(eY S).map (low+·):=by
 delta nG eY;have h33:(33:Nat)=low+(6+(27 - low)):=by lia
 have QT:∀i,(S*2 ^ low).testBit i=(decide (low<=i) && S.testBit (i - low)):=λi=>by (refine aj (rg ..) ?_;refine aj (NU ..) ?_;rfl)
 refine aj (h33 ..) ?_;refine aj (List.range_add ..) ?_;refine aj (List.range_add ..) ?_;refine aj (bj ..) ?_;refine aj (fX ..) ?_;refine aj (fX ..) ?_;have h1:(aN low).filter (S*2 ^ low).testBit=[]:=by refine gj (gY ..) ?_;intro i hi;refine aj (QT ..) ?_;refine aj (decide_eq_false (by have:=aY.mp hi;exact Nat.not_le.mpr (by assumption)) ..) ?_;simp
 have h3:(((aN (27 - low)).map (6+·)).map (low+·)).filter (S*2 ^ low).testBit=[]:=by refine gj (gY ..) ?_;intro i hi;refine aK (aG.mp hi) λj hj eT=>?_;subst eT;refine aK (aG.mp hj) λj' z gi=>?_;subst gi;refine aj (QT ..) ?_;refine aj (show low+(6+j') - low=6+j' by lia) ?_;have:S.testBit (6+j')=aH:=vh (cb hS (by refine aj (show (64:Nat)=2 ^ 6 from rfl) ?_;exact e7 (by decide) (by exact dD _ _)));refine aj (this ..) ?_;simp
 refine aj (h1 ..) ?_;refine aj (h3 ..) ?_;refine aj (qj ..) ?_;refine aj (cy ..) ?_;refine aj (List.filter_map ..) ?_;congr 1;refine fz λb hb=>?_;simp only [l7];refine aj (QT ..) ?_;refine aj (show low+b - low=b by lia) ?_;simp
theorem rS{S low:Nat}(hS:S < 64)(hl:low < 28):rQ (S*2 ^ low)=iy low S:=by delta rQ iy;refine aj (B5 hS hl ..) ?_;refine aj (a0 ..) ?_;rfl
theorem vU{S b:Nat}(h:b∈eY S):b < 6:=aY.mp (bo.mp h).1
theorem B6{S:Nat}(hS:S < 64)(h0:S≠0):eY S≠[]:=by
 have:∀S,S < 64->S≠0->eY S≠[]:=by decide+kernel
 exact this S hS h0
theorem oR{S low:Nat}(hS:S < 64)(h0:S≠0)(hl:low < 28):Nn (iy low S) ", "=(eY S).map λb=>cB (low+b):=by
 refine vT ?_ ?_
 ·intro h;exact B6 hS h0 (jc.mp h)
 ·intro t ht;refine aK (aG.mp ht) λb hb iC=>?_;subst iC;exact Iv _ (by have:=vU hb;lia)
theorem DH:∀ts:List (List Nat),(glue ts).length<=(ts.map (·.length)).sum+2*ts.length
 |[]=>by decide
 |[t]=>by simp [glue]
 |t::u::r=>by
  have:=DH (u::r);rw [glue];simp only [ba,bK,GX,bA,da] at this ⊢;lia
theorem KV:∀ts:List bb,(fP ", " ts).length<=(ts.map (·.length)).sum+2*ts.length
 |[]=>by show (0:Nat)<=_;exact gp _
 |t::ts=>by
  have h1:=DH ((t::ts).map (·.cps.toList));rw [<- yi] at h1;rw [a0,ak] at h1;exact h1
theorem vV{S low:Nat}(hl:low < 28):(iy low S).length<=200:=by
 delta iy;have h1:=KV ((eY S).map λb=>cB (low+b));have h2:∀l:List Nat,(∀b∈l,b < 6)->((l.map λb=>cB (low+b)).map (·.length)).sum<=l.length*20:=by
  intro l;induction l with
  |nil=>intro z;simp
  |cons a l ih=>intro h;have:=ih λi hi=>h i (ab _ hi);have:=B3 (low+a) (by have:=h a aa;lia);simp only [bA,da,bK];lia
 have h3:=h2 (eY S) λb hb=>vU hb;have h4:(eY S).length<=6:=by have:=bu S.testBit (aN 6);exact this
 rw [ak] at h1;lia
noncomputable def bD(low:Nat)(l:List Nat)(f:Nat->V):List (bb×V):=l.map λb=>(cB (low+b),f b)
theorem gb{low:Nat}{l:List Nat}{f:Nat->V}{b:Nat}(hl:low < 28)(h6:∀c∈l,c < 6)(hb:b∈l):mf (bD low l f) (cB (low+b))=ae (f b):=by
 delta mf bD;induction l with
 |nil=>exact eo hb
 |cons c l ih=>
  refine aj (bA ..) ?_;refine aj (jV ..) ?_;by_cases hc:c=b
  ·subst hc;simp
  ·have iP:cB (low+c)≠cB (low+b):=λe=>by
    have h1:=h6 c aa;have h2:=h6 b hb;have:=qD (low+c) (by lia) (low+b) (by lia) e;lia
   simp only [iP,decide_false];exact ih (λc hc=>h6 c (ab _ hc)) (by rcases aP.mp hb with h|h;exact absurd h.symm hc;exact h)
theorem FU{low:Nat}{l:List Nat}{f:Nat->V}{b:Nat}{v:V}(hl:low < 28)(h6:∀c∈l,c < 6)(hb:b∈l):jE (bD low l f) (cB (low+b)) v=bD low l λc=>if c=b then v else f c:=by
 delta jE bD;refine aj (if_pos (by rw [CH,cS];exact ⟨b,hb,by simp⟩) ..) ?_;refine aj (a0 ..) ?_;refine b5 λc hc=>?_;simp only [l7];by_cases h:c=b
 ·subst h;simp
 ·have iP:cB (low+c)≠cB (low+b):=λe=>by
   have h1:=h6 c hc;have h2:=h6 b hb;have:=qD (low+c) (by lia) (low+b) (by lia) e;lia
  refine aj (if_neg iP ..) ?_;refine aj (if_neg h ..) ?_;rfl
theorem KW(low:Nat)(l:List Nat)(f:Nat->V):(bD low l f).length=l.length:=by exact ak ..
theorem pQ{α:Type}{l:List α}{f:α->bb×V}(h:PE k mu env e (.dict (l.map f))):pd k mu env e t [] (l.map λa=> .str (f a).1):=by
 have:=Ko (t:=t) h
 rwa [a0] at this
theorem nk{α:Type}(l:List α)(f:α->Int):(ph (l.map λa=>V.int (f a))).isSome=aI:=by
 induction l with
 |nil=>rfl
 |cons a l ih=>show (Option.map (PyData.int (f a)::·) (ph (l.map λa=>V.int (f a)))).isSome=aI;exact (Option.isSome_map ..).trans ih
noncomputable abbrev Cs:=List (Nat×Int)
noncomputable def FV(low:Nat)(c:Cs):V:= .dict (c.map λq=>(cB (low+q.1),V.int q.2))
structure Rw where
 a:Nat->Int
 b:Nat->Int
 c:Nat->Int
 d:Nat->Int
 cs:Nat->Cs
theorem RQ:Nonempty Rw:=⟨⟨λz=>0,λz=>0,λz=>0,λz=>0,λz=>[]⟩⟩
noncomputable abbrev rr(low:Nat)(B:Rw)(b:Nat):V:= .tup [.int (B.a b),.int (B.b b),.int (B.c b),.int (B.d b),FV low (B.cs b)]
noncomputable def fT(low:Nat)(B:Rw):List (bb×V):=bD low [1,2,3,4,5] (rr low B)
noncomputable def qE(low:Nat):List (bb×V):=bD low (aN 6) λb=>nV (2 ^ (low+b))
noncomputable def ot(low:Nat)(S:Nat->Nat):List (bb×V):=bD low (aN 6) λb=> .str (iy low (S b))
noncomputable def cU(S:Nat->Nat)(cs:Nat->Cs)(j:Nat):Nat:=AN λo=>o == j || (cs j).all λc=>(S c.1).testBit o
theorem Ov:∀S,S < 64->∀S',S' < 64->eY S=eY S'->S=S':=by decide+kernel
theorem Iy{low S S':Nat}(hl:low < 28)(h:S < 64/\S≠0)(h':S' < 64/\S'≠0)(e:iy low S=iy low S'):S=S':=by
 have e1:=oR h.1 h.2 hl;rw [e,oR h'.1 h'.2 hl] at e1;refine Ov S h.1 S' h'.1 ?_;have key:∀l m:List Nat,(∀b∈l,b < 6)->(∀b∈m,b < 6)->(l.map λb=>cB (low+b))=(m.map λb=>cB (low+b))->l=m:=by
  intro l;induction l with
  |nil=>intro m z z h;exact (jc.mp h.symm).symm
  |cons a l ih=>
   intro m h1 h2 h3;cases m with
   |nil=>exact J4 h3
   |cons c m=>simp only [bA,GQ] at h3;have ha:=h1 a aa;have hc:=h2 c aa;have:=qD (low+a) (by lia) (low+c) (by lia) h3.1;refine aj (ih m (λb hb=>h1 b (ab _ hb)) (λb hb=>h2 b (ab _ hb)) h3.2 ..) ?_;congr 1;lia
 exact key _ _ (λb hb=>vU hb) (λb hb=>vU hb) e1.symm
theorem DI(S:Nat->Nat)(cs:Nat->Cs){j:Nat}(hj:j < 6):cU S cs j≠0:=by intro h;have:=kB (λo=>o == j || (cs j).all λc=>(S c.1).testBit o) hj;unfold cU at h;rw [h] at this;simp at this
theorem vW{low S o:Nat}(hl:low < 28)(ho:o < 6):((eY S).map λb=>cB (low+b)).any (· == cB (low+o))=S.testBit o:=by
 refine gj (cj ..) ?_;refine gj (cS ..) ?_;constructor
 ·intro dO;refine aK dO λz h1 h2=>?_;clear dO;refine aK (aG.mp h1) λb hb eT=>?_;subst eT;have h6:=vU hb;have:=qD (low+b) (by lia) (low+o) (by lia) (by simpa using h2);have hbo:b=o:=by lia
  subst hbo;exact (bo.mp hb).2
 ·intro h;exact ⟨cB (low+o),aG.mpr ⟨o,bo.mpr ⟨aY.mpr ho,h⟩,rfl⟩,by simp⟩
theorem rU{low a b:Nat}(hl:low < 28)(ha:a < 6)(hb:b < 6):(cB (low+a) == cB (low+b))=(a == b):=by
 refine gj (cj ..) ?_;simp only [beq_iff_eq];constructor
 ·intro h;have:=qD (low+a) (by lia) (low+b) (by lia) h;lia
 ·rintro rfl;rfl
theorem yk{low S:Nat}(hl:low < 28):(Builtin.Str.partsBetween (iy low S) (cZ (iy low S) ", " 0 (iy low S).length ((iy low S).length+1)) (", ":bb).length).length<=er:=by refine aj (length_partsBetween ..) ?_;have h1:=StrLaws.occ_length_le (iy low S) ", " 0 (iy low S).length ((iy low S).length+1);have h2:=vV (S:=S) hl;show _<=2 ^ 24;lia
theorem tL{a b c d e:V}:Gi k mu (bZ (.tup [a,b,c,d,e])) (bZ (.int 4)) (bZ e):=Kx rfl (by show -((5:Nat):Int)<=4;decide) (by decide) (by show 5 < 2 ^ 62;decide)
def tM.S0(k:Nat)(mu:Mu)(low:Nat)(T:ay)(i:Nat)(S:Nat->Nat)(B:Rw)(j:Nat):Prop:=∀(H:Hy G) (hl:low < 28) (hi:mu[i]? =ae (cD T (ot low S))) (hS:∀b,S b < 64/\S b≠0) (QU:∀b,∀c∈B.cs b,c.1 < 6) (hlen:∀b,(B.cs b).length<=1000) (hj:j∈[1,2,3,4,5]),FW (k+4) mu (.ref 302) [.dict (fT low B),.ref T,.dict (qE low),.str (cB (low+j))] λy nu=>
 (cU S B.cs j=S j/\y= .list []/\nu=mu)\/(cU S B.cs j≠S j/\y= .list (([1,2,3,4,5].filter λo=>(B.cs o).any λc=>c.1 == j).map λo=> .str (cB (low+o)))/\nu=mu.set i (cD T (ot low λb=>if b=j then cU S B.cs j else S b)))
namespace tM
@[irreducible] def e0:=NB eN gD eN cL eN inferInstance RQ eN S0
def k_:=e0.1
def e9:=e0.2.1
def gc:=e0.2.2.1
def T_:=e0.2.2.2.1
def i_:=e0.2.2.2.2.1
def S_:=e0.2.2.2.2.2.1
def B_:=e0.2.2.2.2.2.2.1
def j_:=e0.2.2.2.2.2.2.2
theorem T0:S0 k_ e9 gc T_ i_ S_ B_ j_:=by
 intro H hl hi hS QU hlen hj;refine ti H H.f302 (names:=["book","table","flags","name"]) (vals':=λL=>[ae (.dict (fT gc B_)),ae (.ref T_),ae (.dict (qE gc)),ae (.str (cB (gc+j_))),av,av]) (λpm cd doc vs h=>?_) (by decide+kernel) rfl (λpm cd doc L=>?_) (λpm cd doc L he=>?_)
 ·exact RK h λa b c d=>rfl
 ·exact .cons (j:=0) (.cell (L+1) "book") rfl (.cons (j:=1) (.cell (L+2) "table") rfl (.cons (j:=2) (.cell (L+3) "flags") rfl (.cons (j:=3) (.cell (L+4) "name") rfl .nil)))
 have h56:∀c∈[1,2,3,4,5],c < 6:=by decide
 have CV:∀c∈aN 6,c < 6:=λc hc=>aY.mp hc;have HT:j_ < 6:=h56 j_ hj;have hbk:∀o∈[1,2,3,4,5],mf (fT gc B_) (cB (gc+o))=ae (rr gc B_ o):=λo ho=>gb hl h56 ho;have QT:∀o,o < 6->mf (ot gc S_) (cB (gc+o))=ae (.str (iy gc (S_ o))):=λo ho=>gb hl CV (aY.mpr ho);have PX:∀o,o < 6->mf (qE gc) (cB (gc+o))=ae (nV (2 ^ (gc+o))):=λo ho=>gb hl CV (aY.mpr ho);have hT:=ao hi;refine aC (bX (y:= .list ((B_.cs j_).map λc=> .list ((eY (S_ c.1)).map λb=> .str (cB (gc+b))))) (jO _ _ _ ⟨rfl,rfl,by decide+kernel,by decide+kernel⟩ (pQ (l:=B_.cs j_) (f:=λq=>(cB (gc+q.1),V.int q.2)) (bF (bF (pN (ah (j:=0) he (.cell (L+1) "book") aa rfl)) (ah (j:=3) he (.cell (L+4) "name") aa rfl) (mh (hbk j_ hj))) aU tL)) (by lia) (by have:=hlen j_;exact aw (by assumption) (by decide))
  (λC1 a ha=>iu 1 he.comp .loc dk (λhb=>bM (f7 (bF (wK (ah (j:=1) he.comp (.cell (L+2) "table") (ab _ aa) rfl) (ab _ (ab _ hT))) (ah (j:=1) he.comp .loc aa rfl) (mh (QT a.1 (QU j_ a ha)))) mL (au cO aT) (ky rfl (by have:=vV (S:=S_ a.1) hl;show _<=2 ^ 24;exact aw (by assumption) (by decide)) (yk hl)) (by exact eM) (by exact jW) (by exact Nr) rfl)
   (by (refine aj (oR (hS a.1).1 (hS a.1).2 hl ..) ?_;refine aj (a0 ..) ?_);rfl)))) (aQ (i:=0) (j:=4) he (.cell (L+5) "words") rfl ?_) rfl rfl)
 have S2:((((aN 6).filter λo=>o == j_ || (B_.cs j_).all λc=>(S_ c.1).testBit o).map λb=>((2 ^ (gc+b):Nat):Int)).sum)=((cU S_ B_.cs j_*2 ^ gc:Nat):Int):=by
  unfold cU;refine fZ (Iw ..) ?_;generalize (aN 6).filter _=l;induction l with
  |nil=>rfl
  |cons a l ih=>(refine aj (bA ..) ?_;refine aj (da ..) ?_;refine aj (ih ..) ?_;refine aj (bA ..) ?_;refine aj (da ..) ?_;refine aj (Int.natCast_add ..) ?_;rfl)
 have S3:cU S_ B_.cs j_ < 64:=DF _;have M3:=DI S_ B_.cs HT;have h33:cU S_ B_.cs j_*2 ^ gc < 2 ^ 33:=by
  have h1:2 ^ gc<=2 ^ 27:=e7 (by decide) (by exact CJ (by assumption));have h2:=JL (show cU S_ B_.cs j_<=63 by exact CJ (by assumption)) h1
  with_reducible exact b7 (by assumption) (by decide)
 have hne0:cU S_ B_.cs j_*2 ^ gc≠0:=by have:=qi gc;exact Nat.mul_ne_zero M3 (by exact jI (by assumption))
 refine cq (H.f72.go) λob Uk cd' Jq h0 hd z=>?_;have M4:∀nu:Mu,FW (k_+3) nu (.ref 72) [nV (cU S_ B_.cs j_*2 ^ gc)] λy nu'=>y= .str (iy gc (cU S_ B_.cs j_))/\nu'=nu:=λnu=>by
  have:=oQ (k:=k_+1) (mu:=nu) H hne0 h33
  rwa [rS S3 hl] at this
 have htest:∀o,o < 6->((o == j_) || ((((B_.cs j_).filter λc=>!((eY (S_ c.1)).map λb=>cB (gc+b)).any (· == cB (gc+o))).map λz=>V.int 1).isEmpty || false))=(o == j_ || (B_.cs j_).all λc=>(S_ c.1).testBit o):=λo ho=>by
  congr 1;refine aj (zH ..) ?_;refine aj (List.isEmpty_map ..) ?_;refine gj (cj ..) ?_;refine gj (uu ..) ?_;refine gj (gY ..) ?_;refine gj (fW ..) ?_;constructor
  ·intro h c hc;have:=h c hc;rw [vW hl ho] at this;simpa using this
  ·intro h c hc;refine aj (vW hl ho ..) ?_;refine aj (h c hc ..) ?_;decide
 refine aC (bX (y:= .str (iy gc (cU S_ B_.cs j_))) (ju (ys:=[nV (cU S_ B_.cs j_*2 ^ gc)]) (mn H he H.m_flags rfl) h0 hd (au (bM (ej (j4 H he H.b_sum rfl) (au (dE (nF (aN 6) (λb=>V.str (cB (gc+b))) (λo=>o == j_ || (B_.cs j_).all λc=>(S_ c.1).testBit o) (λb=>V.int ((2 ^ (gc+b):Nat):Int)) ⟨rfl,rfl,by decide+kernel,by decide+kernel⟩ (pQ (l:=aN 6) (f:=λb=>(cB (gc+b),nV (2 ^ (gc+b)))) (ah (j:=2) he (.cell (L+3) "flags") aa rfl)) (by lia) (by decide)
  (λC2 a ha=>by
   have PY:=aY.mp ha;refine fZ (htest a PY ..) ?_;refine iu 1 he.comp (.cell (C2+1) "other") (fS (oM (iM ?_ (λh=>(iM (c9 (nF (B_.cs j_) (λc=>V.list ((eY (S_ c.1)).map λb=> .str (cB (gc+b)))) (λc=>!((eY (S_ c.1)).map λb=>cB (gc+b)).any (· == cB (gc+a))) (λz=>V.int 1) ⟨rfl,rfl,by decide+kernel,by decide+kernel⟩ (dA (ah (j:=4) he.comp (.cell (L+5) "words") (ab _ aa) rfl)) (by lia) (by have:=hlen j_;exact aw (by assumption) (by decide)) (λC3 c hc=>iu 1 he.comp.comp .loc (fS (c9 (ah (j:=1) he.comp.comp (.cell (C2+1) "other") (ab _ aa) rfl) (dE (bM (ah (j:=1) he.comp.comp .loc aa rfl) (by refine aj (a0 ..) ?_;rfl))) BR)) (λhb=>aU))) (ij (xs:=[]) aT (bg rfl)) (FK (nk _ _))) (λh=>jn)))))) (λhb=>bF (pN (ah (j:=2) he.comp (.cell (L+3) "flags") (ab _ aa) rfl)) (ah (j:=1) he.comp (.cell (C2+1) "other") aa rfl) (mh (PX a PY)));refine fZ (rU hl PY HT ..) ?_;exact c9 (ah (j:=1) he.comp (.cell (C2+1) "other") aa rfl) (ah (j:=3) he.comp (.cell (L+4) "name") (ab _ aa) rfl) rC))) aT) uO) (congrArg V.int S2)) aT) (M4 _)) (aQ (i:=0) (j:=5) he .loc rfl ?_) rfl rfl)
 refine aC (iY (c9 (ah (j:=5) he .loc aa rfl) (bF (wK (ah (j:=1) he (.cell (L+2) "table") aa rfl) (ab _ hT)) (ah (j:=3) he (.cell (L+4) "name") aa rfl) (mh (QT j_ HT))) rC) (λh=>?_) λh=>?_)
 ·have h2:cU S_ B_.cs j_=S_ j_:=Iy hl ⟨S3,M3⟩ (hS j_) (by simpa using h);exact aC (gw (cf (ij (xs:=[]) aT (bg rfl)) (ki (.inl ⟨h2,rfl,rfl⟩))))
 ·have h2:cU S_ B_.cs j_≠S_ j_:=λe=>by rw [e] at h;simp at h
  refine bC ?_;refine aC (qC (i:=i_+1) (ah (j:=5) he .loc aa rfl) (ah (j:=1) he (.cell (L+2) "table") aa rfl) (ah (j:=3) he (.cell (L+4) "name") aa rfl) (es:=ot gc S_) hi (by show (ot gc S_).length<=2 ^ 24;unfold ot;refine aj (KW ..) ?_;decide) ?_);have S5:jE (ot gc S_) (cB (gc+j_)) (.str (iy gc (cU S_ B_.cs j_)))=ot gc λb=>if b=j_ then cU S_ B_.cs j_ else S_ b:=by unfold ot;refine aj (FU hl CV (aY.mpr HT) ..) ?_;unfold bD;refine b5 λc hc=>?_;by_cases hcj:c=j_ <;> simp [hcj]
  refine aj (S5 ..) ?_;refine aC (gw (cf (nF [1,2,3,4,5] (λb=>V.str (cB (gc+b))) (λo=>(B_.cs o).any λc=>c.1 == j_) (λo=>V.str (cB (gc+o))) ⟨rfl,rfl,by decide+kernel,by decide+kernel⟩ (pQ (l:=[1,2,3,4,5]) (f:=λb=>(cB (gc+b),rr gc B_ b)) (ah (j:=0) he (.cell (L+1) "book") aa rfl)) (by lia) (by decide) (λC4 a ha=>?_)) (ki (.inr ⟨h2,rfl,rfl⟩))));have hhas:(mf ((B_.cs a).map λq=>(cB (gc+q.1),V.int q.2)) (cB (gc+j_))).isSome=(B_.cs a).any λc=>c.1 == j_:=by
   refine gj (cj ..) ?_;unfold mf;refine aj (Option.isSome_map ..) ?_;refine gj (List.find?_isSome ..) ?_;refine gj (cS ..) ?_;constructor
   ·intro gi;refine aK gi λq hq PZ=>?_;clear gi;refine aK (aG.mp hq) λc hc iC=>?_;subst iC;refine ⟨c,hc,?_⟩;refine fZ (rU hl (QU a c hc) HT ..) ?_;exact PZ
   ·intro kG;refine aK kG λc hc hc2=>?_;clear kG;refine ⟨_,aG.mpr ⟨c,hc,rfl⟩,?_⟩;rw [<- rU hl (QU a c hc) HT] at hc2;exact hc2
  refine fZ (hhas ..) ?_;exact iu 1 he.comp .loc (fS (c9 (ah (j:=3) he.comp (.cell (L+4) "name") (ab _ aa) rfl) (pN (bF (bF (pN (ah (j:=0) he.comp (.cell (L+1) "book") (ab _ aa) rfl)) (ah (j:=1) he.comp .loc aa rfl) (mh (hbk a ha))) aU tL)) KF)) (λhb=>ah (j:=1) he.comp .loc aa rfl)
end tM
theorem tM{low:Nat}{T:ay}{i:Nat}{S:Nat->Nat}{B:Rw}{j:Nat}:tM.S0 k mu low T i S B j:=by with_unfolding_all exact BB _ _ _ _ _ _ _ _ tM.S0 @tM.T0 k mu low T i S B j
variable {Z:bI}{name:bb}{fs:List (bb×V)}{o:bH}{apos:jX}{C dx:ay}{K:fH}{s:aq}{i:Nat}
structure FX(G:Gd)(K:fH):Prop where
 inn:∀h:dH,(∀a o,G.Z0 a=ae o->h.get? a=ae o)->K.In h
noncomputable def gM(Z:bI):List gA->List (bb×V)->Prop
 |[],[]=>True
 |e::es,q::fs=>(∃t,e.key= .str q.1 t)/\aZ G Z e.val q.2/\gM Z es fs
 |_,_=>False
@[elab_as_elim] theorem gM.ind{Z:bI}{P:List gA->List (bb×V)->Prop}{es:List gA}{fs:List (bb×V)}(h:gM Z es fs)(nil:P [] [])
 (cons:∀{e es q fs},e.refKey=aH->(∃t,e.key= .str q.1 t)->aZ G Z e.val q.2->P es fs->P (e::es) (q::fs)):P es fs:=by
 induction es generalizing fs with
 |nil=>cases fs with
  |nil=>exact nil
  |cons=>exact h.elim
 |cons e es ih=>cases fs with
  |nil=>exact h.elim
  |cons q fs=>exact cons (h.1.elim λt w=>by unfold DictEntry.refKey;(refine aj (w ..) ?_;rfl)) h.1 h.2.1 (ih h.2.2)
theorem gM.mono{Z Z':bI}(hz:Z.le Z'){es:List gA}{fs:List (bb×V)}(h:gM Z es fs):gM Z' es fs:=h.ind trivial λ{z z z z} z k v r=>⟨k,v.mono hz,r⟩
noncomputable def gH(x C dx:ay)(fs:List (bb×V)):cX where
 own:=[x,dx]
 sat:=λZ h=>h.get? x=ae (Ag C dx)/\∃es n,h.get? dx=ae (i3 es n)/\gM Z es fs
 mono:=λZ Z' h hz w=>⟨w.1,w.2.imp λz=>bQ λz u=>⟨u.1,u.2.mono hz⟩⟩
 loc:=λZ h h' w hk z z=>⟨hk x aa _ w.1,w.2.imp λz=>bQ λz u=>⟨hk dx (ab _ aa) _ u.1,u.2⟩⟩
 live:=λZ h w y hy=>(aP.mp hy).elim (λe=>⟨_,e▸w.1⟩) λe=>w.2.elim λz u=>u.elim λz u=>⟨_,aA.mp e▸u.1⟩
noncomputable def zT:List (bb×V)->bb->V->List (bb×V)
 |[],x,y=>[(x,y)]
 |q::fs,x,y=>if q.1=x then (x,y)::fs else q::zT fs x y
theorem AO{e:gA}{x name:bb}(h:∃t,e.key= .str x t):e.key.isStr name=decide (x=name):=by obtain ⟨t,h⟩:=h;refine aj (h ..) ?_;show (x == name)=_;exact cj.mpr (beq_iff_eq.trans decide_eq_true_iff.symm)
section
variable {es:List gA}
theorem AP{e:gA}{x:bb}(hr:e.refKey=aH)(hk:∃t,e.key= .str x t):getL name (e::es)=if x=name then ae (ae e.val) else getL name es:=by
 unfold getL;refine aj (jV ..) ?_;refine aj (AO hk ..) ?_;refine aj (zI ..) ?_;refine aj (hr ..) ?_;refine aj (Bool.false_or ..) ?_;by_cases hx:x=name
 ·(refine aj (decide_eq_true hx ..) ?_;refine aj (if_pos hx ..) ?_;rfl)
 ·(refine aj (decide_eq_false hx ..) ?_;refine aj (if_neg hx ..) ?_;rfl)
theorem gM.none(h:gM Z es fs):name∉fs.map (·.1)->getL name es=ae av:=
 h.ind (λz=>rfl) λ{e es q fs} hr hk z ih hn=>by
  refine aj (AP hr hk ..) ?_;refine aj (if_neg λw:q.1=name=>hn (w▸aa) ..) ?_;exact ih λhm=>hn (ab _ hm)
theorem gM.some(h:gM Z es fs):(fs.map (·.1)).Nodup->(name,y)∈fs->∃v,getL name es=ae (ae v)/\aZ G Z v y:=
 h.ind (λz hm=>eo hm) λ{e es q fs} hr hk hv ih hnd hm=>by
  rw [bA,cg] at hnd;refine aj (AP hr hk ..) ?_;by_cases hq:q.1=name
  ·refine aj (if_pos hq ..) ?_;rcases aP.mp hm with rfl|hm
   ·exact ⟨e.val,rfl,hv⟩
   ·exact absurd (aG.mpr ⟨_,hm,hq.symm⟩) hnd.1
  ·refine aj (if_neg hq ..) ?_;rcases aP.mp hm with rfl|hm
   ·exact absurd rfl hq
   ·exact ih hnd.2 hm
theorem gM.put{v:ai}{vm:Int}{tk:HX}(hv:aZ G Z v y)(h:gM Z es fs):gM Z (putL name vm (.str name tk) v es) (zT fs name y):=by
 have:=(h.ind (P:=λes fs=>gM Z es fs/\gM Z (putL name vm (.str name tk) v es) (zT fs name y)) ⟨trivial,⟨tk,rfl⟩,hv,trivial⟩ λ{e es q fs} hr hk GJ ih=>?_).2
 ·exact this
 ·refine ⟨⟨hk,GJ,ih.1⟩,?_⟩;unfold putL zT;refine aj (AO hk ..) ?_;by_cases hq:q.1=name
  ·(refine aj (decide_eq_true hq ..) ?_;refine aj (if_pos rfl ..) ?_;refine aj (if_pos hq ..) ?_)
   exact ⟨hq▸hk,hv,ih.1⟩
  ·(refine aj (decide_eq_false hq ..) ?_;refine aj (if_neg cF ..) ?_;refine aj (if_neg hq ..) ?_)
   exact ⟨hk,GJ,ih.2⟩
theorem gM.len(h:gM Z es fs):es.length=fs.length:=h.ind rfl λ{z z z z} z z z ih=>congrArg xn ih
theorem gM.noRef(h:gM Z es fs):es.any (·.refKey)=aH:=h.ind rfl λ{z z z z} hr z z ih=>by (refine aj (zI ..) ?_;refine aj (hr ..) ?_;refine aj (ih ..) ?_);rfl
end
section
variable {x f:ay}
theorem xG(r:R Z mu s)(hm:gH x C dx fs∈mu):∃es n,InstAt s.heap x (Ag C dx) C (ae (i3 es n))/\s.heap.get? dx=ae (i3 es n)/\gM Z es fs:=by exact uD (r.sat _ hm) λa es n b c=>⟨es,n,⟨a,rfl,rfl,b⟩,b,c⟩
theorem m8{v:ai}(h:aZ G Z v y)(hy:∀n,y≠ .bi n):handedIn v=aI:=by cases v <;> first|rfl|(cases h;exact absurd rfl (hy _))
theorem DJ{cd:ClassData}{es:List gA}{n:Nat}{v:ai}(hcd:clsIn K C=ae cd)(h2:fJ K (.ref C) name=ae av)(ET:cd.hasDict=aI)(hv:getL name es=ae (ae v)):findObj K C (ae (i3 es n)) name=ae (.value v):=by delta findObj;refine aj (hcd ..) ?_;refine aj (h2 ..) ?_;show (W.ownOf cd (ae (i3 es n)) name).bind _=_;refine aj (show W.ownOf cd (ae (i3 es n)) name=ae (ae v) from (if_pos ET).trans ((Q1 ..).trans hv)) ?_;rfl
theorem Hq{A:bh}{E Q:ai->aq->Prop}{b:Bool}(KO:FX G K)(hp:eS K C name=aI)(r:R Z mu s)(hm:gH x C dx fs∈mu)(hnd:(fs.map (·.1)).Nodup)(hq:(name,y)∈fs)(hy:∀n,y≠ .bi n)
 (q:∀{v tk},aZ G Z v y->R Z mu {s with toks:=tk}->Q v {s with toks:=tk}):aS (aX G.prog G.w) A (s9 (.ref x) name b) Q E s:=by
 refine cC (xG r hm) λes n I z he=>aK (he.some hnd hq) λv hv hr=>dU (cn.mp hp) λS6 h3=>dU (cn.mp S6) λh1 h2=>aK (any_some h1) λcd hcd ET=>get_value (KO.inn _ r.z0in) I (jD h3) ?_ (m8 hr hy) (q hr r.toks);exact DJ hcd (jD h2) ET hv
theorem oS(KO:FX G K)(hp:eS K C name=aI)(ho:PE k mu env o (.ref x))(hm:gH x C dx fs∈mu)(hnd:(fs.map (·.1)).Nodup)(hq:(name,y)∈fs)(hy:∀n,y≠ .bi n)
 (he:autoParam (dW (.Attribute o name p) env=(do let ov <- dW o env;iE p.atName;let r <- eV [ov] (s9 ov name aI);pG o ov r;dg r)) aR):PE k mu env (.Attribute o name p) y:=⟨λ{A E Z s fr Q} hA r q=>by
 refine gZ ?_ he;refine ho.c hA r λ{ov s1 Z1} z1 q1 r1=>aj (aZ.refE q1 ..) ?_;exact Hq KO hp r1 (aE fr hm) hnd hq hy λ{z z} hr r2=>q z1 hr r2⟩
theorem yl{A:bh}{E:ai->aq->Prop}{Q:ai×List ai->aq->Prop}{pl:mF Bool}(KO:FX G K)(hp:jm K C f name=aI)(r:R Z mu s)(hm:gH x C dx fs∈mu)(hn:name∉fs.map (·.1))(h:Q (.ref f,[.ref x]) s):aS (aX G.prog G.w) A (mB (.ref x) name pl) Q E s:=by exact cC (xG r hm) λes n I z he=>dU (cn.mp hp) λS8 h4=>dU (cn.mp S8) λS6 h3=>dU (cn.mp S6) λh1 h2=>method_fn (KO.inn _ r.z0in) I (jD h1) (jD h2) (jD h3) (jD h4) (by show (lookIn name (i3 es n)).map (·.isSome)=ae aH;(refine aj (Q1 ..) ?_;refine aj (he.none hn ..) ?_);rfl) h
theorem pR{ob:o6}{fd:cm}{pl:mF Bool}(KO:FX G K)(hp:jm K C f name=aI)(ho:PE k mu env o (.ref x))(hm:gH x C dx fs∈mu)(hn:name∉fs.map (·.1))(h0:G.Z0 f=ae ob)(hd:ob.data= .func fd)
 (hF:FW k mu (.ref f) [.ref x] Φ)
 (he:autoParam (dW (.Call (.Attribute o name apos) [] [] pos) env=(do let ov <- dW o env;iE apos.atName;let (f,first) <- eV [ov] (mB ov name pl);pF pos f first (lj pos (fo [] env)) [])) aR):
 WE k mu env (.Call (.Attribute o name apos) [] [] pos) Φ:=⟨λ{A E Z s fr Q} hA r q=>by
 refine i5 (pl:=pl) ?_ he;refine ho.c hA r λ{ov s1 Z1} z1 q1 r1=>aj (aZ.refE q1 ..) ?_;refine yl KO hp r1 (aE fr hm) hn ?_;refine callWith_function (o:=ob) (fd:=fd) ?_;exact UE ⟨⟨r1.z0in _ _ h0,hd⟩,hF.c hA r1 (.cons (.ref x) .nil) λ{z z z z z} z3=>q (z1.trans z3)⟩⟩
theorem B7{a:bH}{rest:List bH}{ob:o6}{fd:cm}{pl:mF Bool}(KO:FX G K)(hp:jm K C f name=aI)(ho:PE k mu env o (.ref x))(hm:gH x C dx fs∈mu)(hn:name∉fs.map (·.1))(h0:G.Z0 f=ae ob)(hd:ob.data= .func fd)
 (ha:Dv k mu env (a::rest) λys nu=>FW k nu (.ref f) (.ref x::ys) Φ) (wz:autoParam (kh (a::rest)=aI) aR)
 (he:autoParam (dW (.Call (.Attribute o name apos) (a::rest) [] pos) env=(do let ov <- dW o env;iE apos.atName;let (f,first) <- eV [ov] (mB ov name pl);pF pos f first (lj pos (fo (a::rest) env)) [])) aR):
 WE k mu env (.Call (.Attribute o name apos) (a::rest) [] pos) Φ:=⟨λ{A E Z s fr Q} hA r q=>by
 refine i5 (pl:=pl) ?_ he;refine ho.c hA r λ{ov s1 Z1} z1 q1 r1=>aj (aZ.refE q1 ..) (yl KO hp r1 (aE fr hm) hn ?_);exact Hf (ob:=ob) (fd:=fd) ha wz hA r1 λ{z z z z z} z2 q2 r2 w2=>⟨⟨r2.z0in _ _ h0,hd⟩,w2.c hA r2 (.cons (.ref x) q2) λ{z z z z z} z3=>q (z1.trans (z2.trans z3))⟩⟩
theorem KY(name:bb)(vm:Int)(key v:ai)(l:List gA):(putL name vm key v l).length<=l.length+1:=by
 induction l with
 |nil=>exact bp _
 |cons a l ih=>
  unfold putL
  split
  ·exact jC _
  ·exact E5 ih
def qF.S0(x C dx:ay)(name:bb)(s:aq)(A:bh)(Rr:wF->aq->Prop)(v:ai)(de:List gA)(_:Nat):Prop:=∀{K:fH} {tk:HX} {n:Nat} (X:K.In s.heap) (I:InstAt s.heap x (Ag C dx) C (ae (i3 de n))) (D:s.heap.get? dx=ae (i3 de n)) (h2:plainOver K C=aI) (h3:takerIn K C name=ae av) (h4:(clsIn K C).any (·.hasDict)=aI) (hr:(de.any (·.refKey))=aH) (hz:de.length<=500) (h:∀(vm:Int) ny,Rr (.ok (.ret .none)) {s with heap:=s.heap.update dx (om name vm (.str name ny) v),toks:=s.toks+1}),iV (aX G.prog G.w) A (.call (.builtin "object.__setattr__") ⟨[.ref x,.str name tk,v],[]⟩) Rr s
namespace qF
@[irreducible] def e0:=zL cL cL cL inferInstance zM Fv ta gL gD eN S0
def x_:=e0.1
def C_:=e0.2.1
def dx_:=e0.2.2.1
def iz:=e0.2.2.2.1
def s_:=e0.2.2.2.2.1
def A_:=e0.2.2.2.2.2.1
def Rr_:=e0.2.2.2.2.2.2.1
def v_:=e0.2.2.2.2.2.2.2.1
def Ow:=e0.2.2.2.2.2.2.2.2.1
theorem T0:S0 x_ C_ dx_ iz s_ A_ Rr_ v_ Ow e0.2.2.2.2.2.2.2.2.2:=by
 intro K tk n X I D h2 h3 h4 hr hz h;refine osa_open X I h2 h3 λb=>aK (any_some h4) λcd hc hd'=>?_;have hx:=I.at_;refine ag (ar (ag (ag (pK hx (ag ((looks_clsIn X hc).here ?_))))));refine aj (hd' ..) (ar (a:=ae dx_) (ag (ar (ag ?_))));unfold nsSet;refine ag (ag (gC (ar (ag (JM (ag (pK D ?_)))))));show aS _ _ (if sU iz Ow.toArray=aI then _ else _) _ _ _;have c:sU iz Ow.toArray=aH:=by refine aj (aRefKeyMayBeTheName_at ..) ?_;refine fZ (uv ..) ?_;refine fZ (uv ..) ?_;show (_ && Ow.any (·.refKey))=aH;refine aj (hr ..) ?_;refine aj (kN ..) ?_;rfl
 refine aj (c ..) ?_;refine aj (if_neg (by decide) ..) ?_;refine wpAny_updatePart D ?_;have hm:∀vm ny,om iz vm (.str iz ny) v_ (i3 Ow n)=i3 (putL iz vm (.str iz ny) v_ Ow) (putN iz Ow n):=λvm ny=>mS ..;refine ag (wpAny_lookBehind (o:=i3 (putL iz _ (.str iz _) v_ Ow) (putN iz Ow n)) ((bS _ D (by refine aj (hm ..) ?_;rfl)).trans (congrArg ae (hm _ _))) (pastItsLine_dict ?_) ?_)
 ·exact aj (sV ..) (aw (KY ..) (E5 (aw hz (show 500<=2 ^ 24 by decide))))
 ·exact ar (h _ _)
end qF
theorem qF{A:bh}{Rr:wF->aq->Prop}{v:ai}{de:List gA}:qF.S0 x C dx name s A Rr v de 0:=by with_unfolding_all exact uF _ _ _ _ _ _ _ _ _ _ qF.S0 @qF.T0 x C dx name s A Rr v de 0
theorem wU{A:bh}{E:ai->aq->Prop}{Q:Unit->aq->Prop}{v:ai}(KO:FX G K)(hp:fj K C name=aI)(r:R Z mu s)(hi:mu[i]? =ae (gH x C dx fs))(hl:fs.length<=500)(hv:aZ G Z v y)
 (h:∀s',R Z (mu.set i (gH x C dx (zT fs name y))) s'->Q () s'):aS (aX G.prog G.w) A (setAttr (.ref x) name v) Q E s:=by
 refine cC (xG r (ao hi)) λde n I D he=>?_;have hx:=I.at_;refine dU (cn.mp hp) λS8 h4=>dU (cn.mp S8) λS6 h3=>dU (cn.mp S6) λh1 h2=>set_plain (KO.inn _ r.z0in) I (jD h1) ?_;have iP:x≠dx:=by exact λe=>(cg.mp (r.ownNodup hi)).1 (aA.mpr e)
 refine qF (s:={s with toks:=s.toks+1}) (KO.inn _ r.z0in) I D h2 (jD h3) h4 he.noRef (he.len▸hl) λvm ny=>h _ ?_;have hs:=bY s.heap dx (om name vm (.str name ny) v);refine r.upd' (x':=gH x C dx (zT fs name y)) hi rfl (λb o hb e=>hs.extBut b o (λq=>hb (q▸ab _ aa)) e) ⟨hs.extBut _ _ iP hx,_,_,(bS _ D (by refine aj (mS ..) ?_;rfl)).trans (congrArg ae (mS ..)),he.put hv⟩
theorem rV(KO:FX G K)(hp:fj K C name=aI)(ho:PE k mu env o (.ref x))(hi:mu[i]? =ae (gH x C dx fs))(hl:fs.length<=500){Ψ:Mu->Prop}(h:Ψ (mu.set i (gH x C dx (zT fs name y))))
 (he:autoParam (∀v,wB (.Attribute o name p) env v=(do let ov <- eV [v] (dW o env);iE p.atName;eV [v,ov] (setAttr ov name v);release [v,ov] [])) aR):mK k mu env (.Attribute o name p) y Ψ:=⟨λ{A E Z s fr v Q} hA r hv q=>by
 refine aj (he ..) ?_;refine ag (bE (ho.c hA r λ{ov s1 Z1} z1 q1 r1=>?_));refine aj (aZ.refE q1 ..) ?_;exact ag (iH (ag (bE (wU KO hp r1 (cH hi) hl (hv.mono z1) λs' r'=>wpAny_release (q z1 (gE hi▸r') h)))))⟩
end
variable {Ψ:AF->Mu->Prop}{P:Vw}{y':V}
section
variable {v:bH}{op:xo}
structure nH(G:Gd)(a:ay)(st:d6)(qual:bb):Prop where
 go:∃ob pm cd doc,G.Z0 a=ae ob/\ob.data= .func (Av st qual pm cd doc)/\∀h:dH,(∀a o,G.Z0 a=ae o->h.get? a=ae o)->h.CodeRec cd qual
theorem DK(H:Hy G){a:ay}{st:d6}{qual:bb}(F:nH G a st qual){names:List bb}{vals':ay->el}
 (i0:∀pm cd doc vs,vs.length=xs.length->pJ (Av st qual pm cd doc) ⟨vs,[]⟩=dg (names.zip vs)) (hnd:(aM 0 (bk st).names).nd) (hk:(bk st).kind= .function)
 (hb:∀pm cd doc L,i9 (dT (Av st qual pm cd doc) a L) L (aM (L+1) (bk st).names) names xs (nones (aM (L+1) (bk st).names)) (vals' L))
 (h:∀pm cd doc L,du (dT (Av st qual pm cd doc) a L)->WS k (bq L (aM (L+1) (bk st).names) (vals' L)::mu) (dT (Av st qual pm cd doc) a L) (fR st) (lE Φ)) (wy:autoParam ((bk st).isCoroutine=aH) aR) (mQ:autoParam ((bk st).isGenerator=aH) aR):
 FW (k+1) mu (.ref a) xs Φ:=by
 exact cq (F.go) λob pm cd doc h0 hd hcd=>KG H.B (names:=names) (vals':=vals') (Kn.z0 h0) hd (λZ s r=>hcd _ r.z0in) rfl (i0 pm cd doc) hnd (λL=>⟨hk,rfl,rfl⟩) (hb pm cd doc) (λL=>h pm cd doc L ⟨hk,rfl,rfl⟩) wy mQ
theorem Ox{lx C dx:ay}{fs:List (bb×V)}{name:bb}(KO:FX G K)(hp:eS K C name=aI)(hs:fj K C name=aI)(ho:PE k mu env o (.ref lx))(hi:mu[i]? =ae (gH lx C dx fs))(hnd:(fs.map (·.1)).Nodup)(hq:(name,y)∈fs)(hy:∀n,y≠ .bi n)(hl:fs.length<=500)
 (hv:EV k mu env v P) (hop:ND k mu op (bZ y) P (bZ y')) (h:Ψ .next (mu.set i (gH lx C dx (zT fs name y')))):WX k mu env (.AugAssign (.Attribute o name p) op v pos) Ψ:=⟨λ{A E Z s fr Q} hA r q=>by
 refine wpAny_AugAssign_AttributeAny ?_;refine ho.c hA r λ{ov s1 Z1} z1 q1 r1=>aj (aZ.refE q1 ..) ?_;exact Hq KO hp r1 (aE fr (ao hi)) hnd hq hy λ{z z} hr r2=>hv.c hA r2 λ{z z z} z2 q2 r2=>hop.c hA r2 (hr.mono z2) q2 λ{z z z} z3 q3 r3=>wU KO hs r3 (cH hi) hl q3 λs' r'=>q (z1.trans (z2.trans z3)) .next (gE hi▸r') h⟩
def fN(G:Gd)(K:fH):Prop:=
 (FX G K)/\
 (eS K 217 "pushback"=aI)/\
 (eS K 217 "lineno"=aI)/\
 (eS K 217 "instream"=aI)/\
 (eS K 217 "whitespace"=aI)/\
 (fj K 217 "pushback"=aI)/\
 (fj K 217 "lineno"=aI)/\
 (fj K 217 "instream"=aI)/\
 (fj K 217 "whitespace"=aI)/\
 (jm K 217 200 "_read_char"=aI)/\
 (jm K 217 207 "get_token"=aI)/\
 (jm K 217 214 "push_token"=aI)/\
 (nH G 193 (jl 10 0) "_netrclex.__init__")/\
 (nH G 200 (jl 10 1) "_netrclex._read_char")/\
 (nH G 207 (jl 10 2) "_netrclex.get_token")/\
 (nH G 214 (jl 10 3) "_netrclex.push_token")/\
 (eS K 245 "comp_select_list"=aI)/\
 (fj K 245 "comp_select_list"=aI)/\
 (jm K 245 242 "compare"=aI)/\
 (nH G 235 (jl 12 1) "TupleComp.__init__")/\
 nH G 242 (jl 12 2) "TupleComp.compare"
section
variable {G:Gd}(h:fN G K)
def fN.KO:=@h.1
def fN.p_push:=@h.2.1
def fN.p_line:=@h.2.2.1
def fN.p_in:=@h.2.2.2.1
def fN.p_ws:=@h.2.2.2.2.1
def fN.s_push:=@h.2.2.2.2.2.1
def fN.s_line:=@h.2.2.2.2.2.2.1
def fN.s_in:=@h.2.2.2.2.2.2.2.1
def fN.s_ws:=@h.2.2.2.2.2.2.2.2.1
def fN.m_read:=@h.2.2.2.2.2.2.2.2.2.1
def fN.m_get:=@h.2.2.2.2.2.2.2.2.2.2.1
def fN.m_put:=@h.2.2.2.2.2.2.2.2.2.2.2.1
def fN.f193:=@h.2.2.2.2.2.2.2.2.2.2.2.2.1
def fN.f200:=@h.2.2.2.2.2.2.2.2.2.2.2.2.2.1
def fN.f207:=@h.2.2.2.2.2.2.2.2.2.2.2.2.2.2.1
def fN.f214:=@h.2.2.2.2.2.2.2.2.2.2.2.2.2.2.2.1
def fN.p_comp:=@h.2.2.2.2.2.2.2.2.2.2.2.2.2.2.2.2.1
def fN.s_comp:=@h.2.2.2.2.2.2.2.2.2.2.2.2.2.2.2.2.2.1
def fN.m_comp:=@h.2.2.2.2.2.2.2.2.2.2.2.2.2.2.2.2.2.2.1
def fN.f235:=@h.2.2.2.2.2.2.2.2.2.2.2.2.2.2.2.2.2.2.2.1
def fN.f242:=@h.2.2.2.2.2.2.2.2.2.2.2.2.2.2.2.2.2.2.2.2
end
theorem RU(H:Hy G)(LH:fN G K){lx dx pb:ay}{fs:List (bb×V)}(hm:gH lx 217 dx fs∈mu)(hnd:(fs.map (·.1)).Nodup)(hq:(("pushback":bb),V.ref pb)∈fs)(hi:mu[i]? =ae (bl pb xs))(hl:xs.length < 2 ^ 20):
 FW (k+2) mu (.ref 214) [.ref lx,y] λr nu=>r= .none/\nu=mu.set i (bl pb (xs++[y])):=by
 refine DK H LH.f214 (names:=["self","token"]) (vals':=λL=>[ae (.ref lx),ae y]) (λpm cd doc vs h=>?_) (by decide+kernel) rfl (λpm cd doc L=>?_) (λpm cd doc L he=>?_)
 ·exact zS h λa b=>rfl
 ·exact .cons (j:=0) .loc rfl (.cons (j:=1) .loc rfl .nil)
 refine aC (ig (mZ (oS LH.KO LH.p_push (ah (j:=0) he .loc aa rfl) (ab _ hm) hnd hq (λn e=>by cases e)) (j5 (xs:=xs) (ab _ (ao hi))) (au (ah (j:=1) he .loc aa rfl) aT) (kA (i:=i+1) hi (by exact cb (by assumption) (by decide)) ?_) (by exact fQ) (by exact iT) (by exact iU) rfl));exact bC (jJ.tail (jJ.keep ⟨rfl,rfl⟩))
end
variable {z z':V}
noncomputable def DL:V:= .list [.tup [.int 0,.int (-1)],.tup [.int 1,.int (-2)],.tup [.int 2,.int (-3)]]
noncomputable def vX(a b:Nat->Int):Int:=if a 0 < b 0 then 1 else if b 0 < a 0 then -1 else if a 1 < b 1 then 2 else if b 1 < a 1 then -2 else if a 2 < b 2 then 3 else if b 2 < a 2 then -3 else 0
theorem Oy{a b:Nat->Int}{i:Nat}(h3:i < 3)(heq:∀c,c < i->a c=b c)(d:Int):(a i < b i->d=1+(i:Nat)->d=vX a b)/\(b i < a i->d= -1 - (i:Nat)->d=vX a b):=by
 refine TV (P:=λi=>(∀c,c < i->a c=b c)->(a i < b i->d=1+(i:Nat)->d=vX a b)/\(b i < a i->d= -1 - (i:Nat)->d=vX a b)) h3 (λheq=>?_) (λheq=>?_) (λheq=>?_) heq
 ·unfold vX;exact ⟨λh e=>by refine aj (if_pos h ..) ?_;lia,λh e=>by (refine aj (if_neg (by lia) ..) ?_;refine aj (if_pos h ..) ?_);lia⟩
 ·unfold vX;have h0:=heq 0 (by decide);exact ⟨λh e=>by (refine aj (if_neg (by lia) ..) ?_;refine aj (if_neg (by lia) ..) ?_;refine aj (if_pos h ..) ?_);lia,λh e=>by (refine aj (if_neg (by lia) ..) ?_;refine aj (if_neg (by lia) ..) ?_;refine aj (if_neg (by lia) ..) ?_;refine aj (if_pos h ..) ?_);lia⟩
 ·unfold vX;have h0:=heq 0 (by decide);have h1:=heq 1 (by decide);exact ⟨λh e=>by (refine aj (if_neg (by lia) ..) ?_;refine aj (if_neg (by lia) ..) ?_;refine aj (if_neg (by lia) ..) ?_;refine aj (if_neg (by lia) ..) ?_;refine aj (if_pos h ..) ?_);lia,λh e=>by (refine aj (if_neg (by lia) ..) ?_;refine aj (if_neg (by lia) ..) ?_;refine aj (if_neg (by lia) ..) ?_;refine aj (if_neg (by lia) ..) ?_;refine aj (if_neg (by lia) ..) ?_;refine aj (if_pos h ..) ?_);lia⟩
def lJ.S0(k:Nat)(mu:Mu)(z z':V)(cx:ay)(a b:Nat->Int)(_:Nat):Prop:=∀{K:fH} {dx:ay} {fs:List (bb×V)} (H:Hy G) (LH:fN G K) (hm:gH cx 245 dx fs∈mu) (hnd:(fs.map (·.1)).Nodup) (hq:(("comp_select_list":bb),DL)∈fs),FW (k+2) mu (.ref 242) [.ref cx,.tup [.int (a 0),.int (a 1),.int (a 2),z],.tup [.int (b 0),.int (b 1),.int (b 2),z']] λr nu=>r= .int (vX a b)/\nu=mu
namespace lJ
@[irreducible] def e0:=NB eN gD neV neV cL inferInstance inferInstance eN S0
def k_:=e0.1
def e9:=e0.2.1
def z_:=e0.2.2.1
def z'_:=e0.2.2.2.1
def vY:=e0.2.2.2.2.1
def a_:=e0.2.2.2.2.2.1
def b_:=e0.2.2.2.2.2.2.1
theorem T0:S0 k_ e9 z_ z'_ vY a_ b_ e0.2.2.2.2.2.2.2:=by
 intro K dx fs H LH hm hnd hq;refine DK H LH.f242 (names:=["self","left","right"]) (vals':=λL=>[ae (.ref vY),ae (.tup [.int (a_ 0),.int (a_ 1),.int (a_ 2),z_]),ae (.tup [.int (b_ 0),.int (b_ 1),.int (b_ 2),z'_]),av,av,av,av]) (λpm cd doc vs h=>?_) (by decide+kernel) rfl (λpm cd doc L=>?_) (λpm cd doc L he=>?_)
 ·exact Oo h λa_ b_ c=>rfl
 ·exact .cons (j:=0) .loc rfl (.cons (j:=1) .loc rfl (.cons (j:=2) .loc rfl .nil))
 refine aC (jN (ctx:=[]) (xs:=[.tup [.int 0,.int (-1)],.tup [.int 1,.int (-2)],.tup [.int 2,.int (-3)]]) (λi nu=>(∀c,c < i->a_ c=b_ c)/\∃o1 o2 o3 o4,nu=bq L (aM (L+1) (bk (jl 12 2)).names) [ae (.ref vY),ae (.tup [.int (a_ 0),.int (a_ 1),.int (a_ 2),z_]),ae (.tup [.int (b_ 0),.int (b_ 1),.int (b_ 2),z'_]),o1,o2,o3,o4]::e9)
  (dA (oS LH.KO LH.p_comp (ah (j:=0) he .loc aa rfl) (ab _ hm) hnd hq (λn e=>by cases e))) (by lia) ⟨λc h=>absurd h (GY _),av,av,av,av,rfl⟩ (λi nu h o ho=>(eo ho)) ?_ ?_)
 ·intro i x nu hx dO;refine CZ dO λheq o1 o2 o3 o4 eT=>?_;clear dO;subst eT;have hi3:i < 3:=(aB.mp hx).1;have hxe:x= .tup [.int (i:Nat),.int (-((i:Nat):Int) - 1)]:=by
   exact TV (P:=λi=>([V.tup [.int 0,.int (-1)],.tup [.int 1,.int (-2)],.tup [.int 2,.int (-3)]]:List V)[i]? =ae x->x= .tup [.int (i:Nat),.int (-((i:Nat):Int) - 1)]) hi3 (λe=>(aO e).symm) (λe=>(aO e).symm) (λe=>(aO e).symm) hx
  subst hxe;have gl:Gi (k_+1) (bq L (aM (L+1) (bk (jl 12 2)).names) [ae (.ref vY),ae (.tup [.int (a_ 0),.int (a_ 1),.int (a_ 2),z_]),ae (.tup [.int (b_ 0),.int (b_ 1),.int (b_ 2),z'_]),ae (.int (i:Nat)),ae (.int (-((i:Nat):Int) - 1)),o3,o4]::e9) (bZ (.tup [.int (a_ 0),.int (a_ 1),.int (a_ 2),z_])) (bZ (.int (i:Nat))) (bZ (.int (a_ i))):=Kx (by exact TV hi3 rfl rfl rfl) (by show -((4:Nat):Int)<=_;lia) (by lia) (by show 4 < 2 ^ 62;decide)
  have gr:∀l',Gi (k_+1) l' (bZ (.tup [.int (b_ 0),.int (b_ 1),.int (b_ 2),z'_])) (bZ (.int (i:Nat))) (bZ (.int (b_ i))):=λl'=>Kx (by exact TV hi3 rfl rfl rfl) (by show -((4:Nat):Int)<=_;lia) (by lia) (by show 4 < 2 ^ 62;decide)
  have res:=λd=>Oy hi3 heq d;refine i7 (cv rfl rfl (aQ (i:=0) (j:=3) he .loc rfl (cv rfl rfl (aQ (i:=0) (j:=4) he .loc rfl (iX ?_)))));refine aC (bX (bF (ah (j:=1) he .loc aa rfl) (ah (j:=3) he .loc aa rfl) gl) (aQ (i:=0) (j:=5) he .loc rfl ?_) rfl rfl);refine aC (bX (bF (ah (j:=2) he .loc aa rfl) (ah (j:=3) he .loc aa rfl) (gr _)) (aQ (i:=0) (j:=6) he .loc rfl ?_) rfl rfl);refine aC (iY (c9 (ah (j:=5) he .loc aa rfl) (ah (j:=6) he .loc aa rfl) Dc) (λh=>?_) λh=>?_)
  ·have h':=of_decide_eq_true h;exact aC (gw (cf (o8 (ah (j:=4) he .loc aa rfl)) (ki ⟨congrArg V.int ((res _).1 h' (by lia)),rfl⟩)))
  refine bC ?_;have h1:=of_decide_eq_false h;refine aC (iY (c9 (ah (j:=5) he .loc aa rfl) (ah (j:=6) he .loc aa rfl) G4) (λh=>?_) λh=>?_)
  ·have h':=of_decide_eq_true h;exact aC (gw (cf (ah (j:=4) he .loc aa rfl) (ki ⟨congrArg V.int ((res _).2 h' (by lia)),rfl⟩)))
  have h2:=of_decide_eq_false h;refine bC (bC ⟨λc hc=>?_,ae (.int (i:Nat)),ae (.int (-((i:Nat):Int) - 1)),ae (.int (a_ i)),ae (.int (b_ i)),rfl⟩);rcases gX c i with h3|h3
  ·exact heq c h3
  ·have:c=i:=by lia
   subst this;lia
 ·intro nu gi;refine CZ gi λheq o1 o2 o3 o4 iC=>?_;clear gi;subst iC;have h0:=heq 0 (by decide);have h1:=heq 1 (by decide);have h2:=heq 2 (by decide);refine bC (aC (gw (cf aU (ki ⟨?_,rfl⟩))));unfold vX;refine aj (if_neg (by lia) ..) ?_;refine aj (if_neg (by lia) ..) ?_;refine aj (if_neg (by lia) ..) ?_;refine aj (if_neg (by lia) ..) ?_;refine aj (if_neg (by lia) ..) ?_;refine aj (if_neg (by lia) ..) ?_;rfl
end lJ
theorem lJ{cx:ay}{a b:Nat->Int}:lJ.S0 k mu z z' cx a b 0:=by with_unfolding_all exact BB _ _ _ _ _ _ _ _ lJ.S0 @lJ.T0 k mu z z' cx a b 0
theorem RV(H:Hy G)(LH:fN G K){lx dx pb:ay}{fs:List (bb×V)}(hm:gH lx 217 dx fs∈mu)(hnd:(fs.map (·.1)).Nodup)(hq:(("pushback":bb),V.ref pb)∈fs)(hi:mu[i]? =ae (bl pb (y::xs)))(hl:xs.length < 2 ^ 20):
 FW (k+2) mu (.ref 207) [.ref lx] λr nu=>r=y/\nu=mu.set i (bl pb xs):=by
 refine DK H LH.f207 (names:=["self"]) (vals':=λL=>[ae (.ref lx),av,av,av]) (λpm cd doc vs h=>?_) (by decide+kernel) rfl (λpm cd doc L=>?_) (λpm cd doc L he=>?_)
 ·exact uQ h λa=>rfl
 ·exact .cons (j:=0) .loc rfl .nil
 have hL:=ao hi;refine aC (iY (kU (uH (oS LH.KO LH.p_push (ah (j:=0) he .loc aa rfl) (ab _ hm) hnd hq (λn e=>by cases e)) (ab _ hL)) (G5 (by simp;lia))) (λh=>?_) λh=>(J3 h));refine aC (gw (mZ (oS LH.KO LH.p_push (ah (j:=0) he .loc aa rfl) (ab _ hm) hnd hq (λn e=>by cases e)) (j5 (xs:=y::xs) (ab _ hL)) (au aU aT) (Oq (i:=i+1) hi (by exact cb (by assumption) (by decide)) ?_) (by exact fQ) (by exact F.slot_list_pop) (by exact F.type_list_pop) rfl));exact jJ.tail (jJ.keep ⟨rfl,rfl⟩)
theorem Oz{zo:jX}{body orelse:List d6}(hk:1<=k)
 (he:WE k mu env e λy nu=>∃(xs:List V) (Inv:Nat->Mu->Prop),y= .list xs/\Inv 0 nu/\(∀i x nu,xs[i]? =ae x->Inv i nu->mK k nu env t x λru=>WS k ru env body (kW (Inv (i+1)) Ψ))/\∀nu,Inv xs.length nu->WS k nu env orelse Ψ)
 (hf:autoParam (∀x,bw e env x=dg x) aR):WX k mu env (.For t e body orelse zo) Ψ:=⟨λ{A E Z s fr Q} hA r q=>by
 with_reducible refine wpAny_For ?_ hf
 refine he.c hA r λ{v s1 Z1 y nu} z1 q1 r1 w=>ir w λxs Inv dO h0 step fin=>?_;clear w;subst dO;exact Ay r1 q1 λ{z z z} hit r2=>G7 Inv hit hk h0 (λz z z z ho=>eo ho) step fin hA z1 r2 q⟩
theorem KZ{f:bb}{a:ay}{ob:o6}{fd:cm}(hf:PE k mu env (.Name f p) (.ref a))(hd:ob.data= .func fd)(ha:Dv k mu env (e::es) λys nu=>(Kn nu λhp=>hp.get? a=ae ob)/\FW k nu (.ref a) ys Φ)(hs:∀a p,e≠ .Starred a p:=by intro z z h;cases h):
 WE k mu env (.Call (.Name f p) (e::es) [] pos) Φ:=⟨λ{A E Z s fr Q} hA r q=>by
 with_reducible refine gB ?_
 refine hf.c hA r λ{f s1 Z1} z1 q1 r1=>?_;rw [aZ.refE q1];exact iJ hd (ha.c hA r1 λ{z z z z z} z2 q2 r2 w=>⟨w.1.app r2,w.2.c hA r2 q2 λ{z z z z z} z3=>q (z1.trans (z2.trans z3))⟩) (et hs)⟩
variable {lx pb W fd L:ay}{ob:o6}{NJ:cm}{pm cd doc:ai}
section
variable {l r:bH}{CU:CmpOp}
theorem FW.cons{f:ai}(a:cX)(h:FW k mu f xs Φ):FW k (a::mu) f xs λy nu=>∃nu',nu=a::nu'/\Φ y nu':=⟨λ{x x x x x x x} hA r hv q=>h.c hA (r.perm cu.symm) hv λ{x x x x x} z v r w=>q z v (r.perm cu) ⟨_,rfl,w⟩⟩
theorem FW.up{f:ai}{a:cX}(h:FW k mu f xs λy nu=>Φ y (a::nu)):FW k (a::mu) f xs Φ:=⟨λ{x x x x x x x} hA r hv q=>h.c hA (r.perm cu.symm) hv λ{x x x x x} z v r w=>q z v (r.perm cu) w⟩
theorem OA{β:Type}{S:Nat->β->Mu}{b0:β}{zo:jX}{ctx:Mu}{body orelse:List d6}(I:Nat->β->Prop)(h0:I 0 b0)(src:pd k (S 0 b0) env e t ctx xs)(hk:1<=k)(q7:∀i b,∀o∈ctx,o∈S i b)
 (step:∀T i x b,xs[i]? =ae x->I i b->(∀b',I (i+1) b'->T (S (i+1) b'))->mK k (S i b) env t x λru=>WS k ru env body (kW T Ψ))
 (fin:∀b,I xs.length b->WS k (S xs.length b) env orelse Ψ) (hf:autoParam (∀x,bw e env x=dg x) aR):WX k (S 0 b0) env (.For t e body orelse zo) Ψ:=
 jN (λi nu=>∃b,nu=S i b/\I i b) src hk ⟨b0,rfl,h0⟩ (λi nu h o ho=>by obtain ⟨b,rfl,_⟩:=h;exact q7 i b o ho) (λi x nu hx h=>by obtain ⟨b,rfl,h⟩:=h;exact step _ i x b hx h λb' h=>⟨b',rfl,h⟩) (λnu h=>by obtain ⟨b,rfl,h⟩:=h;exact fin b h) hf
theorem K0{β:Type}{zo:jX}{body orelse:List d6}(hk:1<=k)
 (he:WE k mu env e λy nu=>∃(xs:List V) (S:Nat->β->Mu) (b0:β),y= .list xs/\nu=S 0 b0/\(∀T i x b,xs[i]? =ae x->(∀b',T (S (i+1) b'))->mK k (S i b) env t x λru=>WS k ru env body (kW T Ψ))/\∀b,WS k (S xs.length b) env orelse Ψ)
 (hf:autoParam (∀x,bw e env x=dg x) aR):WX k mu env (.For t e body orelse zo) Ψ:=
 Oz hk ⟨λ{u u u u u u} hA r q=>he.c hA r λ{u u u u u} z v r w=>by
  refine lG w λxs S b0 e1 e2 h1 h2=>?_;clear w;exact q z v r ⟨xs,λi nu=>∃b,nu=S i b,e1,⟨b0,e2⟩,λi x nu hx h=>by obtain ⟨b,rfl⟩:=h;exact h1 _ i x b hx λb'=>⟨b',rfl⟩,λnu h=>by obtain ⟨b,rfl⟩:=h;exact h2 b⟩⟩ hf
theorem K1{A B C D:Type}{S:Nat->A->B->C->D->Mu}{X:C->List V}{m0:Nat}{Q:ay}{zo:jX}{body orelse:List d6}(I:Nat->Nat->C->D->Prop){a:A}{b:B}{c:C}{d:D}(h0:I m0 0 c d)(he:PE k (S 0 a b c d) env e (.ref Q))(hk:1<=k)(qm:∀{i a b c d},bl Q (X c)∈S i a b c d)(hlen:∀m i c d,I m i c d->i<=(X c).length)
 (step:∀T m i a b c d x,I m i c d->(X c)[i]? =ae x->(∀m' a b c d,m' < m->I m' (i+1) c d->T (S (i+1) a b c d))->mK k (S i a b c d) env t x λru=>WS k ru env body (kW T Ψ))
 (fin:∀m a b c d,I m (X c).length c d->WS k (S (X c).length a b c d) env orelse Ψ) (hf:autoParam (∀x,bw e env x=dg x) aR):WX k (S 0 a b c d) env (.For t e body orelse zo) Ψ:=
 Hj (λm i xs nu=>∃a b c d,xs=X c/\nu=S i a b c d/\I m i c d) he hk m0 (X c) ⟨a,b,c,d,rfl,rfl,h0⟩ (λm i xs nu h=>by obtain ⟨a,b,c,d,rfl,rfl,_⟩:=h;exact qm)
  (λm i xs nu x h hx=>by obtain ⟨a,b,c,d,rfl,rfl,h⟩:=h;exact step _ m i a b c d x h hx λm' a b c d hm h=>⟨m',X c,hm,a,b,c,d,rfl,rfl,h⟩)
  (λm i xs nu h hx=>by obtain ⟨a,b,c,d,rfl,rfl,h⟩:=h;subst hx;exact fin m a b c d h) (λm i xs nu h=>by obtain ⟨a,b,c,d,rfl,rfl,h⟩:=h;exact hlen m i c d h) hf
theorem Hr(h:WE k mu env l λy nu=>∃(Q:Vw) (b:Bool),EV k nu env r Q/\te k nu CU (bZ y) Q b/\Φ (.bool b) nu)(hm:wA CU r=aH:=by with_unfolding_all rfl):WE k mu env (.Compare l [CU] [r] p) Φ:=⟨λ{z z z z z z} hA R q=>by
 with_reducible refine wpAny_Compare1 ?_ hm
 exact h.c hA R λz1 q1 r1 ⟨Q,b,hr,ho,w⟩=>hr.c hA r1 λ{z z z} z2 p2 r2=>ho.c hA r2 (q1.mono z2) p2 λ{z z z} z3 p3 r3=>q (z1.trans (z2.trans z3)) p3 r3 w⟩
theorem Hs{Θ:Bool->Mu->Prop}(h:WE k mu env l λy nu=>∃(Q:Vw) (b:Bool),EV k nu env r Q/\te k nu CU (bZ y) Q b/\Θ b nu)(hm:wA CU r=aH:=by with_unfolding_all rfl):WT k mu env (.Compare l [CU] [r] p) Θ:=⟨λ{z z z z z z} hA R q=>by
 with_reducible refine Ah ?_ hm
 exact h.c hA R λz1 q1 r1 ⟨Q,b,hr,ho,w⟩=>hr.c hA r1 λ{z z z} z2 p2 r2=>ho.c hA r2 (q1.mono z2) p2 λ{z z z} z3 p3 r3=>(aZ.boolE p3)▸eU (q (z1.trans (z2.trans z3)) r3 w)⟩
def rW(k:Nat){α σ:Type}(nm:α->bb)(lx dx pb W fd:ay)(fs:List (bb×V))(ob:o6)(NJ:cm)(ρ:σ->Mu)(out:σ->List α->α->σ×List α)(J:Nat->Nat->List α->σ->Prop)(fin:bb->Mu->List α->σ->Prop):Prop:=
 (∀s:σ,gH lx 217 dx fs∈ρ s)/\
 ((fs.map (·.1)).Nodup)/\
 ((("pushback":bb),V.ref pb)∈fs)/\
 (("get_token":bb)∉fs.map (·.1))/\
 (("push_token":bb)∉fs.map (·.1))/\
 (ob.data= .func NJ)/\
 (∀(s:σ) (ws q:List α),Kn (bl W (ws.map λw=>V.str (nm w))::bl pb (q.map λw=>V.str (nm w))::ρ s) λhp=>hp.get? fd=ae ob)/\
 (∀m i (ws:List α) (s:σ),J m i ws s->ws.length<=2000/\i<=ws.length)/\
 (∀m i (ws:List α) (s:σ) (w:α),J m i ws s->ws[i]? =ae w->FW (k+3) (bl W (ws.map λw=>V.str (nm w))::bl pb ((ws.drop (i+1)).map λw=>V.str (nm w))::ρ s) (.ref fd) [.str (nm w)] λy nu=>
  y= .list ((out s ws w).2.map λw=>V.str (nm w))/\nu=bl W (ws.map λw=>V.str (nm w))::bl pb ((ws.drop (i+1)).map λw=>V.str (nm w))::ρ (out s ws w).1)/\
 (∀m i (ws:List α) (s:σ) (w:α),J m i ws s->ws[i]? =ae w->∃m',m' < m/\J m' (i+1) (ws++(out s ws w).2) (out s ws w).1)/\
 ∀m (ws:List α) (s:σ),J m ws.length ws s->FW (k+3) (bl W (ws.map λw=>V.str (nm w))::bl pb []::ρ s) (.ref 207) [.ref lx] λy nu=>∃c,y= .str c/\fin c nu ws s
section
variable {α σ:Type}{nm:α->bb}{ρ:σ->Mu}{out:σ->List α->α->σ×List α}{J:Nat->Nat->List α->σ->Prop}{fin:bb->Mu->List α->σ->Prop}(h:rW k nm lx dx pb W fd fs ob NJ ρ out J fin)
def rW.lex:=@h.1
def rW.nd:=@h.2.1
def rW.hpb:=@h.2.2.1
def rW.ng:=@h.2.2.2.1
def rW.np:=@h.2.2.2.2.1
def rW.fn:=@h.2.2.2.2.2.1
def rW.kn:=@h.2.2.2.2.2.2.1
def rW.len:=@h.2.2.2.2.2.2.2.1
def rW.deed:=@h.2.2.2.2.2.2.2.2.1
def rW.step:=@h.2.2.2.2.2.2.2.2.2.1
def rW.last:=@h.2.2.2.2.2.2.2.2.2.2
end
noncomputable abbrev rnFr(L lx W fd:ay)(close:bb)(o1 o2:Option V):cX:=bq L (aM (L+1) (bk (cM 21)).names) [ae (.ref lx),ae (.ref W),ae (.str close),ae (.ref fd),o1,o2]
noncomputable abbrev tj(pm cd doc:ai)(L:ay):gV:=dT (xB (cM 21) pm cd doc) 297 L
noncomputable abbrev RW{α σ:Type}(nm:α->bb)(L lx W fd pb:ay)(close:bb)(ρ:σ->Mu)(o1 o2:Option V)(ws q:List α)(s:σ):Mu:=rnFr L lx W fd close o1 o2::bl W (ws.map λw=>V.str (nm w))::bl pb (q.map λw=>V.str (nm w))::ρ s
def CT(k:Nat){α σ:Type}(nm:α->bb)(lx dx W fd:ay)(fs:List (bb×V))(ob:o6)(out:σ->List α->α->σ×List α)(J:Nat->Nat->List α->σ->Prop)(Φ:V->Mu->Prop)(st:Option V->Option V->List α->List α->σ->Mu)(pm cd doc:ai)(L:ay):Prop:=
 (∀{o1 o2 ws q s p},PE (k+3) (st o1 o2 ws q s) (tj pm cd doc L) (.Name "lexer" p) (.ref lx))/\
 (∀{o1 o2 ws q s p},PE (k+3) (st o1 o2 ws q s) (tj pm cd doc L) (.Name "line" p) (.ref W))/\
 (∀{o1 o2 ws q s p},PE (k+3) (st o1 o2 ws q s) (tj pm cd doc L) (.Name "deed" p) (.ref fd))/\
 (∀{v o2 ws q s p},PE (k+3) (st (ae v) o2 ws q s) (tj pm cd doc L) (.Name "name" p) v)/\
 (∀{v o1 ws q s p},PE (k+3) (st o1 (ae v) ws q s) (tj pm cd doc L) (.Name "other" p) v)/\
 (∀{v o1 o2 ws q s p} {Ψ:Mu->Prop},Ψ (st (ae v) o2 ws q s)->mK (k+3) (st o1 o2 ws q s) (tj pm cd doc L) (.Name "name" p) v Ψ)/\
 (∀{v o1 o2 ws q s p} {Ψ:Mu->Prop},Ψ (st o1 (ae v) ws q s)->mK (k+3) (st o1 o2 ws q s) (tj pm cd doc L) (.Name "other" p) v Ψ)/\
 (∀{o1 o2 ws q s},gH lx 217 dx fs∈st o1 o2 ws q s)/\
 (∀{o1 o2 ws q s},bl W (ws.map λw=>V.str (nm w))∈st o1 o2 ws q s)/\
 (∀{o1 o2 ws q s},Kn (st o1 o2 ws q s) λhp=>hp.get? fd=ae ob)/\
 (∀{o1 o2 ws q s w} {Ψ:V->Mu->Prop},q.length<=4000->Ψ .none (st o1 o2 ws (q++[w]) s)->FW (k+3) (st o1 o2 ws q s) (.ref 214) [.ref lx,.str (nm w)] Ψ)/\
 (∀{o1 o2 ws q s w} {Ψ:V->Mu->Prop},q.length<=4000->Ψ (.str (nm w)) (st o1 o2 ws q s)->FW (k+3) (st o1 o2 ws (w::q) s) (.ref 207) [.ref lx] Ψ)/\
 (∀{o1 o2 ws q s w} {Ψ:V->Mu->Prop},ws.length<=4000->Ψ .none (st o1 o2 (ws++[w]) q s)->BX (k+3) (st o1 o2 ws q s) (.builtin "list.append") [bZ (.ref W),bZ (.str (nm w))] Ψ)/\
 (∀{m i o1 o2 ws s w} {Ψ:V->Mu->Prop},J m i ws s->ws[i]? =ae w->Ψ (.list ((out s ws w).2.map λw=>V.str (nm w))) (st o1 o2 ws (ws.drop (i+1)) (out s ws w).1)->FW (k+3) (st o1 o2 ws (ws.drop (i+1)) s) (.ref fd) [.str (nm w)] Ψ)/\
 ∀{m o1 o2 ws s},J m ws.length ws s->WS (k+3) (st o1 o2 ws [] s) (tj pm cd doc L) ((fR (cM 21)).drop 2) (lE Φ)
section
variable {α σ:Type}{nm:α->bb}{out:σ->List α->α->σ×List α}{J:Nat->Nat->List α->σ->Prop}{st:Option V->Option V->List α->List α->σ->Mu}(h:CT k nm lx dx W fd fs ob out J Φ st pm cd doc L)
def CT.vl:=@h.1
def CT.vw:=@h.2.1
def CT.vd:=@h.2.2.1
def CT.n1:=@h.2.2.2.1
def CT.n2:=@h.2.2.2.2.1
def CT.a1:=@h.2.2.2.2.2.1
def CT.a2:=@h.2.2.2.2.2.2.1
def CT.im:=@h.2.2.2.2.2.2.2.1
def CT.lm:=@h.2.2.2.2.2.2.2.2.1
def CT.kn:=@h.2.2.2.2.2.2.2.2.2.1
def CT.push:=@h.2.2.2.2.2.2.2.2.2.2.1
def CT.take:=@h.2.2.2.2.2.2.2.2.2.2.2.1
def CT.app:=@h.2.2.2.2.2.2.2.2.2.2.2.2.1
def CT.deed:=@h.2.2.2.2.2.2.2.2.2.2.2.2.2.1
def CT.last:=@h.2.2.2.2.2.2.2.2.2.2.2.2.2.2
end
section
variable {α σ:Type}{nm:α->bb}{ρ:σ->Mu}{out:σ->List α->α->σ×List α}{J:Nat->Nat->List α->σ->Prop}{fin:bb->Mu->List α->σ->Prop}{close:bb}{m0:Nat}{NK:List α}{s0:σ}{st:Option V->Option V->List α->List α->σ->Mu}
theorem rn_ok(H:Hy G)(LH:fN G K)(RH:rW k nm lx dx pb W fd fs ob NJ ρ out J fin)(he:du (tj pm cd doc L))(hΦ:∀m ws s c nu,J m ws.length ws s->fin c nu ws s->Φ (.bool (c == close)) nu):CT k nm lx dx W fd fs ob out J Φ (RW nm L lx W fd pb close ρ) pm cd doc L:=by
 have im:∀{a b c:cX} {s},gH lx 217 dx fs∈a::b::c::ρ s:=ab _ (ab _ (ab _ (RH.lex _)));refine ⟨?_,?_,?_,?_,?_,?_,?_,?_,?_,?_,?_,?_,?_,?_,?_⟩
 ·intro o1 o2 ws q s p;exact ah (j:=0) he .loc aa rfl
 ·intro o1 o2 ws q s p;exact ah (j:=1) he .loc aa rfl
 ·intro o1 o2 ws q s p;exact ah (j:=3) he .loc aa rfl
 ·intro v o2 ws q s p;exact ah (j:=4) he .loc aa rfl
 ·intro v o2 ws q s p;exact ah (j:=5) he .loc aa rfl
 ·intro v o1 o2 ws q s p Ψ h;exact aQ (i:=0) (j:=4) he .loc rfl h
 ·intro v o1 o2 ws q s p Ψ h;exact aQ (i:=0) (j:=5) he .loc rfl h
 ·intro o1 o2 ws q s;exact im
 ·intro o1 o2 ws q s;exact ab _ aa
 ·intro o1 o2 ws q s;exact (RH.kn s ws q).sub (gW _ _)
 ·intro o1 o2 ws q s w Ψ hq h;refine ((RU (k:=k) (i:=2) (y:= .str (nm w)) H LH im RH.nd RH.hpb rfl (by refine aj (ak ..) ?_;exact b7 (by assumption) (by decide))).le (jC _)).mono λr nu e=>?_;refine aj (e.1 ..) ?_;refine aj (e.2 ..) ?_;unfold RW at h;rw [bj] at h;exact h
 ·intro o1 o2 ws q s w Ψ hq h;refine ((RV (k:=k) (i:=2) (y:= .str (nm w)) (xs:=q.map λw=>V.str (nm w)) H LH im RH.nd RH.hpb rfl (by refine aj (ak ..) ?_;exact b7 (by assumption) (by decide))).le (jC _)).mono λr nu e=>?_;refine aj (e.1 ..) ?_;refine aj (e.2 ..) ?_;exact h
 ·intro o1 o2 ws q s w Ψ hq h;refine kA (i:=1) rfl (by refine aj (ak ..) ?_;show _ < 2 ^ 22;exact b7 (by assumption) (by decide)) ?_;unfold RW at h;rw [bj] at h;exact h
 ·intro m i o1 o2 ws s w Ψ hJ hw h;refine FW.up ((RH.deed m i ws s w hJ hw).mono λy nu e=>?_);refine aj (e.1 ..) ?_;refine aj (e.2 ..) ?_;exact h
 ·intro m o1 o2 ws s hJ;refine cq (LH.f207.go) λobg pmg cdg docg P0 Ta z=>aC (gw (Hr (pR LH.KO LH.m_get (ah (j:=0) he .loc aa rfl) im RH.ng P0 Ta (FW.up ((RH.last m ws s hJ).mono λy nu hq=>?_)))));refine aK hq λc e2 e3=>?_;clear hq;exact aj (e2 ..) (⟨bZ (.str close),(c == close),ah (j:=2) he .loc aa rfl,rC,ki (hΦ m ws s c nu hJ e3)⟩)
def qG.S0(k:Nat)(Φ:V->Mu->Prop)(pm cd doc:ai)(L:ay):Prop:=∀{K:fH} {α σ:Type} {nm:α->bb} {lx dx pb W fd:ay} {fs:List (bb×V)} {ob:o6} {NJ:cm} {ρ:σ->Mu} {out:σ->List α->α->σ×List α} {J:Nat->Nat->List α->σ->Prop} {fin:bb->Mu->List α->σ->Prop} {m0:Nat} {NK:List α} {s0:σ} {st:Option V->Option V->List α->List α->σ->Mu} (LH:fN G K) (RH:rW k nm lx dx pb W fd fs ob NJ ρ out J fin) (T:CT k nm lx dx W fd fs ob out J Φ st pm cd doc L) (h0:J m0 0 NK s0),WS (k+3) (st av av NK [] s0) (tj pm cd doc L) (fR (cM 21)) (lE Φ)
namespace qG
@[irreducible] def e0:=Fq eN ta gL gL gL cL S0
def k_:=e0.1
def Φ_:=e0.2.1
def pj:=e0.2.2.1
def cd_:=e0.2.2.2.1
def g8:=e0.2.2.2.2.1
def L_:=e0.2.2.2.2.2
theorem T0:S0 k_ Φ_ pj cd_ g8 L_:=by
 intro K α σ nm lx dx pb W fd fs ob NJ ρ out J fin m0 NK s0 st LH RH T h0;refine cq (LH.f214.go) λobp pmp cdp docp JW hpd z=>cq (LH.f207.go) λobg pmg cdg docg P0 Ta z=>?_;have hk:1<=k_+3:=Nat.le_add_left 1 (k_+2);have tl:∀{l:List α} {j n:Nat},l.length+n<=4000->(l.take j).length+n<=4000:=λ{z z z} h=>aw (TI (kL ..) _) h;refine aC (OA (S:=λj o=>st o av NK (NK.take j) s0) (b0:=av) (xs:=NK.map λw=>V.str (nm w)) (λz z=>True) trivial (AA T.vw T.lm) hk (λi b o ho=>aA.mp ho▸T.lm) (λI i x b hx z hI=>?_) λb z=>?_)
 ·rw [aJ] at hx;refine aK (aL.mp hx) λw hw dO=>?_;subst dO;have hI:=hI (ae (.str (nm w))) trivial;rw [dF,hw] at hI;exact T.a1 (aC (ig (B7 LH.KO LH.m_put T.vl T.im RH.np JW hpd (cA (cf T.n1 (e8 (T.push (tl (n:=0) (aw (RH.len _ _ _ _ h0).1 (by decide))) (bC hI))))))))
 refine aj (ak ..) ?_;refine aj (cK ..) ?_;refine bC (aC (K1 (S:=λi o1 o2 ws s=>st o1 o2 ws (ws.drop i) s) (X:=λws=>ws.map λw=>V.str (nm w)) (a:=b) (b:=av) (c:=NK) (d:=s0) J h0 T.vw hk T.lm (λm i ws s h=>by refine aj (ak ..) ?_;exact (RH.len _ _ _ _ h).2) (λI m i o1 o2 ws s x hJ hx hI=>?_) λm o1 o2 ws s hJ=>?_))
 ·rw [aJ] at hx;refine aK (aL.mp hx) λw hw eT=>?_;subst eT;have hlt:i < ws.length:=(aB.mp hw).1;have SR:=(RH.len _ _ _ _ hJ).1;refine T.a1 (aj (show ws.drop i=w::ws.drop (i+1) by rw [dZ hlt,(aB.mp hw).2]) ?_);have Fg:(ws.drop (i+1)).length<=2000:=by refine aj (fY ..) ?_;lia
  refine aC (xU (Hs (pR LH.KO LH.m_get T.vl T.im RH.ng P0 Ta (T.take (aw Fg (by decide)) ⟨bZ (.str (nm w)),(nm w != nm w),T.n1,tC,?_⟩))));refine aj (show (nm w != nm w)=aH by simp) (bC ?_);refine aK (RH.step m i ws s w hJ hw) λm' hm' Um=>?_;have hl':=(RH.len _ _ _ _ Um).1;rw [ba] at hl';refine aC (K0 hk (KZ T.vd RH.fn (cA (cf T.n1 (e8 ⟨T.kn,T.deed hJ hw ⟨_,λj o2=>st (ae (.str (nm w))) o2 (ws++(out s ws w).2.take j) (ws.drop (i+1)++(out s ws w).2.take j) (out s ws w).1,o2,rfl,?_,λI' j x o2 hx hI'=>?_,λo2=>?_⟩⟩)))))
  ·dsimp only;refine aj (xr ..) ?_;refine aj (cy ..) ?_;refine aj (cy ..) ?_;rfl
  ·rw [aJ] at hx;refine aK (aL.mp hx) λu hu gi=>?_;subst gi;have hI':=hI' (ae (.str (nm u)));dsimp only at hI';rw [dF,hu,Am,<- bU,<- bU] at hI';have htk:((out s ws w).2.take j).length<=(out s ws w).2.length:=kL ..;exact T.a2 (aC (ig (B7 LH.KO LH.m_put T.vl T.im RH.np JW hpd (cA (cf T.n2 (e8 (T.push (by refine aj (ba ..) ?_;lia) (aC (ig (mZ T.vw (j5 T.lm) (au T.n2 aT) (T.app (by refine aj (ba ..) ?_;lia) (bC hI')) (by exact fQ) (by exact iT) (by exact iU) rfl))))))))))
  ·have hI:=hI m' (ae (.str (nm w))) o2 _ _ hm' Um;rw [gq hlt] at hI;dsimp only;refine aj (ak ..) ?_;refine aj (cK ..) ?_;exact bC (bC hI)
 ·rw [ak] at hJ ⊢;refine bC (aj (ox ..) ?_);exact T.last hJ
end qG
theorem qG:qG.S0 k Φ pm cd doc L:=by with_unfolding_all exact uE _ _ _ _ _ _ qG.S0 @qG.T0 k Φ pm cd doc L
theorem Qv(H:Hy G)(LH:fN G K)(RH:rW k nm lx dx pb W fd fs ob NJ ρ out J fin)(h0:J m0 0 NK s0)(hΦ:∀m ws s c nu,J m ws.length ws s->fin c nu ws s->Φ (.bool (c == close)) nu):
 FW (k+4) (bl W (NK.map λw=>V.str (nm w))::bl pb []::ρ s0) (.ref 297) [.ref lx,.ref W,.str close,.ref fd] Φ:=
 ti H H.f297 (names:=["lexer","line","close","deed"]) (vals':=λL=>[ae (.ref lx),ae (.ref W),ae (.str close),ae (.ref fd),av,av]) (λpm cd doc vs h=>RK h λa b c d=>rfl) (by decide+kernel) rfl
  (λpm cd doc L=> .cons (j:=0) .loc rfl (.cons (j:=1) .loc rfl (.cons (j:=2) .loc rfl (.cons (j:=3) .loc rfl .nil)))) (λpm cd doc L he=>qG LH RH (rn_ok H LH RH he hΦ) h0)
end
end
section
variable {v:bH}
theorem K2(H:Hy G){a:ay}{st:d6}{qual:bb}(F:nH G a st qual){names:List bb}{vals':ay->el}
 (i0:∀pm cd doc vs,vs.length=xs.length->pJ (Av st qual pm cd doc) ⟨vs,[]⟩=dg (names.zip vs)) (hnd:(aM 0 (bk st).names).nd) (hk:(bk st).kind= .function)
 (hb:∀pm cd doc L,i9 (dT (Av st qual pm cd doc) a L) L (aM (L+1) (bk st).names) names xs (nones (aM (L+1) (bk st).names)) (vals' L))
 (h:∀pm cd doc L,du (dT (Av st qual pm cd doc) a L)->WS k (bq L (aM (L+1) (bk st).names) (vals' L)::mu) (dT (Av st qual pm cd doc) a L) (fR st) (lE Φ)) (wy:autoParam ((bk st).isCoroutine=aH) aR) (mQ:autoParam ((bk st).isGenerator=aH) aR):
 FC (k+1) mu (.ref a) xs Φ:=by
 exact cq (F.go) λob pm cd doc h0 hd hcd=>Qr H.B (names:=names) (vals':=vals') (Kn.z0 h0) hd (λZ s r=>hcd _ r.z0in) rfl (i0 pm cd doc) hnd (λL=>⟨hk,rfl,rfl⟩) (hb pm cd doc) (λL=>h pm cd doc L ⟨hk,rfl,rfl⟩) wy mQ
theorem K3{fI:ay}(KO:FX G K)(hm:makesIn K C=aI)(hi:fJ K (.ref C) "__init__"=ae (ae (.ref fI)))(hf:typeIn K (.ref fI)=ae (.type "function"))
 (h:∀x dx,FC k (gH x C dx []::mu) (.ref fI) (.ref x::xs) λy nu=>y= .none/\Φ (.ref x) nu):FW (k+1) mu (.ref C) xs Φ:=⟨λ{A E Z s fr vs Q} hA r hv q=>by
 obtain ⟨hh,g,d,t,os⟩:=s;have X:K.In hh:=KO.inn _ r.z0in;refine eF (make_core (makes_of X hm) (mT X hi) (λself=>bind_fn X self hf) (.inl rfl) ?_);have r2:R Z (gH (hh.objs.size+1) C hh.objs.size []::(mu++fr)) ⟨(hh.push emptyDict).push (Ag C hh.objs.size),g,d,t,os⟩:=r.addNew (tk:=t) _ (λb o e=>az _ (az _ e)) ⟨by heap_get,[],0,by heap_get,trivial⟩ (cg.mpr ⟨λhm=>absurd (aA.mp hm) (ou _),eg⟩) λb hb=>(aP.mp hb).elim (λe=>e▸jC _) λhb=>kX hb;have hA':Rm k (A.under (.builtin "type.__call__" ⟨.ref C::vs,[]⟩)):=⟨hA.hh,by have:=hA.dep;show A.depth+1+k<=900;lia,by have:=hA.uni;show A.units+1+10*k<=9000;lia⟩;refine codeAny_mono ((h _ _).c (E:=E) (Q:=λw s'=>w= .none/\Q (.ref (hh.objs.size+1)) s') hA' r2 (.cons (.ref _) hv) λ{u u u u u} z hy r' w=>⟨aZ.noneE (w.1▸hy),q z (.ref _) r' w.2⟩) λres s' z=>?_;rcases res with e|(v|_|_|_) <;> first|exact z|exact (show False from z).elim⟩
theorem B8{f:bb}(KO:FX G K)(hk:keepIn K (.ref C)=aI)(hf:PE k mu env (.Name f p) (.ref C))(ha:Dv k mu env (e::es) λys nu=>FW k nu (.ref C) ys Φ)(hs:autoParam (kh (e::es)=aI) aR):
 WE k mu env (.Call (.Name f p) (e::es) [] pos) Φ:=⟨λ{A E Z s fr Q} hA r q=>by
 with_reducible refine gB ?_
 refine hf.c hA r λ{f s1 Z1} z1 q1 r1=>?_;rw [aZ.refE q1];exact callWith_K (KO.inn _ r1.z0in) hk (ha.c hA r1 λ{z z z z z} z2 q2 r2 w2=>⟨KO.inn _ r2.z0in,w2.c hA r2 q2 λ{z z z z z} z3=>q (z1.trans (z2.trans z3))⟩) (et (jt hs).1) (kY (jt hs).2 pos)⟩
end
def uT(K:fH):Prop:=
 (makesIn K 217=aI)/\
 (fJ K (.ref 217) "__init__"=ae (ae (.ref 193)))/\
 (typeIn K (.ref 193)=ae (.type "function"))/\
 (keepIn K (.ref 217)=aI)/\
 (makesIn K 245=aI)/\
 (fJ K (.ref 245) "__init__"=ae (ae (.ref 235)))/\
 (typeIn K (.ref 235)=ae (.type "function"))/\
 keepIn K (.ref 245)=aI
section
variable (h:uT K)
def uT.mk217:=@h.1
def uT.i217:=@h.2.1
def uT.t193:=@h.2.2.1
def uT.k217:=@h.2.2.2.1
def uT.mk245:=@h.2.2.2.2.1
def uT.i245:=@h.2.2.2.2.2.1
def uT.t235:=@h.2.2.2.2.2.2.1
def uT.k245:=@h.2.2.2.2.2.2.2
end
noncomputable def tm(n:Int)(fp:V)(pb:ay):List (bb×V):=[("lineno",.int n),("instream",fp),("whitespace",.str "\n\t\r "),("pushback",.ref pb)]
def RY(fp:V)(mu:Mu)(y:V)(nu:Mu):Prop:=∃lx dx pb,y= .ref lx/\nu=bl pb []::gH lx 217 dx (tm 1 fp pb)::mu
theorem K4(H:Hy G)(LH:fN G K)(NH:uT K):FW (k+3) mu (.ref 217) [x] (RY x mu):=by
 refine K3 LH.KO NH.mk217 NH.i217 NH.t193 λlx dx=>K2 H LH.f193 (names:=["self","fp"]) (vals':=λL=>[ae (.ref lx),ae x]) (λpm cd doc vs h=>?_) (by decide+kernel) rfl (λpm cd doc L=>?_) (λpm cd doc L he=>?_)
 ·exact zS h λa b=>rfl
 ·exact .cons (j:=0) .loc rfl (.cons (j:=1) .loc rfl .nil)
 refine aC (bX aU (rV LH.KO LH.s_line (ah (j:=0) he .loc aa rfl) (i:=1) rfl (by decide) ?_) rfl rfl);refine aC (bX (ah (j:=1) he .loc aa rfl) (rV LH.KO LH.s_in (ah (j:=0) he .loc aa rfl) (i:=1) rfl (bg rfl) ?_) rfl rfl);refine aC (bX cO (rV LH.KO LH.s_ws (ah (j:=0) he .loc aa rfl) (i:=1) rfl (bg rfl) ?_) rfl rfl);refine aC (b4 (sE (xs:=[]) aT (bg rfl) (λT=>fM.ref (rV LH.KO LH.s_push (ah (j:=0) he .loc (ab _ aa) rfl) (i:=2) rfl (bg rfl) ?_))) rfl rfl);refine bC (jJ.sub (nu':=bl T []::gH lx 217 dx (tm 1 x T)::mu) ?_ (jJ.keep ⟨rfl,lx,dx,T,rfl,rfl⟩));exact .cons_cons _ (.cons _ (.refl (gH lx 217 dx (tm 1 x T)::mu)))
def OB(x:V)(mu:Mu)(y:V)(nu:Mu):Prop:=∃ax dx,y= .ref ax/\nu=gH ax 245 dx [("comp_select_list",x)]::mu
theorem Iz(H:Hy G)(LH:fN G K)(NH:uT K):FW (k+3) mu (.ref 245) [x] (OB x mu):=by
 refine K3 LH.KO NH.mk245 NH.i245 NH.t235 λlx dx=>K2 H LH.f235 (names:=["self","comp_select_list"]) (vals':=λL=>[ae (.ref lx),ae x]) (λpm cd doc vs h=>?_) (by decide+kernel) rfl (λpm cd doc L=>?_) (λpm cd doc L he=>?_)
 ·exact zS h λa b=>rfl
 ·exact .cons (j:=0) .loc rfl (.cons (j:=1) .loc rfl .nil)
 refine aC (bX (ah (j:=1) he .loc aa rfl) (rV LH.KO LH.s_comp (ah (j:=0) he .loc aa rfl) (i:=1) rfl (by decide) ?_) rfl rfl);exact bC (jJ.tail (jJ.keep ⟨rfl,lx,dx,rfl,rfl⟩))
variable {prog:dB}{w:d9}{A:bh}{E Q:ai->aq->Prop}
theorem FY{it l:ay}{i:Nat}{items:Array ai}{x d:ai}(hit:s.heap.IsListIter it l i)(hl:s.heap.IsList l items)(hx:items[i]? =ae x)(hQ:∀h',h'.IsListIter it l (i+1)->ji it s.heap h'->Q x {s with heap:=h'}):
 aS (aX prog w) A (ku (.builtin "next") [.ref it,d]) Q E s:=by
 refine gv (by decide+kernel) (by decide+kernel) E6 (kdk_args_next2 _ _) ?_;unfold Builtin.«next»
 refine ag (m:=CL "next" 1 2 _) (cN (a:=[cY it,d]) (by first|rfl|kernel_rfl!) ?_);dsimp only;refine ag (h8 (name:=fc "__next__") hit.typeIs slot_listiter_next.lookup ?_);refine f5 (λxb=>absurd xb (by decide)) (λz=>?_);refine ag (zv hit hl hx λh' h1 h2=>?_);exact ar ⟨_,rfl,hQ h' h1 h2⟩
theorem IA{it l:ay}{i:Nat}{items:Array ai}{d:ai}(hh:A.handled=av)(hit:s.heap.IsListIter it l i)(hl:s.heap.IsList l items)(hx:items[i]? =av)(hQ:∀h',ry it s.heap h'->Q d {s with heap:=h'}):
 aS (aX prog w) A (ku (.builtin "next") [.ref it,d]) Q E s:=by
 refine gv (by decide+kernel) (by decide+kernel) E6 (kdk_args_next2 _ _) ?_;unfold Builtin.«next»
 refine ag (m:=CL "next" 1 2 _) (cN (a:=[cY it,d]) (by first|rfl|kernel_rfl!) ?_);dsimp only;refine ag (h8 (name:=fc "__next__") hit.typeIs slot_listiter_next.lookup ?_);refine f5 (λxb=>absurd xb (by decide)) (λz=>?_);refine ag (Aj hh hit hl hx λh' h1=>?_);exact ar ⟨_,rfl,hQ h' h1⟩
structure B9(h h':dH)(e:ay):Prop where
 keeps:∀b o,h.get? b=ae o->h'.get? b=ae o
 new:h.get? e=av
 there:∃t,h'.get? e=ae {cls:= .type "StopIteration",data:= .fields (#[.ref t,.none,.none,.none,.bool aH,.none]++ownMembersOf (.type "StopIteration") [])}/\h.get? t=av/\h'.get? t=ae {cls:= .type "tuple",data:= .seq #[]}
noncomputable abbrev tup0:o6:={cls:= .type "tuple",data:= .seq #[]}
noncomputable abbrev stopO(t:ay):o6:={cls:= .type "StopIteration",data:= .fields (#[.ref t,.none,.none,.none,.bool aH,.none]++ownMembersOf (.type "StopIteration") [])}
theorem nI{α:Type}{prog:dB}{w:d9}{A:bh}{Q:α->aq->Prop}{E:ai->aq->Prop}{s:aq}(hh:A.handled=av)
 (h:E (.ref (s.heap.push tup0).objs.size) {s with heap:=(s.heap.push tup0).push (stopO s.heap.objs.size)}):aS (aX prog w) A (TM (.type "StopIteration") [] >>=raiseNew) Q E s:=by
 refine ag ?_;delta TM newTuple;refine ag (jg ?_ (by size_fits));refine ag (m:=firstArgMember _ _) (cN (a:=eG) rfl ?_);refine jg ?_ (by size_fits);delta raiseNew;refine ag (wpAny_handled ?_);refine aj (hh ..) ?_;exact ag (ar (wpAny_throw h))
theorem FZ{it:ay}{b:Array UInt8}{t:HX}{i:Nat}{c:UInt8}(hit:By s.heap it b t i)(hx:b[i]? =ae c)
 (hQ:∀h',By h' it b t (i+1)->ji it s.heap h'->Q (.int (c.toNat:Int) s.toks) {s with heap:=h',toks:=s.toks+1}):aS (aX prog w) A (ku (.builtin "next") [.ref it]) Q E s:=by
 refine gv (by decide+kernel) (by decide+kernel) E6 (kdk_args_next _) ?_;unfold Builtin.«next»
 refine ag (m:=CL "next" 1 2 _) (cN (a:=[cY it]) (by first|rfl|kernel_rfl!) ?_);dsimp only;refine ag (h8 (name:=fc "__next__") (oo hit) rA.lookup ?_);refine f5 (λxb=>absurd xb (by decide)) (λz=>?_);refine ef (id hit) λo ho hc hd=>ag (dX (name:=Ao "__next__") (oo hit) rA
  (dp rA (oo hit) KBw.entry_next ?_ (KBw.args_next _)))
 show aS _ _ (vH (.ref it) 0 >>=_) _ _ s;refine ag (dS ho hd (x:= .bytes b t) rfl ?_);show aS _ _ (if (CM b t == eG)=aI then _ else _) _ _ s;refine aj (if_neg (show ¬((CM b t == eG)=aI) from cF)) ?_;show aS _ _ (vH (.ref it) 1 >>=_) _ _ s;refine ag (dS ho hd (x:= .int i 0) rfl ?_);refine ag (cN (a:=b) rfl ?_);simp only [b8,hx];refine ag (eH ho hd (by exact bp _) (ag (wpAny_mkInt (ar ⟨_,rfl,ar ⟨_,rfl,hQ _ ?_ (bY ..)⟩⟩))));exact ⟨_,bS _ ho (iW (dP hd _)),(pL ..).trans hc,by refine aj (dP hd ..) ?_;simp [pE]⟩
theorem IB{it:ay}{b:Array UInt8}{t:HX}{i:Nat}(hh:A.handled=av)(hit:By s.heap it b t i)(hx:b[i]? =av)
 (hE:∀h1 h' e,ry it s.heap h1->B9 h1 h' e->E (.ref e) {s with heap:=h'}):aS (aX prog w) A (ku (.builtin "next") [.ref it]) Q E s:=by
 refine gv (by decide+kernel) (by decide+kernel) E6 (kdk_args_next _) ?_;unfold Builtin.«next»
 refine ag (m:=CL "next" 1 2 _) (cN (a:=[cY it]) (by first|rfl|kernel_rfl!) ?_);dsimp only;refine ag (h8 (name:=fc "__next__") (oo hit) rA.lookup ?_);refine f5 (λxb=>absurd xb (by decide)) (λz=>?_);refine ef (id hit) λo ho hc hd=>ag (dX (name:=Ao "__next__") (oo hit) rA
  (dp rA (oo hit) KBw.entry_next ?_ (KBw.args_next _)))
 show aS _ _ (vH (.ref it) 0 >>=_) _ _ s;refine ag (dS ho hd (x:= .bytes b t) rfl ?_);show aS _ _ (if (CM b t == eG)=aI then _ else _) _ _ s;refine aj (if_neg (show ¬((CM b t == eG)=aI) from cF)) ?_;show aS _ _ (vH (.ref it) 1 >>=_) _ _ s;refine ag (dS ho hd (x:= .int i 0) rfl ?_);refine ag (cN (a:=b) rfl ?_);simp only [b8,hx];refine ag (oj (ag (eH ho hd (by simp) ?_)));show aS _ _ (TM (.type "StopIteration") [] >>=_) _ _ _;refine nI hh ?_;refine hE (s.heap.update it _) _ _ (bY ..).extBut ⟨λb o e=>az _ (az _ e),Heap.get?_none_of_le (by refine aj (fO ..) ?_;exact jC _),(s.heap.update it _).objs.size,aW _ rfl,Heap.get?_none_of_le (bp _),az _ (aW _ rfl)⟩
theorem B9.made{h h':dH}{e:ay}(S:B9 h h' e):TN h h' e (.type "StopIteration") []:=
 ⟨S.keeps,S.new,let ⟨t,h1,h2,h3⟩:=S.there;⟨t,h1,h2,h3⟩⟩
variable {it:ay}{bs:List Nat}
section
variable {c:Nat}
noncomputable def jK(it:ay)(bs:List Nat):cX where
 own:=[it]
 sat:=λZ h=>∃b t i,By h it b t i/\(b.toList.drop i).map pM=bs
 mono:=λZ Z' h hz a=>a
 loc:=λZ h h' w hk z z=>w.imp λb=>bQ λt=>bQ λi u=>⟨u.1.imp λo v=>⟨hk it aa o v.1,v.2⟩,u.2⟩
 live:=λZ h w a ha=>w.elim λb w=>w.elim λt w=>w.elim λi u=>u.1.elim λo v=>⟨o,aA.mp ha▸v.1⟩
theorem AQ{α:Type}{l:List α}{j:Nat}{a:α}{r:List α}(h:l.drop j=a::r):l[j]? =ae a/\l.drop (j+1)=r:=
 ⟨by (refine fZ (List.head?_drop ..) ?_;refine aj (h ..) ?_);rfl,by (refine fZ (JK ..) ?_;refine aj (h ..) ?_);rfl⟩
theorem DM{α:Type}{l:Array α}{j:Nat}(h:l.toList.drop j=[]):l[j]? =av:=Qa (eK▸List.drop_eq_nil_iff.mp h)
theorem uU(hi:mu[i]? =ae (jK it (c::bs)))(h:Φ (.int c) (mu.set i (jK it bs))):BX k mu (.builtin "next") [bZ (.ref it)] Φ:=⟨λ{A E Z s fr vs Q} hA r hq q=>by
 refine aK (hq.one) λv dO q1=>?_;subst dO;refine aj (aZ.refE q1 ..) ?_;have hi':=cH (fr:=fr) hi;refine oH (r.sat _ (ao hi')) λb t j I e=>?_;cases hd:b.toList.drop j with
 |nil=>rw [hd] at e;exact Rb e
 |cons u l=>
 rw [hd] at e;exact dU (s8 e) λe1 e2=>dU (AQ hd) λhx hd=>FZ I (bV.symm.trans hx) λh' I' hs=>q .rfl (e1▸aZ.int _ _) (gE hi▸r.upd' hi' rfl (λa o hb e=>hs.extBut a o (λq=>hb (q▸aa)) e) ⟨b,t,j+1,I',hd▸e2⟩) h⟩
noncomputable def mU(it:ay)(xs:List V):cX where
 own:=[it]
 sat:=λZ h=>∃l vs n i,h.IsListIter it l i/\Z l=ae (oK vs n)/\bW G Z (vs.toList.drop i) xs
 mono:=λZ Z' h hz w=>w.imp λl=>bQ λvs=>bQ λn=>bQ λi u=>⟨u.1,hz _ _ u.2.1,u.2.2.mono hz⟩
 loc:=λZ h h' w hk z z=>w.imp λl=>bQ λvs=>bQ λn=>bQ λi u=>⟨u.1.imp λo v=>⟨hk it aa o v.1,v.2⟩,u.2⟩
 live:=λZ h w a ha=>w.elim λl w=>w.elim λvs w=>w.elim λn w=>w.elim λi u=>u.1.elim λo v=>⟨o,aA.mp ha▸v.1⟩
theorem K5(hi:mu[i]? =ae (mU it (x::xs)))(h:Φ x (mu.set i (mU it xs))):BX k mu (.builtin "next") [bZ (.ref it),bZ y] Φ:=⟨λ{A E Z s fr vs Q} hA r hq q=>by
 refine cC (hq.two) λv u eT q1 q2=>?_;subst eT;refine aj (aZ.refE q1 ..) ?_;have hi':=cH (fr:=fr) hi;exact cq (r.sat _ (ao hi')) λl vs n j I hl hr=>cC (hr.cons_inv) λw ws hd h1 h2=>dU (AQ hd) λhx hd=>FY I (⟨_,r.zin _ _ hl,rfl,n,rfl⟩:s.heap.IsList l vs) (bV.symm.trans hx) λh' I' hs=>q .rfl h1 (gE hi▸r.upd' (tk:=s.toks) hi' rfl (λa o hb e=>hs.extBut a o (λq=>hb (q▸aa)) e) ⟨l,vs,n,j+1,I',hl,hd▸h2⟩) h⟩
end
noncomputable def pS:cX where
 own:=[]
 sat:=λz z=>True
 mono:=λz z z z z=>trivial
 loc:=λz z z z z z z=>trivial
 live:=λz z z z hb=>eo hb
theorem R.dead{Z:bI}{s:aq}{h':dH}{tk:Nat}{a:cX}(r:R Z mu s)(hi:mu[i]? =ae a)(hk:∀b o,b∉a.own->s.heap.get? b=ae o->h'.get? b=ae o):R Z (mu.set i (pS)) {s with heap:=h',toks:=tk}:=r.swap hi (pS) hk trivial .nil λb hb=>eo hb
theorem IC(hi:mu[i]? =ae (mU it []))(h:Φ y (mu.set i (pS))):BX k mu (.builtin "next") [bZ (.ref it),bZ y] Φ:=⟨λ{A E Z s fr vs Q} hA r hq q=>by
 refine cC (hq.two) λv u gi q1 q2=>?_;subst gi;refine aj (aZ.refE q1 ..) ?_;have hi':=cH (fr:=fr) hi;exact cq (r.sat _ (ao hi')) λl vs n j I hl hr=>IA hA.hh I (⟨_,r.zin _ _ hl,rfl,n,rfl⟩:s.heap.IsList l vs) (DM hr.nil_inv) λh' hs=>q .rfl q2 (gE hi▸R.dead (tk:=s.toks) r hi' λa o hb e=>hs a o (λq=>hb (q▸aa)) e) h⟩
variable {v:ai}{fr:Mu}{M:zG}
section
variable {Z':bI}{l outer:List gV}
theorem DN{x y:cX}{b:ay}{mu:Mu}(hn:(gT mu).Nodup)(hx:x∈mu)(hy:y∈mu)(bx:b∈x.own)(by':b∈y.own):x=y:=by
 induction mu with
 |nil=>exact eo hx
 |cons z mu ih=>
  have SQ:=bP.mp (show (z.own++gT mu).Nodup from hn);have qm:∀w:cX,w∈mu->b∈w.own->b∈gT mu:=λw hw hb=>bG.mpr ⟨w,hw,hb⟩;rcases aP.mp hx with h1|h1 <;> rcases aP.mp hy with h2|h2
  ·exact h1.trans h2.symm
  ·exact absurd rfl (SQ.2.2 b (h1▸bx) b (qm _ h2 by'))
  ·exact absurd rfl (SQ.2.2 b (h2▸by') b (qm _ h1 bx))
  ·exact ih SQ.2.1 h1 h2
def zU(env:gV)(mu:Mu):Prop:=∃lay bB,bq env.locals lay bB∈mu
structure FrOK(env:gV)(mu:Mu):Prop where
 kind:env.scope.kind≠ .module
 frame:env.frame=ae env.locals
 has:zU env mu
def ia(l:List gV)(mu:Mu):Prop:=∀env∈l,FrOK env mu
theorem zU.mono(h:zU env mu)(hs:∀x∈mu,x∈nu):zU env nu:=let ⟨a,b,c⟩:=h;⟨a,b,hs _ c⟩
theorem ia.mono(h:ia l mu)(hs:∀x∈mu,x∈nu):ia l nu:=λe he=>⟨(h e he).kind,(h e he).frame,(h e he).has.mono hs⟩
theorem ia.right(h:ia l fr):ia l (nu++fr):=h.mono λx hx=>bL _ hx
theorem ia.cons(h:ia l mu)(he:FrOK env mu):ia (env::l) mu:=λe hm=>by
 rcases aP.mp hm with rfl|hm
 ·exact he
 ·exact h e hm
theorem ia.tail(h:ia (env::l) mu):ia l mu:=λe hm=>h e (ab _ hm)
structure Up(l:List gV)(Z:bI)(mu:Mu)(base h0 h:dH):Prop where
 keepZ:∀a o,Z a=ae o->base.get? a=ae o
 keepO:∀b∈gT mu,b∉l.filterMap (·.frame)->∀o,h0.get? b=ae o->base.get? b=ae o
 up:h0.UpToSlots h
theorem Up.on{base h0 h h':dH}(U:Up l Z mu base h0 h)(hu:h.UpToSlots h'):Up l Z mu base h0 h':=⟨U.keepZ,U.keepO,U.up.trans hu⟩
theorem R.reslot{h0 base:dH}{tx:Nat}(r:R Z mu {s with heap:=h0,toks:=tx})(U:Up l Z mu base h0 s.heap)(GF:base.StaysIn s.heap)(hf:ia l mu):R Z mu s where
 z0:=r.z0
 zin:=λa o e=>GF a o (U.keepZ a o e)
 sat:=λx hx=>by
  have hz:∀a o,Z a=ae o->s.heap.get? a=ae o:=λa o e=>GF a o (U.keepZ a o e);by_cases hm:∃b∈x.own,b∈l.filterMap (·.frame)
  ·refine aK hm λb hb hl=>?_;clear hm;refine aK (fV.mp hl) λenv he hb'=>?_;obtain ⟨_,h2,lay,bB,h3⟩:=hf env he;rw [h2] at hb';injection hb' with hb'
   have hxe:x=bq env.locals lay bB:=DN r.nodup hx h3 hb (by refine fZ (hb' ..) ?_;exact aa);subst hxe;refine mI (r.sat _ hx) λnd m hn hs=>⟨nd,m,U.up.ns hn,hs.loc (λc hc o ho=>?_) λz z=>rfl⟩
   have qf:(env.locals::lay.filterMap (·.2)).Nodup:=by exact cJ (Tv hx) λi hi=>r.ownNodup hi
   have wy:c∈gT mu:=bG.mpr ⟨_,hx,ab _ hc⟩;refine GF c o (U.keepO c wy (λQV=>?_) o ho);refine aK (fV.mp QV) λM5 he2 hc2=>?_;obtain ⟨_,h5,Tb,vals2,h6⟩:=hf M5 he2;rw [h5] at hc2;injection hc2 with hc2
   have hxe2:bq env.locals lay bB=bq M5.locals Tb vals2:=DN r.nodup hx h6 (ab _ hc) (by refine fZ (hc2 ..) ?_;exact aa);have hoo:(bq env.locals lay bB).own=(bq M5.locals Tb vals2).own:=by (refine aj (hxe2 ..) ?_;rfl)
   have hL:env.locals=M5.locals:=(s8 (show env.locals::lay.filterMap (·.2)=M5.locals::Tb.filterMap (·.2) from hoo)).1;exact (cg.mp qf).1 (by (refine aj (hL ..) ?_;refine aj (hc2 ..) ?_);exact hc)
  ·refine x.loc _ _ _ (r.sat x hx) (λb hb o ho=>GF b o (U.keepO b (bG.mpr ⟨x,hx,hb⟩) (λhl=>hm ⟨b,hb,hl⟩) o ho)) r.zin hz
 nodup:=r.nodup
 sep:=r.sep
 gens:=r.gens
 os:=r.os
noncomputable abbrev K6:ai:= .type "StopIteration"
def Qw(Z:bI)(mu:Mu)(v:ai)(s:aq):Prop:=∃e h0 tx,v= .ref e/\R Z mu {s with heap:=h0,toks:=tx}/\TN h0 s.heap e K6 []
def ID(l:List gV)(L:ay)(Z:bI)(mu:Mu)(v:ai)(s:aq):Prop:=∃e t base h0 tx,v= .ref e/\R Z mu {s with heap:=h0,toks:=tx}/\Up l Z mu base h0 s.heap/\Heap.HeldW base l e K6 (.ref t) L s.heap
def jP(l:List gV)(Z:bI)(mu:Mu)(v:ai)(s:aq):Prop:=∃e t base h0 tx,v= .ref e/\R Z mu {s with heap:=h0,toks:=tx}/\Up l Z mu base h0 s.heap/\Heap.FlyingW base l e K6 (.ref t) s.heap
def Exn(l:List gV)(L:ay)(Z:bI)(mu:Mu)(v:ai)(s:aq):Prop:=Qw Z mu v s\/ID l L Z mu v s\/jP l Z mu v s
theorem R.funs{h0:dH}{tx:Nat}(r:R Z mu {s with heap:=h0,toks:=tx}){l:List gV}(hf:ia l mu)(as:List ay)(qm:∀e∈l,∀a,e.frame=ae a->a∈as):h0.FunFrames (UF h0 as) l:=by
 induction l with
 |nil=>trivial
 |cons env l ih=>obtain ⟨h1,h2,lay,bB,h3⟩:=hf env aa;refine mI (r.sat _ h3) λnd m hn hs=>cE hn λo es ep ho hd z=>?_;clear hn;exact ⟨h1,⟨env.locals,o,h2,hideAll_none _ (qm env aa _ h2),ho,λvs q=>by rw [hd] at q;cases q⟩,ih hf.tail λe he=>qm e (ab _ he)⟩
theorem R.up0{h0:dH}{tx:Nat}(r:R Z mu {s with heap:=h0,toks:=tx})(hf:ia l mu):Up l Z mu (UF h0 (l.filterMap (·.frame))) h0 h0 where
 keepZ:=λa o e=>hideAll_get _ (r.zin a o e) λhm=>by
  refine aK (fV.mp hm) λenv he hf'=>?_;obtain ⟨_,h2,lay,bB,h3⟩:=hf env he;rw [h2] at hf';injection hf' with hf'
  have:=r.sep a (bG.mpr ⟨_,h3,by refine fZ (hf' ..) ?_;exact aa⟩);rw [this] at e;exact gK e
 keepO:=λb hb hn o ho=>hideAll_get _ ho hn
 up:=Heap.UpToSlots.refl _
section
variable {Q:Unit->aq->Prop}
theorem K7{h h':dH}{e:ay}{cls:ai}{args:List ai}(x:TN h h' e cls args):∃t,h'.get? e=ae {cls:=cls,data:= .fields #[.ref t,.none,.none,.none,.bool aH,.none]}/\h.get? t=av/\h'.get? t=ae {cls:= .type "tuple",data:= .seq args.toArray}:=x.there
theorem Up.leave{base h0 h:dH}(iD:env.frame=ae env.locals)(U:Up (env::l) Z mu base h0 h)(hs:nu.Sublist mu)(hL:env.locals∉gT nu){h':dH}(hu:h0.UpToSlots h'):Up l Z nu base h0 h':=
 ⟨U.keepZ,λb hb hn o ho=>U.keepO b (bG.mpr ((bG.mp hb).imp λx w=>⟨hs.subset w.1,w.2⟩)) (λhm=>by
  rw [qp,iD] at hm;exact (aP.mp hm).elim (λe=>hL (e▸hb)) hn) o ho,hu⟩
theorem DO(hA:A.frames=ae (env::l))(hf:ia (env::l) mu)(h:Qw Z mu v s)(hs:nu.Sublist mu)(hL:env.locals∉gT nu)(hQ:∀s',jP l Z nu v s'->Q () s'):aS M A (JB env v) Q E s:=by
 refine cE h λe h0 tx dO r x=>?_;clear h;subst dO;have iD:=(hf env aa).frame;have U:=r.up0 hf;exact wpAny_leaves_madeW (base:=UF h0 ((env::l).filterMap (·.frame))) hA iD (λb o q=>of_hideAll _ q) (r.funs hf _ λe he a ha=>fV.mpr ⟨e,he,ha⟩) x λh' t f1 f2 f3 f4=>hQ _
  ⟨e,t,_,h0,tx,rfl,r.sublist hs,U.leave iD hs hL ((Heap.UpToSlots.of_keeps x.keeps).trans f4),f1⟩
theorem F0(hA:A.frames=ae (env::l))(iD:env.frame=ae env.locals)(h:ID (env::l) env.locals Z mu v s)(hs:nu.Sublist mu)(hL:env.locals∉gT nu)(hQ:∀s',jP l Z nu v s'->Q () s'):aS M A (JB env v) Q E s:=by refine iK h λe t base h0 tx eT r U x=>?_;clear h;subst eT;unfold JB;refine ag (wpAny_noteFrame_againW iD x.2.2.2 ?_);exact wpAny_landsW x λh' PX hup=>hQ _ ⟨e,t,base,h0,tx,rfl,r.sublist hs,U.leave iD hs hL (U.up.trans hup),PX.1,PX.2.1,PX.2.2.1.2.2,PX.2.2.2⟩
theorem Ca(hA:A.frames=ae (env::l))(iD:env.frame=ae env.locals)(h:jP (env::l) Z mu v s)(hs:nu.Sublist mu)(hL:env.locals∉gT nu)(hQ:∀s',jP l Z nu v s'->Q () s'):aS M A (JB env v) Q E s:=by refine iK h λe t base h0 tx gi r U x=>?_;clear h;subst gi;exact wpAny_leaves_onW hA iD x λh' PX hup=>hQ _ ⟨e,t,base,h0,tx,rfl,r.sublist hs,U.leave iD hs hL (U.up.trans hup),PX⟩
theorem IE(hA:A.frames=ae (env::l))(hf:ia (env::l) mu)(h:Exn (env::l) env.locals Z mu v s)(hs:nu.Sublist mu)(hL:env.locals∉gT nu)(hQ:∀s',jP l Z nu v s'->Q () s'):aS M A (JB env v) Q E s:=by
 have iD:=(hf env aa).frame;rcases h with h|h|h
 ·exact DO hA hf h hs hL hQ
 ·exact F0 hA iD h hs hL hQ
 ·exact Ca hA iD h hs hL hQ
def mr.S0(Z:bI)(mu:Mu)(s:aq)(l:List gV)(env:gV)(_:Nat):Prop:=∀{v:ai} {M:zG} {A:bh} {E:ai->aq->Prop} {Q:Unit->aq->Prop} (hA:A.frames=ae (env::l)) (hf:ia (env::l) mu) (h:Exn (env::l) env.locals Z mu v s) (hQ:∀s',ID (env::l) env.locals Z mu v s'->Q () s'),aS M A (noteFrame v env) Q E s
namespace mr
@[irreducible] def e0:=Fq Rk gD zM gD neE eN S0
def Z_:=e0.1
def e9:=e0.2.1
def s_:=e0.2.2.1
def l_:=e0.2.2.2.1
def K8:=e0.2.2.2.2.1
theorem T0:S0 Z_ e9 s_ l_ K8 e0.2.2.2.2.2:=by
 intro v M A E Q hA hf h hQ;have iD:=(hf K8 aa).frame;rcases h with h|h|h
 ·refine cE h λe h0 tx iC r x=>?_;clear h;subst iC;have U:=r.up0 hf;refine ef (K7 x) λt he htn ht=>?_;have zp:∀b,h0.get? b=av->(UF h0 ((K8::l_).filterMap (·.frame))).get? b=av:=λb hb=>by
   cases hq:(UF h0 ((K8::l_).filterMap (·.frame))).get? b with
   |none=>rfl
   |some o=>have:=of_hideAll _ hq;rw [hb] at this;exact gK this
  unfold noteFrame;simp only [iD];refine ag (dS he rfl (x:= .none) rfl ?_);refine aj (if_neg (by decide) ..) (wpAny_entryW (base:=UF h0 ((K8::l_).filterMap (·.frame))) hA ((r.funs hf _ λe he a ha=>fV.mpr ⟨e,he,ha⟩).of_keeps λb o hb z=>⟨o,x.keeps b o hb,rfl⟩) iD he (λb o q=>x.keeps b o (of_hideAll _ q)) (zp e x.new) rfl (by show 1 < 6;decide) rfl λh' hN=>hQ _ ?_);refine Q9 hN λk1 k2 k3 k4=>?_;clear hN;exact ⟨e,t,_,h0,tx,rfl,r,⟨U.keepZ,U.keepO,(Heap.UpToSlots.of_keeps x.keeps).trans k4⟩,k1,zp e x.new,k2,k3⟩
 ·refine iK h λe t base h0 tx kG r U x=>?_;clear h;subst kG;exact wpAny_noteFrame_againW iD x.2.2.2 (hQ _ ⟨e,t,base,h0,tx,rfl,r,U,x⟩)
 ·refine iK h λe t base h0 tx ma r U x=>?_;clear h;subst ma;exact wpAny_looks_onW hA iD x λh' hh hu=>hQ _ ⟨e,t,base,h0,tx,rfl,r,U.on hu,hh⟩
end mr
theorem mr:mr.S0 Z mu s l env 0:=by with_unfolding_all exact uE _ _ _ _ _ _ mr.S0 @mr.T0 Z mu s l env 0
theorem IF(h:ID l L Z mu v s)(hQ:∀s',jP l Z mu v s'->Q () s'):aS M A (setFlight v av) Q E s:=by refine iK h λe t base h0 tx mE r U x=>?_;clear h;subst mE;exact wpAny_landsW x λh' hh hu=>hQ _ ⟨e,t,base,h0,tx,rfl,r,U.on hu,hh⟩
theorem DP(h:jP l Z mu v s)(hQ:∀s',jP l Z mu v s'->Q () s'):aS M A (setFlight v av) Q E s:=by refine iK h λe t base h0 tx q8 r U x=>?_;clear h;subst q8;exact lands_againW x λh' hh hu=>hQ _ ⟨e,t,base,h0,tx,rfl,r,U.on hu,hh⟩
theorem IG{E':ai->aq->Prop}(iD:env.frame=ae L)(h:ID l L Z mu v s)(hQ:∀s',ID l L Z mu v s'->E' v s'):GR M A env E' v s:=by
 obtain ⟨e,t,base,h0,tx,rfl,r,U,x1,x2,x3,oe,vs,T,oT,ts,he,hc,hd,h1,hnT,hTe,hT,hdT,h3⟩:=h;unfold GR;refine aj (iD ..) (ag (dS he hd h1 ?_));refine aj (if_neg (by simp) ..) ?_;unfold setFlight;refine ag (dS he hd h1 ?_);refine aj (if_pos (show (cY T != eG)=aI from by rfl)) ?_;have hsz3:3 < ts.size:=(rx.mp h3).1;refine eH hT hdT hsz3 (hQ _ ?_);have other:∀b,b≠T->(s.heap.update T (Fl (·.setIfInBounds 3 ((ae L).elim eG λf=>pE f)))).get? b=s.heap.get? b:=λb hb=>iF _ _ (gf hb);have EU:∀b o,s.heap.get? b=ae o->(∀vs,o.data≠ .fields vs)->b≠T:=λb o hb CB q=>by
  rw [q,hT] at hb;injection hb with hb;subst hb;exact CB ts hdT
 refine ⟨e,t,base,h0,tx,rfl,r,U.on λb o hb hn=>⟨o.slots,(other b (EU b o hb hn)).trans hb⟩,λb o hbo=>(other b λq=>by rw [q,hnT] at hbo;exact gK hbo).trans (x1 b o hbo),x2,x3.of_keeps λb o hb CB=>⟨o,(other b (EU b o hb CB)).trans hb,rfl⟩,?_⟩;exact ⟨oe,vs,T,_,_,(other e (gf hTe)).trans he,hc,hd,h1,hnT,hTe,bS _ hT (iW (dP hdT _)),dP hdT _,by simp [hsz3]⟩
theorem jP.now(h:jP l Z mu v s)(hf:ia l mu):∃e,v= .ref e/\R Z mu s/\s.TypeIs (.ref e) "StopIteration":=by refine iK h λe t base h0 tx mP r U x=>?_;clear h;subst mP;refine ⟨e,rfl,r.reslot U x.1 hf,?_⟩;exact aK (x.there) λob h1 h2=>⟨ob,h1,h2⟩
end
end
section
variable {Θ:AF->Mu->Prop}{Ψ:Mu->Prop}{j:Nat}{lay:Ax}{bB:el}
theorem Exn.nodup{l:List gV}{v:ai}(h:Exn l L Z mu v s):(gT mu).Nodup:=by rcases h with ⟨_,_,_,_,r,_⟩|⟨_,_,_,_,_,_,r,_⟩|⟨_,_,_,_,_,_,r,_⟩ <;> exact r.nodup
theorem jP.perm{l:List gV}{v:ai}(h:jP l Z mu v s)(hp:mu.Perm nu):jP l Z nu v s:=by
 refine iK h λe t base h0 tx dO r U x=>?_;clear h;subst dO;exact ⟨e,t,base,h0,tx,rfl,r.perm hp,⟨U.keepZ,λb hb=>U.keepO b (by exact aK (bG.mp hb) λy hy hb=>bG.mpr ⟨y,hp.mem_iff.mpr hy,hb⟩),U.up⟩,x⟩
structure RT(k:Nat)(mu:Mu)(env:gV){α:Type}(t:mF α)(Ψ:Mu->Prop):Prop where
 c:∀{A:bh} {Z:bI} {s:aq} {fr:Mu} {outer:List gV} {F:α->aq->Prop} {T:ai->aq->Prop},Rm k A->A.frames=ae (env::outer)->ia outer fr->R Z (mu++fr) s->
  (∀{v s' Z' nu},Z.le Z'->zU env nu->Exn (env::outer) env.locals Z' (nu++fr) v s'->Ψ nu->T v s')->aS (aX G.prog G.w) A t F T s
structure RFW(k:Nat)(mu:Mu)(f:ai)(xs:List V)(Ψ:Mu->Prop):Prop where
 c:∀{A:bh} {Z:bI} {s:aq} {fr:Mu} {l:List gV} {vs:List ai} {F T:ai->aq->Prop},Rm k A->A.frames=ae l->ia l fr->R Z (mu++fr) s->bW G Z vs xs->
  (∀{v s' Z' nu},Z.le Z'->jP l Z' (nu++fr) v s'->Ψ nu->T v s')->aS (aX G.prog G.w) A (ku f vs) F T s
structure Wf(k:Nat)(mu:Mu)(env:gV)(t:mF uk)(Θ:AF->Mu->Prop):Prop where
 c:∀{A:bh} {E:ai->aq->Prop} {Z:bI} {s:aq} {fr:Mu} {outer:List gV} {Q:uk->aq->Prop},Rm k A->A.frames=ae (env::outer)->ia outer fr->R Z (mu++fr) s->
  (∀{f s' Z' a nu},Z.le Z'->o7 G Z' f a->R Z' (nu++fr) s'->Θ a nu->Q f s')->aS (aX G.prog G.w) A t Q E s
structure WVf(k:Nat)(mu:Mu)(env:gV)(t:mF ai)(Φ:V->Mu->Prop):Prop where
 c:∀{A:bh} {E:ai->aq->Prop} {Z:bI} {s:aq} {fr:Mu} {outer:List gV} {Q:ai->aq->Prop},Rm k A->A.frames=ae (env::outer)->ia outer fr->R Z (mu++fr) s->
  (∀{v s' Z' x nu},Z.le Z'->aZ G Z' v x->R Z' (nu++fr) s'->Φ x nu->Q v s')->aS (aX G.prog G.w) A t Q E s
structure JS(k:Nat)(mu:Mu)(f:ai)(xs:List V)(Φ:V->Mu->Prop):Prop where
 c:∀{A:bh} {E:ai->aq->Prop} {Z:bI} {s:aq} {fr:Mu} {l:List gV} {vs:List ai} {Q:ai->aq->Prop},Rm k A->A.frames=ae l->ia l fr->R Z (mu++fr) s->bW G Z vs xs->
  (∀{w s' Z' y nu},Z.le Z'->aZ G Z' w y->R Z' (nu++fr) s'->Φ y nu->Q w s')->aS (aX G.prog G.w) A (ku f vs) Q E s
abbrev ym(k:Nat)(mu:Mu)(env:gV)(st:List d6)(Θ:AF->Mu->Prop):Prop:=Wf k mu env (Jx st env) Θ
abbrev WXf(k:Nat)(mu:Mu)(env:gV)(st:d6)(Θ:AF->Mu->Prop):Prop:=Wf k mu env (exec st env) Θ
abbrev RE(k:Nat)(mu:Mu)(env:gV)(e:bH)(Ψ:Mu->Prop):Prop:=RT k mu env (dW e env) Ψ
abbrev RX(k:Nat)(mu:Mu)(env:gV)(st:d6)(Ψ:Mu->Prop):Prop:=RT k mu env (exec st env) Ψ
abbrev RS(k:Nat)(mu:Mu)(env:gV)(st:List d6)(Ψ:Mu->Prop):Prop:=RT k mu env (Jx st env) Ψ
structure vZ(env:gV):Prop where
 kind:env.scope.kind≠ .module
 frame:env.frame=ae env.locals
theorem zU.frs{l:List gV}(hk:vZ env)(h:zU env mu)(iD:ia l fr):ia (env::l) (mu++fr):=ia.cons iD.right ⟨hk.kind,hk.frame,h.mono λx hx=>aE _ hx⟩
theorem WF.f{t:mF uk}(h:WF k mu t Θ):Wf k mu env t Θ:=⟨λ{z z z z z z z} hA z z=>h.c hA⟩
noncomputable def K9(k:Nat)(env:gV)(rest:List d6)(Θ:AF->Mu->Prop):AF->Mu->Prop
 | .next,nu=>ym k nu env rest Θ
 |f,nu=>Θ f nu
theorem nJ{st:d6}{rest:List d6}(h:WXf k mu env st (K9 k env rest Θ)):ym k mu env (st::rest) Θ:=⟨λ{z z z z z z z} hA hf iD r q=>by
 with_reducible refine ra ?_
 refine h.c hA hf iD r λ{f s1 Z1 a nu} z1 f1 r1 w=>?_
 revert w
 exact o7.by f1 (λw=>Wf.c (show ym k nu env rest Θ from w) hA hf iD r1 λ{z z z z z} z2=>q (z1.trans z2)) (q z1 .brk r1) (q z1 .cont r1) λv x hv=>q z1 (.ret hv) r1⟩
theorem OC(h:Θ .next mu):ym k mu env [] Θ:=(bC h).f
theorem F1{pos:jX}{t:bH}(hv:WVf k mu env (dW e env) λy nu=>mK k nu env t y (Θ .next))(hs:wC [t] e pos.line env=dg aH)(hw:wD [t] e env=dg av)
 (ht:autoParam (jB [t] env=[(aH,wB t env)]) aR):WXf k mu env (.Assign [t] e pos) Θ:=⟨λ{z z z z z z z} hA hf iD r q=>by
 with_reducible refine EX ?_ hs hw
 refine aj (ht ..) ?_;exact hv.c hA hf iD r λ{z z z z z} z1 q1 r1 w=>w.c hA r1 q1 λ{z z z} z2=>q (z1.trans z2) .next⟩
theorem R.split{NL rest:Mu}(r:R Z (nu++fr) s)(hp:nu.Perm (NL++rest)):R Z (NL++(rest++fr)) s:=bU .. ▸r.perm (hp.append_right fr)
theorem AR{f:bb}{a:ay}{ob:o6}{fd:cm}(hk:vZ env)(hf:PE k mu env (.Name f p) (.ref a))(h0:G.Z0 a=ae ob)(hd:ob.data= .func fd)(ha:Dv k mu env (e::es) λys nu=>∃NL rest,nu.Perm (NL++rest)/\zU env rest/\JS k NL (.ref a) ys λy nu'=>∃xm,(nu'++rest).Perm xm/\Φ y xm)(hs:∀a p,e≠ .Starred a p:=by intro z z h;cases h):
 WVf k mu env (dW (.Call (.Name f p) (e::es) [] pos) env) Φ:=⟨λ{A E Z s fr outer Q} hA zq iD r q=>by
 with_reducible refine gB ?_
 refine hf.c hA r λ{f s1 Z1} z1 q1 r1=>aj (aZ.refE q1 ..) (iJ hd (ha.c hA r1 λ{vs s2 Z2 ys ue} z2 q2 r2 w=>⟨r2.z0in _ _ h0,?_⟩) (et hs));refine cC w λNL rest hp hH w2=>?_;clear w;refine w2.c hA zq (hH.frs hk iD) (r2.split hp) q2 λ{w s3 Z3 y Ui} z3 q3 r3 u=>aK u λnu4 hp4 w3=>?_;clear u;exact q (z1.trans (z2.trans z3)) q3 (R.perm (bU .. ▸r3) (hp4.append_right fr)) w3⟩
theorem Lb{f:bb}{a:ay}{ob:o6}{fd:cm}(hk:vZ env)(hf:PE k mu env (.Name f p) (.ref a))(h0:G.Z0 a=ae ob)(hd:ob.data= .func fd)(ha:Dv k mu env (e::es) λys nu=>∃NL rest,nu.Perm (NL++rest)/\zU env rest/\RFW k NL (.ref a) ys λnu'=>∃xm,(nu'++rest).Perm xm/\Ψ xm)(hs:∀a p,e≠ .Starred a p:=by intro z z h;cases h):
 RE k mu env (.Call (.Name f p) (e::es) [] pos) Ψ:=⟨λ{A Z s fr outer F T} hA zq iD r q=>by
 with_reducible refine gB ?_
 refine hf.c hA r λ{f s1 Z1} z1 q1 r1=>aj (aZ.refE q1 ..) (iJ hd (ha.c hA r1 λ{vs s2 Z2 ys ue} z2 q2 r2 w=>⟨r2.z0in _ _ h0,?_⟩) (et hs));refine cC w λNL rest hp hH w2=>?_;clear w;refine w2.c hA zq (hH.frs hk iD) (r2.split hp) q2 λ{v s3 Z3 Ui} z3 q3 u=>aK u λnu4 hp4 w3=>?_;clear u;exact q (z1.trans (z2.trans z3)) (hH.mono λx hx=>hp4.mem_iff.mp (bL _ hx)) (.inr (.inr (jP.perm (bU .. ▸q3) (hp4.append_right fr)))) w3⟩
theorem Cb{l r:bH}{op:xo}(h:RE k mu env l Ψ):RE k mu env (.BinOp l op r p) Ψ:=⟨λ{z z z z z z z} hA zq iD r q=>by
 with_reducible refine NO ?_
 exact h.c hA zq iD r q⟩
theorem nq{pos:jX}{t:bH}(h:RE k mu env e Ψ)(hs:wC [t] e pos.line env=dg aH)(hw:wD [t] e env=dg av):RX k mu env (.Assign [t] e pos) Ψ:=⟨λ{z z z z z z z} hA zq iD r q=>by
 with_reducible refine EX ?_ hs hw
 exact h.c hA zq iD r q⟩
theorem oU{st:d6}{rest:List d6}(h:RX k mu env st Ψ):RS k mu env (st::rest) Ψ:=⟨λ{z z z z z z z} hA zq iD r q=>by
 with_reducible refine ra ?_
 exact h.c hA zq iD r q⟩
noncomputable def thenR(k:Nat)(env:gV)(rest:List d6)(Ψ:Mu->Prop):AF->Mu->Prop
 | .next,nu=>RS k nu env rest Ψ
 |_,_=>False
theorem qH{st:d6}{rest:List d6}(h:WX k mu env st (thenR k env rest Ψ)):RS k mu env (st::rest) Ψ:=⟨λ{z z z z z z z} hA zq iD r q=>by
 with_reducible refine ra ?_
 refine h.c hA r λ{f s1 Z1 a nu} z1 f1 r1 w=>?_
 revert w
 exact o7.by f1 (λw=>RT.c (show RS k nu env rest Ψ from w) hA zq iD r1 λ{z z z z} z2=>q (z1.trans z2)) (λw=>w.elim) (λw=>w.elim) λv x hv w=>w.elim⟩
theorem DQ{pos:jX}{body orelse:List d6}(hk:vZ env)(Inv:Nat->Mu->Prop)(n:Nat)(h0:Inv n mu)
 (turn:∀n nu,Inv n nu->WT k nu env e λc ru=>c=aI/\(RS k ru env body Ψ\/WS k ru env body λf ue=>(f= .next\/f= .cont)/\∃m,m < n/\Inv m ue)):RX k mu env (.While e body orelse pos) Ψ:=⟨λ{A Z s fr outer F T} hA zq iD r q=>by
 with_reducible refine wpAny_While ?_
 refine codeAny_whileLoop (WhI Z Inv fr) (λn s' h=>?_) n ⟨Z,mu,.rfl,r,h0⟩;refine cC (h.ex) λZ' nu z' r' inv=>(turn n nu inv).c hA r' λ{c s1 Z1 ru} z1 r1 w=>dU w λeT w1=>?_;clear w;subst eT;refine aj (if_pos rfl ..) ?_;rcases w1 with w1|w1
 ·exact w1.c hA zq iD r1 λ{z z z z} z2 hH hx hΨ=>mr zq (hH.frs hk iD) hx λs3 Un=>IG hk.frame Un λs4 hx4=>q (z'.trans (z1.trans z2)) hH (.inr (.inl hx4)) hΨ
 ·refine w1.c hA r1 λ{f s2 Z2 a ue} z2 f2 r2 w=>mI w λha m hm hi=>?_;clear w;have fin:∃m,m < n/\WhI Z Inv fr m s2:=⟨m,hm,⟨Z2,ue,z'.trans (z1.trans z2),r2,hi⟩⟩
  revert ha
  exact o7.by f2 (λz=>fin) (λh=>by rcases h with h|h <;> cases h) (λz=>fin) λv x hv h=>by rcases h with h|h <;> cases h⟩
theorem RZ(B:g7 G){fd:cm}{a:ay}{ob:o6}{body:List d6}{names:List bb}{vals':ay->el}(Bw:Kn mu λhp=>hp.get? a=ae ob)(hd:ob.data= .func fd)(hcd:Kn mu λhp=>hp.CodeRec fd.code fd.qualname)(sr:fd.body= .stmts body)
 (i0:∀vs,vs.length=xs.length->pJ fd ⟨vs,[]⟩=dg (names.zip vs)) (hnd:(aM 0 fd.scope.names).nd) (he:∀L,du (dT fd a L))
 (hb:∀L,i9 (dT fd a L) L (aM (L+1) fd.scope.names) names xs (nones (aM (L+1) fd.scope.names)) (vals' L))
 (h:∀L,RS k (vS fd L (vals' L)::mu) (dT fd a L) body λnu=>∃bB nu',nu=vS fd L bB::nu'/\Ψ nu') (wy:autoParam (fd.scope.isCoroutine=aH) aR) (mQ:autoParam (fd.scope.isGenerator=aH) aR):RFW (k+1) mu (.ref a) xs Ψ:=⟨λ{A Z s fr l vs F T} hA zq iD r hv q=>by
 refine eF (qq hA.depth (Bw.app r) hd wy mQ sr (hcd.app r) ?_);refine aj (i0 vs hv.length ..) (ar (pP (vals':=vals' s.heap.objs.size) r hnd (he _) hv (hb _) λs' r'=>⟨B.lim _ r'.z0in,JF ?_⟩));refine (h s.heap.objs.size).c (hA.deeper _) (CN zq) iD r' λ{v s2 Z2 ue} z2 hH hx w=>?_;obtain ⟨bB,nu',rfl,hΨ⟩:=w;exact IE (CN zq) (hH.frs ⟨by refine aj ((he _).kind) ?_;decide,rfl⟩ iD) hx (gW _ _) (λhb=>(bP.mp (show ((vS fd s.heap.objs.size bB).own++gT (nu'++fr)).Nodup from hx.nodup)).2.2 _ aa _ hb rfl) λs3 Un=>q z2 Un hΨ⟩
theorem Lc(B:g7 G){fd:cm}{a:ay}{ob:o6}{body:List d6}{names:List bb}{vals':ay->el}(Bw:Kn mu λhp=>hp.get? a=ae ob)(hd:ob.data= .func fd)(hcd:Kn mu λhp=>hp.CodeRec fd.code fd.qualname)(sr:fd.body= .stmts body)
 (i0:∀vs,vs.length=xs.length->pJ fd ⟨vs,[]⟩=dg (names.zip vs)) (hnd:(aM 0 fd.scope.names).nd) (he:∀L,du (dT fd a L))
 (hb:∀L,i9 (dT fd a L) L (aM (L+1) fd.scope.names) names xs (nones (aM (L+1) fd.scope.names)) (vals' L))
 (h:∀L,ym k (vS fd L (vals' L)::mu) (dT fd a L) body (lE Φ)) (wy:autoParam (fd.scope.isCoroutine=aH) aR) (mQ:autoParam (fd.scope.isGenerator=aH) aR):JS (k+1) mu (.ref a) xs Φ:=⟨λ{A E Z s fr l vs Q} hA zq iD r hv q=>by
 refine eF (qq hA.depth (Bw.app r) hd wy mQ sr (hcd.app r) ?_);refine aj (i0 vs hv.length ..) (ar (pP (vals':=vals' s.heap.objs.size) r hnd (he _) hv (hb _) λs' r'=>⟨B.lim _ r'.z0in,JF ?_⟩));refine (h s.heap.objs.size).c (hA.deeper _) (CN zq) iD r' λ{f s2 Z2 af ue} z2 f2 r2 w2=>?_
 revert w2
 exact o7.by f2 (λw=>jJ.c (show jJ .none ue Φ from w) r2 .none λ{z z z} z3=>q (z2.trans z3)) (λw=>w.elim) (λw=>w.elim) λv x hv w=>jJ.c (show jJ x ue Φ from w) r2 hv λ{z z z} z3=>q (z2.trans z3)⟩
theorem R0(H:Hy G){a:ay}{st:d6}(F:rL G a st){names:List bb}{vals':ay->el}
 (i0:∀pm cd doc vs,vs.length=xs.length->pJ (xB st pm cd doc) ⟨vs,[]⟩=dg (names.zip vs)) (hnd:(aM 0 (bk st).names).nd) (hk:(bk st).kind= .function)
 (hb:∀pm cd doc L,i9 (dT (xB st pm cd doc) a L) L (aM (L+1) (bk st).names) names xs (nones (aM (L+1) (bk st).names)) (vals' L))
 (h:∀pm cd doc L,du (dT (xB st pm cd doc) a L)->vZ (dT (xB st pm cd doc) a L)->ym k (bq L (aM (L+1) (bk st).names) (vals' L)::mu) (dT (xB st pm cd doc) a L) (fR st) (lE Φ)) (wy:autoParam ((bk st).isCoroutine=aH) aR) (mQ:autoParam ((bk st).isGenerator=aH) aR):
 JS (k+1) mu (.ref a) xs Φ:=by
 exact cq (F.go) λob pm cd doc h0 hd hcd=>Lc H.B (names:=names) (vals':=vals') (Kn.z0 h0) hd (λZ s r=>hcd _ r.z0in) rfl (i0 pm cd doc) hnd (λL=>⟨hk,rfl,rfl⟩) (hb pm cd doc) (λL=>h pm cd doc L ⟨hk,rfl,rfl⟩ ⟨by show (bk st).kind≠_;refine aj (hk ..) ?_;decide,rfl⟩) wy mQ
theorem R1(H:Hy G){a:ay}{st:d6}(F:rL G a st){names:List bb}{vals':ay->el}
 (i0:∀pm cd doc vs,vs.length=xs.length->pJ (xB st pm cd doc) ⟨vs,[]⟩=dg (names.zip vs)) (hnd:(aM 0 (bk st).names).nd) (hk:(bk st).kind= .function)
 (hb:∀pm cd doc L,i9 (dT (xB st pm cd doc) a L) L (aM (L+1) (bk st).names) names xs (nones (aM (L+1) (bk st).names)) (vals' L))
 (h:∀pm cd doc L,du (dT (xB st pm cd doc) a L)->vZ (dT (xB st pm cd doc) a L)->RS k (bq L (aM (L+1) (bk st).names) (vals' L)::mu) (dT (xB st pm cd doc) a L) (fR st) λnu=>∃bB nu',nu=bq L (aM (L+1) (bk st).names) bB::nu'/\Ψ nu')
 (wy:autoParam ((bk st).isCoroutine=aH) aR) (mQ:autoParam ((bk st).isGenerator=aH) aR):RFW (k+1) mu (.ref a) xs Ψ:=by
 exact cq (F.go) λob pm cd doc h0 hd hcd=>RZ H.B (names:=names) (vals':=vals') (Kn.z0 h0) hd (λZ s r=>hcd _ r.z0in) rfl (i0 pm cd doc) hnd (λL=>⟨hk,rfl,rfl⟩) (hb pm cd doc) (λL=>h pm cd doc L ⟨hk,rfl,rfl⟩ ⟨by show (bk st).kind≠_;refine aj (hk ..) ?_;decide,rfl⟩) wy mQ
theorem Ht{f:bb}(hf:PE k mu env (.Name f p) (.bi "next"))(ha:PE k mu env e (.ref it))(hi:mu[i]? =ae (jK it []))(hF:zU env (mu.set i (pS)))(h:Ψ (mu.set i (pS)))(hs:∀a p,e≠ .Starred a p:=by intro z z h;cases h):
 RE k mu env (.Call (.Name f p) [e] [] pos) Ψ:=⟨λ{A Z s fr outer F T} hA zq iD r q=>by
 refine BO hf (au (Ps:=[]) ha aT hs) hs hA r λ{vs s2 Z2} z2 q2 r2=>aK (q2.one) λv gi q3=>?_;subst gi;refine aj (aZ.refE q3 ..) ?_;have hi':=cH (fr:=fr) hi;exact oH (r2.sat _ (ao hi')) λb t j I e=>IB hA.hh I (DM (jc.mp e)) λh1 h' ev hb S=>q z2 hF (.inl ⟨ev,h1,s2.toks,rfl,gE hi▸R.dead (s:=s2) (h':=h1) (tk:=s2.toks) r2 hi' λa o hb' e=>hb a o (λq=>hb' (q▸aa)) e,S.made⟩) h⟩
theorem DR(B:g7 G){body:List d6}{M6 rpos npos M3 xpos:jX}{z:bb}(he:du env)(hk:vZ env)(hm:G.mg "StopIteration"=av)(hkn:env.kindOf "StopIteration"=ae .globalImplicit)(sl:Sl env L lay z j)
 (hb:RS k mu env body λnu=>∃bB y,bq L lay bB∈nu/\bB[j]? =ae (ae y)/\Θ (.ret y) nu) (hd:autoParam ((z == ("__debug__":bb))=aH) aD):
 WXf k mu env (.Try body [.ExceptHandler (ae (.Name "StopIteration" npos)) av [.Return (ae (.Name z xpos)) rpos] M3] [] [] M6) Θ:=⟨λ{A E Z s fr outer Q} hA zq iD r q=>by
 refine wpAny_Try_except (hb.c hA zq iD r λ{v s1 Z1 nu} z1 hH hx w=>?_);obtain ⟨bB,y,hv1,hv2,hΘ⟩:=w;have hfs:=hH.frs hk iD;refine mr zq hfs hx λs2 PS=>IF PS λs3 Un=>ef (Un.now hfs) λe iC r3 ty3=>?_;subst iC;refine wpAny_handleBy_builtin (X:="StopIteration") (T:="StopIteration") (b:=aI) owsi_raise.isExc (by kernel_rfl) owsi_facts.sub (aK (B.b _ r3.z0in) λmb h1 h2=>?_);refine Jz he.kind hkn (loadGlobal_builtin (he.globals▸B.g _ r3.z0in) hm (he.builtins▸h1) ((h2 "StopIteration" (by decide)).trans (by rfl)) ⟨rfl,ty3,?_⟩) (by decide);refine aj (if_pos rfl ..) (DP Un λs4 hx4=>?_);refine ef (hx4.now hfs) λx x r4 x=>?_
 with_reducible refine ra (wpAny_Return_some ?_)
 exact Tw (FO he sl (aE fr hv1) hv2 r4 λ{x} hw=>q z1 (.ret hw) r4 hΘ) hd⟩
end
noncomputable def jv:Nat->List Nat->Option (Nat×List Nat)
 |_,[]=>av
 |v,b::bs=>if b / 64 % 2=1 then jv (v*64+b % 64) bs else ae (v*64+b % 64,bs)
noncomputable def mM(bs:List Nat):Option (Nat×List Nat):=jv 0 bs
structure uV(b d:Nat)(more:Bool):Prop where
 low:b % 64=d
 bit:b / 64 % 2=if more then 1 else 0
theorem kj:∀{bs:List Nat} {v n:Nat} {rs:List Nat},jv v bs=ae (n,rs)->rs.length < bs.length
 |[],_,_,_,h=>gK h
 |b::bs,v,n,rs,h=>by
  have h:(if b / 64 % 2=1 then jv (v*64+b % 64) bs else ae (v*64+b % 64,bs))=ae (n,rs):=h;by_cases hb:b / 64 % 2=1
  ·exact cI (kj ((if_pos hb).symm.trans h))
  ·exact (sO (aO ((if_neg hb).symm.trans h))).2▸jf _
theorem Cc{v b d:Nat}{bs:List Nat}(h:uV b d aI):jv v (b::bs)=jv (v*64+d) bs:=(if_pos h.bit).trans (h.low▸rfl)
theorem yn{v b d:Nat}{bs:List Nat}(h:uV b d aH):jv v (b::bs)=ae (v*64+d,bs):=(if_neg (λe=>absurd (h.bit.symm.trans e) (by decide))).trans (h.low▸rfl)
theorem vint1{b0 d0:Nat}{rs:List Nat}(h0:uV b0 d0 aH):mM (b0::rs)=ae (d0,rs):=by exact (yn h0).trans (aj (rh 64) (aj (eC d0) rfl))
theorem vint2{b0 b1 d0 d1:Nat}{rs:List Nat}(h1:uV b1 d1 aI)(h0:uV b0 d0 aH):mM (b1::b0::rs)=ae (d1*64+d0,rs):=by exact (Cc h1).trans ((yn h0).trans (aj (rh 64) (aj (eC d1) rfl)))
theorem vint3{b0 b1 b2 d0 d1 d2:Nat}{rs:List Nat}(h2:uV b2 d2 aI)(h1:uV b1 d1 aI)(h0:uV b0 d0 aH):mM (b2::b1::b0::rs)=ae ((d2*64+d1)*64+d0,rs):=by exact (Cc h2).trans ((Cc h1).trans ((yn h0).trans (aj (rh 64) (aj (eC d2) rfl))))
noncomputable def yo(bs:List Nat):Option ((Nat×Nat×Nat×Nat)×List Nat):=
 (mM bs).bind λa=>(mM a.2).bind λb=>(mM b.2).bind λc=>(mM c.2).bind λd=>ae ((a.1,b.1,c.1,d.1),d.2)
theorem DS{bs:List Nat}(h:bs.length < 4):yo bs=av:=by refine ek.mpr λa h1=>ek.mpr λb h2=>ek.mpr λc h3=>ek.mpr λd h4=>?_;have l1:=kj h1;have l2:=kj h2;have l3:=kj h3;have l4:=kj h4;omega
variable {Ps:List (Vw)}{n:Nat}
section
theorem Hu(b:Nat):lZ (b:Int) 63=((b % 64:Nat):Int):=by refine aj (bitAnd_pp (dJ _) (by decide) ..) ?_;refine aj (b8 ..) ?_;exact congrArg _ (E7 b 6)
theorem Qx(b:Nat):(lZ (b:Int) 64 != 0)=decide (b / 64 % 2=1):=by
 refine aj (bitAnd_pp (dJ _) (by decide) ..) ?_;refine aj (b8 ..) ?_;have h:b &&& (64:Int).toNat=(b.testBit 6).toNat*64:=by
  apply xu;intro i;refine aj (GU ..) ?_;refine aj (show (64:Int).toNat=2 ^ 6 from rfl) ?_;refine aj (lC ..) ?_;refine aj (show (b.testBit 6).toNat*64=(b.testBit 6).toNat*2 ^ 6 from rfl) ?_;refine aj (NV ..) ?_;by_cases hi:6=i
  ·subst hi;cases b.testBit 6 <;> rfl
  ·(refine aj (decide_eq_false hi ..) ?_;refine aj (kN ..) ?_)
   cases b.testBit 6 with
   |false=>simp
   |true=>
    by_cases h6:6<=i
    ·have:i - 6≠0:=by lia
     refine cJ (Nat.exists_eq_succ_of_ne_zero this) λm hm=>aj (hm ..) ?_;simp [h6,Nat.testBit_succ]
    ·simp [h6]
 refine aj (h ..) ?_;refine aj (fx ..) ?_;by_cases h2:b / 2 ^ 6 % 2=1
 ·have h3:b / 64 % 2=1:=h2;simp [h2,h3]
 ·have h3:¬b / 64 % 2=1:=h2;simp [h2,h3]
theorem or63(v b:Nat):Builtin.bitOr ((v*64:Nat):Int) ((b % 64:Nat):Int)=((v*64+b % 64:Nat):Int):=by
 have hd:b % 64 < 2 ^ 6:=ee _ (by decide);generalize b % 64=d at*;refine aj (bitOr_and ..) ?_;refine aj (bitAnd_pp (dJ _) (dJ _) ..) ?_;refine aj (b8 ..) ?_;refine aj (b8 ..) ?_;have h:(v*64) &&& d=0:=by
  apply xu;intro i;refine aj (GU ..) ?_;refine aj (Nat.zero_testBit ..) ?_;refine aj (show v*64=v*2 ^ 6 from rfl) ?_;refine aj (NV ..) ?_;by_cases hi:6<=i
  ·(refine aj (vh (cb hd (e7 (by decide) hi)) ..) ?_;refine aj (kN ..) ?_;rfl)
  ·simp [hi]
 refine aj (h ..) ?_;simp
theorem AS:∀{bs:List Nat} {v n:Nat} {rs:List Nat},jv v bs=ae (n,rs)->v*64<=n
 |b::bs,v,n,rs,h=>by
  unfold jv at h
  split at h
  ·have:=AS h;lia
  ·cases h;exact dD _ _
variable {Ψ:Mu->Prop}{rs:List Nat}
theorem nK{f:bb}{id:String}(hf:PE k mu env (.Name f p) (.bi id))(ha:tD k mu env (e::es) Ps)(hF:BX k mu (.builtin id) Ps Φ)(hs:∀a p,e≠ .Starred a p:=by intro z z h;cases h):WE k mu env (.Call (.Name f p) (e::es) [] pos) Φ:=⟨λ{z z z z z z} hA r q=>BO hf ha hs hA r λ{z z z} z2 q2 r2=>hF.c hA r2 q2 λ{z z z z z} z3=>q (z2.trans z3)⟩
theorem oV{b c:Bool}(h:PT k mu env e b)(e1:b=c):PT k mu env e c:=e1▸h
noncomputable abbrev OD(L it:ay)(b v:V):cX:=bq L (aM (L+1) (bk (cM 7)).names) [ae (.ref it),ae b,ae v]
theorem Cd{v:Nat}(h:v < 2 ^ 60):ND k mu .LShift (bZ (.int v)) (bZ (.int 6)) (bZ (.int (v*64:Nat))):=by
 have:=RM (k:=k) (mu:=mu) (a:=(v:Int)) (b:=6) (by decide) (by decide) (by omega);have e:(v:Int)*2 ^ (6:Int).toNat=((v*64:Nat):Int):=by rfl
 rwa [e] at this
def nL.S0(k:Nat)(mu:Mu)(i:Nat)(it:ay)(rs:List Nat)(n:Nat):Prop:=∀{bs:List Nat} (H:Hy G) (hi:mu[i]? =ae (jK it bs)) (hv:mM bs=ae (n,rs)) (hn:n < 2 ^ 60),FW (k+2) mu (.ref 172) [.ref it] λy nu=>y= .int n/\nu=mu.set i (jK it rs)
namespace nL
@[irreducible] def e0:=Fq eN gD eN cL gD eN S0
def k_:=e0.1
def e9:=e0.2.1
def i_:=e0.2.2.1
def sC:=e0.2.2.2.1
def rs_:=e0.2.2.2.2.1
def n_:=e0.2.2.2.2.2
theorem T0:S0 k_ e9 i_ sC rs_ n_:=by
 intro bs H hi hv hn;refine ti H H.f172 (names:=["iterator"]) (vals':=λL=>[ae (.ref sC),av,av]) (λpm cd doc vs h=>?_) (by decide+kernel) rfl (λpm cd doc L=>?_) (λpm cd doc L he=>?_)
 ·exact uQ h λa=>rfl
 ·exact .cons (j:=0) .loc rfl .nil
 cases bs with
 |nil=>exact gK hv
 |cons b bs=>
 unfold mM jv at hv;rw [rh,eC] at hv;refine aC (b4 (nK (j4 H he H.b_next rfl) (au (ah (j:=0) he .loc aa rfl) aT) (uU (i:=i_+1) hi (aQ (i:=0) (j:=1) he .loc rfl ?_))) rfl rfl);refine aC (bX (br (ah (j:=1) he .loc aa rfl) aU (qu)) (aQ (i:=0) (j:=2) he .loc rfl ?_) rfl rfl);refine aj (Hu ..) (aC (xV (λm nu=>∃b v CW,CW.length=m/\nu=OD L sC (.int (b:Nat)) (.int (v:Nat))::e9.set i_ (jK sC CW)/\(if b / 64 % 2=1 then jv v CW else ae (v,CW))=ae (n_,rs_)) bs.length ⟨b,b % 64,bs,rfl,rfl,hv⟩ ?_));intro m nu dO;refine cE dO λb v CW eT gi hg=>?_;clear dO;subst eT;subst gi;refine (oV (kU (br (ah (j:=1) he .loc aa rfl) aU qu) xS) (Qx b)).wt ?_;by_cases hb:b / 64 % 2=1
 ·refine aj (decide_eq_true hb ..) ?_;rw [if_pos hb] at hg;have hi':(e9.set i_ (jK sC CW))[i_]? =ae (jK sC CW):=by (refine aj (eA (aB.mp hi).1 ..) ?_;rfl)
  have hge:=AS hg;cases CW with
  |nil=>exact gK hg
  |cons c cs=>
  unfold jv at hg;refine aC (rP (i:=0) (j:=2) he .loc rfl rfl aU (Cd (by lia)) ?_);refine aC (b4 (nK (j4 H he H.b_next rfl) (au (ah (j:=0) he .loc aa rfl) aT) (uU (i:=i_+1) hi' (aQ (i:=0) (j:=1) he .loc rfl ?_))) rfl rfl);refine aC (rP (i:=0) (j:=2) he .loc rfl rfl (br (ah (j:=1) he .loc aa rfl) aU qu) (by refine aj (Hu ..) ?_;exact Qt) ?_);refine aj (or63 ..) (bC ⟨cs.length,by exact bp _,c,v*64+c % 64,cs,rfl,?_,hg⟩);show OD L sC (.int (c:Nat)) (.int ((v*64+c % 64:Nat):Int))::(e9.set i_ (jK sC (c::cs))).set i_ (jK sC cs)=_;refine aj (vi ..) ?_;rfl
 ·refine aj (decide_eq_false hb ..) ?_;rw [if_neg hb] at hg;cases hg;refine bC (aC (gw (cf (ah (j:=2) he .loc aa rfl) (ki ⟨rfl,rfl⟩))))
end nL
theorem nL:nL.S0 k mu i it rs n:=by with_unfolding_all exact uE _ _ _ _ _ _ nL.S0 @nL.T0 k mu i it rs n
def nM.S0(k:Nat)(mu:Mu)(i:Nat)(it:ay):Prop:=∀{bs:List Nat} (H:Hy G) (hi:mu[i]? =ae (jK it bs)) (hv:mM bs=av) (hn:bs.length<=8),RFW (k+2) mu (.ref 172) [.ref it] λnu=>nu=mu.set i (pS)
namespace nM
@[irreducible] def e0:=G2 eN gD eN cL S0
def k_:=e0.1
def e9:=e0.2.1
def i_:=e0.2.2.1
def sC:=e0.2.2.2
theorem T0:S0 k_ e9 i_ sC:=by
 intro bs H hi hv hn;refine R1 H H.f172 (names:=["iterator"]) (vals':=λL=>[ae (.ref sC),av,av]) (λpm cd doc vs h=>?_) (by decide+kernel) rfl (λpm cd doc L=>?_) (λpm cd doc L he hk=>?_)
 ·exact uQ h λa=>rfl
 ·exact .cons (j:=0) .loc rfl .nil
 cases bs with
 |nil=>exact oU (nq (Ht (i:=i_+1) (j4 H he H.b_next rfl) (ah (j:=0) he .loc aa rfl) hi ⟨_,_,aa⟩ ⟨_,_,rfl,rfl⟩) rfl rfl)
 |cons b bs=>
 unfold mM jv at hv;rw [rh,eC] at hv;have hb63:b % 64 < 64:=ee _ (by decide);refine qH (b4 (nK (j4 H he H.b_next rfl) (au (ah (j:=0) he .loc aa rfl) aT) (uU (i:=i_+1) hi (aQ (i:=0) (j:=1) he .loc rfl ?_))) rfl rfl);refine qH (bX (br (ah (j:=1) he .loc aa rfl) aU (qu)) (aQ (i:=0) (j:=2) he .loc rfl ?_) rfl rfl);refine aj (Hu ..) ?_;simp only [bK] at hn;refine oU (DQ hk (λm nu=>∃b v CW d,CW.length=m/\CW.length+d=7/\v < 64 ^ (d+1)/\nu=OD L sC (.int (b:Nat)) (.int (v:Nat))::e9.set i_ (jK sC CW)/\(if b / 64 % 2=1 then jv v CW else ae (v,CW))=av) bs.length ⟨b,b % 64,bs,7 - bs.length,rfl,by lia,cb hb63 (Nat.le_self_pow (by lia) 64),rfl,hv⟩ ?_);intro m nu iC;refine dK iC λb v CW d kG hd hlt ma hg=>?_;clear iC;subst kG;subst ma;refine (oV (kU (br (ah (j:=1) he .loc aa rfl) aU qu) xS) (Qx b)).wt ?_;by_cases hb:b / 64 % 2=1
 ·refine ⟨decide_eq_true hb,?_⟩;rw [if_pos hb] at hg;have hi':(e9.set i_ (jK sC CW))[i_]? =ae (jK sC CW):=by (refine aj (eA (aB.mp hi).1 ..) ?_;rfl)
  have hv60:v < 2 ^ 60:=cb hlt (aw (e7 (by decide) (show d+1<=8 by lia)) (by decide));cases CW with
  |nil=>refine .inl (qH (rP (i:=0) (j:=2) he .loc rfl rfl aU (Cd hv60) ?_));refine oU (nq (Ht (i:=i_+1) (j4 H he H.b_next rfl) (ah (j:=0) he .loc aa rfl) hi' ⟨_,_,aa⟩ ⟨[ae (.ref sC),ae (.int (b:Nat)),ae (.int ((v*64:Nat):Int))],(e9.set i_ (jK sC [])).set i_ (pS),rfl,?_⟩) rfl rfl);refine aj (vi ..) ?_;rfl
  |cons c cs=>
   refine .inr ?_;simp only [bK] at hd;unfold jv at hg;refine aC (rP (i:=0) (j:=2) he .loc rfl rfl aU (Cd hv60) ?_);refine aC (b4 (nK (j4 H he H.b_next rfl) (au (ah (j:=0) he .loc aa rfl) aT) (uU (i:=i_+1) hi' (aQ (i:=0) (j:=1) he .loc rfl ?_))) rfl rfl);refine aC (rP (i:=0) (j:=2) he .loc rfl rfl (br (ah (j:=1) he .loc aa rfl) aU qu) (by refine aj (Hu ..) ?_;exact Qt) ?_);refine aj (or63 ..) (bC ⟨.inl rfl,cs.length,by exact bp _,c,v*64+c % 64,cs,d+1,rfl,by lia,?_,?_,hg⟩)
   ·have:v*64+c % 64 < (v+1)*64:=by have:=ee c (show 0 < 64 by decide);lia
    exact cb this (by refine aj (CI ..) ?_;exact xx _ hlt)
   ·show OD L sC (.int (c:Nat)) (.int ((v*64+c % 64:Nat):Int))::(e9.set i_ (jK sC (c::cs))).set i_ (jK sC cs)=_;refine aj (vi ..) ?_;rfl
 ·rw [if_neg hb] at hg;exact nomS hg
end nM
theorem nM:nM.S0 k mu i it:=by with_unfolding_all exact vK _ _ _ _ nM.S0 @nM.T0 k mu i it
end
section
open Builtin Builtin.ObjectAttr Builtin.Getset_descriptor Builtin.Tuple
noncomputable abbrev pk(G:Gd){α:Type}(K:fH)(t:mF α):Option α:=peek K ⟨G.prog,G.w.params⟩ t
def gN(G:Gd)(K:fH):Prop:=
 (FX G K)/\
 (G.ent=162)/\
 (pk G K (mA (.ref 162) "__call__")=ae (ae (.builtin "type.__call__")))/\
 (pk G K (ui (.ref 162) (.type "type"))=ae aI)/\
 (pk G K (Bind.madeBy (.ref 162))=ae av)/\
 (pk G K (mroOf (.ref 162))=ae [.ref 162,.ref 149,.type "tuple",.type "object"])/\
 (readsIn K 162 (.type "type")=aI)/\
 (Fi K (.ref 162) (.type "type") "__new__"=ae (.get (.builtin "staticmethod.__get__") (.ref 150) .none (.ref 162)))/\
 (recIn K 150 "staticmethod"=ae [.ref 90])/\
 (∀t,pk G K (iI "tuple.__new__" ⟨[.ref 162,.ref t],[]⟩)=ae ())/\
 (pk G K (Bind.madeHere "tuple.__new__" (.ref 162))=ae ())/\
 (pk G K (isType (.ref 162))=ae aI)/\
 (pk G K (Nh (.ref 162) (.type "tuple"))=ae aI)/\
 (pk G K (Nh (.ref 162) (.ref 162))=ae aI)/\
 (pk G K (Nh (.ref 162) (.type "object"))=ae aI)/\
 (pk G K (iQ (.ref 162) "__init__")=ae (ae (.builtin "object.__init__")))/\
 (∃od cd sl,K.lookup 162=ae ⟨.type "type",od,.cls cd,sl⟩/\cd.hasDel=aH)/\
 (keepIn K (.ref 162)=aI)/\
 (nH G 90 (jl 5 4) "_ExceptionTableEntryBase.__new__")/\
 Fi K (.type "tuple") (.type "type") "__new__"=ae (.val (.builtin "tuple.__new__"))
section
variable {G:Gd}(h:gN G K)
def gN.KO:=@h.1
def gN.ent:=@h.2.1
def gN.call:=@h.2.2.1
def gN.typ:=@h.2.2.2.1
def gN.made:=@h.2.2.2.2.1
def gN.mro:=@h.2.2.2.2.2.1
def gN.reads:=@h.2.2.2.2.2.2.1
def gN.new:=@h.2.2.2.2.2.2.2.1
def gN.stat:=@h.2.2.2.2.2.2.2.2.1
def gN.check:=@h.2.2.2.2.2.2.2.2.2.1
def gN.here:=@h.2.2.2.2.2.2.2.2.2.2.1
def gN.isT:=@h.2.2.2.2.2.2.2.2.2.2.2.1
def gN.subT:=@h.2.2.2.2.2.2.2.2.2.2.2.2.1
def gN.self:=@h.2.2.2.2.2.2.2.2.2.2.2.2.2.1
def gN.subO:=@h.2.2.2.2.2.2.2.2.2.2.2.2.2.2.1
def gN.init:=@h.2.2.2.2.2.2.2.2.2.2.2.2.2.2.2.1
def gN.obj:=@h.2.2.2.2.2.2.2.2.2.2.2.2.2.2.2.2.1
def gN.keep:=@h.2.2.2.2.2.2.2.2.2.2.2.2.2.2.2.2.2.1
def gN.f90:=@h.2.2.2.2.2.2.2.2.2.2.2.2.2.2.2.2.2.2.1
def gN.tnew:=@h.2.2.2.2.2.2.2.2.2.2.2.2.2.2.2.2.2.2.2
end
def DT(p:Prop):Prop:=p
theorem fD{α:Type}{h:dH}{t:mF α}{r:α}(X:K.In h)(e:pk G K t=ae r):iL (aX G.prog G.w) h t r:=Looks.of_peek X e
theorem Ld(a v1 v2 v3 v4 v5:ai):ri "object.__init__" ⟨[a,v1,v2,v3,v4,v5],[]⟩:=by delta ri;kernel_rfl
theorem Lf(EH:gN G K){x1 x2 x3 x4 x5:V}(h:FW k mu (.ref 90) [.ref 162,x1,x2,x3,x4,x5] λy nu=>y= .ent [x1,x2,x3,x4,x5]/\nu=mu):FW (k+1) mu (.ref 162) [x1,x2,x3,x4,x5] λy nu=>y= .ent [x1,x2,x3,x4,x5]/\nu=mu:=⟨λ{A E Z s fr vs Q} hA r hv q=>by
 obtain ⟨hh,g,d,t,os⟩:=s;have X:K.In hh:=EH.KO.inn _ r.z0in;obtain ⟨v1,v2,v3,v4,v5,rfl⟩:∃v1 v2 v3 v4 v5,vs=[v1,v2,v3,v4,v5]:=len5 hv.length λa b c d e=>⟨a,b,c,d,e,rfl⟩
 refine oH (EH.obj) λod cd sl hl z=>?_;have hC:hh.get? 162=ae ⟨.type "type",od,.cls cd,sl⟩:=X _ _ hl;have ku:=fD X EH.call;have typ:=fD X EH.typ;have made:=fD X EH.made;have mro:=fD X EH.mro;refine eF (kK ?_);show aS _ _ (callAny (.ref 162) _) _ _ _;refine nd_load hC ?_;show aS _ _ (callAny.viaDunder (.ref 162) _) _ _ _;delta callAny.viaDunder;refine ag (ku.at ?_);dsimp only;refine aj (tc_bind ..) (ag (ar (ag (ar ?_))));refine ar (a:=Fin.again (.call (.builtin "type.__call__") ⟨.ref 162::[v1,v2,v3,v4,v5],[]⟩)) (NQ rfl ?_);refine codeAny_call_builtin_at (Code.quiet_builtin _ (by decide+kernel)) entry_typeCall (@rz (aX G.prog G.w) _ _ ⟨hh,g,d,t,os⟩ "type.__call__" "type" "__call__" (.ref 162) [v1,v2,v3,v4,v5] [] _ tc_kind tc_split typ (tc_args _ _ _) ?_);have ga:∀A' Q E',DT (Q (cY 90) ⟨hh,g,d,t+1,os⟩)->aS (aX G.prog G.w) A' (s9 (.ref 162) "__new__") Q E' ⟨hh,g,d,t,os⟩:=λA' Q E' q=>by
  refine cls_bind X EH.reads EH.new (eF (sm_get X EH.stat ?_));exact handed_on rfl q
 have hA':Rm k (A.under (.builtin "type.__call__" ⟨.ref 162::[v1,v2,v3,v4,v5],[]⟩)):=⟨hA.hh,by have:=hA.dep;show A.depth+1+k<=900;lia,by have:=hA.uni;show A.units+1+10*k<=9000;lia⟩;have cl:∀Q E' (as:List ai) (kw:List (bb×ai)),as=[.ref 162,v1,v2,v3,v4,v5]->kw=[]->(∀(Z':bI) (x:ay) (o:o6) (h':dH) (g':Array GenState) (d':Drawn) (t':Nat) (P1:vo),Z.le Z'->R Z' (mu++fr) ⟨h',g',d',t',P1⟩->aZ G Z' (.ref x) (.ent [x1,x2,x3,x4,x5])->h'.get? x=ae o->o.cls= .ref 162->Q (cY x) ⟨h',g',d',t',P1⟩)->
  aS (aX G.prog G.w) (A.under (.builtin "type.__call__" ⟨.ref 162::[v1,v2,v3,v4,v5],[]⟩)) (Jv (.ref 90) as kw) Q E' ⟨hh,g,d,t+1,os⟩:=λQ E' as kw e1 e2 q=>by
  subst e1 e2;refine h.c (fr:=fr) hA' r.toks (.cons (.ref 162) hv) λ{w s' Z' y nu} z' hy r' u=>dU u λe1 e2=>?_;clear u;subst e1 e2;obtain ⟨h',g',d',t',P1⟩:=s';refine tB (aZ.ent_inv hy) λa o rt n' dO z1 z2 z=>?_;subst dO;exact q Z' a o h' g' d' t' P1 z' r' hy (r'.zin _ _ z1) (z2.trans (by (refine aj (EH.ent ..) ?_;rfl)))
 have oi:∀(A':bh) Q E' (x:ay) (o:o6) (h':dH) (g':Array GenState) (d':Drawn) (t':Nat) (P1:vo),h'.get? x=ae o->o.cls= .ref 162->K.In h'->∀(as:List ai) (kw:List (bb×ai)),as=[.ref x,v1,v2,v3,v4,v5]->kw=[]->DT (Q eG ⟨h',g',d',t',P1⟩)->aS (aX G.prog G.w) A' (Jv (.builtin "object.__init__") as kw) Q E' ⟨h',g',d',t',P1⟩:=λA' Q E' x o h' g' d' t' P1 hx P2 X' as kw e1 e2 q=>by
  subst e1 e2;have t1:iL (aX G.prog G.w) h' (jT (.ref x)) (.ref 162):=by refine fZ (P2 ..) ?_;exact (sx hx).andThen .now
  have i1:=fD X' EH.init;have m1:=fD X' EH.made;refine eF (jj oi_plain entry_oi (@rz (aX G.prog G.w) _ _ _ "object.__init__" "object" "__init__" (.ref x) [v1,v2,v3,v4,v5] [] _ oi_kind oi_split (t1.andThen (fD X' EH.subO)) (Ld _ _ _ _ _ _) ?_));unfold Builtin.«object.__init__»
  repeat lk
  exact q
 unfold Builtin.«type.__call__»;unfold ui callSpecial? mA
 repeat (first|refine aj (if_neg (show ¬(List.isEmpty (_::_)=aI) from cF) ..) ?_|with_reducible refine ga _ _ _ ?_|lk)
 unfold DT;refine ag (bE (cl _ _ _ _ rfl rfl ?_));intro Z' x o h' g' d' t' P1 z' r' hy hx P2;have X':K.In h':=EH.KO.inn _ r'.z0in;have t1:iL (aX G.prog G.w) h' (jT (.ref x)) (.ref 162):=by refine fZ (P2 ..) ?_;exact (sx hx).andThen .now
 have s1:=fD X' EH.self;have i1:=fD X' EH.init;have b1:iL (aX G.prog G.w) h' (bindSpecial (.builtin "object.__init__") (.ref x)) (.builtin "object.__init__",[.ref x]):=fe (oi_bind _)
 repeat (first|(with_reducible refine oi _ _ _ _ _ _ _ _ _ _ hx P2 X' _ _ ?_ ?_ ?_)|lk)
 ·rfl
 ·rfl
 unfold DT
 repeat lk
 exact q z' hy r' ⟨rfl,rfl⟩⟩
section
variable {S:Vw}
theorem II(EH:gN G K)(hl:xs.length<=1000):Fn k mu (.builtin "tuple.__new__") [bZ (.ref 162),bZ (.tup xs)] (bZ (.ent xs)):=⟨λ{A E Z s fr vs Q} hA r hq q=>by
 refine cC (hq.two) λv u eT q1 q2=>?_;subst eT;refine aj (aZ.refE q1 ..) (dK (aZ.tup_inv q2) λt o ws n gi z1 z2 z3 z4=>?_);subst gi;obtain ⟨hh,g,d,tk,os⟩:=s;have X:K.In hh:=EH.KO.inn _ r.z0in;refine oH (EH.obj) λod cd sl hlk hdel=>?_;have hC:hh.get? 162=ae ⟨.type "type",od,.cls cd,sl⟩:=X _ _ hlk;have ck:=fD X (EH.check t);have he:=fD X EH.here;have hi:=fD X EH.isT;have hs:=fD X EH.subT;have hn:=fD X EH.init;have ht:hh.get? t=ae o:=r.zin _ _ z1;have hsz:ws.size<=er:=b9 z4▸aw hl (show 1000<=2 ^ 24 by decide);have co:∀(A':bh) Q E',(∀h',(∀b o',hh.get? b=ae o'->h'.get? b=ae o')->DT (Q ws.toList ⟨h',g,d,tk,os⟩))->aS (aX G.prog G.w) A' (collect (.ref t)) Q E' ⟨hh,g,d,tk,os⟩:=λA' Q E' q=>
  wpAny_collect_seq t (.inr rfl) ht z2 z3 (λh' hk=>q h' hk) hsz
 refine eF (kK ?_);show aS _ A.in1 (do iI "tuple.__new__" ⟨[.ref 162,.ref t],[]⟩;NP (.builtin "tuple.__new__" ⟨[.ref 162,.ref t],[]⟩)) _ _ _;refine ag (ck.at (ar ⟨rp NW _,kO PySem.F.entry_tuple_new ?_⟩));refine aj (gQ NW _ ..) ?_;unfold Builtin.«tuple.__new__»
 repeat (first|(with_reducible refine co _ _ _ ?_)|lk)
 intro h' hk;unfold DT;have hC':=hk _ _ hC;have r1:R Z (mu++fr) ⟨h',g,d,tk,os⟩:=r.keep (tk:=tk) λb o e=>hk b o e;refine ag (ar (ag (vr (ag ?_))));refine aj (show ws.toList.toArray=ws from by rfl) ?_;show aS _ _ (if ws.size > er then unsupported "sequence:memory" >>=λz=>newObjAsIs (.ref 162) (.seq ws) (ae h'.objs.size) else newObjAsIs (.ref 162) (.seq ws) (ae h'.objs.size)) _ _ _;refine aj (if_neg (Jw.mpr hsz) ..) ?_;unfold newObjAsIs classHasDel;refine ag (vr (ag (ag (TA (az _ (az _ hC')) (ar ?_)))));show aS _ _ (if cd.hasDel=aI then _ else _) _ _ _;refine aj (hdel ..) (ar (ar ?_));have r2:=r1.push {cls:= .type "dict",data:= .dict #[]};have hz:=r2.fresh (bp _);have r3:=r2.pushZ (o:={cls:= .ref 162,dict:=ae h'.objs.size,data:= .seq ws}) (by rfl);exact q (bI.le_put hz) (aZ.ent (bI.put_self ..) (by (refine aj (EH.ent ..) ?_;rfl)) rfl (z4.mono (bI.le_put hz))) r3⟩
theorem OE:handedIn (.builtin "tuple.__new__")=aI:=by kernel_rfl!
theorem DU:Manifest.isStub "tuple"=aH:=by kernel_rfl!
theorem DV:jT (.type "tuple")=dg (.type "type"):=by kernel_rfl!
theorem uW{A:bh}{E:ai->aq->Prop}{s:aq}{T:String}{name:bb}{v:ai}{pl:mF Bool}{Q:ai×List ai->aq->Prop}(X:K.In s.heap)(ht:jT (.type T)=dg (.type "type"))(hs:Manifest.isStub T=aH)
 (e:Fi K (.type T) (.type "type") name=ae (.val v)) (hh:handedIn v=aI) (h:Q (v,[]) {s with toks:=s.toks+1}):aS (aX G.prog G.w) A (mB (.type T) name pl) Q E s:=by
 have hstub:Nu (.type T)=dg av:=by delta Nu;dsimp only;refine aj (hs ..) ?_;rfl
 have L0:iL (aX G.prog G.w) s.heap (jT (.type T)) (.type "type"):=fe ht;have hg:fJ K (.type "type") "__getattribute__"=ae (ae (.builtin "type.__getattribute__")):=type_tga;delta mB mA;refine ag (ag (L0.here ((mT X hg).here ?_)));dsimp only;refine aj (if_pos canon_tga ..) (ag (eR (Q:=λv=>Q (v,[])) (E:=E) ?_ (λy y z=>ar z) λy y z=>z));have LO:iL (aX G.prog G.w) s.heap (Nu (.type T)) av:=fe hstub;refine cls_open X LO L0 hg (looks_hook X (r:=av) (by rfl)) (by show subIn K _ _=_;rfl) e
  (ar (by show aS _ _ (handedOut v) _ _ _;refine aj (handedOut_of hh ..) ?_;exact ar h))
theorem IJ{f:bb}{fp:jX}{pl:mF Bool}(EH:gN G K)(hf:PE k mu env (.Name f fp) (.type "tuple"))(ha:tD k mu env (e::es) Ps)(hF:Fn k mu (.builtin "tuple.__new__") Ps S)(wz:autoParam (kh (e::es)=aI) aR)
 (he:autoParam (dW (.Call (.Attribute (.Name f fp) "__new__" apos) (e::es) [] pos) env=(do let ov <- dW (.Name f fp) env;iE apos.atName;let (f,first) <- eV [ov] (mB ov "__new__" pl);pF pos f first (lj pos (fo (e::es) env)) [])) aR):
 EV k mu env (.Call (.Attribute (.Name f fp) "__new__" apos) (e::es) [] pos) S:=⟨λ{A E Z s fr Q} hA r q=>by
 refine i5 (pl:=pl) ?_ he;refine hf.c hA r λ{ov s1 Z1} z1 q1 r1=>aj (aZ.typeE q1 ..) (uW (T:="tuple") (v:= .builtin "tuple.__new__") (pl:=pl) (EH.KO.inn _ r1.z0in) DV DU EH.tnew OE ?_);exact Hg ha hA r1.toks λ{z z z} z2 q2 r2=>hF.c hA r2 q2 λ{z z z} z3=>q (z1.trans (z2.trans z3))⟩
theorem Lg(H:Hy G)(EH:gN G K){x1 x2 x3 x4 x5:V}:FW (k+2) mu (.ref 90) [.ref 162,x1,x2,x3,x4,x5] λy nu=>y= .ent [x1,x2,x3,x4,x5]/\nu=mu:=by
 refine DK H EH.f90 (names:=["_cls","start","end","target","depth","lasti"]) (vals':=λL=>[ae (.ref 162),ae x1,ae x2,ae x3,ae x4,ae x5]) (λpm cd doc vs h=>?_) (by decide+kernel) rfl (λpm cd doc L=>?_) (λpm cd doc L he=>?_)
 ·exact len6 h λa b c d e f=>rfl
 ·exact .cons (j:=0) .loc rfl (.cons (j:=1) .loc rfl (.cons (j:=2) .loc rfl (.cons (j:=3) .loc rfl (.cons (j:=4) .loc rfl (.cons (j:=5) .loc rfl .nil)))))
 refine aC (ig (cf cO ?_));refine aC (gw (cf (IJ EH (iN H he H.b_tuple rfl) (au (ah (j:=0) he .loc aa rfl) (au (f9 (xs:=[x1,x2,x3,x4,x5]) (au (ah (j:=1) he .loc aa rfl) (au (ah (j:=2) he .loc aa rfl) (au (ah (j:=3) he .loc aa rfl) (au (ah (j:=4) he .loc aa rfl) (au (ah (j:=5) he .loc aa rfl) aT))))) (by show 5<=2 ^ 20;decide)) aT)) (II EH (by show 5<=1000;decide))) (ki ⟨rfl,rfl⟩)))
theorem OF(H:Hy G)(EH:gN G K){x1 x2 x3 x4 x5:V}:FW (k+3) mu (.ref 162) [x1,x2,x3,x4,x5] λy nu=>y= .ent [x1,x2,x3,x4,x5]/\nu=mu:=Lf EH (Lg H EH)
end
end
section
open Builtin Builtin.ObjectAttr Builtin.Getset_descriptor Builtin.Tuple
noncomputable abbrev eh(fd:cm)(d:Option ay):o6:={cls:= .type "function",dict:=d,data:= .func fd}
theorem Lh{M:zG}{h:dH}:iL M h (iQ (.type "function") "__getattribute__") (ae (.builtin "object.__getattribute__")):=fe (by (refine aj (fg ..) ?_;refine aj (dC ..) ?_);kernel_rfl)
theorem R2{M:zG}{h:dH}:iL M h (iQ (.type "function") "__setattr__") (ae (.builtin "object.__setattr__")):=fe (by (refine aj (fg ..) ?_;refine aj (dC ..) ?_);kernel_rfl)
theorem R3{M:zG}{h:dH}:iL M h (iQ (.type "function") "__getattr__") av:=fe (by (refine aj (fg ..) ?_;refine aj (dC ..) ?_);kernel_rfl)
theorem Li{M:zG}{h:dH}:iL M h (Nh (.type "function") (.type "object")) aI:=fe (by refine aj (iR ..) ?_;kernel_rfl)
def kc(name:bb):Prop:=iQ (.type "function") name=dg av
theorem qI:kc "read":=by delta kc;(refine aj (fg ..) ?_;refine aj (dC ..) ?_);kernel_rfl
theorem wW:kc "co_exceptiontable":=by delta kc;(refine aj (fg ..) ?_;refine aj (dC ..) ?_);kernel_rfl
theorem IK:uq TL "object.__getattribute__"=ae Builtin.«object.__getattribute__»:=Nv (by kernel_rfl)
theorem IL:plainId "object.__getattribute__"=aI:=by decide+kernel
theorem Lj:CO "object.__getattribute__"=ae .slot:=by decide+kernel
theorem IM:Q3 "object.__getattribute__"=ae ("object","__getattribute__"):=by decide+kernel
theorem Lk(a b:ai):ri "object.__getattribute__" ⟨[a,b],[]⟩:=by delta ri;kernel_rfl
theorem Ll(self:ai):bindSpecial (.builtin "object.__getattribute__") self=dg (.builtin "object.__getattribute__",[self]):=
 (Slot.of (T:="object") (name:="__getattribute__") (owner:="object") (n:="__getattribute__") (by (refine aj (fg ..) ?_;refine aj (dC ..) ?_);kernel_rfl) (by decide+kernel) (by decide+kernel) (by decide+kernel)
  (.inl (by decide+kernel)) (by refine aj (iR ..) ?_;kernel_rfl)).bind self
section
variable {f:ay}{fd:cm}{es:List gA}
def mv.S0(prog:dB)(w:d9)(f dx:ay)(fd:cm)(name:bb):Prop:=∀{A:bh} {E:ai->aq->Prop} {s:aq} {es:List gA} {n:Nat} {v:ai} {Q:ai->aq->Prop} {expr:Bool} (hx:s.heap.get? f=ae (eh fd (ae dx))) (D:s.heap.get? dx=ae (i3 es n)) (hv:getL name es=ae (ae v)) (hn:kc name) (hh:handedIn v=aI) (h:Q v {s with toks:=s.toks+1}),aS (aX prog w) A (s9 (.ref f) name expr) Q E s
namespace mv
@[irreducible] def e0:=Fq sY Fb cL cL inferInstance inferInstance S0
def cT:=e0.1
def w_:=e0.2.1
def f_:=e0.2.2.1
def dx_:=e0.2.2.2.1
def fd_:=e0.2.2.2.2.1
def iz:=e0.2.2.2.2.2
theorem T0:S0 cT w_ f_ dx_ fd_ iz:=by
 intro A E s es n v Q expr hx D hv hn hh h;obtain ⟨hp,g,d,t,os⟩:=s;have t1:iL (aX cT w_) hp (jT (.ref f_)) (.type "function"):=(sx hx).andThen .now;have lg:=Lh (M:=aX cT w_) (h:=hp);have ln:iL (aX cT w_) hp (iQ (.type "function") iz) av:=fe hn;have nl:iL (aX cT w_) hp (nsGet dx_ iz) (ae v):=λA Q E s k q=>by
  delta nsGet;refine ag (pK (k _ _ D) ?_);refine aj (nsLook_of (r:=ae v) (by rw [Q1];exact hv) ..) ?_;exact ar q
 have co:∀(A':bh) Q' E',DT (Q' v ⟨hp,g,d,t+1,os⟩)->aS (aX cT w_) A' (TO (.builtin "object.__getattribute__") (.ref f_) (.str iz t)) Q' E' ⟨hp,g,d,t+1,os⟩:=λA' Q' E' q=>by
  delta TO;refine aj (Ll ..) (ag (ar (eF ?_)));refine jj IL IK (@rz (aX cT w_) _ _ ⟨hp,g,d,t+1,os⟩ "object.__getattribute__" "object" "__getattribute__" (.ref f_) [.str iz t] [] _ Lj IM (t1.andThen Li) (Lk _ _) ?_);unfold Builtin.«object.__getattribute__»
  repeat lk
  exact q
 unfold s9 getAttrBy
 repeat (first|(with_reducible refine kT ?_)|lk)
 refine aj (show (expr && onTheHeap (iG "object.__getattribute__"))=aH from kN _) ?_;refine aj (if_neg (by decide) ..) ?_;refine co _ _ _ ?_;unfold DT;show aS _ _ (handedOut v) _ _ _;exact aj (handedOut_of hh ..) (ar h)
end mv
theorem mv:mv.S0 prog w f dx fd name:=by with_unfolding_all exact uE _ _ _ _ _ _ mv.S0 @mv.T0 prog w f dx fd name
theorem OG{M:zG}{h:dH}:iL M h (mroOf (.type "function")) [.type "function",.type "object"]:=fe (by refine aj (mroOf_type ..) ?_;kernel_rfl)
theorem Hv{tk:HX}{Q:Fin->aq->Prop}(D:s.heap.get? dx=ae (i3 es n))(hr:es.any (·.refKey)=aH)(hz:es.length<=500)
 (h:∀(vm:Int) ny,Q (.done (.ret .none)) {s with heap:=s.heap.update dx (om name vm (.str name ny) v),toks:=s.toks+1}):
 aS (aX prog w) A (storeInDict dx (.str name tk) name v) Q E s:=by
 unfold storeInDict;refine ag (ar (ag ?_));unfold nsSet;refine ag (ag (gC (ar (ag (JM (ag (pK D ?_)))))));show aS _ _ (if sU name es.toArray=aI then _ else _) _ _ _;have c:sU name es.toArray=aH:=by refine aj (aRefKeyMayBeTheName_at ..) ?_;refine fZ (uv ..) ?_;refine fZ (uv ..) ?_;show (_ && es.any (·.refKey))=aH;refine aj (hr ..) ?_;refine aj (kN ..) ?_;rfl
 refine aj (c ..) ?_;refine aj (if_neg (by decide) ..) ?_;refine wpAny_updatePart D ?_;have hm:∀vm ny,om name vm (.str name ny) v (i3 es n)=i3 (putL name vm (.str name ny) v es) (putN name es n):=λvm ny=>mS ..;refine ag (wpAny_lookBehind (o:=i3 (putL name _ (.str name _) v es) (putN name es n)) ((bS _ D (by refine aj (hm ..) ?_;rfl)).trans (congrArg ae (hm _ _))) (pastItsLine_dict ?_) ?_)
 ·have hlen:∀vm key (l:List gA),(putL name vm key v l).length<=l.length+1:=by
   intro vm key l;induction l with
   |nil=>simp [putL]
   |cons a l ih=>unfold putL;split <;> simp <;> omega
  refine aj (sV ..) (aw (hlen _ _ _) ?_);show _<=2 ^ 24+1;omega
 ·exact ar (h _ _)
def kC.S0(prog:dB)(w:d9)(A:bh)(f:ay)(name:bb)(v:ai)(tk:HX)(R:wF->aq->Prop):Prop:=∀{s:aq} {fd:cm} {o:Option ay} (hx:s.heap.get? f=ae (eh fd o)) (hn:kc name) (h:aS (aX prog w) A.in1 (instanceDict f aI) (λo s1=>aS (aX prog w) A.in1 (match o with|some d=>storeInDict d (.str name tk) name v|none=>noDictFor (.ref f) (.type "function") name aH)
 (λfin s'=>match fin with| .done f=>R (.ok f) s'| .again c'=>c'.quiet=aI/\iV (aX prog w) A c' R s') (λe s'=>R (.error e) s') s1) (λe s'=>R (.error e) s') s),iV (aX prog w) A (.call (.builtin "object.__setattr__") ⟨[.ref f,.str name tk,v],[]⟩) R s
namespace kC
@[irreducible] def e0:=NB sY Fb Fv cL inferInstance gL inferInstance ta S0
def cT:=e0.1
def w_:=e0.2.1
def A_:=e0.2.2.1
def f_:=e0.2.2.2.1
def iz:=e0.2.2.2.2.1
def v_:=e0.2.2.2.2.2.1
def tk_:=e0.2.2.2.2.2.2.1
def R_:=e0.2.2.2.2.2.2.2
theorem T0:S0 cT w_ A_ f_ iz v_ tk_ R_:=by
 intro s fd o hx hn h;have SF:=TP;obtain ⟨hp,g,d,t,os⟩:=s;have t1:iL (aX cT w_) hp (jT (.ref f_)) (.type "function"):=(sx hx).andThen .now;have ln:iL (aX cT w_) hp (iQ (.type "function") iz) av:=fe hn;have lm:=OG (M:=aX cT w_) (h:=hp);refine jj SF.slot.plain SF.entry (@rz (aX cT w_) _ _ ⟨hp,g,d,t,os⟩ "object.__setattr__" "object" "__setattr__" (.ref f_) [.str iz tk_,v_] [] _ SF.kind SF.split (t1.andThen Li) (SF.args (.ref f_) (.str iz tk_) v_) ?_);refine aj (osa_eq ..) ?_;have rf:iL (aX cT w_) hp (refuseIfOverridden (.ref f_) "__setattr__") ():=by refine aj (refuse_eq ..) (t1.andThen (lm.andThen ?_));refine fe ?_;kernel_rfl
 have st:iL (aX cT w_) hp (storeTaker? av) av:= .now;refine ag (rf.at (ag (t1.at (ag (ln.at (ag (st.at ?_)))))));dsimp only;show aS _ _ (do ownStreamTells (.ref f_) (.type "function");if ((lX "function" == .type "module")=aI) then _ else _) _ _ _;refine ag (ar ?_);exact aj (if_neg (by decide) ..) (ag h)
end kC
theorem kC{tk:HX}{R:wF->aq->Prop}:kC.S0 prog w A f name v tk R:=by with_unfolding_all exact BB _ _ _ _ _ _ _ _ kC.S0 @kC.T0 prog w A f name v tk R
theorem Lm{tk:HX}{R:wF->aq->Prop}(hx:s.heap.get? f=ae (eh fd (ae dx)))(D:s.heap.get? dx=ae (i3 es n))(hn:kc name)(hr:es.any (·.refKey)=aH)(hz:es.length<=500)
 (h:∀(vm:Int) ny,R (.ok (.ret .none)) {s with heap:=s.heap.update dx (om name vm (.str name ny) v),toks:=s.toks+1}):
 iV (aX prog w) A (.call (.builtin "object.__setattr__") ⟨[.ref f,.str name tk,v],[]⟩) R s:=by
 refine kC hx hn ?_;delta instanceDict;refine ag (pK hx ?_);exact ar (Hv D hr hz h)
theorem IP{tk:HX}{R:wF->aq->Prop}(hx:s.heap.get? f=ae (eh fd av))(hn:kc name)
 (h:∀h' e,h'.get? f=ae (eh fd (ae s.heap.objs.size))->(∃n,h'.get? s.heap.objs.size=ae (i3 [e] n))->(∃ny,e.key= .str name ny)->e.val=v->(∀b o,b≠f->s.heap.get? b=ae o->h'.get? b=ae o)->R (.ok (.ret .none)) {s with heap:=h',toks:=s.toks+1}):
 iV (aX prog w) A (.call (.builtin "object.__setattr__") ⟨[.ref f,.str name tk,v],[]⟩) R s:=by
 refine kC hx hn ?_;delta instanceDict;refine ag (pK hx ?_);dsimp only;refine aj (show (!aI || !typeHasDict (.type "function"))=aH from by decide+kernel) ?_;refine aj (if_neg (by decide) ..) ?_;refine ag (vr (ag ?_));have hx1:=az {cls:= .type "dict",data:= .dict #[]} hx;have iP:s.heap.objs.size≠f:=jI (bN hx);refine wpAny_update hx1 ?_;have PS:((s.heap.push {cls:= .type "dict",data:= .dict #[]}).update f λo=>{o with dict:=ae s.heap.objs.size}).get? f=ae (eh fd (ae s.heap.objs.size)):=bS _ hx1 rfl;have hd2:((s.heap.push {cls:= .type "dict",data:= .dict #[]}).update f λo=>{o with dict:=ae s.heap.objs.size}).get? s.heap.objs.size=ae (i3 [] 0):=(iF _ _ (gf iP)).trans (aW _ rfl);delta dictMade;dsimp only;refine aj (show finalisedInACycleAlone "function"=aH from by decide+kernel) ?_;refine aj (if_neg (by decide) ..) ?_;refine ar (Hv (s:={s with heap:=(s.heap.push {cls:= .type "dict",data:= .dict #[]}).update f λo=>{o with dict:=ae s.heap.objs.size}}) hd2 rfl (by decide) λvm ny=>?_);have hs:=bY ((s.heap.push {cls:= .type "dict",data:= .dict #[]}).update f λo=>{o with dict:=ae s.heap.objs.size}) s.heap.objs.size (om name vm (.str name ny) v);refine h _ ⟨vm,.str name ny,v⟩ (hs.extBut _ _ (gf iP) PS) ⟨_,(bS _ hd2 (by refine aj (mS ..) ?_;rfl)).trans (congrArg ae (mS ..))⟩ ⟨ny,rfl⟩ rfl λb o hb hk=>?_;have Ul:b≠s.heap.objs.size:=λe=>by rw [e] at hk;exact absurd (bN hk) (zJ _)
 exact hs.extBut _ _ Ul ((iF _ _ (gf hb)).trans (az _ hk))
end
section
variable {f:ay}{fd:cm}
theorem yp{o:Option ay}{Q:Unit->aq->Prop}(hx:s.heap.get? f=ae (eh fd o))
 (h:iV (aX prog w) A (.call (.builtin "object.__setattr__") ⟨[.ref f,.str name s.toks,v],[]⟩) (λr s'=>match r with| .ok (.ret _)=>Q () s'| .ok _=>False| .error e=>E e s') {s with toks:=s.toks+1}):
 aS (aX prog w) A (setAttr (.ref f) name v) Q E s:=by
 have t1:iL (aX prog w) s.heap (jT (.ref f)) (.type "function"):=(sx hx).andThen .now;have hs:=R2 (M:=aX prog w) (h:=s.heap);refine ag (JM (ag (ag (ag (t1 _ _ _ _ (λy y e=>e) (hs _ _ _ _ (λy y e=>e) (bE ?_)))))));refine aj (TP.slot.bind ..) (ag (ar (ag (eF (codeAny_mono h λr s' z=>?_)))));rcases r with e|(v|_|_|_) <;> first|exact z|exact ar (ar z)
end
noncomputable def tN(f dx:ay)(fd:cm)(fs:List (bb×V)):cX where
 own:=[f,dx]
 sat:=λZ h=>h.get? f=ae (eh fd (ae dx))/\∃es n,h.get? dx=ae (i3 es n)/\gM Z es fs
 mono:=λZ Z' h hz ⟨a,es,n,b,c⟩=>⟨a,es,n,b,c.mono hz⟩
 loc:=λZ h h' ⟨a,es,n,b,c⟩ hk _ _=>⟨hk f (by exact aa) _ a,es,n,hk dx (by exact ab _ aa) _ b,c⟩
 live:=λZ h ⟨a,es,n,b,c⟩ y hy=>by
  simp at hy;rcases hy with rfl|rfl
  ·exact ⟨_,a⟩
  ·exact ⟨_,b⟩
section
variable {a:bH}{f:ay}{fd:cm}
theorem Ln(hn:kc name)(ho:PE k mu env o (.ref f))(hm:tN f dx fd fs∈mu)(hnd:(fs.map (·.1)).Nodup)(hq:(name,y)∈fs)(hy:∀n,y≠ .bi n)
 (he:autoParam (dW (.Attribute o name p) env=(do let ov <- dW o env;iE p.atName;let r <- eV [ov] (s9 ov name aI);pG o ov r;dg r)) aR):PE k mu env (.Attribute o name p) y:=⟨λ{A E Z s fr Q} hA r q=>by
 refine gZ ?_ he;refine ho.c hA r λ{ov s1 Z1} z1 q1 r1=>aj (aZ.refE q1 ..) (uD (r1.sat _ (aE fr hm)) λhx es n D he=>?_);exact aK (he.some hnd hq) λv hv hr=>mv hx D hv hn (m8 hr hy) (q z1 hr r1.toks)⟩
theorem yq(hn:kc name)(ho:PE k mu env o (.ref f))(hi:mu[i]? =ae (mj f (eh fd av))){Ψ:Mu->Prop}(h:∀dx,Ψ (mu.set i (tN f dx fd [(name,y)])))
 (he:autoParam (∀v,wB (.Attribute o name p) env v=(do let ov <- eV [v] (dW o env);iE p.atName;eV [v,ov] (setAttr ov name v);release [v,ov] [])) aR):mK k mu env (.Attribute o name p) y Ψ:=⟨λ{A E Z s fr v Q} hA r hv q=>by
 refine aj (he ..) (ag (bE (ho.c hA r λ{ov s1 Z1} z1 q1 r1=>?_)));refine aj (aZ.refE q1 ..) (ag (iH (ag (bE ?_))));have hi':=cH (fr:=fr) hi;have hx:s1.heap.get? f=ae (eh fd av):=r1.sat _ (ao hi');refine yp hx (IP (s:={s1 with toks:=s1.toks+1}) hx hn λh' e h1 ⟨n,h2⟩ ⟨ny,h3⟩ h4 h5=>?_);refine wpAny_release (q z1 (gE hi▸r1.swap (tk:=s1.toks+1+1) hi' (tN f s1.heap.objs.size fd [(name,y)]) (λb o hb e=>h5 b o (λq=>hb (q▸aa)) e) ⟨h1,[e],n,h2,⟨ny,h3⟩,by refine aj (h4 ..) ?_;exact hv.mono z1,trivial⟩ ?_ ?_) (h s1.heap.objs.size))
 ·exact cg.mpr ⟨λhm=>c8 (bN hx) (aA.mp hm),eg⟩
 ·exact λb hb=>(aP.mp hb).elim (λe=> .inl (e▸aa)) λhb=> .inr (kX hb)⟩
theorem IQ(hn:kc name)(ho:PE k mu env o (.ref f))(hi:mu[i]? =ae (tN f dx fd fs))(hl:fs.length<=500){Ψ:Mu->Prop}(h:Ψ (mu.set i (tN f dx fd (zT fs name y))))
 (he:autoParam (∀v,wB (.Attribute o name p) env v=(do let ov <- eV [v] (dW o env);iE p.atName;eV [v,ov] (setAttr ov name v);release [v,ov] [])) aR):mK k mu env (.Attribute o name p) y Ψ:=⟨λ{A E Z s fr v Q} hA r hv q=>by
 refine aj (he ..) (ag (bE (ho.c hA r λ{ov s1 Z1} z1 q1 r1=>?_)));refine aj (aZ.refE q1 ..) (ag (iH (ag (bE ?_))));have hi':=cH (fr:=fr) hi;refine uD (r1.sat _ (ao hi')) λhx de n D GL=>?_;have iP:f≠dx:=λe=>(cg.mp (r1.ownNodup hi')).1 (aA.mpr e);refine yp hx (Lm (s:={s1 with toks:=s1.toks+1}) hx D hn GL.noRef (GL.len▸hl) λvm ny=>?_);have hs:=bY s1.heap dx (om name vm (.str name ny) v);exact wpAny_release (q z1 (gE hi▸r1.upd' (x':=tN f dx fd (zT fs name y)) hi' rfl (λb o hb e=>hs.extBut b o (λq=>hb (q▸ab _ aa)) e) ⟨hs.extBut _ _ iP hx,_,_,(bS _ D (by refine aj (mS ..) ?_;rfl)).trans (congrArg ae (mS ..)),GL.put (hv.mono z1)⟩) h)⟩
theorem Lo{fd':cm}{lam:ay}{ob:o6}{pl:mF Bool}(hn:kc name)(ho:PE k mu env o (.ref f))(hm:tN f dx fd fs∈mu)(hnd:(fs.map (·.1)).Nodup)(hq:(name,V.ref lam)∈fs)
 (ha:Dv k mu env (a::es) λys nu=>(Kn nu λhp=>hp.get? lam=ae ob)/\ob.data= .func fd'/\FW k nu (.ref lam) ys Φ) (wz:autoParam (kh (a::es)=aI) aR)
 (he:autoParam (dW (.Call (.Attribute o name apos) (a::es) [] pos) env=(do let ov <- dW o env;iE apos.atName;let (f,first) <- eV [ov] (mB ov name pl);pF pos f first (lj pos (fo (a::es) env)) [])) aR):
 WE k mu env (.Call (.Attribute o name apos) (a::es) [] pos) Φ:=⟨λ{A E Z s fr Q} hA r q=>by
 refine i5 (pl:=pl) ?_ he;refine ho.c hA r λ{ov s1 Z1} z1 q1 r1=>aj (aZ.refE q1 ..) (uD (r1.sat _ (aE fr hm)) λhx de n D GL=>?_);refine aK (GL.some hnd hq) λv hv hr=>?_;rw [aZ.refE hr] at hv;have t1:iL (aX G.prog G.w) s1.heap (jT (.ref f)) (.type "function"):=(sx hx).andThen .now;delta mB mA;refine ag (ag (t1.here (Lh.here ?_)));dsimp only;refine aj (PySem.F.canon_object_ga ..) ?_;refine aj (if_neg (by decide) ..) ?_;refine ag (ag (t1.here (R3.here ?_)));refine ag (ag (t1.here ((fe hn).here ?_)));refine ag (mv hx D hv hn rfl (ar ?_));exact Hf (ob:=ob) (fd:=fd') (first:=[]) ha wz hA r1.toks λ{z z z z z} z2 q2 r2 w=>⟨⟨w.1.app r2,w.2.1⟩,w.2.2.c hA r2 q2 λ{z z z z z} z3=>q (z1.trans (z2.trans z3))⟩⟩
end
end
end
section
variable {k i:Nat}{mu nu:Mu}{env:gV}{p pos:jX}{xs ys:List V}{Φ:V->Mu->Prop}{y:V}{scope:fh}
section
open Builtin
structure DW(G:Gd)(c P:ay):Prop where
 hd:∀h:dH,(∀a o,G.Z0 a=ae o->h.get? a=ae o)->CodeHd h c P
 bt:∀h:dH,(∀a o,G.Z0 a=ae o->h.get? a=ae o)->h.BuiltinsAt G.mg P
 ne:vp≠P
noncomputable abbrev zV:=Nat×Nat×ay×bb
noncomputable def rl:List zV->List ai
 |[]=>[]
 |(a,b,c,_)::l=>pE a::pE b:: .ref c::rl l
theorem AU:∀(l m:List zV),rl (l++m)=rl l++rl m
 |[],_=>rfl
 |(a,b,c,_)::l,m=>by simp [rl,AU l m]
theorem yr:∀l:List zV,TriplesOk (rl l)
 |[]=>trivial
 |(a,b,c,_)::l=>yr l
theorem CodeRec.at{h h':dH}{c:ay}{q:bb}(x:h.CodeRec (.ref c) q)(hk:∀o,h.get? c=ae o->h'.get? c=ae o):h'.CodeRec (.ref c) q:=by refine cq x λc' oc vs t hc h1 h2=>?_;clear x;cases hc;exact ⟨c,oc,vs,t,rfl,hk _ h1,h2⟩
theorem CodeRec.live{h:dH}{c:ay}{q:bb}(x:h.CodeRec (.ref c) q):∃o,h.get? c=ae o:=by refine cq x λc' oc vs t hc h1 h2=>?_;clear x;cases hc;exact ⟨_,h1⟩
noncomputable def gG(P:ay)(l:List zV):cX where
 own:=P::l.map (·.2.2.1)
 sat:=λZ h=>h.get? P=ae (tabObj (rl l).toArray)/\∀q∈l,h.CodeRec (.ref q.2.2.1) q.2.2.2
 mono:=λz z z z a=>a
 loc:=λZ h h' ⟨a,b⟩ hk _ _=>⟨hk P aa _ a,λq hq=>CodeRec.at (b q hq) λo ho=>hk _ (ab _ (aG.mpr ⟨q,hq,rfl⟩)) o ho⟩
 live:=λZ h ⟨a,b⟩ c hc=>by
  rcases aP.mp hc with rfl|hc
  ·exact ⟨_,a⟩
  ·refine aK (aG.mp hc) λq hq dO=>?_;subst dO;exact CodeRec.live (b q hq)
noncomputable abbrev yt(qual:bb)(params:CX)(body:bH)(scope:fh)(clos:List (bb×ay))(c:ay)(ct:ai):cm:=kla_fn "<lambda>" qual params body scope clos ((G.mg "__name__").getD .none) (.ref c) ct
section
variable {c P:ay}{params:CX}{body:bH}{clos:List (bb×ay)}{l:List zV}
theorem Kn.code{q:zV}(h:gG P l∈mu)(hq:q∈l):Kn mu λhp=>hp.CodeRec (.ref q.2.2.1) q.2.2.2:=λZ s r=>(r.sat _ h).2 q hq
theorem DX(hn:defaultsOf params env=([],[])):dW (.Lambda params body scope pos) env=makeFunction "<lambda>" (env.qual++"<lambda>") params (.expr body) scope env [] [] [] pos pos.line:=by (refine aj (arm_eval_Lambda ..) ?_;refine aj (hn ..) ?_);rfl
theorem Ce(he:du env)(hc:env.code= .ref c)(LA:DW G c P)(B:g7 G)(hi:mu[i]? =ae (gG P l))(CB:codeAmong pos (rl l)=av)(hcl:closureFor scope env=dg clos)(hn:defaultsOf params env=([],[]))
 (h:∀f c' ct,Φ (.ref f) (mj f (eh (yt (env.qual++"<lambda>") params body scope clos c' ct) av)::mu.set i (gG P (l++[(pos.line,pos.col,c',env.qual++"<lambda>")])))):WE k mu env (.Lambda params body scope pos) Φ:=⟨λ{A E Z s fr Q} hA r q=>by
 refine aj (DX hn ..) ?_;have hi':=cH (fr:=fr) hi;refine dU (r.sat _ (ao hi')) λhP QU=>kla_makeFunction (mg:=G.mg) hcl he.globals (B.g _ r.z0in) hc (LA.hd _ r.z0in) hP (by refine aj (gP ..) ?_;exact yr l) (by refine aj (gP ..) ?_;exact CB) LA.ne (LA.bt _ r.z0in) λc' ctv h' tk hx hge hlt hrec QT=>?_;have qf:(P::l.map (·.2.2.1)).Nodup:=r.ownNodup hi';have PV:∀b∈P::l.map (·.2.2.1),b < s.heap.objs.size:=λb hb=>(aP.mp hb).elim (λe=>e▸bN hP) λhb=>by
  refine aK (aG.mp hb) λq hq eT=>?_;subst eT;exact (CodeRec.live (QU q hq)).elim λz ho=>bN ho
 have Tc:∀b o,b≠P->s.heap.get? b=ae o->(h'.push (kla_obj "<lambda>" (env.qual++"<lambda>") params body scope clos ((G.mg "__name__").getD .none) c' ctv)).get? b=ae o:=λb o hb e=>az _ (hx b o hb e);have hnd:(P::(l++[(pos.line,pos.col,c',env.qual++"<lambda>")]).map (·.2.2.1))=(P::l.map (·.2.2.1))++[c']:=by refine aj (bj ..) ?_;rfl
 have rc:=r.swap (tk:=tk) hi' (gG P (l++[(pos.line,pos.col,c',env.qual++"<lambda>")])) (λb o hb e=>Tc b o (λq=>hb (q▸aa)) e) ⟨az _ (QT.trans (by refine aj (AU ..) ?_;simp [rl])),λq hq=>?_⟩ ?_ λb hb=>?_
 ·have hsz:s.heap.objs.size < h'.objs.size:=b7 hge hlt;rw [gE hi] at rc;refine q .rfl (.ref _) (rc.add (mj h'.objs.size (eh (yt (env.qual++"<lambda>") params body scope clos c' ctv) av)) (aW _ rfl) eg λb hb=>?_) (h h'.objs.size c' ctv);refine aj (aA.mp hb ..) (⟨λhm=>?_,r.fresh (eB hsz)⟩);refine aK (bG.mp hm) λx hx1 PS=>?_;rw [<- gE (fr:=fr) hi] at hx1;rcases List.mem_or_eq_of_mem_set hx1 with hx1|rfl
  ·exact r.notOwn (eB hsz) (bG.mpr ⟨x,hx1,PS⟩)
  ·rcases bc.mp (show h'.objs.size∈(P::l.map (·.2.2.1))++[c'] from hnd▸PS) with hm|hm
   ·exact Nat.lt_asymm hsz (PV _ hm)
   ·exact zJ _ (aA.mp hm▸hlt)
 ·rcases bc.mp hq with hq|hq
  ·exact CodeRec.at (QU q hq) λo ho=>Tc _ o (λe=>(cg.mp qf).1 (e▸aG.mpr ⟨q,hq,rfl⟩)) ho
  ·exact aj (aA.mp hq ..) (CodeRec.at hrec λo ho=>az _ ho)
 ·show (P::(l++[(pos.line,pos.col,c',env.qual++"<lambda>")]).map (·.2.2.1)).Nodup;refine aj (hnd ..) ?_;refine gj (bP ..) ?_;exact ⟨qf,eg,λa ha b hb e=>Jw.mpr hge ((e.trans (aA.mp hb))▸PV a ha)⟩
 ·exact (bc.mp (show b∈(P::l.map (·.2.2.1))++[c'] from hnd▸hb)).elim .inl λh=> .inr (aA.mp h▸hge)⟩
theorem AV{c':ay}(he:du env)(hc:env.code= .ref c)(LA:DW G c P)(B:g7 G)(hi:gG P l∈mu)(hf:codeAmong pos (rl l)=ae (.ref c'))(hcl:closureFor scope env=dg clos)(hn:defaultsOf params env=([],[]))
 (h:∀f ct,Φ (.ref f) (mj f (eh (yt (env.qual++"<lambda>") params body scope clos c' ct) av)::mu)):WE k mu env (.Lambda params body scope pos) Φ:=⟨λ{A E Z s fr Q} hA r q=>by
 refine aj (DX hn ..) (dU (r.sat _ (aE fr hi)) λhP QU=>?_);refine kla_makeFunctionHit (mg:=G.mg) hcl he.globals (B.g _ r.z0in) hc (LA.hd _ r.z0in) hP (by refine aj (gP ..) ?_;exact yr l) (by refine aj (gP ..) ?_;exact hf) (LA.bt _ r.z0in) λctv h' tk hk hsz=>?_;exact q .rfl (.ref _) (r.addNew (tk:=tk) _ (λb o e=>az _ (hk b o e)) (aW _ rfl) eg λb hb=>by refine aj (aA.mp hb ..) ?_;exact hsz) (h h'.objs.size ctv)⟩
end
end
variable {e t:bH}{es:List bH}{ctx:Mu}{x:V}{D:ay}
theorem Lp{scope:fh}{cl:List (bb×ay)}{elt iter:bH}{spos:jX}(J:Nat->List V->Mu->Prop)(sc:Fc scope env cl)(src:pd k mu env iter t ctx xs)(hk:1<=k)(hsz:xs.length<=2 ^ 21)(h0:J 0 [] mu)(q7:∀i ys nu,J i ys nu->∀o∈ctx,o∈nu)(hlen:∀i ys nu,J i ys nu->ys.length=i)
 (turn:∀C D i x ys nu,xs[i]? =ae x->J i ys nu->∃bB,mK k (uK scope C::nu) (pf scope cl C env) t x (λru=>ru=nE scope C bB::nu)/\
  WE k (nE scope C bB::bl D ys::nu) (pf scope cl C env) elt λy ru=>∃nu',ru=nE scope C bB::bl D ys::nu'/\J (i+1) (ys++[y]) nu')
 (fin:∀D ys nu,J xs.length ys nu->fM D (bl D ys::nu) Φ) (hs:autoParam (∀x,bw iter env x=dg x) aR):WE k mu env (.ListComp elt [⟨t,iter,[],0⟩] scope spos) Φ:=by
 show WV k mu (dW _ _) Φ;refine aj (eval_ListComp ..) (xD (g:=⟨t,iter,[],0⟩) rfl hs sc uL src λC D=>?_);refine rF Kr hk rfl rfl
  (λi nu=>∃ys nu',nu=uK scope C::bl D ys::nu'/\J i ys nu') ⟨[],mu,rfl,h0⟩ (λi nu ⟨ys,nu',e1,hJ⟩ o ho=>by refine aj (e1 ..) ?_;exact ab _ (ab _ (q7 i ys nu' hJ o ho))) (λi x nu hx ⟨ys,nu',e1,hJ⟩=>?_) (λnu ⟨ys,nu',e1,hJ⟩=>⟨_,_,e1,fin D ys nu' hJ⟩)
 subst e1;refine aK (turn C D i x ys nu' hx hJ) λbB h1 h2=>mK.mid (h1.mono λnu e=>⟨_,e,?_⟩);refine ⟨aI,dk,λhb=>(J3 hb),λz it=>?_⟩;refine Wu.weak (Ψ:=λnu=>∃y xm,nu=nE scope C bB::bl D (ys++[y])::xm/\J (i+1) (ys++[y]) xm) (WU.bf (vQ (i:=1) (ys:=ys) (h2.mono λy ru ⟨xm,e1,Um⟩=>?_))) λnu ⟨y,xm,e1,Um⟩=>⟨_,e1▸Le.forget,ys++[y],xm,rfl,Um⟩
 subst e1;refine ⟨rfl,?_,y,xm,rfl,Um⟩;have:=hlen i ys nu' hJ;have hi:=(aB.mp hx).1;lia
theorem Lq(h:∀I,Φ (.ref I) (mU I xs::mu)):BX k mu (.builtin "iter") [bZ (.list xs)] Φ:=⟨λ{A E Z s fr vs Q} hA r hq q=>by
 refine aK (hq.one) λv dO q1=>?_;subst dO;refine cE (rk.list q1) λa ws n eT e1 hr=>?_;subst eT;refine gv (by decide+kernel) (by decide+kernel) kdk_entry_iter (kdk_args_iter _) ?_;unfold Builtin.«iter»;refine ag (m:=CL "iter" 1 2 _) (cN (a:=[cY a]) (by first|rfl|kernel_rfl!) ?_);show aS _ _ (rb (.ref a) >>=_) _ _ s;refine ag (lr (⟨_,r.zin _ _ e1,rfl,n,rfl⟩:s.heap.IsList a ws) ?_);exact ar ⟨_,rfl,q .rfl (.ref _) (r.addNew (tk:=s.toks) (mU s.heap.objs.size xs) (λb o e=>az _ e) ⟨a,ws,n,0,⟨_,aW _ rfl,rfl,rfl⟩,e1,hr⟩ eg λz h=>kX h) (h _)⟩⟩
theorem Lr{b:Array UInt8}(h:∀I,Φ (.ref I) (jK I (b.toList.map pM)::mu)):BX k mu (.builtin "iter") [bZ (.bytes b)] Φ:=⟨λ{A E Z s fr vs Q} hA r hq q=>by
 refine aK (hq.one) λv gi q1=>?_;subst gi;refine cJ (aZ.is q1) λt iC=>?_;subst iC;refine gv (by decide+kernel) (by decide+kernel) kdk_entry_iter (kdk_args_iter _) ?_;unfold Builtin.«iter»;refine ag (m:=CL "iter" 1 2 _) (cN (a:=[CM b t]) (by first|rfl|kernel_rfl!) ?_);show aS _ _ (rb (.bytes b t) >>=_) _ _ s;refine ag (KBw.pyIter_bytes ?_);exact ar ⟨_,rfl,q .rfl (.ref _) (r.addNew (tk:=s.toks) (jK s.heap.objs.size (b.toList.map pM)) (λb o e=>az _ e) ⟨b,t,0,⟨_,aW _ rfl,rfl,rfl⟩,rfl⟩ eg λz h=>kX h) (h _)⟩⟩
theorem Ls{Z:bI}{vs:List ai}{ns:List Int}(h:bW G Z vs (ns.map V.int)):uo vs ns:=by
 induction ns generalizing vs with
 |nil=>cases h;exact .nil
 |cons n ns ih=>
  cases h with
  |cons a r=>exact aZ.intC a λt=> .cons _ _ (ih r)
theorem Lu{ns:List Int}(hr:∀n∈ns,0<=n/\n < 256)(hl:ns.length<=2 ^ 20):Fn k mu (.type "bytes") [me mu (ns.map V.int)] (bZ (.bytes (JN ns))):=⟨λ{A E Z s fr vs Q} hA r hq q=>by
 refine aK (hq.one) λv kG q1=>?_;subst kG;refine cE (me.at q1 r) λa ws n ma h1 h2=>?_;subst ma;exact call_bytes_ints (vs:=ws.toList) (⟨_,h1,rfl,n,rfl⟩:s.heap.IsList a ws.toList.toArray) (Ls h2) hr (by (refine aj (h2.length ..) ?_;refine aj (ak ..) ?_);exact aw hl (show 2 ^ 20<=2 ^ 24 by decide)) hA.hh λh' t k' hk=>q .rfl (.bytes _ _) (r.keep (tk:=k') hk)⟩
variable {P:Vw}{o:bH}{apos:jX}{it L:ay}
structure DY(G:Gd)(a c:ay)(st:d6):Prop where
 go:∃ob pm doc,G.Z0 a=ae ob/\ob.data= .func (mz (md st) (wJ st) (fR st) (bk st) pm (.ref c) doc)/\∀h:dH,(∀a o,G.Z0 a=ae o->h.get? a=ae o)->h.CodeRec (.ref c) (md st)
theorem R4(H:Hy G){a c:ay}{st:d6}(F:DY G a c st){names:List bb}{vals':ay->el}
 (i0:∀pm cd doc vs,vs.length=xs.length->pJ (xB st pm cd doc) ⟨vs,[]⟩=dg (names.zip vs)) (hnd:(aM 0 (bk st).names).nd) (hk:(bk st).kind= .function)
 (hb:∀pm cd doc L,i9 (dT (xB st pm cd doc) a L) L (aM (L+1) (bk st).names) names xs (nones (aM (L+1) (bk st).names)) (vals' L))
 (h:∀pm doc L,du (dT (xB st pm (.ref c) doc) a L)->WS k (bq L (aM (L+1) (bk st).names) (vals' L)::mu) (dT (xB st pm (.ref c) doc) a L) (fR st) (lE Φ)) (wy:autoParam ((bk st).isCoroutine=aH) aR) (mQ:autoParam ((bk st).isGenerator=aH) aR):
 FW (k+1) mu (.ref a) xs Φ:=by
 exact cE (F.go) λob pm doc h0 hd hcd=>KG H.B (names:=names) (vals':=vals') (Kn.z0 h0) hd (λZ s r=>hcd _ r.z0in) rfl (i0 pm _ doc) hnd (λL=>⟨hk,rfl,rfl⟩) (hb pm _ doc) (λL=>h pm doc L ⟨hk,rfl,rfl⟩) wy mQ
theorem DZ{id T:String}{name:bb}(ho:EV k mu env o P)(ht:Ty mu P T)(ha:Dv k mu env (e::es) λys nu=>∃Ps y,(∀Z vs,bW G Z vs ys->j3 Z vs Ps)/\Fn k nu (.builtin id) (P::Ps) (bZ y)/\Φ y nu)(pa:zu T)(slot:Slot T name id)
 (MY:jT (.builtin id)=dg (.type "method_descriptor")) (hl:(apos.endLine == pos.line)=aI) (wz:autoParam (kh (e::es)=aI) aR) (hsz:autoParam ((e::es).length < 29) aD) (so:autoParam (ro o name env (dW o env)=dW o env) aR):
 WE k mu env (.Call (.Attribute o name apos) (e::es) [] pos) Φ:=⟨λ{z z z z z z} hA r q=>
 BP ho ht (kY wz pos) pa slot MY hl hsz so hA r λ{z z z} z1 q1 r1=>Hh ha wz hA r1 λz2 q2 r2 ⟨Ps,y,hc,hF,hΦ⟩=>hF.c hA r2 (.cons (P.mono _ _ _ z2 q1) (hc _ _ q2)) λ{z z z} z3 q3 r3=>q (z1.trans (z2.trans z3)) q3 r3 hΦ⟩
theorem BX.mono{f:ai}{Ps:List (Vw)}{Ψ:V->Mu->Prop}(h:BX k mu f Ps Φ)(hi:∀y nu,Φ y nu->Ψ y nu):BX k mu f Ps Ψ:=⟨λ{x x x x x x x} hA r v q=>h.c hA r v λ{x x x x x} z w r u=>q z w r (hi _ _ u)⟩
noncomputable def F2:bb:=md (cM 17)++".<locals>."++"<lambda>"
noncomputable def zW:Option (ay×ay)->List zV
 |none=>[]
 |some (a,b)=>[(200,12,a,F2),(201,17,b,F2)]
structure Lv(G:Gd):Prop where
 la:DW G 274 272
 f275:DY G 275 274 (cM 17)
noncomputable abbrev AW(L:ay)(text:bb)(f it:ay):cX:=bq L (aM (L+1) (bk (cM 17)).names) [ae (.str text),ae (.ref f),ae (.ref it)]
def F3(lam it L f:ay)(text:bb)(ld:cm)(a b:ay):Prop:=
 ∀(k:Nat) (mu:Mu) (i:Nat),AW L text f it∈mu->mj lam (eh ld av)∈mu->gG 272 (zW (ae (a,b)))∈mu->
  (∀c xs,mu[i]? =ae (mU it (.str ⟨#[c]⟩::xs))->FW (k+2) mu (.ref lam) [.int 1] λy nu=>y= .str ⟨#[c]⟩/\nu=mu.set i (mU it xs))/\
  (mu[i]? =ae (mU it [])->FW (k+2) mu (.ref lam) [.int 1] λy nu=>y= .str ""/\nu=mu.set i (pS))
theorem IR(c:Nat):fP "" [⟨#[c]⟩]=⟨#[c]⟩:=by rfl
noncomputable def tn(x:bb):List Int:=x.cps.toList.map fB
noncomputable def lamA:d6->CX
 | .Assign _ (.Lambda a _ _ _) _=>a
 |_=>Ft
noncomputable def lamB:d6->bH
 | .Assign _ (.Lambda _ b _ _) _=>b
 |_=> .Constant .none 0 ⟨0,0,0,0⟩
noncomputable def R5:d6->fh
 | .Assign _ (.Lambda _ _ s _) _=>s
 |_=>BC
noncomputable def R6:d6:=(fR (cM 17)).getD 1 (.Pass ⟨0,0,0,0⟩)
noncomputable abbrev Qy(a:ay)(ct:ai):cm:=yt F2 (lamA R6) (lamB R6) (R5 R6) [] a ct
noncomputable def OH:d6:=(fR (cM 17)).getD 2 (.Pass ⟨0,0,0,0⟩)
noncomputable abbrev rX(L b:ay)(ct:ai):cm:=yt F2 (lamA OH) (lamB OH) (R5 OH) [("signs",L+1)] b ct
def jw.S0(L b:ay)(ct:ai)(_:Nat):Prop:=∀{it f lam a:ay} {text:bb} (H:Hy G),F3 lam it L f text (rX L b ct) a b
namespace jw
@[irreducible] def e0:=G2 cL cL gL eN S0
def L_:=e0.1
def b_:=e0.2.1
def NG:=e0.2.2.1
theorem T0:S0 L_ b_ NG e0.2.2.2:=λ{it} {f} {lam} {a} {text} H=>λk mu i h1 h2 h3=>by
 have go:∀(y:V) (o:cX) (r:bb),(∀(HU:Mu),BX (k+1) (HU++mu) (.builtin "next") [bZ (.ref it),bZ (.str "")] λz nu=>z= .str r/\nu=HU++mu.set i o)->fP "" [r]=r->Nm "" [r]=aI->FW (k+2) mu (.ref lam) [.int 1] λy nu=>y= .str r/\nu=mu.set i o:=λy o r hnx hj hok=>by
  refine FM H.B (names:=["size"]) (vals':=λw=>[ae (.int 1)]) (Kn.obj h2) rfl (Kn.code h3 (q:=(201,17,b_,F2)) (by exact ab _ aa)) rfl (λvs h=>?_) (by show (aM 0 (R5 OH).names).nd;decide+kernel) (λL_=>⟨rfl,rfl,rfl⟩) (λL2=>?_) (λL2=>?_)
  ·exact uQ h λa=>rfl
  ·exact .cons (j:=0) .loc rfl .nil
  have he:du (dT (rX L_ b_ NG) lam L2):=⟨rfl,rfl,rfl⟩;refine DZ cO mL (cA (Lp (ctx:=[]) (xs:=[V.int 0]) (λj ys nu=>(j=0/\ys=[]/\nu=vS (rX L_ b_ NG) L2 [ae (.int 1)]::mu)\/(j=1/\ys=[V.str r]/\nu=vS (rX L_ b_ NG) L2 [ae (.int 1)]::mu.set i o))
   ⟨rfl,rfl,by decide+kernel,by decide+kernel⟩ (fL (n:=1) (iN H he H.b_range rfl) (ah (j:=0) he .loc aa rfl) rfl (by decide)) (by lia) (by decide) (.inl ⟨rfl,rfl,rfl⟩) (λw w w w o ho=>eo ho)
   (λj ys nu h=>by rcases h with ⟨rfl,rfl,_⟩|⟨rfl,rfl,_⟩ <;> rfl) (λC D j x ys nu hx hJ=>?_) (λD ys nu hJ=>?_))) (by exact eM) (by exact nz) (by exact nA) rfl
  ·rcases hJ with ⟨rfl,rfl,rfl⟩|⟨rfl,_,_⟩
   ·refine ⟨_,qB (j:=1) he.comp .loc,?_⟩;refine nK (j4 H he.comp H.b_next rfl) (au (ah (j:=2) (L:=L_) (lay:=aM (L_+1) (bk (cM 17)).names) he.comp (.free (L_+1) "signs" rfl rfl rfl rfl rfl) (ab _ (ab _ (ab _ h1))) rfl) (au cO aT)) ((hnx [_,_,_]).mono λz nu ⟨e1,e2⟩=>?_);subst e1;exact ⟨_,e2,.inr ⟨rfl,rfl,rfl⟩⟩
   ·exact gK hx
  ·rcases hJ with ⟨h,_⟩|⟨_,rfl,rfl⟩
   ·cases h
   ·refine fM.list (e8 ⟨[me (vS (rX L_ b_ NG) L2 [ae (.int 1)]::mu.set i o) [V.str r]],.str r,λZ vs hv=>?_,?_,?_⟩)
    ·cases hv with
     |cons a b_=>cases b_;exact .cons (BJ a) .nil
    ·have:=He (k:=k+1) (mu:=vS (rX L_ b_ NG) L2 [ae (.int 1)]::mu.set i o) (sep:="") (ts:=[r]) hok;rw [hj] at this;exact this
    ·exact jJ.tail (jJ.keep ⟨rfl,rfl⟩)
 refine ⟨λc xs hi=>go (.str ⟨#[c]⟩) (mU it xs) _ (λHU=>?_) (IR c) rfl,λhi=>go (.str "") (pS) "" (λHU=>?_) rfl (by decide+kernel)⟩
 ·have hi':(HU++mu)[HU.length+i]? =ae (mU it (V.str ⟨#[c]⟩::xs)):=by (refine aj (JO (dD _ _) ..) ?_;refine aj (mG ..) ?_);exact hi
  refine K5 (i:=HU.length+i) hi' ⟨rfl,?_⟩;refine aj (Q4 _ _ (dD _ _) ..) ?_;refine aj (mG ..) ?_;rfl
 ·have hi':(HU++mu)[HU.length+i]? =ae (mU it []):=by (refine aj (JO (dD _ _) ..) ?_;refine aj (mG ..) ?_);exact hi
  refine IC (i:=HU.length+i) hi' ⟨rfl,?_⟩;refine aj (Q4 _ _ (dD _ _) ..) ?_;refine aj (mG ..) ?_;rfl
end jw
theorem jw{L b:ay}{ct:ai}:jw.S0 L b ct 0:=by with_unfolding_all exact vK _ _ _ _ jw.S0 @jw.T0 L b ct 0
noncomputable abbrev Lw(pm doc:ai)(L:ay):gV:=dT (xB (cM 17) pm (.ref 274) doc) 275 L
theorem yu(H:Hy G){pm doc:ai}{L f dx lam:ay}{gd ld:cm}{text:bb}(he:du (Lw pm doc L))(hs:∀c∈text.cps.toList,c < 256)(hl:text.cps.size<=2 ^ 20){Φ:V->Mu->Prop}
 (hΦ:Φ (.ref f) (mj lam (eh ld av)::tN f dx gd [("read",.ref lam),("co_exceptiontable",.bytes (JN (tn text)))]::mU it (nD text)::AW L text f it::mu)):
 WS (k+1) (mj lam (eh ld av)::tN f dx gd [("read",.ref lam)]::mU it (nD text)::AW L text f it::mu) (Lw pm doc L) ((fR (cM 17)).drop 3) (lE Φ):=by
 have h3:∀{a b c d:cX} {l:Mu},d∈a::b::c::d::l:=ab _ (ab _ (ab _ aa));refine aC (bX (iZ (S:=bZ (.bytes (JN (tn text)))) (iN H he H.b_bytes rfl) (au (dE (jO text.cps.toList (λc=> .str ⟨#[c]⟩) (λ(c:Nat)=> .int (c:Int)) ⟨rfl,rfl,by decide+kernel,by decide+kernel⟩ (Og (ah (j:=0) he .loc h3 rfl)) (by lia) (by exact aw hl (by decide)) (λC1 a ha=>iu 1 he.comp .loc dk (λhb=>(ej (j4 H he.comp H.b_ord rfl) (au (ah (j:=1) he.comp .loc aa rfl) aT) RB))))) aT) ?_)
  (IQ (i:=1) wW (ah (j:=1) he .loc h3 rfl) rfl (by show 1<=500;decide) ?_) rfl rfl)
 ·have:=Lu (k:=k+1) (mu:=mj lam (eh ld av)::tN f dx gd [("read",.ref lam)]::mU it (nD text)::AW L text f it::mu) (ns:=tn text) (λn hn=>by
   refine aK (aG.mp hn) λc hc dO=>?_;subst dO;have:=hs c hc;exact ⟨dJ _,by show (c:Int) < 256;lia⟩) (by unfold tn;simpa using hl)
  rw [show (tn text).map V.int=text.cps.toList.map λ(c:Nat)=>V.int (c:Int) from by unfold tn;refine aj (a0 ..) ?_;rfl] at this;exact this
 ·refine aC (gw (cf (ah (j:=1) he .loc h3 rfl) (jJ.keep hΦ)))
def m9.S0(k:Nat)(mu:Mu)(i:Nat)(text:bb):Prop:=∀{o:Option (ay×ay)} (H:Hy G) (GH:Lv G) (hi:mu[i]? =ae (gG 272 (zW o))) (hs:∀c∈text.cps.toList,c < 256) (hl:text.cps.size<=2 ^ 20),FW (k+2) mu (.ref 275) [.str text] λy nu=>∃f dx lam it L gd ld a b,y= .ref f/\(∀q,o=ae q->q=(a,b))/\F3 lam it L f text ld a b/\
 nu=mj lam (eh ld av)::tN f dx gd [("read",.ref lam),("co_exceptiontable",.bytes (JN (tn text)))]::mU it (nD text)::AW L text f it::mu.set i (gG 272 (zW (ae (a,b))))
namespace m9
@[irreducible] def e0:=G2 eN gD eN inferInstance S0
def k_:=e0.1
def e9:=e0.2.1
def i_:=e0.2.2.1
def Qz:=e0.2.2.2
theorem T0:S0 k_ e9 i_ Qz:=by
 intro o H GH hi hs hl;refine R4 H GH.f275 (names:=["text"]) (vals':=λL=>[ae (.str Qz),av,av]) (λpm cd doc vs h=>?_) (by decide+kernel) rfl (λpm cd doc L=>?_) (λpm doc L he=>?_)
 ·exact uQ h λa=>rfl
 ·exact .cons (j:=0) .loc rfl .nil
 refine aC (b4 (nK (j4 H he H.b_iter rfl) (au (iZ (iN H he H.b_list rfl) (au (ah (j:=0) he .loc aa rfl) aT) (Ij (by show _<=2 ^ 24;exact aw (by assumption) (by decide)))) aT) (Lq λI=>aQ (i:=1) (j:=2) he (.cell (L+1) "signs") rfl ?_)) rfl rfl);cases o with
 |none=>
  refine aC (b4 (Ce (i:=i_+2) he rfl GH.la H.B hi rfl rfl rfl λf c' ct=>aQ (i:=2) (j:=1) he .loc rfl ?_) rfl rfl);have Uo:(e9.set i_ (gG 272 (zW av++[(200,12,c',F2)])))[i_]? =ae (gG 272 [(200,12,c',F2)]):=by refine aj (eA (aB.mp hi).1 ..) ?_;rfl
  refine aC (b4 (Ce (i:=i_+3) he rfl GH.la H.B Uo rfl rfl rfl λlam c2 ct2=>yq (i:=1) qI (ah (j:=1) he .loc (ab _ (ab _ (ab _ aa))) rfl) rfl λdx=>?_) rfl rfl);refine yu H he hs hl ⟨f,dx,lam,I,L,Qy c' ct,rX L c2 ct2,c',c2,rfl,(λq e=>gK e),jw H,?_⟩;show _::_::_::_::(e9.set i_ _).set i_ _=_;refine aj (vi ..) ?_;rfl
 |some q=>
  obtain ⟨a,b⟩:=q;have hm:=ao hi;have m2:∀{x y:cX},gG 272 (zW (ae (a,b)))∈x::y::e9:=ab _ (ab _ hm);have m3:∀{x y z:cX},gG 272 (zW (ae (a,b)))∈x::y::z::e9:=ab _ m2;refine aC (b4 (AV he rfl GH.la H.B m2 rfl rfl rfl λf ct=>aQ (i:=2) (j:=1) he .loc rfl ?_) rfl rfl);refine aC (b4 (AV he rfl GH.la H.B m3 rfl rfl rfl λlam ct2=>yq (i:=1) qI (ah (j:=1) he .loc (ab _ (ab _ (ab _ aa))) rfl) rfl λdx=>?_) rfl rfl);refine yu H he hs hl ⟨f,dx,lam,I,L,Qy a ct,rX L b ct2,a,b,rfl,(λq e=>by (have lA:=aO e;clear e;subst lA);rfl),jw H,?_⟩;have e1:e9.set i_ (gG 272 (zW (ae (a,b))))=e9:=by refine aj (j0 _ hi ..) ?_;refine fZ (gh hi ..) ?_;rfl
  refine aj (e1 ..) ?_;rfl
end m9
theorem m9{text:bb}:m9.S0 k mu i text:=by with_unfolding_all exact vK _ _ _ _ m9.S0 @m9.T0 k mu i text
variable {l r:bH}{K:fH}{st:List V->List Nat->Option V->Option V->Option V->Option V->Option V->Option V->Option V->Mu}{pm cd doc:ai}{Ok:List V->Prop}{Xp:Mu->Prop}{I:ay}
section
variable {op:xo}
theorem sG(hl:WE k mu env l λy nu=>∃Q z,EV k nu env r Q/\xR k nu op (bZ y) Q (bZ z)/\Φ z nu):WE k mu env (.BinOp l op r p) Φ:=⟨λ{x x x x x x} hA R q=>by
 with_reducible refine NO ?_
 exact hl.c hA R λz1 q1 r1 ⟨Q,z,hr,ho,hΦ⟩=>hr.c hA r1 λ{x x x} z2 p2 r2=>ho.c hA r2 (q1.mono z2) p2 λ{x x x} z3 p3 r3=>q (z1.trans (z2.trans z3)) p3 r3 hΦ⟩
theorem IS{id T:String}{name:bb}(ho:EV k mu env o P)(ht:Ty mu P T)(ha:Dv k mu env (e::es) λys nu=>∃Ps,(∀Z vs,bW G Z vs ys->j3 Z vs Ps)/\BX k nu (.builtin id) (P::Ps) Φ)(pa:zu T)(slot:Slot T name id)
 (MY:jT (.builtin id)=dg (.type "method_descriptor")) (hl:(apos.endLine == pos.line)=aI) (wz:autoParam (kh (e::es)=aI) aR) (hsz:autoParam ((e::es).length < 29) aD) (so:autoParam (ro o name env (dW o env)=dW o env) aR):
 WE k mu env (.Call (.Attribute o name apos) (e::es) [] pos) Φ:=⟨λ{z z z z z z} hA r q=>
 BP ho ht (kY wz pos) pa slot MY hl hsz so hA r λ{z z z} z1 q1 r1=>Hh ha wz hA r1 λz2 q2 r2 ⟨Ps,hc,hF⟩=>hF.c hA r2 (.cons (P.mono _ _ _ z2 q1) (hc _ _ q2)) λ{z z z z z} z3=>q (z1.trans (z2.trans z3))⟩
theorem Lx{a b:cX}(h:Φ (.list xs) mu):jJ (.ref D) (a::bl D xs::b::mu) Φ:=jJ.tail (jJ.list (gW _ _) h)
theorem RT.mono{α:Type}{t:mF α}{Ψ Ψ':Mu->Prop}(h:RT k mu env t Ψ)(hi:∀nu,Ψ nu->Ψ' nu):RT k mu env t Ψ':=⟨λ{y y y y y y y} hA hf iD r q=>h.c hA hf iD r λ{y y y y} z hH hx w=>q z hH hx (hi _ w)⟩
inductive D2:List Nat->List (Nat×Nat×Nat×Nat)->Prop
 |stop {bs:_}:yo bs=av->bs.length<=8->D2 bs []
 |more {bs q rs qs:_}:yo bs=ae (q,rs)->q.1 < 2 ^ 60->q.2.1 < 2 ^ 60->q.2.2.1 < 2 ^ 60->q.2.2.2 < 2 ^ 60->D2 rs qs->D2 bs (q::qs)
noncomputable def D3(q:Nat×Nat×Nat×Nat):V:= .ent [.int (q.1*2),.int (q.1*2+q.2.1*2),.int (q.2.2.1*2),.int (q.2.2.2 / 2),.bool (decide (q.2.2.2 % 2=1))]
theorem uX:∀{bs:List Nat} {v n:Nat} {rs:List Nat},jv v bs=ae (n,rs)->n < (v+1)*64 ^ bs.length
 |b::bs,v,n,rs,h=>by
  have hb:b % 64 < 64:=ee _ (by decide);unfold jv at h;refine aj (bK ..) ?_;refine aj (CI ..) ?_
  split at h
  ·have:=uX h;refine cb this ?_;have:(v*64+b % 64+1)<=(v+1)*64:=by lia
   calc (v*64+b % 64+1)*64 ^ bs.length<=((v+1)*64)*64 ^ bs.length:=xx _ this
    _=(v+1)*(64 ^ bs.length*64):=by (refine aj (jY ..) ?_;refine aj (rg 64 ..) ?_;rfl)
  ·cases h;have h1:v*64+b % 64 < (v+1)*64:=by lia
   have h2:0 < 64 ^ bs.length:=Nat.pow_pos (by decide)
   calc v*64+b % 64 < (v+1)*64:=h1
    _<=(v+1)*(64 ^ bs.length*64):=UD _ (by lia)
theorem F4{bs rs:List Nat}{n:Nat}(h:mM bs=ae (n,rs))(hl:bs.length<=8):n < 2 ^ 60:=by
 have:=uX h;have h2:(0+1)*64 ^ bs.length<=64 ^ 8:=by (refine aj (eC ..) ?_;refine aj (xv ..) ?_);exact e7 (by decide) hl
 have h3:(64:Nat) ^ 8<=2 ^ 60:=by decide
 lia
theorem and1(b:Nat):(lZ (b:Int) 1 != 0)=decide (b % 2=1):=by
 have h:lZ (b:Int) 1=((b % 2:Nat):Int):=by refine aj (bitAnd_pp (dJ _) (by decide) ..) ?_;refine aj (b8 ..) ?_;exact congrArg _ (E7 b 1)
 refine aj (h ..) ?_;rcases JJ b with h2|h2 <;> refine aj (h2 ..) ?_ <;> rfl
noncomputable abbrev R7(L f I D:ay)(w:el):cX:=bq L (aM (L+1) (bk (cM 8)).names) (ae (.ref f)::ae (.ref I)::ae (.ref D)::w)
noncomputable abbrev jL(pm cd doc:ai)(L:ay):gV:=dT (xB (cM 8) pm cd doc) 179 L
noncomputable abbrev tbSt(L f I D:ay)(mu:Mu)(es:List V)(bs:List Nat)(v3 v4 v5 v6 v7 v8 v9:Option V):Mu:=bl D es::jK I bs::R7 L f I D [v3,v4,v5,v6,v7,v8,v9]::mu
def zB(k:Nat)(st:List V->List Nat->Option V->Option V->Option V->Option V->Option V->Option V->Option V->Mu)(pm cd doc:ai)(L D:ay)(Ok:List V->Prop)(Xp:Mu->Prop):Prop:=
 (∀{es bs rs n v3 v4 v5 v6 v7 v8 v9 p1 p2 p3} {Ψ:V->Mu->Prop},mM bs=ae (n,rs)->n < 2 ^ 60->Ψ (.int n) (st es rs v3 v4 v5 v6 v7 v8 v9)->WE (k+3) (st es bs v3 v4 v5 v6 v7 v8 v9) (jL pm cd doc L) (.Call (.Name "_parse_varint" p1) [.Name "iterator" p2] [] p3) Ψ)/\
 (∀{es bs v3 v4 v5 v6 v7 v8 v9 p1 p2 p3},mM bs=av->bs.length<=8->Ok es->RE (k+3) (st es bs v3 v4 v5 v6 v7 v8 v9) (jL pm cd doc L) (.Call (.Name "_parse_varint" p1) [.Name "iterator" p2] [] p3) Xp)/\
 (∀{es bs v4 v5 v6 v7 v8 v9 v p},PE (k+3) (st es bs (ae v) v4 v5 v6 v7 v8 v9) (jL pm cd doc L) (.Name "start" p) v)/\
 (∀{es bs v3 v4 v5 v6 v7 v8 v9 v p} {Ψ:Mu->Prop},Ψ (st es bs (ae v) v4 v5 v6 v7 v8 v9)->mK (k+3) (st es bs v3 v4 v5 v6 v7 v8 v9) (jL pm cd doc L) (.Name "start" p) v Ψ)/\
 (∀{es bs v3 v5 v6 v7 v8 v9 v p},PE (k+3) (st es bs v3 (ae v) v5 v6 v7 v8 v9) (jL pm cd doc L) (.Name "length" p) v)/\
 (∀{es bs v3 v4 v5 v6 v7 v8 v9 v p} {Ψ:Mu->Prop},Ψ (st es bs v3 (ae v) v5 v6 v7 v8 v9)->mK (k+3) (st es bs v3 v4 v5 v6 v7 v8 v9) (jL pm cd doc L) (.Name "length" p) v Ψ)/\
 (∀{es bs v3 v4 v6 v7 v8 v9 v p},PE (k+3) (st es bs v3 v4 (ae v) v6 v7 v8 v9) (jL pm cd doc L) (.Name "end" p) v)/\
 (∀{es bs v3 v4 v5 v6 v7 v8 v9 v p} {Ψ:Mu->Prop},Ψ (st es bs v3 v4 (ae v) v6 v7 v8 v9)->mK (k+3) (st es bs v3 v4 v5 v6 v7 v8 v9) (jL pm cd doc L) (.Name "end" p) v Ψ)/\
 (∀{es bs v3 v4 v5 v7 v8 v9 v p},PE (k+3) (st es bs v3 v4 v5 (ae v) v7 v8 v9) (jL pm cd doc L) (.Name "target" p) v)/\
 (∀{es bs v3 v4 v5 v6 v7 v8 v9 v p} {Ψ:Mu->Prop},Ψ (st es bs v3 v4 v5 (ae v) v7 v8 v9)->mK (k+3) (st es bs v3 v4 v5 v6 v7 v8 v9) (jL pm cd doc L) (.Name "target" p) v Ψ)/\
 (∀{es bs v3 v4 v5 v6 v8 v9 v p},PE (k+3) (st es bs v3 v4 v5 v6 (ae v) v8 v9) (jL pm cd doc L) (.Name "dl" p) v)/\
 (∀{es bs v3 v4 v5 v6 v7 v8 v9 v p} {Ψ:Mu->Prop},Ψ (st es bs v3 v4 v5 v6 (ae v) v8 v9)->mK (k+3) (st es bs v3 v4 v5 v6 v7 v8 v9) (jL pm cd doc L) (.Name "dl" p) v Ψ)/\
 (∀{es bs v3 v4 v5 v6 v7 v9 v p},PE (k+3) (st es bs v3 v4 v5 v6 v7 (ae v) v9) (jL pm cd doc L) (.Name "depth" p) v)/\
 (∀{es bs v3 v4 v5 v6 v7 v8 v9 v p} {Ψ:Mu->Prop},Ψ (st es bs v3 v4 v5 v6 v7 (ae v) v9)->mK (k+3) (st es bs v3 v4 v5 v6 v7 v8 v9) (jL pm cd doc L) (.Name "depth" p) v Ψ)/\
 (∀{es bs v3 v4 v5 v6 v7 v8 v p},PE (k+3) (st es bs v3 v4 v5 v6 v7 v8 (ae v)) (jL pm cd doc L) (.Name "lasti" p) v)/\
 (∀{es bs v3 v4 v5 v6 v7 v8 v9 v p} {Ψ:Mu->Prop},Ψ (st es bs v3 v4 v5 v6 v7 v8 (ae v))->mK (k+3) (st es bs v3 v4 v5 v6 v7 v8 v9) (jL pm cd doc L) (.Name "lasti" p) v Ψ)/\
 (∀{es bs v3 v4 v5 v6 v7 v8 v9 p},PE (k+3) (st es bs v3 v4 v5 v6 v7 v8 v9) (jL pm cd doc L) (.Name "entries" p) (.ref D))/\
 (∀{es bs v3 v4 v5 v6 v7 v8 v9},bl D es∈st es bs v3 v4 v5 v6 v7 v8 v9)/\
 ∀{es bs y v3 v4 v5 v6 v7 v8 v9} {Ψ:V->Mu->Prop},es.length < 2 ^ 22->Ψ .none (st (es++[y]) bs v3 v4 v5 v6 v7 v8 v9)->BX (k+3) (st es bs v3 v4 v5 v6 v7 v8 v9) (.builtin "list.append") [bZ (.ref D),bZ y] Ψ
section
variable (h:zB k st pm cd doc L D Ok Xp)
def zB.num:=@h.1
def zB.bad:=@h.2.1
def zB.p3:=@h.2.2.1
def zB.a3:=@h.2.2.2.1
def zB.p4:=@h.2.2.2.2.1
def zB.a4:=@h.2.2.2.2.2.1
def zB.p5:=@h.2.2.2.2.2.2.1
def zB.a5:=@h.2.2.2.2.2.2.2.1
def zB.p6:=@h.2.2.2.2.2.2.2.2.1
def zB.a6:=@h.2.2.2.2.2.2.2.2.2.1
def zB.p7:=@h.2.2.2.2.2.2.2.2.2.2.1
def zB.a7:=@h.2.2.2.2.2.2.2.2.2.2.2.1
def zB.p8:=@h.2.2.2.2.2.2.2.2.2.2.2.2.1
def zB.a8:=@h.2.2.2.2.2.2.2.2.2.2.2.2.2.1
def zB.p9:=@h.2.2.2.2.2.2.2.2.2.2.2.2.2.2.1
def zB.a9:=@h.2.2.2.2.2.2.2.2.2.2.2.2.2.2.2.1
def zB.p2:=@h.2.2.2.2.2.2.2.2.2.2.2.2.2.2.2.2.1
def zB.lm:=@h.2.2.2.2.2.2.2.2.2.2.2.2.2.2.2.2.2.1
def zB.app:=@h.2.2.2.2.2.2.2.2.2.2.2.2.2.2.2.2.2.2
end
def okTo(T:Mu->Prop)(f:AF)(nu:Mu):Prop:=(f= .next\/f= .cont)/\T nu
theorem Ly{st:List V->List Nat->Option V->Option V->Option V->Option V->Option V->Option V->Option V->Mu}{pos cp:jX}{kk n:Nat}{body orelse:List d6}{es:List V}{bs:List Nat}{v3 v4 v5 v6 v7 v8 v9:Option V}{Ψ:Mu->Prop}(hk:vZ env)(I:Nat->List V->List Nat->Prop)(h0:I n es bs)
 (turn:∀T n es bs v3 v4 v5 v6 v7 v8 v9,I n es bs->(∀m es bs v3 v4 v5 v6 v7 v8 v9,m < n->I m es bs->T (st es bs v3 v4 v5 v6 v7 v8 v9))->RS k (st es bs v3 v4 v5 v6 v7 v8 v9) env body Ψ\/WS k (st es bs v3 v4 v5 v6 v7 v8 v9) env body (okTo T)):
 RX k (st es bs v3 v4 v5 v6 v7 v8 v9) env (.While (.Constant (.bool aI) kk cp) body orelse pos) Ψ:=by
 refine DQ hk (λm nu=>∃es bs v3 v4 v5 v6 v7 v8 v9,nu=st es bs v3 v4 v5 v6 v7 v8 v9/\I m es bs) n ⟨es,bs,v3,v4,v5,v6,v7,v8,v9,rfl,h0⟩ λn nu h=>?_;obtain ⟨es,bs,v3,v4,v5,v6,v7,v8,v9,rfl,h⟩:=h;exact (kU Ke qw).wt ⟨rfl,turn _ n es bs v3 v4 v5 v6 v7 v8 v9 h λm es bs v3 v4 v5 v6 v7 v8 v9 hm h=>⟨m,hm,es,bs,v3,v4,v5,v6,v7,v8,v9,rfl,h⟩⟩
theorem F5{bs rs:List Nat}{q:Nat×Nat×Nat×Nat}(h:yo bs=ae (q,rs)):∃b1 b2 b3,mM bs=ae (q.1,b1)/\mM b1=ae (q.2.1,b2)/\mM b2=ae (q.2.2.1,b3)/\mM b3=ae (q.2.2.2,rs):=by refine aK (dq.mp h) λa h1 h=>aK (dq.mp h) λb h2 h=>aK (dq.mp h) λc h3 h=>aK (dq.mp h) λd h4 h=>?_;cases h;exact ⟨_,_,_,h1,h2,h3,h4⟩
def Brk(bs:List Nat)(P:Nat->List Nat->Prop):Prop:=mM bs=av\/∃n b,mM bs=ae (n,b)/\n < 2 ^ 60/\b.length<=8/\P n b
theorem brk{bs:List Nat}{P:Nat->List Nat->Prop}(hl:bs.length<=8)(h:∀p:Nat×List Nat,mM bs=ae p->p.2.length<=8->P p.1 p.2):Brk bs P:=by
 cases e:mM bs with
 |none=>exact .inl e
 |some p=>exact .inr ⟨p.1,p.2,e,F4 e hl,aw (eB (kj e)) hl,h p e (aw (eB (kj e)) hl)⟩
theorem F6{bs:List Nat}(h:yo bs=av)(hl:bs.length<=8):Brk bs λz b1=>Brk b1 λz b2=>Brk b2 λz b3=>mM b3=av:=
 brk hl λa h1 l=>brk l λb h2 l=>brk l λc h3 l=>by
  have h:=ek.mp (ek.mp (ek.mp h a h1) b h2) c h3;cases e:mM c.2 with
  |none=>rfl
  |some d=>exact nomS (ek.mp h d e)
noncomputable def OI:d6:=match (fR (cM 8)).getD 2 (.Pass ⟨0,0,0,0⟩) with
 | .Try (s::_) _ _ _ _=>s
 |s=>s
section
variable {f:ay}
theorem tb_ok(H:Hy G)(he:du (jL pm cd doc L))(hk:vZ (jL pm cd doc L))(hX:∀es,Ok es->∀w,Xp (R7 L f I D w::bl D es::pS::mu)):zB k (tbSt L f I D mu) pm cd doc L D Ok Xp:=by
 refine cq (H.f172.go) λobv pmv cdv docv GJ hvd z=>?_;have f2:∀{a b c:cX} {l:Mu},c∈a::b::c::l:=ao (i:=2) rfl;refine ⟨?_,?_,?_,?_,?_,?_,?_,?_,?_,?_,?_,?_,?_,?_,?_,?_,?_,?_,?_⟩
 ·intro es bs rs n v3 v4 v5 v6 v7 v8 v9 p1 p2 p3 Ψ hv hn h;refine ml (mn H he H.m_varint rfl) GJ hvd (tD.war (ys:=[V.ref I]) (au (ah (j:=1) he .loc f2 rfl) aT) ?_);exact ((nL (k:=k+1) (i:=1) H rfl hv hn).mono λy nu e=>by (refine aj (e.1 ..) ?_;refine aj (e.2 ..) ?_);exact h)
 ·intro es bs v3 v4 v5 v6 v7 v8 v9 p1 p2 p3 hv hlen ho;refine Lb hk (mn H he H.m_varint rfl) GJ hvd (tD.war (ys:=[V.ref I]) (au (ah (j:=1) he .loc f2 rfl) aT) ?_);refine ⟨bl D es::jK I bs::mu,[R7 L f I D [v3,v4,v5,v6,v7,v8,v9]],?_,⟨_,_,aa⟩,?_⟩
  ·show List.Perm (_::_::_::mu) (_::_::(mu++[_]));exact ((JP _ mu).symm.cons _).cons _
  ·obtain ⟨run⟩:=nM (k:=k+1) (i:=1) (mu:=bl D es::jK I bs::mu) H rfl hv hlen;refine ⟨λ{z z z z z z z z} hA hf iD r hq q=>run hA hf iD r hq λ{z z z z} z' hx e1=>q z' hx ?_⟩;subst e1;exact ⟨_,((JP _ mu).cons _).cons _ |>.trans (((jh _ _ _).cons _).trans (jh _ _ _)),hX es ho _⟩
 ·intro es bs v4 v5 v6 v7 v8 v9 v p;exact ah (j:=3) he .loc f2 rfl
 ·intro es bs v3 v4 v5 v6 v7 v8 v9 v p Ψ h;exact aQ (i:=2) (j:=3) he .loc rfl h
 ·intro es bs v3 v5 v6 v7 v8 v9 v p;exact ah (j:=4) he .loc f2 rfl
 ·intro es bs v3 v4 v5 v6 v7 v8 v9 v p Ψ h;exact aQ (i:=2) (j:=4) he .loc rfl h
 ·intro es bs v3 v4 v6 v7 v8 v9 v p;exact ah (j:=5) he .loc f2 rfl
 ·intro es bs v3 v4 v5 v6 v7 v8 v9 v p Ψ h;exact aQ (i:=2) (j:=5) he .loc rfl h
 ·intro es bs v3 v4 v5 v7 v8 v9 v p;exact ah (j:=6) he .loc f2 rfl
 ·intro es bs v3 v4 v5 v6 v7 v8 v9 v p Ψ h;exact aQ (i:=2) (j:=6) he .loc rfl h
 ·intro es bs v3 v4 v5 v6 v8 v9 v p;exact ah (j:=7) he .loc f2 rfl
 ·intro es bs v3 v4 v5 v6 v7 v8 v9 v p Ψ h;exact aQ (i:=2) (j:=7) he .loc rfl h
 ·intro es bs v3 v4 v5 v6 v7 v9 v p;exact ah (j:=8) he .loc f2 rfl
 ·intro es bs v3 v4 v5 v6 v7 v8 v9 v p Ψ h;exact aQ (i:=2) (j:=8) he .loc rfl h
 ·intro es bs v3 v4 v5 v6 v7 v8 v p;exact ah (j:=9) he .loc f2 rfl
 ·intro es bs v3 v4 v5 v6 v7 v8 v9 v p Ψ h;exact aQ (i:=2) (j:=9) he .loc rfl h
 ·intro es bs v3 v4 v5 v6 v7 v8 v9 p;exact ah (j:=2) he .loc f2 rfl
 ·intro es bs v3 v4 v5 v6 v7 v8 v9;exact aa
 ·intro es bs y v3 v4 v5 v6 v7 v8 v9 Ψ hl h;exact kA (i:=0) rfl hl h
theorem R8(H:Hy G)(EH:gN G K){dx:ay}{gd:cm}{fs:List (bb×V)}{b:Array UInt8}(hm:tN f dx gd fs∈mu)(hnd:(fs.map (·.1)).Nodup)(hq:(("co_exceptiontable":bb),V.bytes b)∈fs)
 (h:∀st pm cd doc L D Xp,du (jL pm cd doc L)->vZ (jL pm cd doc L)->zB k st pm cd doc L D (λes=>Φ (.list es) mu) Xp->RX (k+3) (st [] (b.toList.map pM) av av av av av av av) (jL pm cd doc L) OI Xp):JS (k+4) mu (.ref 179) [.ref f] Φ:=by
 refine R0 H H.f179 (names:=["code"]) (vals':=λL=>[ae (.ref f),av,av,av,av,av,av,av,av,av]) (λpm cd doc vs h=>uQ h λa=>rfl) (by decide+kernel) rfl (λpm cd doc L=> .cons (j:=0) .loc rfl .nil) (λpm cd doc L he hk=>?_);refine nJ (WF.f (b4 (nK (j4 H he H.b_iter rfl) (au (Ln wW (ah (j:=0) he .loc aa rfl) (ab _ hm) hnd hq (λn e=>by cases e)) aT) (Lr λI=>aQ (i:=1) (j:=1) he .loc rfl ?_)) rfl rfl));refine nJ (WF.f (b4 (sE (xs:=[]) aT (by show 0<=2 ^ 20;decide) λD=>fM.ref (aQ (i:=2) (j:=2) he .loc rfl ?_)) rfl rfl));exact nJ (DR (lay:=aM (L+1) (bk (cM 8)).names) (L:=L) (j:=2) H.B he hk H.b_stop rfl .loc (oU (h _ pm cd doc L D _ he hk (tb_ok (f:=f) (I:=I) H he hk λes ho w=>⟨_,.ref D,aa,rfl,Lx ho⟩))))
theorem Lz(H:Hy G)(EH:gN G K){dx:ay}{gd:cm}{fs:List (bb×V)}{b:Array UInt8}{qs:List (Nat×Nat×Nat×Nat)}(hm:tN f dx gd fs∈mu)(hnd:(fs.map (·.1)).Nodup)(hq:(("co_exceptiontable":bb),V.bytes b)∈fs)(hE:D2 (b.toList.map pM) qs)(hl:qs.length<=2 ^ 20)(hΦ:Φ (.list (qs.map D3)) mu):
 JS (k+4) mu (.ref 179) [.ref f] Φ:=by
 refine R8 H EH hm hnd hq λst pm cd doc L D Xp he hk T=>Ly (n:=qs.length) hk (λm es bs=>∃qs',qs'.length=m/\es++qs'.map D3=qs.map D3/\D2 bs qs') ⟨qs,rfl,rfl,hE⟩ λT' n es bs v3 v4 v5 v6 v7 v8 v9 hI hT=>ef hI λqs' eT hes hEn=>?_;clear hI;subst eT;cases hEn with
 |stop hn hlen=>
  have ho:Φ (.list es) mu:=by rw [<- hes,vg,cy] at hΦ;exact hΦ
  refine .inl ?_;rcases F6 hn hlen with h|⟨n1,b1,h1,m1,l1,h⟩
  ·exact oU (nq (Cb (T.bad h hlen ho)) rfl rfl)
  refine qH (b4 (sG (T.num h1 m1 ⟨_,_,aU,sF (by decide),T.a3 ?_⟩)) rfl rfl);rcases h with h|⟨n2,b2,h2,m2,l2,h⟩
  ·exact oU (nq (Cb (T.bad h l1 ho)) rfl rfl)
  refine qH (b4 (sG (T.num h2 m2 ⟨_,_,aU,sF (by decide),T.a4 ?_⟩)) rfl rfl);refine qH (bX (br T.p3 T.p4 fC) (T.a5 ?_) rfl rfl);rcases h with h|⟨n3,b3,h3,m3,l3,h⟩
  ·exact oU (nq (Cb (T.bad h l2 ho)) rfl rfl)
  refine qH (b4 (sG (T.num h3 m3 ⟨_,_,aU,sF (by decide),T.a6 ?_⟩)) rfl rfl);exact oU (nq (T.bad h l3 ho) rfl rfl)
 |@more _ q rs qs2 Td k1 k2 k3 k4 hrest=>
  refine .inr (lG (F5 Td) λb1 b2 b3 h1 h2 h3 h4=>?_);refine aC (b4 (sG (T.num h1 k1 ⟨_,_,aU,sF (by decide),T.a3 ?_⟩)) rfl rfl);refine aC (b4 (sG (T.num h2 k2 ⟨_,_,aU,sF (by decide),T.a4 ?_⟩)) rfl rfl);refine aC (bX (br T.p3 T.p4 fC) (T.a5 ?_) rfl rfl);refine aC (b4 (sG (T.num h3 k3 ⟨_,_,aU,sF (by decide),T.a6 ?_⟩)) rfl rfl);refine aC (b4 (T.num h4 k4 (T.a7 ?_)) rfl rfl);refine aC (bX (br T.p7 aU (Hi (by decide))) (T.a8 ?_) rfl rfl);refine aC (bX (iZ (iN H he H.b_bool rfl) (au (br T.p7 aU qu) aT) Ii) (T.a9 ?_) rfl rfl);refine aj (and1 ..) (aC (ig (IS T.p2 (j5 T.lm) (cA (B8 EH.KO EH.keep (mn H he H.m_entry rfl) (tD.war (ys:=[.int (q.1*2),.int (q.1*2+q.2.1*2),.int (q.2.2.1*2),.int (q.2.2.2 / 2 ^ (1:Int).toNat),.bool (decide (q.2.2.2 % 2=1))]) (au T.p3 (au T.p5 (au T.p6 (au T.p8 (au T.p9 aT))))) ((OF (k:=k) H EH).mono λy nu e=>?_)))) (by exact fQ) (by exact iT) (by exact iU) rfl)));refine aj (e.1 ..) ?_;refine aj (e.2 ..) ?_;refine e8 ⟨[bZ (D3 q)],λZ vs hv=>?_,T.app ?_ (bC ⟨.inl rfl,hT _ _ _ _ _ _ _ _ _ _ (jf _) ⟨qs2,rfl,?_,hrest⟩⟩)⟩
  ·cases hv with
   |cons a b=>cases b;exact .cons a .nil
  ·have h5:=congrArg kM hes;simp only [ba,ak,bK] at h5;lia
  ·refine aj (bU ..) ?_;exact hes
theorem Hw(H:Hy G)(EH:gN G K){dx:ay}{gd:cm}{fs:List (bb×V)}{b:Array UInt8}{qs:List (Nat×Nat×Nat×Nat)}(hm:tN f dx gd fs∈mu)(hnd:(fs.map (·.1)).Nodup)(hq:(("co_exceptiontable":bb),V.bytes b)∈fs)(hE:D2 (b.toList.map pM) qs)(hl:qs.length<=2 ^ 20):
 JS (k+4) mu (.ref 179) [.ref f] λy nu=>y= .list (qs.map D3)/\nu=mu:=Lz H EH hm hnd hq hE hl ⟨rfl,rfl⟩
end
end
variable {m C:ay}{Θ:AF->Mu->Prop}
section
open Builtin
section
theorem tO:Slot "callable_iterator" "__next__" "callable_iterator.__next__":=
 .of (owner:="callable_iterator") (n:="__next__") (by (refine aj (fg ..) ?_;refine aj (dC ..) ?_);kernel_rfl) (by decide+kernel) (by decide+kernel) (by decide+kernel)
  (by first|exact .inl (by decide+kernel)|exact .inr (by decide+kernel)) (by refine aj (iR ..) ?_;kernel_rfl)
theorem yv:Slot "callable_iterator" "__iter__" "callable_iterator.__iter__":=
 .of (owner:="callable_iterator") (n:="__iter__") (by (refine aj (fg ..) ?_;refine aj (dC ..) ?_);kernel_rfl) (by decide+kernel) (by decide+kernel) (by decide+kernel)
  (by first|exact .inl (by decide+kernel)|exact .inr (by decide+kernel)) (by refine aj (iR ..) ?_;kernel_rfl)
theorem D4:uq TL "callable_iterator.__next__"=ae Builtin.«callable_iterator.__next__»:=Nv (by kernel_rfl)
theorem D5:uq TL "callable_iterator.__iter__"=ae Builtin.«dict_keyiterator.__iter__»:=uR (j:="dict_keyiterator.__iter__") (by kernel_rfl) rfl (by kernel_rfl) (by kernel_rfl)
theorem F7(a:ai):ri "callable_iterator.__next__" ⟨[a],[]⟩:=by unfold ri;kernel_rfl
theorem F8(a:ai):ri "callable_iterator.__iter__" ⟨[a],[]⟩:=by unfold ri;kernel_rfl
noncomputable abbrev LB(m:ay)(t:HX):o6:={cls:= .type "callable_iterator",data:= .fields #[.ref m,.str "" t,.bool aH]}
noncomputable def Ua(I m f x:ay):cX where
 own:=[I,m]
 sat:=λZ h=>(∃t,h.get? I=ae (LB m t))/\h.get? m=ae (Fm (.ref f) (.ref x))
 mono:=λz z z z a=>a
 loc:=λZ h h' w hk z z=>⟨w.1.imp λz a=>hk I aa _ a,hk m (ab _ aa) _ w.2⟩
 live:=λZ h w y hy=>(aP.mp hy).elim (λe=>w.1.elim λz a=>⟨_,e▸a⟩) λe=>⟨_,aA.mp e▸w.2⟩
variable {f x:ay}
theorem wa{A:bh}{E:ai->aq->Prop}{s:aq}{fv:ai}{pos:List ai}{Q:ai->aq->Prop}{M:zG}
 (hc:iV M A (.call fv ⟨pos,[]⟩) (λr s'=>match r with| .ok (.ret v)=>Q v s'| .ok _=>False| .error e=>E e s') s):aS M A (callBorrowed fv pos) Q E s:=λΓ p hΓ=>by
 unfold callBorrowed;show wpCode M (Γ.enter _ av p) _ p s;refine wpCode_mono (λr s' h=>?_) (hc _ p rfl (hΓ.enter _ av p (by intro x;exact gK x)));rcases r with e|(v|_|_|_) <;> first|exact h|exact h.elim
structure NX(k:Nat)(mu:Mu)(I:ay)(Φs:V->Mu->Prop)(Φn:Mu->Prop):Prop where
 c:∀{A:bh} {E:ai->aq->Prop} {Z:bI} {s:aq} {fr:Mu} {Q:Option ai->aq->Prop},Rm k A->R Z (mu++fr) s->(∀{v s' Z' x nu},Z.le Z'->aZ G Z' v x->R Z' (nu++fr) s'->Φs x nu->Q (ae v) s')->
  (∀{s' Z' nu},Z.le Z'->R Z' (nu++fr) s'->Φn nu->Q av s')->aS (aX G.prog G.w) A (l0 (.ref I)) Q E s
theorem yw{A:bh}{E:ai->aq->Prop}{s:aq}{ob:o6}{fd:cm}{Q:Bool->aq->Prop}{M:zG}(hm:s.heap.get? m=ae (Fm (.ref f) (.ref x)))(hf:s.heap.get? f=ae ob)(hd:ob.data= .func fd)(h:Q aI s):aS M A (borrowsExactly (.ref m)) Q E s:=by obtain ⟨hp,g,d,t,os⟩:=s;unfold borrowsExactly;refine ag (TA hm ?_);dsimp only;refine aj (if_pos (by decide) ..) (ag (TA hf ?_));exact aj (hd ..) (ar h)
def oW.S0(I m f x:ay):Prop:=∀{k:Nat} {mu:Mu} {i:Nat} {ob:o6} {fd:cm} {Φs:V->Mu->Prop} {Φn:Mu->Prop} (h0:G.Z0 f=ae ob) (hd:ob.data= .func fd) (hi:mu[i]? =ae (Ua I m f x)) (hF:FC k mu (.ref f) [.ref x] λy nu=>∃c,y= .str c/\nu[i]? =ae (Ua I m f x)/\(c≠""->Φs (.str c) nu)/\(c=""->Φn (nu.set i (pS)))),NX (k+1) mu I Φs Φn
namespace oW
@[irreducible] def e0:=G2 cL cL cL cL S0
def I_:=e0.1
def m_:=e0.2.1
def f_:=e0.2.2.1
def x_:=e0.2.2.2
theorem T0:S0 I_ m_ f_ x_:=λ{k} {mu} {i} {ob} {fd} {Φs} {Φn} h0 hd hi hF=>⟨λ{A E Z s fr Q} hA r qs qn=>by
 have hi':=cH (fr:=fr) hi;refine dU (r.sat _ (ao hi')) λdO hm=>cJ dO λt ho=>?_;clear dO;have hT:s.TypeIs (.ref I_) "callable_iterator":=⟨_,ho,rfl⟩;unfold l0;refine ag (kT (dX (name:=Ao "__next__") hT tO
  (dp tO hT D4 ?_ (F7 _))))
 show aS _ _ (vH (.ref I_) 2 >>=_) _ _ s;refine ag (dS ho rfl (x:= .bool aH) rfl ?_);show aS _ _ (if (TQ aH == TQ aI)=aI then _ else _) _ _ s;refine aj (if_neg (by decide) ..) ?_;show aS _ _ (vH (.ref I_) 0 >>=_) _ _ s;refine ag (dS ho rfl (x:= .ref m_) rfl ?_);refine ag (kT ?_);unfold callOutOfASlot;refine ag (yw hm (r.z0in _ _ h0) hd ?_);refine aj (if_pos rfl ..) (wa (method_call hm (hF.c hA.in1 r (.cons (.ref x_) .nil) λ{w s1 Z' y nu} z' hy r' u=>?_)));refine BA u λc e1 Uo hs hn=>?_;clear u;subst e1;refine cJ (gU hy) λtk eT=>?_;subst eT;have hi2':=cH (fr:=fr) Uo;refine dU (r'.sat _ (ao hi2')) λgi hm2=>cJ gi λt2 NM=>?_;clear gi;show aS _ _ (vH (.ref I_) 2 >>=_) _ _ s1;refine ag (dS NM rfl (x:= .bool aH) rfl ?_);show aS _ _ (if (TQ aH == TQ aI)=aI then _ else _) _ _ s1;refine aj (if_neg (by decide) ..) (ag (dS NM rfl (x:= .str "" t2) rfl ?_));refine ag (bE (wpAny_eqBool_str ?_));by_cases hc:c=""
 ·subst hc;refine aj (show decide ((fc "")=fc "")=aI from decide_eq_true rfl) (aj (if_neg (by decide) ..) ?_);refine ag (oj (ag ?_));show aS _ _ (vH (.ref I_) 0 >>=_) _ _ s1;refine ag (dS NM rfl (x:= .ref m_) rfl ?_);refine ag ?_;unfold slotLetsGo;refine ag (yw hm2 (r'.z0in _ _ h0) hd ?_);refine aj (if_pos rfl ..) (ar ?_);refine ag (eH NM rfl (by show 0 < 3;decide) ?_);have h1:=bS (Fl (·.setIfInBounds 0 (eG))) NM rfl;refine ag (eH h1 rfl (by show 1 < 3;decide) ?_);have h2:=bS (Fl (·.setIfInBounds 1 (eG))) h1 rfl;refine eH h2 rfl (by show 2 < 3;decide) ?_;show aS _ _ (TM (.type "StopIteration") [] >>=_) _ _ _;refine nI hA.hh ?_;refine ag (xy (T:="StopIteration") (b:=aI) ⟨_,aW _ rfl,rfl⟩ TR ?_);refine ar (qn z' (gE Uo▸R.dead (s:=s1) (tk:=s1.toks) r' hi2' λb o hb e=>?_) (hn rfl));have hb':b≠I_:=λq=>hb (q▸aa);exact az _ (az _ ((iF _ _ (gf hb')).trans ((iF _ _ (gf hb')).trans ((iF _ _ (gf hb')).trans e))))
 ·(refine aj (show decide ((fc "")=c)=aH from decide_eq_false λe=>hc e.symm) ?_;refine aj (if_pos (by decide) ..) ?_);exact ar ⟨_,rfl,ar (qs z' (.str _ _) r' (hs hc))⟩⟩
end oW
theorem oW:oW.S0 I m f x:=by with_unfolding_all exact vK _ _ _ _ oW.S0 @oW.T0 I m f x
end
section
theorem OJ:iQ (.type "method") "__call__"=dg (ae (.builtin "method.__call__")):=by (refine aj (fg ..) ?_;refine aj (dC ..) ?_);kernel_rfl
theorem F9(a b:ai):ri "iter" ⟨[a,b],[]⟩:=by unfold ri;kernel_rfl
variable {f x dx:ay}{fs:List (bb×V)}{name:bb}
theorem LC(KO:FX G K)(hp:sy K C f name=aI)(ho:PE k mu env o (.ref x))(hm:gH x C dx fs∈mu)(hn:name∉fs.map (·.1))(h:∀q,Φ (.ref q) (mj q (Fm (.ref f) (.ref x))::mu))
 (he:autoParam (dW (.Attribute o name p) env=(do let ov <- dW o env;iE p.atName;let r <- eV [ov] (s9 ov name aI);pG o ov r;dg r)) aR):WE k mu env (.Attribute o name p) Φ:=⟨λ{A E Z s fr Q} hA r q=>by
 refine gZ ?_ he;refine ho.c hA r λ{ov s1 Z1} z1 q1 r1=>aj (aZ.refE q1 ..) (cC (xG r1 (aE fr hm)) λes n Ia z GL=>?_);unfold sy at hp;simp only [dQ,beq_iff_eq,CD] at hp;refine dU hp λiC p7=>?_;clear hp;refine dU iC λkG p6=>?_;clear iC;refine dU kG λma p5=>?_;clear kG;refine dU ma λmE p4=>?_;clear ma;refine dU mE λq8 p3=>?_;clear mE;refine dU q8 λp1 p2=>?_;clear q8;have X:=KO.inn _ r1.z0in;exact get_bind X Ia (plainGet_of p1).1 (findObj_fn p2 p3 p5 p6 p7 (by show lookIn name (i3 es n)=_;(refine aj (Q1 ..) ?_;refine aj (GL.none hn ..) ?_;rfl))) (plainGet_of p1).2 (eF (fn_get (s:={s1 with toks:=s1.toks+1}) X (beq_iff_eq.mp p4) (handed_on rfl
  (q z1 (.ref _) (r1.addNew (tk:=s1.toks+1) _ (λb o e=>az _ e) (aW _ rfl) eg λz h=>kX h) (h s1.heap.objs.size)))))⟩
theorem LD(h:∀I,Φ (.ref I) (Ua I m f x::mu)):BX k (mj m (Fm (.ref f) (.ref x))::mu) (.builtin "iter") [bZ (.ref m),bZ (.str "")] Φ:=⟨λ{A E Z s fr vs Q} hA r hq q=>by
 refine cC (hq.two) λv u uf q1 q2=>?_;subst uf;refine aj (aZ.refE q1 ..) (cJ (gU q2) λtk mP=>?_);subst mP;have hm:s.heap.get? m=ae (Fm (.ref f) (.ref x)):=r.sat _ aa;refine gv (by decide+kernel) (by decide+kernel) kdk_entry_iter (F9 _ _) ?_;unfold Builtin.«iter»;refine ag (m:=CL "iter" 1 2 _) (cN (a:=[cY m,Value.str "" tk]) (by first|rfl|kernel_rfl!) ?_);have t1:iL (aX G.prog G.w) s.heap (mA (.ref m) "__call__") (ae (.builtin "method.__call__")):=((sx hm).andThen .now).andThen (fe OJ);refine ag (t1.here ?_);show aS _ _ (rule _ >>=_) _ _ s;refine ag (oj (ag (jg ?_ (by size_fits))));refine ar ⟨_,rfl,q .rfl (.ref _) (R.swap (tk:=s.toks) (mu:=mj m (Fm (.ref f) (.ref x))::(mu++fr)) (i:=0) r rfl (Ua s.heap.objs.size m f x) (λz z z e=>az _ e) ⟨⟨tk,aW _ rfl⟩,az _ hm⟩ ?_ ?_) (h s.heap.objs.size)⟩
 ·exact cg.mpr ⟨λh=>jI (bN hm) (aA.mp h),eg⟩
 ·exact λb hb=>(aP.mp hb).elim (λe=> .inr (ll e.symm)) .inl⟩
theorem IT{A:bh}{E:ai->aq->Prop}{s:aq}{t:HX}{Q:ai->aq->Prop}(ho:s.heap.get? I=ae (LB m t))(h:Q (.ref I) s):aS (aX G.prog G.w) A (rb (.ref I)) Q E s:=by have hT:s.TypeIs (.ref I) "callable_iterator":=⟨_,ho,rfl⟩;refine vz hT yv (dp yv hT D5 ?_ (F8 _));show aS _ _ (vn (.ref I)) _ _ s;exact ar ⟨_,rfl,"callable_iterator",_,hT,tO.lookup,h⟩
theorem OK{zo tp:jX}{t:bb}{body orelse:List d6}(he:PE k mu env e (.ref I))(hi:Ua I m f x∈mu)(Inv:Nat->Mu->Prop)(n:Nat)(h0:Inv n mu)
 (turn:∀n nu,Inv n nu->NX k nu I (λx ru=>mK k ru env (.Name t tp) x λue=>WS k ue env body (kW (λUi=>∃m,m < n/\Inv m Ui) Θ)) (λru=>WS k ru env orelse Θ))
 (hf:autoParam (∀x,bw e env x=dg x) aR):WX k mu env (.For (.Name t tp) e body orelse zo) Θ:=⟨λ{A E Z s fr Q} hA r q=>by
 with_reducible refine wpAny_For ?_ hf
 refine he.c hA r λ{x s1 Z1} z1 q1 r1=>aj (aZ.refE q1 ..) (dU (r1.sat _ (aE fr hi)) λsq z=>?_);refine cJ sq λtk ho=>?_;clear sq;refine IT ho (BL (WhI Z Inv fr) (λn s' h=>⟨λ{z z} hn hs=>?_⟩) n ⟨Z1,mu,z1,r1,h0⟩);refine cC (h.ex) λZ' nu z' r' inv=>(turn n nu inv).c hA r' (λ{v s3 Z3 y Ui} z3 hv r3 w3=>hs (FE (t:= .Name t tp) (w3.c hA r3 hv λ{s5 Z5 nu5} z5 r5 w5=>w5.c hA r5 λ{f s6 Z6 a nu6} z6 f6 r6 w6=>?_))) λ{s3 Z3 Ui} z3 r3 w3=>hn (w3.c hA r3 λ{z z z z z} z4=>q (z'.trans (z3.trans z4)));have zz:=z'.trans (z3.trans (z5.trans z6));exact oN.of (fr:=fr) f6 w6 (λ⟨m',w7,w8⟩=>⟨m',w7,⟨Z6,nu6,zz,r6,w8⟩⟩) λ{z z} hg=>q zz hg r6⟩
end
end
noncomputable def xH(c:Nat):Bool:=decide (c∈[10,9,13,32])
noncomputable def sZ:List Nat->List Nat->Option (List Nat×List Nat)
 |_,[]=>av
 |acc,c::cs=>if xH c then ae (acc,cs) else if c=92 then (match cs with|[]=>av|d::ds=>sZ (acc++[d]) ds) else sZ (acc++[c]) cs
noncomputable def uY:List Nat->List Nat->Option (List Nat×List Nat)
 |_,[]=>av
 |acc,c::cs=>if c=34 then ae (acc,cs) else if c=92 then (match cs with|[]=>av|d::ds=>uY (acc++[d]) ds) else uY (acc++[c]) cs
noncomputable def yx:List Nat->Option (List Nat×List Nat)
 |[]=>av
 |c::cs=>if xH c then yx cs else if c=34 then uY [] cs else sZ [] (c::cs)
theorem IU{f:bb}{id:String}(hf:PE k mu env (.Name f p) (.bi id))(ha:Dv k mu env (e::es) λys nu=>∃Ps,(∀Z vs,bW G Z vs ys->j3 Z vs Ps)/\BX k nu (.builtin id) Ps Φ)(hs:autoParam (kh (e::es)=aI) aR):WE k mu env (.Call (.Name f p) (e::es) [] pos) Φ:=⟨λ{A E Z s fr Q} hA r q=>by
 with_reducible refine gB ?_
 refine hf.c hA r λ{f s1 Z1} z1 q1 r1=>aj (aZ.biE q1 ..) ?_;exact EY (ha.c hA r1 λz2 q2 r2 ⟨Ps,hc,hF⟩=>hF.c hA r2 (hc _ _ q2) λ{z z z z z} z3=>q (z1.trans (z2.trans z3))) (et (jt hs).1) (kY (jt hs).2 pos)⟩
theorem FC.up{f:ai}{a:cX}(h:FC k mu f xs λy nu=>Φ y (a::nu)):FC k (a::mu) f xs Φ:=⟨λ{x x x x x x x} hA r hv q=>h.c hA (r.perm cu.symm) hv λ{x x x x x} z v r w=>q z v (r.perm cu) w⟩
structure ib where
 (lx dx pb f fdx it L lam a b:ay)
 gd:cm
 ld:cm
 text:bb
theorem IV:Nonempty ib:=⟨⟨rj,rj,rj,rj,rj,rj,rj,rj,rj,rj,rj,rj,rj⟩⟩
noncomputable abbrev Fd(c:Nat):V:= .str ⟨#[c]⟩
noncomputable def itO(it:ay):Option (List Nat)->cX
 |some cs=>mU it (cs.map Fd)
 |none=>pS
noncomputable def yy(P:ib)(q:List V)(n:Int)(cs:Option (List Nat)):Mu:=
 [bl P.pb q,gH P.lx 217 P.dx (tm n (.ref P.f) P.pb),mj P.lam (eh P.ld av),tN P.f P.fdx P.gd [("read",.ref P.lam),("co_exceptiontable",.bytes (JN (tn P.text)))],itO P.it cs,AW P.L P.text P.f P.it,gG 272 (zW (ae (P.a,P.b)))]
structure mV(P:ib):Prop where
 read:F3 P.lam P.it P.L P.f P.text P.ld P.a P.b
noncomputable abbrev j6(P:ib)(q:List V)(N:Int)(cs:List Nat):Mu:=yy P q (N - (cs.count 10:Nat)) (ae cs)
theorem nN(n:Int)(fp:V)(pb:ay):((tm n fp pb).map (·.1)).Nodup:=by show (["lineno","instream","whitespace","pushback"]:List bb).Nodup;decide
theorem AX(H:Hy G)(LH:fN G K){P:ib}{q:List V}{n:Int}{cs cs':Option (List Nat)}{c:bb}(hr:∀{Φ},Φ (.str c) (yy P q n cs')->FW (k+2) (yy P q n cs) (.ref P.lam) [.int 1] Φ)(hΦ:Φ (.str c) (yy P q (if c == "\n" then n+1 else n) cs')):
 FC (k+3) (yy P q n cs) (.ref 200) [.ref P.lx] Φ:=by
 refine K2 H LH.f200 (names:=["self"]) (vals':=λL=>[ae (.ref P.lx),av]) (λpm cd doc vs h=>?_) (by decide+kernel) rfl (λpm cd doc L=>?_) (λpm cd doc L he=>?_)
 ·exact uQ h λa=>rfl
 ·exact .cons (j:=0) .loc rfl .nil
 have m2:∀{a b c:cX} {l:Mu},c∈a::b::c::l:=ab _ (ab _ aa);have m4:∀{a b c d e:cX} {l:Mu},e∈a::b::c::d::e::l:=ab _ (ab _ m2);refine aC (b4 (Lo (name:="read") qI (oS LH.KO LH.p_in (ah (j:=0) he .loc aa rfl) m2 (nN ..) (y:= .ref P.f) (.tail _ (.head _)) (λn e=>by cases e)) m4 (by show (["read","co_exceptiontable"]:List bb).Nodup;decide) (lam:=P.lam) (.head _) (tD.war (ys:=[.int 1]) (au aU aT) ⟨Kn.obj (o:=eh P.ld av) (.tail _ (.tail _ (.tail _ (.head _)))),rfl,FW.up (hr ?_)⟩)) rfl rfl);refine aQ (i:=0) (j:=1) he .loc rfl (aC (iY (c9 (ah (j:=1) he .loc aa rfl) cO rC) (λh=>?_) λh=>?_))
 ·refine aC (Ox LH.KO LH.p_line LH.s_line (ah (j:=0) he .loc aa rfl) (i:=2) rfl (nN ..) (y:= .int n) (.head _) (λn e=>by cases e) (by show 4<=500;decide) aU FP ?_);refine bC (aC (gw (cf (ah (j:=1) he .loc aa rfl) (ki ?_))));rw [h] at hΦ;exact hΦ
 ·refine bC (aC (gw (cf (ah (j:=1) he .loc aa rfl) (ki ?_))));rw [h] at hΦ;exact hΦ
theorem LF(H:Hy G)(LH:fN G K){P:ib}(PO:mV P){q:List V}{N:Int}{c:Nat}{cs:List Nat}(hΦ:Φ (Fd c) (j6 P q N cs)):FC (k+3) (j6 P q N (c::cs)) (.ref 200) [.ref P.lx] Φ:=by
 have h1:=(PO.read k (j6 P q N (c::cs)) 4 (.tail _ (.tail _ (.tail _ (.tail _ (.tail _ (.head _)))))) (.tail _ (.tail _ (.head _))) (.tail _ (.tail _ (.tail _ (.tail _ (.tail _ (.tail _ (.head _)))))))).1 c (cs.map Fd) rfl;refine AX (cs':=ae cs) (c:=⟨#[c]⟩) H LH (λ{z} h=>h1.mono λy nu e=>by (refine aj (e.1 ..) ?_;refine aj (e.2 ..) ?_);exact h) ?_;have:(if (⟨#[c]⟩:bb) == "\n" then N - ((c::cs).count 10:Nat)+1 else N - ((c::cs).count 10:Nat))=N - (cs.count 10:Nat):=by
  by_cases hc:c=10
  ·subst hc;refine aj (if_pos (by decide) ..) ?_;refine aj (List.count_cons_self ..) ?_;lia
  ·have:¬((⟨#[c]⟩:bb) == "\n")=aI:=by
    intro h;have h2:(⟨#[c]⟩:bb)="\n":=by simpa using h
    have h3:(⟨#[c]⟩:bb).cps.toList=[10]:=by refine aj (h2 ..) ?_;rfl
    exact hc (by simpa using h3)
   refine aj (if_neg this ..) ?_;refine aj (List.count_cons_of_ne (by exact hc) ..) ?_;rfl
 exact aj (this ..) (hΦ)
theorem OL(H:Hy G)(LH:fN G K){P:ib}(PO:mV P){q:List V}{N:Int}(hΦ:Φ (.str "") (yy P q N av)):FC (k+3) (j6 P q N []) (.ref 200) [.ref P.lx] Φ:=by have h1:=(PO.read k (j6 P q N []) 4 (.tail _ (.tail _ (.tail _ (.tail _ (.tail _ (.head _)))))) (.tail _ (.tail _ (.head _))) (.tail _ (.tail _ (.tail _ (.tail _ (.tail _ (.tail _ (.head _)))))))).2 rfl;refine AX (cs':=av) (c:="") H LH (λ{z} h=>h1.mono λy nu e=>by (refine aj (e.1 ..) ?_;refine aj (e.2 ..) ?_);exact h) ?_;refine aj (if_neg (by decide) ..) ?_;refine aj (show N - (Ap 10 ([]:List Nat):Int)=N from Int.sub_zero N) ?_;exact hΦ
noncomputable abbrev gtFr(L lx:ay)(tok fit ch:Option V):cX:=bq L (aM (L+1) (bk (jl 10 2)).names) [ae (.ref lx),tok,fit,ch]
noncomputable abbrev IW(acc:List Nat):V:= .str ⟨acc.toArray⟩
theorem OM(acc:List Nat)(c:Nat):(⟨acc.toArray⟩:bb)++(⟨#[c]⟩:bb)=⟨(acc++[c]).toArray⟩:=by show (⟨acc.toArray++#[c]⟩:bb)=_;simp
theorem R9(c:Nat):(!(cZ ("\n\t\r ":bb) ⟨#[c]⟩ 0 ("\n\t\r ":bb).length 1).isEmpty)=xH c:=by refine aj (PySem.StrLaws.found_one ..) ?_;rfl
theorem eq_ch(c d:Nat):((⟨#[c]⟩:bb) == (⟨#[d]⟩:bb))=decide (c=d):=by
 by_cases h:c=d
 ·subst h;simp
 ·refine aj (decide_eq_false h ..) ?_;apply beq_eq_false_iff_ne.mpr;intro e;have h3:(⟨#[c]⟩:bb).cps.toList=(⟨#[d]⟩:bb).cps.toList:=by (refine aj (e ..) ?_;rfl)
  exact h (by simpa using h3)
noncomputable abbrev D6(P:ib)(N:Int)(L I m:ay)(acc:List Nat)(ch:Option V)(cs:List Nat):Mu:=Ua I m 200 P.lx::gtFr L P.lx (ae (IW acc)) (ae (.ref I)) ch::j6 P [] N cs
noncomputable abbrev kD(pm cd doc:ai)(L:ay):gV:=dT (Av (jl 10 2) "_netrclex.get_token" pm cd doc) 207 L
theorem m1{a b:cX}{l:Mu}:b∈a::b::l:=ab _ aa
theorem ch_ne(c:Nat):(⟨#[c]⟩:bb)≠"":=λe=>by
 have h3:(⟨#[c]⟩:bb).cps.toList=[]:=by refine aj (e ..) ?_;rfl
 simp at h3
theorem ON(H:Hy G)(LH:fN G K){P:ib}(PO:mV P){N:Int}{L I m:ay}{acc:List Nat}{ch:Option V}{c:Nat}{cs:List Nat}{Φs:V->Mu->Prop}{Φn:Mu->Prop}(h:Φs (Fd c) (D6 P N L I m acc ch cs)):NX (k+4) (D6 P N L I m acc ch (c::cs)) I Φs Φn:=by exact cq (LH.f200.go) λob pm cd doc h0 hd z=>oW (i:=0) h0 hd rfl (FC.up (FC.up (LF (k:=k) (q:=[]) (N:=N) (c:=c) (cs:=cs) H LH PO ⟨_,rfl,rfl,λz=>h,λe=>absurd e (ch_ne c)⟩)))
theorem OO(H:Hy G)(LH:fN G K){P:ib}(PO:mV P){N:Int}{L I m:ay}{acc:List Nat}{ch:Option V}{c:Nat}{cs:List Nat}(h:Φ (Fd c) (D6 P N L I m acc ch cs)):
 FW (k+4) (D6 P N L I m acc ch (c::cs)) (.ref 200) [.ref P.lx] Φ:=by
 exact FW.le (FC.fw (FC.up (FC.up (LF (k:=k) (q:=[]) (N:=N) (c:=c) (cs:=cs) H LH PO h)))) (jC _)
theorem io_tk{acc:List Nat}{c:Nat}(h:acc.length<=2 ^ 22):ND k mu .Add (bZ (IW acc)) (bZ (Fd c)) (bZ (IW (acc++[c]))):=by have:=RN (k:=k) (mu:=mu) (a:=⟨acc.toArray⟩) (b:=⟨#[c]⟩) (by show acc.toArray.size+1<=2 ^ 24;simp;exact aw (by assumption) (by decide));rw [OM] at this;exact this
structure yz(K:fH):Prop where
 b_read:sy K 217 200 "_read_char"=aI
noncomputable abbrev gtS0(P:ib)(N:Int)(L I:ay)(acc:List Nat)(ch:Option V):Mu:=pS::gtFr L P.lx (ae (IW acc)) (ae (.ref I)) ch::yy P [] N av
def LG(k:Nat)(P:ib)(N:Int)(st:List Nat->Option V->List Nat->Mu)(s0:List Nat->Option V->Mu)(pm cd doc:ai)(L:ay)(Φ:V->Mu->Prop):Prop:=
 (∀{acc c d cs p p2 p3 s kk},s=⟨#[d]⟩->PT (k+4) (st acc (ae (Fd c)) cs) (kD pm cd doc L) (.Compare (.Name "ch" p) [.Eq] [.Constant (.str s) kk p2] p3) (decide (c=d)))/\
 (∀{acc c cs p p2 p3 p4},PT (k+4) (st acc (ae (Fd c)) cs) (kD pm cd doc L) (.Compare (.Name "ch" p) [.In] [.Attribute (.Name "self" p2) "whitespace" p3] p4) (xH c))/\
 (∀{acc c cs p p2 p3 Ψ},acc.length<=2 ^ 22->Ψ .next (st (acc++[c]) (ae (Fd c)) cs)->WX (k+4) (st acc (ae (Fd c)) cs) (kD pm cd doc L) (.AugAssign (.Name "token" p) .Add (.Name "ch" p2) p3) Ψ)/\
 (∀{acc ch c cs p p2 p3 p4 p5 pl Ψ},dW (.Call (.Attribute (.Name "self" p2) "_read_char" p3) [] [] p4) (kD pm cd doc L)=(do let ov <- dW (.Name "self" p2) (kD pm cd doc L);iE p3.atName;let (f,first) <- eV [ov] (mB ov "_read_char" pl);pF p4 f first (lj p4 (fo [] (kD pm cd doc L))) [])->Ψ .next (st acc (ae (Fd c)) cs)->WX (k+4) (st acc ch (c::cs)) (kD pm cd doc L) (.Assign [.Name "ch" p] (.Call (.Attribute (.Name "self" p2) "_read_char" p3) [] [] p4) p5) Ψ)/\
 (∀{acc ch cs p p2 p3 body orelse Ψ} (I:List Nat->List Nat->Prop),I acc cs->(∀a b,I a []->WS (k+4) (s0 a b) (kD pm cd doc L) orelse Ψ)->
  (∀J a c cs,I a (c::cs)->(∀a' b cs',cs'.length<=cs.length->I a' cs'->J (st a' b cs'))->WS (k+4) (st a (ae (Fd c)) cs) (kD pm cd doc L) body (kW J Ψ))->
  WX (k+4) (st acc ch cs) (kD pm cd doc L) (.For (.Name "ch" p) (.Name "fiter" p2) body orelse p3) Ψ)/\
 (∀{acc ch cs p p2 Ψ},Φ (IW acc) (j6 P [] N cs)->(jJ (IW acc) (st acc ch cs) Φ->Ψ (.ret (IW acc)) (st acc ch cs))->WX (k+4) (st acc ch cs) (kD pm cd doc L) (.Return (ae (.Name "token" p)) p2) Ψ)/\
 ∀{acc ch p p2 Ψ},Φ (IW acc) (yy P [] N av)->(jJ (IW acc) (s0 acc ch) Φ->Ψ (.ret (IW acc)) (s0 acc ch))->WX (k+4) (s0 acc ch) (kD pm cd doc L) (.Return (ae (.Name "token" p)) p2) Ψ
section
variable {P:ib}{N:Int}{st:List Nat->Option V->List Nat->Mu}{s0:List Nat->Option V->Mu}(h:LG k P N st s0 pm cd doc L Φ)
def LG.eq:=@h.1
def LG.ws:=@h.2.1
def LG.aug:=@h.2.2.1
def LG.rd:=@h.2.2.2.1
def LG.loop:=@h.2.2.2.2.1
def LG.ret:=@h.2.2.2.2.2.1
def LG.ret0:=@h.2.2.2.2.2.2
end
def yA.S0(k:Nat)(P:ib)(N:Int)(L I q:ay)(pm cd doc:ai)(_:Nat):Prop:=∀{Φ:V->Mu->Prop} {K:fH} (H:Hy G) (LH:fN G K) (PO:mV P) (he:du (kD pm cd doc L)),LG k P N (D6 P N L I q) (gtS0 P N L I) pm cd doc L Φ
namespace yA
@[irreducible] def e0:=zL eN IV Ra cL cL cL gL gL gL eN S0
def k_:=e0.1
def P_:=e0.2.1
def N_:=e0.2.2.1
def L_:=e0.2.2.2.1
def I_:=e0.2.2.2.2.1
def q_:=e0.2.2.2.2.2.1
def pj:=e0.2.2.2.2.2.2.1
def cd_:=e0.2.2.2.2.2.2.2.1
def g8:=e0.2.2.2.2.2.2.2.2.1
theorem T0:S0 k_ P_ N_ L_ I_ q_ pj cd_ g8 e0.2.2.2.2.2.2.2.2.2:=by
 intro Φ K H LH PO he;obtain ⟨ob,_,_,_,h0,hd,_⟩:=LH.f200.go;have m3:∀{a b c d:cX} {l:Mu},d∈a::b::c::d::l:=ao (i:=3) rfl;have p0:∀{acc:List Nat} {ch:Option V} {cs:List Nat} {p:jX},PE (k_+4) (D6 P_ N_ L_ I_ q_ acc ch cs) (kD pj cd_ g8 L_) (.Name "self" p) (.ref P_.lx):=ah (j:=0) he .loc m1 rfl;have p3:∀{acc:List Nat} {c:Nat} {cs:List Nat} {p:jX},PE (k_+4) (D6 P_ N_ L_ I_ q_ acc (ae (Fd c)) cs) (kD pj cd_ g8 L_) (.Name "ch" p) (Fd c):=ah (j:=3) he .loc m1 rfl;have nr:∀n,("_read_char":bb)∉(tm n (.ref P_.f) P_.pb).map (·.1):=λn=>by show ("_read_char":bb)∉(["lineno","instream","whitespace","pushback"]:List bb);decide
 refine ⟨?_,?_,?_,?_,?_,?_,?_⟩
 ·intro acc c d cs p p2 p3' s kk e;subst e;exact oV (c9 p3 cO rC) (eq_ch c d)
 ·intro acc c cs p p2 p3' p4;exact oV (c9 p3 (oS LH.KO LH.p_ws p0 m3 (nN ..) (y:= .str "\n\t\r ") (.tail _ (.tail _ (.head _))) (λn e=>by cases e)) Dd) (R9 c)
 ·intro acc c cs p p2 p3' Ψ h w;exact rP (i:=1) (j:=1) he .loc rfl rfl p3 (io_tk h) w
 ·intro acc ch c cs p p2 p3' p4 p5 pl Ψ ev w;exact b4 (pR LH.KO LH.m_read p0 m3 (nr _) h0 hd (OO H LH PO (aQ (i:=1) (j:=3) he .loc rfl w)) ev) rfl rfl
 ·intro acc ch cs p p2 p3' body orelse Ψ I' h hn ht;refine OK (ah (j:=2) he .loc m1 rfl) aa (λn nu=>∃a b cs,cs.length=n/\I' a cs/\nu=D6 P_ N_ L_ I_ q_ a b cs) cs.length ⟨acc,ch,cs,rfl,h,rfl⟩ λn nu hI=>?_;obtain ⟨a,b,cs,rfl,hI,rfl⟩:=hI;cases cs with
  |nil=>exact oW (i:=0) h0 hd rfl (FC.up (FC.up (OL (k:=k_) (q:=[]) (N:=N_) H LH PO ⟨_,rfl,rfl,λh=>absurd rfl h,λz=>hn a b hI⟩)))
  |cons c cs=>exact ON H LH PO (aQ (i:=1) (j:=3) he .loc rfl (ht _ a c cs hI λa' b cs' hl hI=>⟨cs'.length,Nat.lt_succ_of_le hl,a',b,cs',rfl,hI,rfl⟩))
 ·intro acc ch cs p p2 Ψ h o;exact gw (cf (ah (j:=1) he .loc m1 rfl) (o (jJ.tail (jJ.tail (jJ.keep h)))))
 ·intro acc ch p p2 Ψ h o;exact gw (cf (ah (j:=1) he .loc m1 rfl) (o (jJ.tail (jJ.tail (jJ.keep h)))))
end yA
theorem yA{P:ib}{N:Int}{L I q:ay}{pm cd doc:ai}:yA.S0 k P N L I q pm cd doc 0:=by with_unfolding_all exact uF _ _ _ _ _ _ _ _ _ _ yA.S0 @yA.T0 k P N L I q pm cd doc 0
theorem LI(H:Hy G)(LH:fN G K)(BH:yz K){P:ib}(PO:mV P){N:Int}{cs:List Nat}(h:∀st s0 pm cd doc L,LG k P N st s0 pm cd doc L Φ->WS (k+4) (st [] av cs) (kD pm cd doc L) ((fR (jl 10 2)).drop 3) (lE Φ)):
 FW (k+5) (j6 P [] N cs) (.ref 207) [.ref P.lx] Φ:=by
 refine DK H LH.f207 (names:=["self"]) (vals':=λL=>[ae (.ref P.lx),av,av,av]) (λpm cd doc vs h=>uQ h λa=>rfl) (by decide+kernel) rfl (λpm cd doc L=> .cons (j:=0) .loc rfl .nil) (λpm cd doc L he=>?_);have m2:∀{a b c:cX} {l:Mu},c∈a::b::c::l:=ao (i:=2) rfl;have nr:∀n,("_read_char":bb)∉(tm n (.ref P.f) P.pb).map (·.1):=λn=>by show ("_read_char":bb)∉(["lineno","instream","whitespace","pushback"]:List bb);decide
 refine aC (iY (kU (uH (oS LH.KO LH.p_push (ah (j:=0) he .loc aa rfl) m2 (nN ..) (y:= .ref P.pb) (.tail _ (.tail _ (.tail _ (.head _)))) (λn e=>by cases e)) m1) (G5 (by show 0 < 2 ^ 60;decide))) (λh=>(vL h)) λz=>?_);refine bC (aC (bX cO (aQ (i:=0) (j:=1) he .loc rfl ?_) rfl rfl));refine aC (b4 (IU (j4 H he H.b_iter rfl) (cA (LC LH.KO BH.b_read (ah (j:=0) he .loc aa rfl) m2 (nr _) λq=>cA (cf cO (e8 ⟨[bZ (.ref q),bZ (.str "")],λZ vs hv=>?_,LD λI=>aQ (i:=1) (j:=2) he .loc rfl (h _ _ pm cd doc L (yA H LH PO he))⟩))))) rfl rfl);cases hv with
 |cons a r=>cases r with
  |cons b r=>cases r;exact .cons a (.cons b .nil)
theorem QA{a cs:List Nat}{c:Nat}(h:a.length+(c::cs).length<=2 ^ 20):a.length<=2 ^ 22:=aw (dD _ _) (aw h (by decide))
theorem LJ{a cs ds:List Nat}{c d:Nat}(h:a.length+(c::cs).length<=2 ^ 20)(hl:ds.length<=cs.length):(a++[d]).length+ds.length<=2 ^ 20:=by refine aj (ba ..) ?_;refine aj (l5 ..) ?_;refine aj (Nat.add_comm [d].length ..) ?_;exact aw (qo (E5 hl) _) h
theorem Ga{P:ib}{N:Int}{st:List Nat->Option V->List Nat->Mu}{s0:List Nat->Option V->Mu}{pm cd doc:ai}{L:ay}{tk:List Nat->List Nat->Option (List Nat×List Nat)}{r:List Nat×List Nat}{a cs:List Nat}{c:Nat}{s:bb}{kk:Nat}{p1 p2 p3 p4 p5 p6 p7 p8 p9:jX}{pl:mF Bool}
 (T:LG k P N st s0 pm cd doc L Φ) (ht:(if c=92 then (match cs with|[]=>av|d::ds=>tk (a++[d]) ds) else tk (a++[c]) cs)=ae r) (h:∀d ds,ds.length<=cs.length->tk (a++[d]) ds=ae r->Θ .next (st a (ae (Fd d)) ds)) (hs:autoParam (s=⟨#[92]⟩) aR) (he:autoParam (dW (.Call (.Attribute (.Name "self" p5) "_read_char" p6) [] [] p7) (kD pm cd doc L)=(do let ov <- dW (.Name "self" p5) (kD pm cd doc L);iE p6.atName;let (f,first) <- eV [ov] (mB ov "_read_char" pl);pF p7 f first (lj p7 (fo [] (kD pm cd doc L))) [])) aR):
 WX (k+4) (st a (ae (Fd c)) cs) (kD pm cd doc L) (.If (.Compare (.Name "ch" p1) [.Eq] [.Constant (.str s) kk p2] p3) [.Assign [.Name "ch" p4] (.Call (.Attribute (.Name "self" p5) "_read_char" p6) [] [] p7) p8] [] p9) Θ:=by
 refine iY (T.eq hs) (λe=>?_) λe=>?_
 ·rw [if_pos (of_decide_eq_true e)] at ht;cases cs with
  |nil=>exact gK ht
  |cons d ds=>exact aC (T.rd he (bC (h d ds (jC _) ht)))
 ·rw [if_neg (of_decide_eq_false e)] at ht;exact bC (h c cs (bp _) ht)
def nO.S0(k:Nat)(Φ:V->Mu->Prop)(w rest:List Nat):Prop:=∀{K:fH} {P:ib} {N:Int} {cs:List Nat} (H:Hy G) (LH:fN G K) (BH:yz K) (PO:mV P) (ht:yx cs=ae (w,rest)) (hB:cs.length<=2 ^ 20) (hΦ:Φ (IW w) (j6 P [] N rest)),FW (k+5) (j6 P [] N cs) (.ref 207) [.ref P.lx] Φ
namespace nO
@[irreducible] def e0:=G2 eN ta gD gD S0
def k_:=e0.1
def Φ_:=e0.2.1
def w_:=e0.2.2.1
def Hx:=e0.2.2.2
theorem T0:S0 k_ Φ_ w_ Hx:=by
 intro K P N cs H LH BH PO ht hB hΦ;refine LI H LH BH PO λst s0 pm cd doc L T=>aC (T.loop (λa cs=>a=[]/\cs.length<=2 ^ 20/\yx cs=ae (w_,Hx)) ⟨rfl,hB,ht⟩ (λa b h=>by exact gK h.2.2) λJ a c cs hI hJ=>?_);refine G1 hI λgi hB ht=>?_;clear hI;subst gi;unfold yx at ht;refine aC (iY T.ws (λh=>?_) λh=>?_)
 ·rw [if_pos h] at ht;exact aC (G6 (hJ _ _ _ (bp _) ⟨rfl,nj hB,ht⟩))
 rw [if_neg (by refine aj (h ..) ?_;decide)] at ht;refine bC (aC (iY (T.eq (d:=34) rfl) (λh2=>?_) λh2=>?_))
 ·rw [if_pos (of_decide_eq_true h2)] at ht;refine aC (T.loop (λa cs=>a.length+cs.length<=2 ^ 20/\uY a cs=ae (w_,Hx)) ⟨aw (ll (eC _)) (nj hB),ht⟩ (λa b h=>by exact gK h.2) λJ a c cs hI hJ=>?_);refine dU hI λhB ht=>?_;clear hI;unfold uY at ht;refine aC (iY (T.eq (d:=34) rfl) (λh3=>?_) λh3=>?_)
  ·rw [if_pos (of_decide_eq_true h3)] at ht;cases ht;exact aC (T.ret hΦ λh=>h)
  ·rw [if_neg (of_decide_eq_false h3)] at ht;exact aC (Ga T ht λd ds hl ht=>bC (aC (T.aug (QA hB) (bC (hJ _ _ _ hl ⟨LJ hB hl,ht⟩)))))
 ·rw [if_neg (of_decide_eq_false h2)] at ht;unfold sZ at ht;rw [if_neg (by refine aj (h ..) ?_;decide)] at ht;refine aC (Ga (a:=[]) T ht λd ds hl ht=>aC (T.aug (by decide) (aC (T.loop (λa cs=>a.length+cs.length<=2 ^ 20/\sZ a cs=ae (w_,Hx)) ⟨LJ (a:=[]) (c:=c) (cs:=cs) (aw (ll (eC _)) hB) hl,ht⟩ (λa b h=>by exact gK h.2) λJ a c cs hI hJ=>?_))));refine dU hI λhB ht=>?_;clear hI;unfold sZ at ht;refine aC (iY T.ws (λh3=>?_) λh3=>?_)
  ·rw [if_pos h3] at ht;cases ht;exact aC (T.ret hΦ λh=>h)
  ·rw [if_neg (by refine aj (h3 ..) ?_;decide)] at ht;exact aC (Ga T ht λd ds hl ht=>bC (aC (T.aug (QA hB) (bC (hJ _ _ _ hl ⟨LJ hB hl,ht⟩)))))
end nO
theorem nO{w rest:List Nat}:nO.S0 k Φ w rest:=by with_unfolding_all exact vK _ _ _ _ nO.S0 @nO.T0 k Φ w rest
theorem xI(H:Hy G)(LH:fN G K)(BH:yz K){P:ib}(PO:mV P){N:Int}{w rest cs:List Nat}(ht:yx cs=ae (w,rest))(hB:cs.length<=2 ^ 20):
 FW (k+5) (j6 P [] N cs) (.ref 207) [.ref P.lx] λy nu=>y=IW w/\nu=j6 P [] N rest:=nO H LH BH PO ht hB ⟨rfl,rfl⟩
theorem IX(H:Hy G)(LH:fN G K)(BH:yz K){P:ib}(PO:mV P){N:Int}{cs:List Nat}(hw:∀c∈cs,xH c=aI)(hΦ:Φ (.str "") (yy P [] N av)):
 FW (k+5) (j6 P [] N cs) (.ref 207) [.ref P.lx] Φ:=by
 refine LI H LH BH PO λst s0 pm cd doc L T=>aC (T.loop (λa cs=>a=[]/\∀c∈cs,xH c=aI) ⟨rfl,hw⟩ (λa b h=>?_) λJ a c cs hI hJ=>?_)
 ·refine dU h λiC z=>?_;clear h;subst iC;exact bC (aC (T.ret0 hΦ λh=>h))
 ·refine aC (iY T.ws (λh=>?_) λh=>?_)
  ·exact aC (G6 (hJ _ _ _ (bp _) ⟨hI.1,λd hd=>hI.2 d (ab _ hd)⟩))
  ·rw [hI.2 c aa] at h;exact J3 h
theorem LK(H:Hy G)(LH:fN G K)(BH:yz K){P:ib}(PO:mV P){N:Int}{cs:List Nat}(hw:∀c∈cs,xH c=aI):
 FW (k+5) (j6 P [] N cs) (.ref 207) [.ref P.lx] λy nu=>y= .str ""/\nu=yy P [] N av:=IX H LH BH PO hw ⟨rfl,rfl⟩
variable {vs:el}{S:List (Nat×V)}{j:Nat}
section
variable {prog:dB}{w:d9}{A:bh}{E:ai->aq->Prop}{s:aq}
open Builtin in
theorem xe{it t:ay}{i:Nat}{items:Array ai}{x:ai}{Q:ai->aq->Prop}(hit:s.heap.IsTupleIter it t i)(ht:s.heap.IsTuple t items)(hx:items[i]? =ae x)
 (hQ:∀h',h'.IsTupleIter it t (i+1)->ji it s.heap h'->Q x {s with heap:=h'}):aS (aX prog w) A (mH (.ref it)) Q E s:=by
 refine ef (id hit) λo ho hc hd=>?_;obtain ⟨ol,M7,_,nl,Fg⟩:=ht;unfold mH;refine ag (dX (name:=fc "__next__") hit.typeIs l8
  (dp l8 hit.typeIs Q5 ?_ (Qe _)))
 show aS _ _ (vH (.ref it) 0 >>=_) _ _ s;refine ag (dS ho hd (x:= .ref t) rfl ?_);show aS _ _ (if (cY t == eG)=aI then _ else _) _ _ s;refine aj (if_neg (show ¬((cY t == eG)=aI) from cF)) ?_;show aS _ _ (vH (.ref it) 1 >>=_) _ _ s;refine ag (dS ho hd (x:= .int i 0) rfl ?_);show aS _ _ (seqItems? (.ref t) >>=_) _ _ s;refine ag (CP M7 Fg ?_);simp only [b8,hx];refine ag (eH ho hd (by exact bp _) (ar ⟨x,rfl,ar (hQ _ ?_ (bY ..))⟩));exact ⟨_,bS _ ho (iW (dP hd _)),(pL ..).trans hc,by refine aj (dP hd ..) ?_;simp [pE]⟩
theorem yB{it t:ay}{i:Nat}{items:Array ai}{Q:ai->aq->Prop}(hh:A.handled=av)(hit:s.heap.IsTupleIter it t i)(ht:s.heap.IsTuple t items)(hx:items[i]? =av)
 (hE:∀h' e,ry it s.heap h'->(∃o,h'.get? e=ae o/\o.cls= .type "StopIteration")->E (.ref e) {s with heap:=h'}):aS (aX prog w) A (mH (.ref it)) Q E s:=by
 refine ef (id hit) λo ho hc hd=>?_;obtain ⟨ol,M7,_,nl,Fg⟩:=ht;unfold mH;refine ag (dX (name:=fc "__next__") hit.typeIs l8
  (dp l8 hit.typeIs Q5 ?_ (Qe _)))
 show aS _ _ (vH (.ref it) 0 >>=_) _ _ s;refine ag (dS ho hd (x:= .ref t) rfl ?_);show aS _ _ (if (cY t == eG)=aI then _ else _) _ _ s;refine aj (if_neg (show ¬((cY t == eG)=aI) from cF)) ?_;show aS _ _ (vH (.ref it) 1 >>=_) _ _ s;refine ag (dS ho hd (x:= .int i 0) rfl ?_);show aS _ _ (seqItems? (.ref t) >>=_) _ _ s;refine ag (CP M7 Fg ?_);simp only [b8,hx];refine ag (oj (ag (eH ho hd (by simp) ?_)));show aS _ _ (TM (.type "StopIteration") [] >>=_) _ _ _;refine nI hh ?_;exact hE _ _ (((bY ..).extBut.push _).push _) ⟨_,aW _ rfl,rfl⟩
theorem LM(hh:A.handled=av)(it t:ay)(iP:t≠it)(items:Array ai):
 Draws prog w A it [it,t] items.size (λi v=>items[i]? =ae v) (λi h=>h.IsTupleIter it t i/\h.IsTuple t items) where
 live:=λz z st=>let ⟨o,ho,_⟩:=st.1;⟨o,ho⟩
 frame:=λz z z st hk=>⟨let ⟨o,ho,q⟩:=st.1;⟨o,hk it (by exact aa) o ho,q⟩,IsTuple.at st.2 λo e=>hk t (by exact ab _ aa) o e⟩
 item:=λi s Q E hi st hQ=>by
  exact xe st.1 st.2 (x:=items[i]) (by simp [hi]) λh' Te ud=>hQ _ h' s.toks (by simp [hi]) ⟨Te,IsTuple.at st.2 λo e=>ud.extBut t o iP e⟩ ud
 done:=λs Q E st hE=>yB hh st.1 st.2 (by simp) hE
open AutoSeq1 (wpAny_loadPart') in
set_option tactic.hygienic true in
theorem rY(l:ay)(o:o6)(hc:o.cls= .type "tuple")(items:Array ai)(n:Nat)(hd:o.data= .seq items n):
 Meets (Builtin.«enumerate.__new__» ⟨[.type "enumerate",.ref l],[]⟩) (λ_ R s=>s.heap.get? l=ae o/\
  R (.ok (.ret (.ref (s.heap.push {cls:= .type "tuple_iterator",data:= .fields #[.ref l,.int 0 0]}).objs.size)))
   {s with heap:=(s.heap.push {cls:= .type "tuple_iterator",data:= .fields #[.ref l,.int 0 0]}).push {cls:= .type "enumerate",data:= .fields #[.none,.bool aH,.ref s.heap.objs.size,pE 0,.none,.none]}}):=
 .of_wp λprog w A R s h=>by
  obtain ⟨hp,g,d,tk,os⟩:=s;obtain ⟨hl,h⟩:=h;have q9:=sub_enumerate;have hL:Heap.IsTuple (Shared.heap ⟨hp,g,d,tk,os⟩) l items:=⟨_,hl,hc,n,hd⟩
  wp_walk using kP hl
  refine wpAny_stack_any λst=>ar ?_
  split
  ·rename_i c _ _ _ _ _;cases (c == lX "enumerate")
   ·wp_walk using kP hl,um hL
    exact ⟨_,rfl,h⟩
   ·wp_walk using kP hl,um hL
    exact ⟨_,rfl,h⟩
  ·wp_walk using kP hl,um hL
   exact ⟨_,rfl,h⟩
theorem tQ{l:ay}{items:Array ai}{Q:ai->aq->Prop}(hL:s.heap.IsTuple l items)
 (h:∀h',IsEnum h' (s.heap.objs.size+1) s.heap.objs.size 0 .none->h'.IsTupleIter s.heap.objs.size l 0->h'.objs.size=s.heap.objs.size+2->
  (∀b o,s.heap.get? b=ae o->h'.get? b=ae o)->Q (.ref (s.heap.objs.size+1)) {s with heap:=h'}):
 aS (aX prog w) A (ku (.type "enumerate") [.ref l]) Q E s:=by
 obtain ⟨o,hl,hc,n,hd⟩:=hL;refine callType_new F.called_enumerate (by decide) (F.typeCall_enumerate_1 _) (F.newCall_enumerate_1 _) (λobj=>F.args_object_init_2 obj _) F.entry_enumerate_new
  (rY l o hc items n hd) ⟨hl,?_⟩
 have hz:(s.heap.push {cls:= .type "tuple_iterator",data:= .fields #[.ref l,.int 0 0]}).objs.size=s.heap.objs.size+1:=fO ..;show _/\_;refine aj (hz ..) ?_;have he:IsEnum ((s.heap.push {cls:= .type "tuple_iterator",data:= .fields #[.ref l,.int 0 0]}).push
  {cls:= .type "enumerate",data:= .fields #[.none,.bool aH,.ref s.heap.objs.size,pE 0,.none,.none]}) (s.heap.objs.size+1) s.heap.objs.size 0 .none:=by
  have:=aW (s.heap.push {cls:= .type "tuple_iterator",data:= .fields #[.ref l,.int 0 0]})
   (o:={cls:= .type "enumerate",data:= .fields #[.none,.bool aH,.ref s.heap.objs.size,pE 0,.none,.none]}) rfl
  rw [hz] at this;exact this
 refine ⟨⟨_,he,rfl⟩,h _ he ⟨_,az _ (aW _ rfl),rfl,rfl⟩ (by (refine aj (fO ..) ?_;refine aj (hz ..) ?_;rfl)) λb o x=>az _ (az _ x)⟩
end
section
variable {tp:jX}{x:bb}{kk:Nat}{elts:List bH}
theorem IY{e1:bH}(hf:PE k mu env (.Name x p) (.type "enumerate"))(h1:PE k mu env e1 (.tup xs))(zk:∀a p,e1≠ .Starred a p:=by intro z z h;cases h):
 pd k mu env (.Call (.Name x p) [e1] [] pos) (.Tuple elts kk tp) [] (rE xs):=⟨λz h=>(eo h),λ{A E Z s fr Q} hA r q=>by
 refine sA hf (au h1 aT zk) zk hA r λ{vs s2 Z2} z2 q2 r2=>aK (q2.one) λv1 dO q5=>?_;subst dO;refine dK (aZ.tup_inv q5) λa o vs n eT e1 hc hd hr=>?_;subst eT;have hL:s2.heap.IsTuple a vs:=⟨_,r2.zin _ _ e1,hc,n,hd⟩;have SS:=bN (r2.zin _ _ e1);exact tQ hL λh' he Uh hsz hk=>vO r2 (λA hh=>LM hh s2.heap.objs.size a (c8 SS) vs) (G9 SS) aa (b9 hr) (vN e1) (λi v x=>nC hr) he ⟨Uh,IsTuple.at hL λo e=>hk _ _ e⟩ hk λ{z z z} hit=>q hit z2⟩
structure Sv(vs:el)(S:List (Nat×V)):Prop where
 len:vs.length=47
 at':∀j y,S.lookup j=ae y->vs[j]? =ae (ae y)
theorem Sv.get(h:Sv vs S)(e:S.lookup j=ae y):vs[j]? =ae (ae y):=h.at' j y e
theorem Sv.set(h:Sv vs S)(hj:autoParam (j < 47) aD):Sv (vs.set j (ae y)) ((j,y)::S):=⟨by refine aj (List.length_set ..) ?_;exact h.len,λi z e=>by
 rw [lh] at e;by_cases Bu:i=j
 ·subst Bu;rw [show (i == i)=aI from by simp] at e
  (have lA:=aO e;clear e;subst lA)
  refine aj (eA (by rw [h.len];exact hj) ..) ?_;rfl
 ·rw [show (i == j)=aH from by simpa using Bu] at e;refine aj (kI (λq=>Bu q.symm) ..) ?_;exact h.at' i z e⟩
theorem Sv.drop(h:Sv vs ((j,y)::S))(e:S.lookup j=av):Sv vs S:=⟨h.len,λi z e2=>h.at' i z (by
 refine aj (lh ..) ?_;by_cases Bu:i=j
 ·subst Bu;rw [e] at e2;exact gK e2
 ·refine aj (show (i == j)=aH from by simpa using Bu) ?_;exact e2)⟩
noncomputable abbrev cw(L:ay)(vs:el):cX:=bq L (aM (L+1) (bk (cM 23)).names) vs
noncomputable abbrev bT(pm doc:ai)(L:ay):gV:=dT (xB (cM 23) pm (.ref 306) doc) 307 L
noncomputable def mw(n:Nat):List d6:=((fR (cM 23)).take 15).drop n
noncomputable def je(n:Nat):List d6:=(fR (cM 23)).drop n
end
variable {p2:jX}{v:V}{cl:List (bb×ay)}
section
variable {lay:Ax}{bB:el}
theorem Le.unset(h:bB[j]? =ae av):Le (bq L lay (bB.set j (ae y))::mu) (bq L lay bB::mu):=λZ s fr r=>by
 refine mI (r.sat _ aa) λhnd m hn hs=>?_;have hj:=(aB.mp h).1;have hw:=hs.weak (o:=ae y) (o':=av) (j:=j) (by (refine aj (eA hj ..) ?_;rfl)) (λx c e=>e.forget);rw [vi,show bB.set j av=bB from by
  refine List.ext_getElem? λn=>?_;by_cases hn:j=n
  ·subst hn;(refine aj (eA hj ..) ?_;refine aj (h ..) ?_;rfl)
  ·(refine aj (kI hn ..) ?_;rfl)] at hw
 exact r.upd' (x':=bq L lay bB) (i:=0) (h':=s.heap) (tk:=s.toks) rfl rfl (λz z z e=>e) ⟨hnd,m,hn,hw⟩
theorem LN{β:Type}{di:gV}{t u:bb}{elt fb:bH}{bs:List β}{inj g:β->V}(i j:Nat)(he:du di)(s1:Sl di C (aM (C+1) scope.names) t i)(s2:Sl di C (aM (C+1) scope.names) u j)(hj:((nones (aM (C+1) scope.names)).set i (ae v))[j]? =ae av)
 (src:pd k (TZ scope C i v::mu) di fb (.Name u p2) [] (bs.map inj)) (h:∀b∈bs,PE k (RF scope C i j v (inj b)::mu) di elt (g b))
 (hf:autoParam ((di.kindOf t == ae .free)=aH) aR) (hf':autoParam ((di.kindOf u == ae .free)=aH) aR):AD k mu scope C di (.Name t p) elt fb (.Name u p2) [] v bs inj (λz=>aI) g:=
 ⟨_,[],qB he s1 hf,src,(λz h=>eo h),λb hb=>⟨_,qB he s2 hf',dk,λz=>h b hb,Le.unset hj⟩⟩
theorem Hz{α β:Type}{elt iter fb t2:bH}{spos:jX}(as:List α)(inj:α->V)(bs:α->List β)(zl:β->V)(g:α->β->V)(sc:Fc scope env cl)(src:pd k mu env iter t ctx (as.map inj))(hk:1<=k)(hsz:(as.flatMap bs).length<=2 ^ 21)
 (turn:∀C a,a∈as->AD k mu scope C (pf scope cl C env) t elt fb t2 [] (inj a) (bs a) zl (λz=>aI) (g a)) (hs:autoParam (∀x,bw iter env x=dg x) aR)
 (GG:autoParam (∀C x,bw fb (pf scope cl C env) x=dg x) aR):
 PE k mu env (.ListComp elt [⟨t,iter,[],0⟩,⟨t2,fb,[],0⟩] scope spos) (.list (as.flatMap λa=>(bs a).map (g a))):=by
 have:=Kt (spos:=spos) as inj bs zl (λz z=>aI) g sc src hk hsz turn hs GG;simpa only [kz] using this
theorem pT{ys:List V}(h:pd k mu env e t ctx xs)(e1:xs=ys):pd k mu env e t ctx ys:=e1▸h
noncomputable def QB:List Int:=[871261,18183,223382,230704,2030521,1350021,8139969]
noncomputable def LP(sc:List Int)(q:Nat×Int):Int:=(q.2+((jq (jq sc av (ae 60) av) (ae (q.1:Int)) av (ae 7)).map λn=>n % 12960000).sum) % 12960000
noncomputable def own7:List (Nat×Int):=QB.zipIdx.map λq=>(q.2,q.1)
noncomputable def jQ(sc:List Int):List Int:=own7.map (LP sc)
noncomputable def uZ(ns:List Int):List Int:=ns.flatMap λn=>(aN 4).map λ(p:Nat)=>n / 60 ^ p % 60
theorem u0{α:Type}(xs:List α)(lo hi st:Option Int):(jq xs lo hi st).length<=xs.length:=by
 unfold jq;refine aw (List.length_filterMap_le _ _) (sliceRange_length_le _ _ _ _ (λh=>?_) (λh=>?_))
 ·unfold c7 at h ⊢;simp only at h ⊢;refine aj (if_pos h ..) ?_;refine aj (if_pos h ..) ?_;constructor
  ·cases lo with
   |none=>simp
   |some i=>simp only [h,if_true];omega
  ·cases hi with
   |none=>simp
   |some i=>simp only [h,if_true];omega
 ·unfold c7 at h ⊢;simp only at h ⊢;refine aj (if_neg h ..) ?_;refine aj (if_neg h ..) ?_;constructor
  ·cases lo with
   |none=>simp
   |some i=>simp only [h,if_false];omega
  ·cases hi with
   |none=>simp
   |some i=>simp only [h,if_false];omega
theorem pU(a n:Nat):zx (a:Int) ((a+n:Nat):Int) 1=(aN n).map (a+·):=by
 unfold zx;refine aj (if_pos (by decide) ..) ?_;by_cases h:0 < n
 ·refine aj (if_pos (by lia) ..) ?_;have:(((a+n:Nat):Int) - (a:Int)+1 - 1) / 1=n:=by simp;lia
  simp only [this,b8];refine b5 λk z=>?_;simp only [sT];lia
 ·have:n=0:=by lia
  subst this;refine aj (if_neg (by simp) ..) ?_;rfl
theorem pV{α:Type}(xs:List α)(a n:Nat):((aN n).map (a+·)).filterMap (xs[·]?)=(xs.drop a).take n:=by
 induction n with
 |zero=>simp
 |succ n ih=>
  refine aj (qh ..) ?_;refine aj (bj ..) ?_;refine aj (List.filterMap_append ..) ?_;refine aj (ih ..) ?_;refine aj (dF ..) ?_;congr 1;refine aj (An ..) ?_;cases h:xs[a+n]? with
  |none=>simp [h]
  |some y=>simp [h]
theorem LQ{α:Type}{xs:List α}{a b:Nat}(xb:a<=b)(hb:b<=xs.length):jq xs (ae (a:Int)) (ae (b:Int)) av=(xs.drop a).take (b - a):=by
 have e:c7 (ae (a:Int)) (ae (b:Int)) av xs.length=((a:Int),((a+(b - a):Nat):Int),1):=by
  unfold c7;have h1:¬(a:Int) < 0:=by lia
  have h2:¬(b:Int) < 0:=by lia
  simp only [Option.getD_none,h1,h2,if_false,show (1:Int) > 0 from by decide,if_true];refine TS ?_ (TS ?_ rfl) <;> simp only <;> lia
 unfold jq;refine aj (e ..) ?_;simp only;refine aj (pU ..) ?_;refine aj (pV ..) ?_;rfl
theorem OP{α:Type}{xs:List α}{b:Nat}:jq xs av (ae (b:Int)) av=xs.take b:=by
 have e:c7 av (ae (b:Int)) av xs.length=(((0:Nat):Int),((0+min b xs.length:Nat):Int),1):=by
  unfold c7;have h2:¬(b:Int) < 0:=by omega
  simp only [Option.getD_none,h2,if_false,show (1:Int) > 0 from by decide,if_true];refine TS ?_ (TS ?_ rfl) <;> simp only <;> omega
 unfold jq;refine aj (e ..) ?_;simp only;refine aj (pU ..) ?_;refine aj (pV ..) ?_;refine aj (fy ..) ?_;by_cases h:b<=xs.length
 ·(refine aj (Nat.min_eq_left h ..) ?_;rfl)
 ·(refine aj (Nat.min_eq_right (by omega) ..) ?_;refine aj (d7 (bp _) ..) ?_;refine aj (d7 (by omega) ..) ?_;rfl)
theorem law_0(H:Hy G){pm doc:ai}(he:du (bT pm doc L)){sc:List Int}(Uq:sc.length<=63)(hS:Sv vs [(0,.list (sc.map .int))])
 (next:∀vs,Sv vs [(4,.list ((uZ (jQ sc)).map .int)),(3,.list ((jQ sc).map .int)),(0,.list (sc.map .int))]->WS (k+8) (cw L vs::mu) (bT pm doc L) (mw 2) Θ):
 WS (k+8) (cw L vs::mu) (bT pm doc L) (mw 0) Θ:=by
 have hf:∀{vs},bq L (aM (L+1) (bk (cM 23)).names) vs∈cw L vs::mu:=aa;refine aC (bX (y:= .list ((jQ sc).map .int)) (bM (jO own7 (λq=> .tup [.int (q.1:Nat),.int q.2]) (λq=> .int (LP sc q)) ⟨rfl,rfl,by decide+kernel,by decide+kernel⟩ (pT (IY (iN H he H.b_enumerate rfl) (f9 (xs:=QB.map .int) (au aU (au aU (au aU (au aU (au aU (au aU (au aU aT))))))) (by decide))) rfl) (by lia) (by decide) (λC1 a ha=>tJ 1 2 he.comp .loc .loc dk (λhb=>(br (br (ah (j:=2) he.comp .loc aa rfl) (ej (j4 H he.comp H.b_sum rfl) (au (cP (jO (jq (jq sc av (ae 60) av) (ae (a.1:Int)) av (ae 7)) .int (λn=> .int (n % 12960000)) ⟨rfl,rfl,by decide+kernel,by decide+kernel⟩ (pT (dA (bF (dE (bF (dE (ah (j:=0) he.comp (.cell (L+1) "script") (ab _ hf) (hS.get rfl))) (jo dM (eO aU) dM) (pg (by decide) (by simp;exact aw (by assumption) (by decide))))) (jo (eO (ah (j:=1) he.comp .loc aa rfl)) dM (eO aU)) (pg (by decide) (by have:=u0 (sc.map V.int) av (ae 60) av;simp at this;lia)))) (by rw [jr,jr])) (by lia) (by have:=u0 (jq sc av (ae 60) av) (ae (a.1:Int)) av (ae 7);have:=u0 sc av (ae 60) av;lia) (λC2 a ha=>iu 1 he.comp.comp .loc dk (λhb=>(br (ah (j:=1) he.comp.comp .loc aa rfl) aU (fl (by decide))))))) aT) uO) fC) aU (fl (by decide)))))) (by rw [jQ,a0];rfl)) (aQ (i:=0) (j:=3) he (.cell (L+2) "numbers") rfl ?_) rfl rfl);have hS1:=hS.set (j:=3) (y:= .list ((jQ sc).map .int));refine aC (bX (y:= .list ((uZ (jQ sc)).map .int)) (bM (Hz (jQ sc) .int (λz=>aN 4) nV (λn (p:Nat)=> .int (n / 60 ^ p % 60)) ⟨rfl,rfl,by decide+kernel,by decide+kernel⟩ (dA (ah (j:=3) he (.cell (L+2) "numbers") hf (hS1.get rfl))) (by lia) (aw (ll (show ((jQ sc).flatMap λz=>aN 4).length=28 from rfl)) (by decide)) (λC a ha=>LN 1 2 he.comp .loc .loc rfl (fL (n:=4) (iN H he.comp H.b_range rfl) aU rfl (by decide)) (λb hb=>br (br (ah (j:=1) he.comp .loc aa rfl) (br aU (ah (j:=2) he.comp .loc aa rfl) (BU (by decide) (by have:=aY.mp hb;lia))) (l9 ?_)) aU (fl (by decide))))) (by unfold uZ;rw [uw];simp only [a0];rfl)) (aQ (i:=0) (j:=4) he (.cell (L+3) "draws") rfl ?_) rfl rfl)
 ·have:=aY.mp hb;rcases (by lia:b=0\/b=1\/b=2\/b=3) with rfl|rfl|rfl|rfl <;> decide
 ·exact next _ hS1.set
end
variable {ds:List Nat}{ns:List Int}{n6:Nat}
section
variable {Q:Vw}
theorem Sa{x:bb}{n:Int}(h:MulOk x n):xR k mu .Mult (bZ (.str x)) (bZ (.int n)) (bZ (.str (Txt.mul x n))):=⟨λ{z z z z z z z z} hA R hp hq q=>aZ.strC hp λt=>aZ.intC hq λu=>SB.mul h λt' k=>q .rfl (aZ.str _ _) R.toks⟩
theorem OQ(hl:EV k mu env l (me mu xs))(hr:EV k mu env r (me mu ys))(hz:xs.length+ys.length<=2 ^ 23)(hΦ:∀D,fM D (bl D (xs++ys)::mu) Φ):WE k mu env (.BinOp l .Add r p) Φ:=⟨λ{A E Z s fr Q} hA r0 q=>by
 with_reducible refine NO ?_
 refine hl.c hA r0 λ{v s1 Z1} z1 p1 r1=>hr.c hA r1 λ{u s2 Z2} z2 p2 r2=>cE (me.at ((me mu xs).mono _ _ _ z2 p1) r2) λa vs n dO h1 h2=>?_;subst dO;refine cE (me.at p2 r2) λb ws m eT h3 h4=>?_;subst eT;refine PySem.P.add_list (n:=n) (n2:=m) (items:=vs) (items2:=ws) h1 h3 ?_ (by (refine fZ (b9 h2 ..) ?_;refine fZ (b9 h4 ..) ?_);exact aw hz (show 2 ^ 23<=2 ^ 24 by decide));exact (hΦ s2.heap.objs.size).c (fr:=fr) (r2.addNew (tk:=s2.toks) (bl s2.heap.objs.size (xs++ys)) (λb o e=>az _ e) ⟨vs++ws,0,aW _ rfl,by refine aj (lB ..) ?_;exact h2.append h4⟩ eg λz h=>kX h) λ{z z z} z3=>q (z1.trans (z2.trans z3))⟩
structure Dr(ds:List Nat)(ns:List Int)(n6:Nat):Prop where
 len:ds.length=28
 lt:∀d∈ds,d < 60
 nlen:ns.length=7
 six:ns[6]? =ae (n6:Int)
 nlt:n6 < 12960000
noncomputable def dr(ds:List Nat)(i:Nat):Nat:=ds.getD i 0
theorem Dr.at(h:Dr ds ns n6){i:Nat}(hi:i < 28):ds[i]? =ae (dr ds i):=by unfold dr;refine aj (bR ..) ?_;refine aj (bJ (by rw [h.len];exact hi) ..) ?_;rfl
theorem Dr.dlt(h:Dr ds ns n6)(i:Nat):dr ds i < 60:=by
 unfold dr;refine aj (bR ..) ?_;cases e:ds[i]? with
 |none=>decide
 |some d=>exact h.lt d (ao e)
noncomputable def aF(ds:List Nat):Nat:=dr ds 24 % 28
theorem eI(ds:List Nat):aF ds < 28:=ee _ (by decide)
noncomputable def LR(ds:List Nat):List (Nat×Nat):=[2,3,4,5].map λb=>(dr ds (b - 2) % b,b)
noncomputable def LS(ds:List Nat):List (Nat×Nat):=[4,6,8].map λq=>(dr ds q % 6,1+dr ds (q+1) % 5)
noncomputable def dm(ds:List Nat):List (Nat×Nat):=[(0,1)]++LR ds++LS ds
noncomputable abbrev kH(q:Nat×Nat):V:= .tup [nV q.1,nV q.2]
noncomputable def cc(ds:List Nat)(b:Nat):Nat:=((ds.drop 18).take b).sum+b
noncomputable def rZ(low:Nat):V:= .list ((aN 6).map λb=> .str (cB (low+b)))
theorem OR:∀i,i < 33->i < 10->oJ.getD i ""=cB i:=by decide+kernel
theorem OS:∀i,i < 33->¬i < 10->(("0x":bb)++⟨#[[49,50,52,56].getD (i % 4) 0]⟩)++Txt.mul "0" ((i / 4:Nat):Int)=cB i:=by decide+kernel
noncomputable def LU:bb:="OPTIMIZED NEWLOCALS VARARGS VARKEYWORDS NESTED GENERATOR NOFREE COROUTINE ITERABLE_COROUTINE ASYNC_GENERATOR"
theorem D7:Txt.words LU=oJ:=by decide+kernel
theorem Sb:∀i,i < 33->MulOk "0" ((i / 4:Nat):Int):=λi hi=>by
 have h:i / 4<=8:=by lia
 generalize i / 4=j at h;refine ⟨by refine gj (Bool.or_eq_false_iff ..) ?_;constructor <;> (apply decide_eq_false;lia),λh1 z=>?_,λh1 z=>?_⟩
 ·rcases (by lia:j=1\/j=2\/j=3\/j=4\/j=5\/j=6\/j=7\/j=8) with rfl|rfl|rfl|rfl|rfl|rfl|rfl|rfl <;> decide
 ·rcases (by lia:j=1\/j=2\/j=3\/j=4\/j=5\/j=6\/j=7\/j=8) with rfl|rfl|rfl|rfl|rfl|rfl|rfl|rfl <;> decide
theorem OT:∀i,i < 33->(Txt.mul "0" ((i / 4:Nat):Int)).length<=8:=by decide+kernel
noncomputable def D8(S:List (Nat×V)):List (Nat×V)->Prop
 |[]=>True
 |q::r=>S.lookup q.1=ae q.2/\D8 S r
theorem D8.at{S:List (Nat×V)}:∀{S':List (Nat×V)},D8 S S'->∀j y,S'.lookup j=ae y->S.lookup j=ae y
 |[],_,j,y,e=>by exact gK e
 |q::r,h,j,y,e=>by
  rw [lh] at e;by_cases hj:j=q.1
  ·subst hj;rw [show (q.1 == q.1)=aI from by simp] at e
   (have lA:=aO e;clear e;subst lA)
   exact h.1
  ·rw [show (j == q.1)=aH from by simpa using hj] at e;exact D8.at h.2 j y e
theorem Sv.sub{S':List (Nat×V)}(h:Sv vs S)(hs:D8 S S'):Sv vs S':=⟨h.len,λj y e=>h.at' j y (hs.at j y e)⟩
def yC.S0(k:Nat)(mu:Mu)(vs:el)(L:ay)(ds:List Nat)(ns:List Int)(pm doc:ai):Prop:=∀{Θ:AF->Mu->Prop} {n6:Nat} (H:Hy G) (he:du (bT pm doc L)) (hD:Dr ds ns n6) (hS:Sv vs [(4,.list (ds.map nV)),(3,.list (ns.map .int))]) (next:∀vs,Sv vs [(7,rZ (aF ds)),(5,nV (aF ds)),(4,.list (ds.map nV)),(3,.list (ns.map .int))]->WS (k+8) (cw L vs::mu) (bT pm doc L) (mw 4) Θ),WS (k+8) (cw L vs::mu) (bT pm doc L) (mw 2) Θ
namespace yC
@[irreducible] def e0:=NB eN gD gD cL gD gD gL gL S0
def k_:=e0.1
def e9:=e0.2.1
def kR:=e0.2.2.1
def L_:=e0.2.2.2.1
def aV:=e0.2.2.2.2.1
def HC:=e0.2.2.2.2.2.1
def pj:=e0.2.2.2.2.2.2.1
def g8:=e0.2.2.2.2.2.2.2
theorem T0:S0 k_ e9 kR L_ aV HC pj g8:=by
 intro Θ n6 H he hD hS next
 have hf:∀{kR},bq L_ (aM (L_+1) (bk (cM 23)).names) kR∈cw L_ kR::e9:=aa;have d8:=eI aV;refine aC (bX (y:= .tup [nV (aF aV),.list (oJ.map .str)]) (f9 (xs:=[nV (aF aV),.list (oJ.map .str)]) (au (br (bF (dE (ah (j:=4) he (.cell (L_+3) "draws") hf (hS.get rfl))) aU (ew (hD.at (i:=24) (by decide)) (by refine aj (hD.len ..) ?_;decide))) aU (fl (by decide))) (au (bM (f7 cO mL aT (Il (x:=LU) (by decide+kernel) (by decide+kernel)) (by exact eM) (by exact jW) (by exact Nr) rfl) (by (refine aj (D7 ..) ?_;rfl))) aT)) (by show 2<=2 ^ 20;decide)) (i7 (cv rfl rfl (aQ (i:=0) (j:=5) he (.cell (L_+4) "low") rfl (cv rfl rfl (aQ (i:=0) (j:=6) he (.cell (L_+5) "known") rfl (iX ?_)))))) rfl rfl);have hS2:=(hS.set (j:=5) (y:=nV (aF aV))).set (j:=6) (y:= .list (oJ.map .str));refine aC (bX (y:=rZ (aF aV)) (jO (aN 6) (λb=> .int ((aF aV:Int)+(b:Nat))) (λb=> .str (cB (aF aV+b))) ⟨rfl,rfl,by decide+kernel,by decide+kernel⟩ (pT (qx (iN H he H.b_range rfl) (ah (j:=5) he (.cell (L_+4) "low") hf (hS2.get rfl)) (br (ah (j:=5) he (.cell (L_+4) "low") hf (hS2.get rfl)) aU fC) (by lia) (by lia)) (by unfold rD;(refine aj (show ((aF aV:Int)+6 - (aF aV:Int)).toNat=6 by lia) ?_;rfl))) (by lia) (by decide) (λC1 a ha=>by
  have PY:=aY.mp ha;have h33:aF aV+a < 33:=by lia
  have ec:(aF aV:Int)+(a:Nat)=((aF aV+a:Nat):Int):=by lia
  refine aj (ec ..) ?_;generalize aF aV+a=i at h33;refine iu 1 he.comp .loc dk (λhb=>?_);have h10:decide ((i:Int) < 10)=decide (i < 10):=by
   by_cases h:i < 10
   ·(refine aj (decide_eq_true h ..) ?_;refine aj (decide_eq_true (by lia) ..) ?_;rfl)
   ·(refine aj (decide_eq_false h ..) ?_;refine aj (decide_eq_false (by lia) ..) ?_;rfl)
  refine uI (b:=decide (i < 10)) (oV (c9 (ah (j:=1) he.comp .loc aa rfl) aU Dc) h10) (λh=>?_) (λh=>?_)
  ·have hi:=of_decide_eq_true h;exact fZ (OR i h33 hi ..) (bF (dE (ah (j:=6) he.comp (.cell (L_+5) "known") (ab _ hf) (hS2.get rfl))) (ah (j:=1) he.comp .loc aa rfl) (ew (a:=oJ.getD i "") (by (refine aj (bR ..) ?_;refine aj (bJ (show i < oJ.length from hi)) ?_);rfl) (by decide)))
  ·have hi:=of_decide_eq_false h;refine fZ (OS i h33 hi ..) (br (br cO (bF cO (br (ah (j:=1) he.comp .loc aa rfl) aU (fl (by decide))) (gi_s (c:=[49,50,52,56].getD (i % 4) 0) ?_ ?_ ?_ (by decide))) (FD (by show 2+1<=2 ^ 24;decide))) (br cO (br (ah (j:=1) he.comp .loc aa rfl) aU (l9 (by decide))) (Sa (Sb i h33))) (FD ?_))
   ·have e2:((i:Int) % 4)=((i % 4:Nat):Int):=by lia
    refine aj (e2 ..) ?_;have h4:i % 4 < 4:=ee _ (by decide);generalize i % 4=m at h4;rcases (by lia:m=0\/m=1\/m=2\/m=3) with rfl|rfl|rfl|rfl <;> rfl
   ·show -(4:Int)<=_;lia
   ·lia
   ·have:=OT i h33;show 3+_<=2 ^ 24;have e3:((i:Int) / 4)=((i / 4:Nat):Int):=by lia
    refine aj (e3 ..) ?_;lia)) (aQ (i:=0) (j:=7) he (.cell (L_+6) "names") rfl ?_) rfl rfl)
 have hS3:=hS2.set (j:=7) (y:=rZ (aF aV));exact next _ (hS3.sub ⟨rfl,rfl,rfl,rfl,trivial⟩)
end yC
theorem yC{pm doc:ai}:yC.S0 k mu vs L ds ns pm doc:=by with_unfolding_all exact BB _ _ _ _ _ _ _ _ yC.S0 @yC.T0 k mu vs L ds ns pm doc
end
theorem OU{op:xo}{P Q:Vw}{z z':V}(h:xR k mu op P Q (bZ z))(e:z=z'):xR k mu op P Q (bZ z'):=e▸h
theorem Gb{es:List (bb×V)}{x:bb}(h:x∉es.map (·.1)):jE es x y=es++[(x,y)]:=by unfold jE;rw [if_neg];intro h2;rw [cS] at h2;refine aK h2 λq hq hx=>?_;clear h2;exact h (aG.mpr ⟨q,hq,by simpa using hx⟩)
theorem D9:∀(ps es:List (bb×V)),((es++ps).map (·.1)).Nodup->ps.foldl (λes q=>jE es q.1 q.2) es=es++ps
 |[],es,_=>by simp
 |q::ps,es,h=>by
  have hq:q.1∉es.map (·.1):=λhm=>by
   rw [bj,bP] at h;exact h.2.2 _ hm _ aa rfl
  refine aj (fF ..) ?_;refine aj (Gb hq ..) ?_;refine aj (D9 ps (es++[(q.1,q.2)]) (by simpa using h) ..) ?_;simp
theorem Ea{ps:List (bb×V)}(h:(ps.map (·.1)).Nodup):rG ps=ps:=by have:=D9 ps [] (by exact h);exact this
theorem yD{α:Type}{ke ve iter:bH}{spos:jX}(B:g7 G)(as:List α)(inj:α->V)(g:α->bb×V)(sc:Fc scope env cl)(src:pd k mu env iter t ctx (as.map inj))(hk:1<=k)(hsz:as.length<=2 ^ 21)
 (turn:∀C a,a∈as->AE k mu scope C (pf scope cl C env) t [] ke ve (inj a) aI (g a).1 (g a).2) (hnd:(as.map λa=>(g a).1).Nodup) (hΘ:∀D,fM D (cD D (as.map g)::mu) Φ) (hs:autoParam (∀x,bw iter env x=dg x) aR):
 WE k mu env (.DictComp ke ve [⟨t,iter,[],0⟩] scope spos) Φ:=
 WE_dc B as inj (λz=>aI) g sc src hk hsz turn (λD=>by
  refine aj (kz ..) ?_;refine aj (Ea (by rw [a0];exact hnd) ..) ?_;exact hΘ D) hs
theorem jx{low:Nat}(hl:low < 28):∀l:List Nat,(∀b∈l,b < 6)->l.Nodup->(l.map λb=>cB (low+b)).Nodup
 |[],_,_=>by simp
 |a::l,h6,hn=>by
  refine aj (bA ..) ?_;refine gj (cg ..) ?_;rw [cg] at hn;refine ⟨λhm=>?_,jx hl l (λb hb=>h6 b (ab _ hb)) hn.2⟩;refine aK (aG.mp hm) λb hb e=>?_;have h1:=h6 b (ab _ hb);have h2:=h6 a aa;have:=qD (low+b) (by lia) (low+a) (by lia) e;have:b=a:=by lia
  subst this;exact hn.1 hb
theorem zip6:(aN 6).zipIdx=(aN 6).map λb=>(b,b):=rfl
def yE.S0(k:Nat)(mu:Mu)(vs:el)(L:ay)(ds:List Nat)(ns:List Int)(pm doc:ai):Prop:=∀{Θ:AF->Mu->Prop} {n6:Nat} (H:Hy G) (he:du (bT pm doc L)) (hD:Dr ds ns n6) (hS:Sv vs [(7,rZ (aF ds)),(5,nV (aF ds)),(4,.list (ds.map nV)),(3,.list (ns.map .int))]) (next:∀vs A,Sv vs [(11,.list ((aN 7).map λb=>nV (cc ds b))),(10,.ref A),(42,.dict (qE (aF ds))),(7,rZ (aF ds)),(5,nV (aF ds)),(4,.list (ds.map nV)),(3,.list (ns.map .int))]->WS (k+8) (bl A ((dm ds).map kH)::cw L vs::mu) (bT pm doc L) (mw 7) Θ),WS (k+8) (cw L vs::mu) (bT pm doc L) (mw 4) Θ
namespace yE
@[irreducible] def e0:=NB eN gD gD cL gD gD gL gL S0
def k_:=e0.1
def e9:=e0.2.1
def kR:=e0.2.2.1
def L_:=e0.2.2.2.1
def aV:=e0.2.2.2.2.1
def HC:=e0.2.2.2.2.2.1
def pj:=e0.2.2.2.2.2.2.1
def g8:=e0.2.2.2.2.2.2.2
theorem T0:S0 k_ e9 kR L_ aV HC pj g8:=by
 intro Θ n6 H he hD hS next
 have hf:∀{kR},bq L_ (aM (L_+1) (bk (cM 23)).names) kR∈cw L_ kR::e9:=aa;have d8:=eI aV;refine aC (b4 (yD H.B ((aN 6).zipIdx) (λq=> .tup [.int (q.2:Nat),.str (cB (aF aV+q.1))]) (λq=>(cB (aF aV+q.1),nV (2 ^ (aF aV+q.2)))) ⟨rfl,rfl,by decide+kernel,by decide+kernel⟩ (sD (iN H he H.b_enumerate rfl) (ah (j:=7) he (.cell (L_+6) "names") hf (hS.get rfl))) (by lia) (by decide) (λC2 a ha=>KH 1 2 he.comp .loc .loc dk (λhb=>(ah (j:=2) he.comp .loc aa rfl)) (λhb=>bM (br aU (br (ah (j:=5) he.comp (.cell (L_+4) "low") (ab _ hf) (hS.get rfl)) (ah (j:=1) he.comp .loc aa rfl) fC) (Kh ?_ ?_ (by decide))) ?_)) ?_ (λD=>fM.dict (aQ (i:=0) (j:=42) he (.cell (L_+16) "flags") rfl ?_))) rfl rfl)
 ·have:=dJ (n:=aF aV);have:=dJ (n:=a.2);lia
 ·rw [zip6] at ha;refine aK (aG.mp ha) λb hb dO=>?_;subst dO;have:=aY.mp hb;show (aF aV:Int)+(b:Int)<=_;lia
 ·show V.int (1*2 ^ ((aF aV:Int)+(a.2:Int)).toNat)=nV (2 ^ (aF aV+a.2));refine aj (show ((aF aV:Int)+(a.2:Int)).toNat=aF aV+a.2 by lia) ?_;refine aj (sT ..) ?_;refine congrArg V.int ?_;simp
 ·(refine aj (zip6 ..) ?_;refine aj (a0 ..) ?_)
  exact jx d8 (aN 6) (λb hb=>aY.mp hb) lp
 have hS1:=hS.set (j:=42) (y:= .dict (qE (aF aV)));have dw:∀{C:ay} {scope:fh} {rt:el},bq L_ (aM (L_+1) (bk (cM 23)).names) rt∈nE scope C kR::cw L_ rt::e9:=ab _ aa;refine aC (b4 (OQ (xs:=([(0,1)]++LR aV).map kH) (ys:=(LS aV).map kH) (dE (bM (br (dE (ij (xs:=[kH (0,1)]) (au (f9 (xs:=[nV 0,nV 1]) (au aU (au aU aT)) (by show 2<=2 ^ 20;decide)) aT) (by show 1<=2 ^ 20;decide))) (dE (jO [2,3,4,5] nV (λb=>kH (dr aV (b - 2) % b,b)) ⟨rfl,rfl,by decide+kernel,by decide+kernel⟩ (pT (qx (iN H he H.b_range rfl) aU aU (by decide) (by decide)) rfl) (by lia) (by decide) (λC3 a ha=>iu 1 he.comp .loc dk (λhb=>?_)))) (uN ?_)) ?_)) (dE (jO [4,6,8] nV (λq=>kH (dr aV q % 6,1+dr aV (q+1) % 5)) ⟨rfl,rfl,by decide+kernel,by decide+kernel⟩ (xC (f9 (xs:=[nV 4,nV 6,nV 8]) (au aU (au aU (au aU aT))) (by show 3<=2 ^ 20;decide))) (by lia) (by decide) (λC4 a ha=>iu 1 he.comp .loc dk (λhb=>?_)))) ?_ (λA=>fM.ref (aQ (i:=1) (j:=10) he (.cell (L_+9) "arms") rfl ?_))) rfl rfl)
 ·have h25:2<=a/\a < 6:=by simp at ha;lia
  refine f9 (xs:=[nV (dr aV (a - 2) % a),nV a]) (au (bM (br (bF (dE (ah (j:=4) he.comp (.cell (L_+3) "draws") (ab _ aa) (hS1.get rfl))) (bM (br (ah (j:=1) he.comp .loc aa rfl) aU vM) (show V.int ((a:Int) - 2)=nV (a - 2) from congrArg V.int (by lia))) (ew (hD.at (i:=a - 2) (by lia)) (by refine aj (hD.len ..) ?_;decide))) (ah (j:=1) he.comp .loc aa rfl) (fl (by lia))) (by show V.int _=V.int _;congr 1)) (au (ah (j:=1) he.comp .loc aa rfl) aT)) (by show 2<=2 ^ 20;decide)
 ·show 1+4<=2 ^ 23;decide
 ·rfl
 ·have h9:a < 9:=by simp at ha;lia
  refine f9 (xs:=[nV (dr aV a % 6),nV (1+dr aV (a+1) % 5)]) (au (br (bF (dE (ah (j:=4) he.comp (.cell (L_+3) "draws") (ab _ aa) (hS1.get rfl))) (ah (j:=1) he.comp .loc aa rfl) (ew (hD.at (i:=a) (by exact cb (by assumption) (by decide))) (by refine aj (hD.len ..) ?_;decide))) aU (fl (by decide))) (au (br aU (br (bF (dE (ah (j:=4) he.comp (.cell (L_+3) "draws") (ab _ aa) (hS1.get rfl))) (br (ah (j:=1) he.comp .loc aa rfl) aU fC) (ew (hD.at (i:=a+1) (by lia)) (by refine aj (hD.len ..) ?_;decide))) aU (fl (by decide))) fC) aT)) (by show 2<=2 ^ 20;decide)
 ·show 5+3<=2 ^ 23;decide
 have hS2:=hS1.set (j:=10) (y:= .ref A);refine fZ (bj ..) (aC (FN (aN 7) nV (λb=>nV (cc aV b)) ⟨rfl,rfl,by decide+kernel,by decide+kernel⟩ (fL (n:=7) (iN H he H.b_range rfl) aU rfl (by decide)) (by lia) (by decide) (λC5 a ha=>iu 1 he.comp .loc dk (λhb=>?_)) rfl (λD=>fM.list (aQ (i:=1) (j:=11) he .loc rfl (next _ A ((hS2.set (j:=11)).sub ⟨rfl,rfl,rfl,rfl,rfl,rfl,rfl,trivial⟩))))));have h7:=aY.mp ha;refine br (ej (j4 H he.comp H.b_sum rfl) (au (dE (bM (bF (dE (ah (j:=4) he.comp (.cell (L_+3) "draws") (ab _ (ab _ aa)) (hS2.get rfl))) (jo (eO aU) (eO (br aU (ah (j:=1) he.comp .loc aa rfl) fC)) dM) (pg (by decide) (by simp [hD.len]))) (y:= .list (((aV.drop 18).take a).map nV)) ?_)) aT) (uO (l:=(aV.drop 18).take a) (f:=λ(n:Nat)=>(n:Int)))) (ah (j:=1) he.comp .loc aa rfl) ?_
 ·refine aj (jr ..) ?_;have:=LQ (xs:=aV) (a:=18) (b:=18+a) (by exact dD _ _) (by refine aj (hD.len ..) ?_;lia);rw [show (((18+a:Nat):Int))=18+(a:Int) from by lia,show 18+a - 18=a by lia] at this;refine fZ (this ..) ?_;rfl
 ·have e:(((aV.drop 18).take a).map λ(n:Nat)=>(n:Int)).sum+(a:Int)=((cc aV a:Nat):Int):=by
   unfold cc;have:∀l:List Nat,(l.map λ(n:Nat)=>(n:Int)).sum=((l.sum:Nat):Int):=λl=>by
    induction l with
    |nil=>rfl
    |cons b l ih=>simp only [bA,da,ih];lia
   refine aj (this ..) ?_;lia
  exact OU fC (congrArg V.int e)
end yE
theorem yE{pm doc:ai}:yE.S0 k mu vs L ds ns pm doc:=by with_unfolding_all exact BB _ _ _ _ _ _ _ _ yE.S0 @yE.T0 k mu vs L ds ns pm doc
noncomputable def mN(n w:Int):Nat:=if w % 3 == 0 then 3 else 1+(if decide (63 < n) then 1 else 0)
noncomputable def pW(n w:Int)(i:Nat):Int:=n / 64 ^ i % 64+64*(if decide ((0:Int) < i) then 1 else 0)+128*(w / ((i:Int)+1) % 2)
noncomputable def gm(n w:Int):List Int:=jq ((aN (mN n w)).map (pW n w)) av av (ae (-1))
theorem kZ(n w:Int):mN n w=3\/mN n w=1\/mN n w=2:=by
 unfold mN;split
 ·exact .inl rfl
 ·split
  ·exact .inr (.inr rfl)
  ·exact .inr (.inl rfl)
theorem pow64{a:Nat}(h:a < 3):(0:Int) < 64 ^ a/\(64:Int) ^ a < 2 ^ 30:=by exact TV h (by decide) (by decide) (by decide)
theorem LV(H:Hy G){n w:Int}:FW (k+2) mu (.ref 285) [.int n,.int w] λy nu=>y= .list ((gm n w).map .int)/\nu=mu:=by
 refine ti H H.f285 (names:=["number","way"]) (vals':=λL=>[ae (.int n),ae (.int w)]) (λpm cd doc vs h=>?_) (by decide+kernel) rfl (λpm cd doc L=>?_) (λpm cd doc L he=>?_)
 ·exact zS h λa b=>rfl
 ·exact .cons (j:=0) (.cell (L+1) "number") rfl (.cons (j:=1) (.cell (L+2) "way") rfl .nil)
 have hc:=kZ n w;have hcc:(if w % 3 == 0 then (3:Int) else 1+(if decide (63 < n) then 1 else 0))=(mN n w:Nat):=by unfold mN;split <;> first|rfl|(split <;> rfl)
 refine aC (gw (cf (y:= .list ((gm n w).map .int)) (bM
  (bF (cP (jO _ _ _ ⟨rfl,rfl,by decide+kernel,by decide+kernel⟩ (fL (iN H he H.b_range rfl) (RI (c9 (cP (br (cP (ah (j:=1) he (.cell (L+2) "way") aa rfl)) (cP aU) (by exact fl (by decide)))) (cP aU) (by exact qv)) (λh=>aU) (λh=>(br (cP aU) (cP (iZ (iN H he H.b_int rfl) (au (cP (mJ (cP (ah (j:=0) he (.cell (L+1) "number") aa rfl)) (cP aU) (by exact G4))) aT) (by exact rH))) (by exact fC)))) hcc (by lia)) (by lia) (by (simp only [ak,fq,eW,ba] <;> lia)) (λC1 a ha=>iu 1 he.comp .loc dk (λhb=>(br (cP (br (cP (br (cP (br (cP (ah (j:=0) he.comp (.cell (L+1) "number") (ab _ aa) rfl)) (cP (br (cP aU) (cP (ah (j:=1) he.comp .loc aa rfl)) (BU (by decide) ?a1))) (l9 ?a2))) (cP aU) (by exact fl (by decide)))) (cP (br (cP aU) (cP (iZ (iN H he.comp H.b_int rfl) (au (cP (mJ (cP (ah (j:=1) he.comp .loc aa rfl)) (cP aU) (by exact G4))) aT) (by exact rH))) (by exact mY (by decide)))) (by exact fC))) (cP (br (cP aU) (cP (br (cP (br (cP (ah (j:=1) he.comp (.cell (L+2) "way") (ab _ aa) rfl)) (cP (br (cP (ah (j:=1) he.comp .loc aa rfl)) (cP aU) (by exact fC))) (l9 ?a3))) (cP aU) (by exact fl (by decide)))) (by exact mY (by decide)))) (by exact fC)))))) (jo dM dM (eO (o8 aU))) (by exact pg (by decide) (by (simp only [ak,fq,eW,ba] <;> lia))))
  ?a6) (ki ⟨rfl,rfl⟩)))
 case a1=>have:=aY.mp ha;omega
 case a2=>exact pow64 (by have:=aY.mp ha;omega)
 case a3=>have:=aY.mp ha;omega
 case a6=>unfold gm;rw [<- jr,a0];rfl
theorem tR{n w:Int}(h:mN n w=3):gm n w=[pW n w 2,pW n w 1,pW n w 0]:=by unfold gm;rw [h,jr,show jq (aN 3) av av (ae (-1))=[2,1,0] from by decide+kernel];rfl
theorem yF{n w:Int}(h:mN n w=2):gm n w=[pW n w 1,pW n w 0]:=by unfold gm;rw [h,jr,show jq (aN 2) av av (ae (-1))=[1,0] from by decide+kernel];rfl
theorem yG{n w:Int}(h:mN n w=1):gm n w=[pW n w 0]:=by unfold gm;rw [h,jr,show jq (aN 1) av av (ae (-1))=[0] from by decide+kernel];rfl
theorem wb(n:Nat)(w:Int)(i:Nat):uV (pW n w i).toNat (n / 64 ^ i % 64) (decide (0 < i)):=by
 have e:(n:Int) / 64 ^ i % 64=((n / 64 ^ i % 64:Nat):Int):=by simp
 have hb:n / 64 ^ i % 64 < 64:=ee _ (by decide);unfold pW;rw [e];generalize n / 64 ^ i % 64=d at*;have h2:=Int.emod_two_eq (w / ((i:Int)+1));constructor
 ·rcases h2 with h|h <;> rw [h] <;> split <;> lia
 ·by_cases hi:0 < i
  ·have:(0:Int) < i:=by lia
   rcases h2 with h|h <;> rw [h] <;> simp [hi] <;> lia
  ·have:¬(0:Int) < i:=by lia
   rcases h2 with h|h <;> rw [h] <;> simp [hi] <;> lia
theorem sH{n:Nat}{w:Int}(hn:n < 4096)(rs:List Nat):mM ((gm n w).map ux++rs)=ae (n,rs):=by
 have o0:=wb n w 0;have o1:=wb n w 1;have o2:=wb n w 2;simp only [show decide (0 < 0)=aH from rfl,show decide (0 < 1)=aI from rfl,show decide (0 < 2)=aI from rfl] at o0 o1 o2;rcases kZ n w with h|h|h
 ·rw [tR h];refine (vint3 o2 o1 o0).trans ?_;have:(n / 64 ^ 2 % 64*64+n / 64 ^ 1 % 64)*64+n / 64 ^ 0 % 64=n:=by lia
  rw [this];rfl
 ·rw [yG h];refine (vint1 o0).trans ?_;have h63:n < 64:=by
   unfold mN at h
   split at h
   ·exact absurd h (by decide)
   ·split at h
    ·exact absurd h (by decide)
    ·rename_i hd;simp at hd;lia
  have:n / 64 ^ 0 % 64=n:=by lia
  rw [this];rfl
 ·rw [yF h];refine (vint2 o1 o0).trans ?_;have:n / 64 ^ 1 % 64*64+n / 64 ^ 0 % 64=n:=by lia
  rw [this];rfl
section
set_option tactic.hygienic true
inductive BW(hs:List (List Nat))(block:Nat)(marks:List Nat):List Nat->Prop
 |one {c:_}:c∈hs.getD block []->BW hs block marks [c]
 |ext {w c d:_}:BW hs block marks w->w.getLast? =ae c->c∉marks->c≠block->d∈hs.getD c []->d∉w->BW hs block marks (w++[d])
structure zX(hs:List (List Nat)):Prop where
 len:hs.length=6
 lt:∀b,∀c∈hs.getD b [],c < 6
 nd:∀b,(hs.getD b []).Nodup
noncomputable def mO:Nat->Nat
 |0=>1
 |m+1=>1+(m+1)*mO m
noncomputable def xf(w:List Nat):Nat:=mO (6 - w.length)
structure WOk(w:List Nat):Prop where
 nd:w.Nodup
 lt:∀c∈w,c < 6
 ne:w≠[]
theorem tq:∀{l m:List Nat},l.Nodup->(∀a∈l,a∈m)->l.length<=m.length
 |[],_,_,_=>gp _
 |a::l,m,hn,hs=>by
  have ha:=hs a aa;refine dU (cg.mp hn) λh1 h2=>?_;have ih:=tq (m:=m.erase a) h2 λb hb=>(List.mem_erase_of_ne (show b≠a from λe=>h1 (e▸hb))).mpr (hs b (ab _ hb));rw [List.length_erase_of_mem ha] at ih;have:=List.length_pos_of_mem ha;simp only [bK];lia
theorem ez{w:List Nat}(nd:w.Nodup)(lt:∀c∈w,c < 6):w.length<=6:=by have h:w.length<=(aN 6).length:=tq nd λc hc=>aY.mpr (lt c hc);exact h
theorem BW.ok{hs:List (List Nat)}{block:Nat}{marks w:List Nat}(H:zX hs)(h:BW hs block marks w):WOk w:=by
 induction h with
 |one hc=>exact ⟨by simp,λc zr=>by refine aj (aA.mp zr ..) ?_;exact H.lt _ _ hc,by simp⟩
 |ext _ _ _ _ hd hn ih=>exact ⟨by
  refine gj (bP ..) ?_;exact ⟨ih.nd,by simp,λa ha b hb e=>by rw [aA.mp hb] at e;exact hn (e▸ha)⟩,λc hc=>by
  rcases bc.mp hc with h|h
  ·exact ih.lt c h
  ·refine aj (aA.mp h ..) ?_;exact H.lt _ _ hd,by simp⟩
noncomputable def j7(hs:List (List Nat))(block:Nat)(marks w:List Nat):List (List Nat):=
 match w.getLast? with
 |none=>[]
 |some c=>if c∈marks then [] else if c=block then [] else ((hs.getD c []).filter λd=>!decide (d∈w)).map λd=>w++[d]
theorem qJ:∀m,0 < mO m
 |0=>by decide
 |m+1=>by unfold mO;lia
set_option tactic.hygienic true in
theorem IZ{hs:List (List Nat)}{block:Nat}{marks w:List Nat}(H:zX hs)(hw:WOk w):((j7 hs block marks w).map xf).sum < xf w:=by
 unfold j7
 split
 ·simp [xf,qJ]
 ·rename_i c hc
  split
  ·simp [xf,qJ]
  split
  ·simp [xf,qJ]
  ·generalize hl:(hs.getD c []).filter (λd=>!decide (d∈w))=l;have SR:l.length+w.length<=6:=by
    have h1:(l++w).Nodup:=by refine gj (bP ..) (⟨hl▸(H.nd c).filter _,hw.nd,λa ha b hb e=>?_⟩);rw [<- hl] at ha;have:=(bo.mp ha).2;simp at this;exact this (e▸hb)
    have:=ez h1 λa ha=>by
     rcases bc.mp ha with h|h
     ·rw [<- hl] at h;exact H.lt _ _ (bo.mp h).1
     ·exact hw.lt a h
    simpa using this
   have S2:((l.map λd=>w++[d]).map xf).sum=l.length*mO (6 - (w.length+1)):=by
    clear hl SR;induction l with
    |nil=>simp
    |cons a l ih=>
     simp only [bA,da,bK,ih];have:xf (w++[a])=mO (6 - (w.length+1)):=by simp [xf]
     (refine aj (this ..) ?_;refine aj (iS ..) ?_);lia
   refine aj (S2 ..) ?_;unfold xf;by_cases h6:w.length=6
   ·have:l.length=0:=by lia
    (refine aj (this ..) ?_;refine aj (h6 ..) ?_);simp [mO]
   ·have P3:w.length < 6:=by lia
    obtain ⟨m,hm⟩:∃m,6 - w.length=m+1:=⟨5 - w.length,by lia⟩;have hm':6 - (w.length+1)=m:=by lia
    refine aj (hm ..) ?_;refine aj (hm' ..) ?_;rewrite [mO];have:l.length<=m+1:=by lia
    have:=xx (mO m) this;lia
structure nP(hs:List (List Nat))(block:Nat)(marks:List Nat)(i:Nat)(ws:List (List Nat)):Prop where
 ok:∀w∈ws,BW hs block marks w
 init:∀c∈hs.getD block [],[c]∈ws
 step:∀j w,j < i->ws[j]? =ae w->∀v∈j7 hs block marks w,v∈ws
 le:i<=ws.length
 room:i+((ws.drop i).map xf).sum<=2000
theorem nP.len{hs:List (List Nat)}{block:Nat}{marks:List Nat}{i:Nat}{ws:List (List Nat)}(h:nP hs block marks i ws):ws.length<=2000:=by
 have h1:(ws.drop i).length<=((ws.drop i).map xf).sum:=by
  generalize ws.drop i=l;induction l with
  |nil=>simp
  |cons a l ih=>simp only [bK,bA,da];have:=qJ (6 - a.length);unfold xf at*;lia
 have:=h.room;have h2:=h.le;rw [fY] at h1;lia
theorem nP.start{hs:List (List Nat)}{block:Nat}{marks:List Nat}(H:zX hs):nP hs block marks 0 ((hs.getD block []).map λc=>[c]) where
 ok:=λw hw=>by obtain ⟨c,hc,rfl⟩:=aG.mp hw;exact .one hc
 init:=λc hc=>aG.mpr ⟨c,hc,rfl⟩
 step:=λj w hj=>absurd hj (GY _)
 le:=gp _
 room:=by
  have h1:(((hs.getD block []).map λc=>[c]).map xf).sum=(hs.getD block []).length*mO 5:=by
   generalize hs.getD block []=l;induction l with
   |nil=>simp
   |cons a l ih=>simp only [bA,da,bK,ih];have:xf [a]=mO 5:=rfl;(refine aj (this ..) ?_;refine aj (iS ..) ?_);lia
  have h2:=ez (H.nd block) (H.lt block);refine aj (fy ..) ?_;refine aj (h1 ..) ?_;have:mO 5=326:=by decide
  refine aj (this ..) ?_;lia
def nP.turn.S0(hs:List (List Nat))(block:Nat)(marks:List Nat)(i:Nat)(ws:List (List Nat))(w:List Nat):Prop:=∀(H:zX hs) (h:nP hs block marks i ws) (hw:ws[i]? =ae w),nP hs block marks (i+1) (ws++j7 hs block marks w)/\(((ws++j7 hs block marks w).drop (i+1)).map xf).sum < ((ws.drop i).map xf).sum
namespace nP.turn
@[irreducible] def e0:=Fq gD eN gD eN gD gD S0
def kE:=e0.1
def eL:=e0.2.1
def dz:=e0.2.2.1
def i_:=e0.2.2.2.1
def qK:=e0.2.2.2.2.1
def w_:=e0.2.2.2.2.2
theorem T0:S0 kE eL dz i_ qK w_:=by
 intro H h hw;have hlt:i_ < qK.length:=(aB.mp hw).1;have M8:=h.ok w_ (ao hw);have hp:=IZ (block:=eL) (marks:=dz) H (M8.ok H);have HV:(qK++j7 kE eL dz w_).drop (i_+1)=qK.drop (i_+1)++j7 kE eL dz w_:=by refine aj (gq (by lia) ..) ?_;rfl
 have hd:qK.drop i_=w_::qK.drop (i_+1):=by refine aj (dZ hlt ..) ?_;congr 1;exact (aB.mp hw).2
 have zk:((qK.drop i_).map xf).sum=xf w_+((qK.drop (i_+1)).map xf).sum:=by refine aj (hd ..) ?_;simp
 have GG:(((qK++j7 kE eL dz w_).drop (i_+1)).map xf).sum=((qK.drop (i_+1)).map xf).sum+((j7 kE eL dz w_).map xf).sum:=by refine aj (HV ..) ?_;simp
 refine ⟨⟨λv hv=>?_,λc hc=>aE _ (h.init c hc),λj v hj hv=>?_,by simp;lia,?_⟩,by lia⟩
 ·rcases bc.mp hv with hv|hv
  ·exact h.ok v hv
  ·unfold j7 at hv
   split at hv
   ·simp at hv
   ·rename_i c hc
    split at hv
    ·simp at hv
    split at hv
    ·simp at hv
    ·refine aK (aG.mp hv) λd hd dO=>?_;subst dO;have:=(bo.mp hd).2;simp at this;exact .ext M8 hc ‹_› ‹_› (bo.mp hd).1 this
 ·intro u hu;by_cases Ur:j=i_
  ·subst Ur;rw [eE hlt,hw] at hv
   (have lA:=aO hv;clear hv;subst lA)
   exact bL _ hu
  ·have hj':j < i_:=by lia
   rw [eE (by exact CQ (by assumption) (by assumption))] at hv;exact aE _ (h.step j v hj' hv u hu)
 ·have:=h.room;lia
end nP.turn
theorem nP.turn{hs:List (List Nat)}{block:Nat}{marks:List Nat}{i:Nat}{ws:List (List Nat)}{w:List Nat}:nP.turn.S0 hs block marks i ws w:=by with_unfolding_all exact uE _ _ _ _ _ _ nP.turn.S0 @nP.turn.T0 hs block marks i ws w
theorem nP.done{hs:List (List Nat)}{block:Nat}{marks:List Nat}{ws:List (List Nat)}(h:nP hs block marks ws.length ws)(w:List Nat):w∈ws↔BW hs block marks w:=by
 refine ⟨h.ok w,λhw=>?_⟩;induction hw with
 |one hc=>exact h.init _ hc
 |ext _ hc hm hb hd hn ih=>refine cJ (iq.mp ih) λj hj=>h.step j _ (aB.mp hj).1 hj _ ?_;unfold j7;refine aj (hc ..) ?_;simp only [if_neg hm,if_neg hb];exact aG.mpr ⟨_,bo.mpr ⟨hd,by simpa using hn⟩,rfl⟩
end
theorem dn{α:Type _}(u:List α){v:List α}(h:v≠[]):(u++v).getLast? =v.getLast? :=by (refine aj (TT ..) ?_;refine aj (gu h ..) ?_);rfl
noncomputable def ei(hs:List (List Nat)):Nat->List Nat->Prop
 |_,[]=>True
 |b,c::w=>c∈hs.getD b []/\ei hs c w
theorem ei.append{hs:List (List Nat)}:∀{b:Nat} {u v:List Nat},ei hs b (u++v)↔ei hs b u/\ei hs ((b::u).getLast (by simp)) v
 |b,[],v=>(and_iff_right trivial).symm
 |b,c::u,v=>by
  refine aj (fU ..) ?_;show (_/\ei hs c (u++v))↔(_/\ei hs c u)/\_;refine gj (ei.append ..) ?_;refine gj (and_assoc ..) ?_;simp
theorem BW.back{hs:List (List Nat)}{b:Nat}{marks w:List Nat}(h:BW hs b marks w):ei hs b w:=by
 induction h with
 |one hc=>exact ⟨hc,trivial⟩
 |@ext w c d hw hl hm hb hd hn ih=>
  refine gj (ei.append ..) (⟨ih,?_,trivial⟩);have:(b::w).getLast (by simp)=c:=by
   cases w with
   |nil=>simp at hl
   |cons a w=>refine aj (kg (by simp) ..) ?_;rw [gu (by simp)] at hl;exact aO hl
  refine aj (this ..) ?_;exact hd
theorem Cf{hs:List (List Nat)}{b:Nat}{marks:List Nat}{U:Nat->Prop}{n:Nat}
 (Tf:∀v,ei hs b v->(∀c∈v,U c)->(∃c,v.getLast? =ae c/\c∈marks)->n<=v.length) {w:List Nat} (hlen:w.length=n) (hw:ei hs b w) (hU:∀c∈w,U c) (hl:∃c,w.getLast? =ae c/\c∈marks):
 ∀u v,w=u++v->u≠[]->BW hs b marks u:=by
 intro u
 suffices H:∀k u v,u.length=k->w=u++v->u≠[]->BW hs b marks u from λv=>H u.length u v rfl
 intro k;induction k with
 |zero=>intro u v h1 z h3;exact absurd (NY.mp h1) h3
 |succ k ih=>
  intro u v h1 h2 h3;obtain ⟨u',d,rfl⟩:∃u' d,u=u'++[d]:=⟨u.dropLast,u.getLast h3,(GZ h3).symm⟩;have hk:u'.length=k:=by simpa using h1
  by_cases QW:u'=[]
  ·subst QW;have:ei hs b (d::v):=by rw [h2] at hw;exact hw
   exact .one this.1
  ·have hb':=ih u' (d::v) hk (by refine aj (h2 ..) ?_;simp) QW;have hwb:ei hs b (u'++(d::v)):=by rw [h2] at hw;simpa using hw
   rw [ei.append] at hwb;have hcl:u'.getLast? =ae (u'.getLast QW):=gu QW;have Bx:(b::u').getLast (by simp)=u'.getLast QW:=kg QW;rw [Bx] at hwb;have hmemu:u'.getLast QW∈w:=by refine aj (h2 ..) ?_;simp
   refine .ext hb' hcl ?_ ?_ hwb.2.1 ?_
   ·intro hm;have:=Tf u' hwb.1 (λc hc=>hU c (by refine aj (h2 ..) ?_;simp [hc])) ⟨_,hcl,hm⟩;rw [<- hlen,h2] at this;simp at this;lia
   ·intro hbk;have hlv:∃c,(d::v).getLast? =ae c/\c∈marks:=by
     refine aK hl λc h4 h5=>?_;clear hl;refine ⟨c,?_,h5⟩;rw [h2] at h4;rw [bU,dn _ (by simp)] at h4;exact h4
    have:=Tf (d::v) (by have:=hwb.2;rw [hbk] at this;exact this) (λc hc=>hU c (by refine aj (h2 ..) ?_;simp at hc ⊢;rcases hc with h|h <;> simp [h])) hlv;rw [<- hlen,h2] at this;have iP:u'.length≠0:=λh=>QW (NY.mp h);simp only [ba,bK,GX] at this;lia
   ·intro hd;refine oz (eX hd) λp q P4=>?_;have hback:ei hs b ((p++[d])++v):=by
     have h6:ei hs b ((p++[d])++(q++(d::v))):=by
      have:w=(p++[d])++(q++(d::v)):=by (refine aj (h2 ..) ?_;refine aj (P4 ..) ?_);simp
      rw [this] at hw;exact hw
     have h7:ei hs b ((p++d::q)++([d]++v)):=by
      have:w=(p++d::q)++([d]++v):=by (refine aj (h2 ..) ?_;refine aj (P4 ..) ?_);simp
      rw [this] at hw;exact hw
     rw [ei.append] at h6;rw [<- bU,ei.append] at h7;refine gj (ei.append ..) (⟨h6.1,?_⟩);have e0:∀(l:List Nat) (hh:(b::(l++[d]))≠[]),(b::(l++[d])).getLast hh=d:=λl hh=>by
      refine aj (kg (by simp) ..) ?_;simp
     have e1:=e0 p (by simp);have e2:=e0 (p++d::q) (by simp);refine aj (e1 ..) ?_;have:=h7.2;rw [e2] at this;exact this
    have hlv:∃c,((p++[d])++v).getLast? =ae c/\c∈marks:=by
     refine aK hl λc h4 h5=>?_;clear hl;refine ⟨c,?_,h5⟩;rw [h2] at h4;cases v with
     |nil=>simpa using h4
     |cons x v=>rw [dn _ (by simp)] at h4 ⊢;exact h4
    have:=Tf _ hback (λc hc=>hU c (by (refine aj (h2 ..) ?_;refine aj (P4 ..) ?_);simp at hc ⊢;rcases hc with h|h|h <;> simp [h])) hlv;rw [<- hlen,h2,P4] at this;simp at this;lia
def k0.S0(hs:List (List Nat))(b:Nat)(marks w:List Nat):Prop:=∀(hw:ei hs b w) (hl:∃c,w.getLast? =ae c/\c∈marks),∃v,BW hs b marks v/\(∃c,v.getLast? =ae c/\c∈marks)/\∀c∈v,c∈w
namespace k0
@[irreducible] def e0:=G2 gD eN gD gD S0
def kE:=e0.1
def b_:=e0.2.1
def dz:=e0.2.2.1
def w_:=e0.2.2.2
theorem T0:S0 kE b_ dz w_:=by
 intro hw hl;have ex:∃n,∃v,v.length=n/\ei kE b_ v/\(∀c∈v,c∈w_)/\∃c,v.getLast? =ae c/\c∈dz:=⟨_,w_,rfl,hw,λz h=>h,hl⟩;have key:∀n,(∃v,v.length=n/\ei kE b_ v/\(∀c∈v,c∈w_)/\∃c,v.getLast? =ae c/\c∈dz)->∃m,(∃v,v.length=m/\ei kE b_ v/\(∀c∈v,c∈w_)/\∃c,v.getLast? =ae c/\c∈dz)/\∀k,k < m->¬∃v,v.length=k/\ei kE b_ v/\(∀c∈v,c∈w_)/\∃c,v.getLast? =ae c/\c∈dz:=by
  intro n;induction n using vI with
  |ind n ih=>
   intro h;by_cases hk:∃k,k < n/\∃v,v.length=k/\ei kE b_ v/\(∀c∈v,c∈w_)/\∃c,v.getLast? =ae c/\c∈dz
   ·refine aK hk λk h1 h2=>?_;clear hk;exact ih k h1 h2
   ·exact ⟨n,h,λk h1 h2=>hk ⟨k,h1,h2⟩⟩
 refine cJ ex λn hn=>?_;clear ex;refine aK (key n hn) λm dO h5=>BA dO λv h1 h2 h3 h4=>?_;clear dO;have hv:v≠[]:=by rintro rfl;obtain ⟨c,hc,_⟩:=h4;simp at hc
 refine ⟨v,Cf (U:=(·∈w_)) (n:=m) (λu hu hU hl=>?_) h1 h2 h3 h4 v [] (by simp) hv,h4,h3⟩;rcases gX u.length m with h|h
 ·exact absurd ⟨u,rfl,hu,hU,hl⟩ (h5 _ h)
 ·exact h
end k0
theorem k0{hs:List (List Nat)}{b:Nat}{marks w:List Nat}:k0.S0 hs b marks w:=by with_unfolding_all exact vK _ _ _ _ k0.S0 @k0.T0 hs b marks w
def wc(hs:List (List Nat))(b:Nat)(marks w:List Nat):Prop:=BW hs b marks w/\∃c,w.getLast? =ae c/\c∈marks
def gI(hs:List (List Nat))(b o:Nat):Prop:=o=b\/(b≠0/\∀w,wc hs b [0] w->o∈w)
theorem gI.self{hs:List (List Nat)}{b:Nat}:gI hs b b:= .inl rfl
theorem gI.step{hs:List (List Nat)}{b o:Nat}(h:gI hs b o):o=b\/∀c∈hs.getD b [],gI hs c o:=by
 rcases h with h|⟨_,h⟩
 ·exact .inl h
 ·refine .inr λc hc=>?_;by_cases hoc:o=c
  ·exact .inl hoc
  ·refine .inr ⟨λe=>?_,λw hw=>?_⟩
   ·subst e;have:=h [0] ⟨.one hc,0,rfl,by simp⟩;exact hoc (by simpa using this)
   have hb:ei hs b (c::w):=⟨hc,hw.1.back⟩;have iP:w≠[]:=by rintro rfl;refine aK (hw.2) λd hd z=>?_;simp at hd
   have hl:∃d,(c::w).getLast? =ae d/\d∈[0]:=by exact aK (hw.2) λd hd hm=>⟨d,by rw [show c::w=[c]++w from rfl,dn _ iP];exact hd,hm⟩
   refine ef (k0 hb hl) λv hv M9 q9=>?_;rcases aP.mp (q9 o (h v ⟨hv,M9⟩)) with e|e
   ·exact absurd e hoc
   ·exact e
theorem Eb{hs:List (List Nat)}{D:Nat->Nat->Prop}(h0:∀o,D 0 o->o=0)(GF:∀b o,b≠0->D b o->o=b\/∀c∈hs.getD b [],D c o):
 ∀{w:List Nat} {b o:Nat},ei hs b w->w.getLast? =ae 0->b≠0->D b o->o=b\/o∈w
 |[],b,o,_,h,_,_=>by simp at h
 |c::w,b,o,hb,hl,hn,hD=>by
  rcases GF b o hn hD with e|e
  ·exact .inl e
  ·have hc:=e c hb.1;by_cases zE:c=0
   ·subst zE;exact .inr (by rw [h0 o hc];exact aa)
   ·have iP:w≠[]:=by
     rintro rfl;simp at hl;exact zE hl
    have hl':w.getLast? =ae 0:=by rw [<- hl,show c::w=[c]++w from rfl,dn _ iP]
    rcases Eb h0 GF hb.2 hl' zE hc with e|e
    ·exact .inr (by rw [e];exact aa)
    ·exact .inr (ab _ e)
theorem LW{hs:List (List Nat)}{D:Nat->Nat->Prop}(h0:∀o,D 0 o->o=0)(GF:∀b o,b≠0->D b o->o=b\/∀c∈hs.getD b [],D c o)(qm:∀b o,b≠0->gI hs b o->D b o){b o:Nat}(hn:b≠0):D b o↔gI hs b o:=by
 refine ⟨λh=>?_,qm b o hn⟩;by_cases Bw:o=b
 ·exact .inl Bw
 ·refine .inr ⟨hn,λw hw=>?_⟩;refine aK (hw.2) λc hc hm=>?_;have:c=0:=by simpa using hm
  subst this;rcases Eb h0 GF hw.1.back hc hn h with e|e
  ·exact absurd e Bw
  ·exact e
noncomputable abbrev wV(w:List Nat):V:= .list (w.map nV)
noncomputable abbrev LX(L:ay)(hs:List (List Nat))(block:Nat)(marks:List Nat)(T W:ay)(o:Option V):cX:=
 bq L (aM (L+1) (bk (cM 20)).names) [ae (.list (hs.map wV)),ae (nV block),ae (wV marks),ae (.ref T),ae (.ref W),o]
noncomputable def tS(marks w:List Nat):Bool:=match w.getLast? with
 |some c=>decide (c∈marks)
 |none=>aH
theorem yH{marks w:List Nat}:tS marks w=aI↔∃c,w.getLast? =ae c/\c∈marks:=by
 delta tS;cases w.getLast? with
 |none=>exact ⟨λh=>vL h,λh=>aK h λc h z=>gK h⟩
 |some c=>exact ⟨λh=>⟨c,rfl,of_decide_eq_true h⟩,λh=>aK h λd e h=>decide_eq_true (aO e▸h)⟩
section
noncomputable def k5(hs:List (List Nat))(block:Nat)(marks:List Nat):Nat->List (List Nat)
 |0=>(hs.getD block []).map λc=>[c]
 |i+1=>match (k5 hs block marks i)[i]? with
  |some w=>k5 hs block marks i++j7 hs block marks w
  |none=>k5 hs block marks i
variable {hs:List (List Nat)}{block:Nat}{marks:List Nat}
theorem AY{i:Nat}{w:List Nat}(h:(k5 hs block marks i)[i]? =ae w):k5 hs block marks (i+1)=k5 hs block marks i++j7 hs block marks w:=by show (match (k5 hs block marks i)[i]? with|some w=>k5 hs block marks i++j7 hs block marks w|none=>k5 hs block marks i)=_;refine aj (h ..) ?_;rfl
theorem AZ{i:Nat}(h:(k5 hs block marks i).length=i):∀j,k5 hs block marks (i+j)=k5 hs block marks i
 |0=>rfl
 |j+1=>by
  have ih:=AZ h j;show k5 hs block marks (i+j+1)=_;show (match (k5 hs block marks (i+j))[i+j]? with|some w=>k5 hs block marks (i+j)++j7 hs block marks w|none=>k5 hs block marks (i+j))=_;(refine aj (ih ..) ?_;refine aj (il (by lia) ..) ?_);rfl
theorem I0(H:zX hs):∀(m i:Nat),(((k5 hs block marks i).drop i).map xf).sum=m->nP hs block marks i (k5 hs block marks i)->∃n,nP hs block marks n (k5 hs block marks n)/\(k5 hs block marks n).length=n:=by
 intro m;induction m using vI with
 |ind m ih=>
  intro i hm ud;by_cases hl:(k5 hs block marks i).length=i
  ·exact ⟨i,ud,hl⟩
  ·have hlt:i < (k5 hs block marks i).length:=by have:=ud.le;lia
   have hw:=bJ hlt;refine dU (ud.turn H hw) λt1 t2=>?_;rw [<- AY hw] at t1 t2;exact ih _ (hm▸t2) (i+1) rfl t1
noncomputable def gJ(hs:List (List Nat))(block:Nat)(marks:List Nat):List (List Nat):=(k5 hs block marks 2000).filter (tS marks)
theorem A0{n:Nat}(h:nP hs block marks n (k5 hs block marks n))(hl:(k5 hs block marks n).length=n):k5 hs block marks 2000=k5 hs block marks n:=by
 have h1:=h.len;have:=AZ hl (2000 - n)
 rwa [show n+(2000 - n)=2000 by lia] at this
theorem r8(H:zX hs):(gJ hs block marks).length<=2000/\∀w,w∈gJ hs block marks↔wc hs block marks w:=by refine aK (I0 (block:=block) (marks:=marks) H _ 0 rfl (nP.start H)) λn h hl=>?_;unfold gJ;refine aj (A0 h hl ..) (⟨aw (bu _ _) h.len,λw=>?_⟩);refine gj (bo ..) ?_;refine gj (yH ..) ?_;exact and_congr_left λz=>nP.done (by refine aj (hl ..) ?_;exact h) w
end
def nc.S0(k:Nat)(mu:Mu)(hs:List (List Nat))(block:Nat)(marks:List Nat)(_:Nat):Prop:=∀(H:Hy G) (hh:zX hs) (hb:block < 6) (hm:marks.length<=100),FW (k+2) mu (.ref 290) [.list (hs.map wV),nV block,wV marks] λy nu=>y= .list ((gJ hs block marks).map wV)/\nu=mu
namespace nc
@[irreducible] def e0:=Fq eN gD gD eN gD eN S0
def k_:=e0.1
def e9:=e0.2.1
def kE:=e0.2.2.1
def eL:=e0.2.2.2.1
def dz:=e0.2.2.2.2.1
theorem T0:S0 k_ e9 kE eL dz e0.2.2.2.2.2:=by
 intro H hh hb hm;refine ti H H.f290 (names:=["heads","block","marks"]) (vals':=λL=>[ae (.list (kE.map wV)),ae (nV eL),ae (wV dz),av,av,av]) (λpm cd doc vs h=>?_) (by decide+kernel) rfl (λpm cd doc L=>?_) (λpm cd doc L he=>?_)
 ·exact Oo h λa b c=>rfl
 ·exact .cons (j:=0) .loc rfl (.cons (j:=1) .loc rfl (.cons (j:=2) .loc rfl .nil))
 have hbl:kE.length=6:=hh.len;have hget:∀b,b < 6->kE[b]? =ae (kE.getD b []):=λb hb=>by
  (refine aj (bR ..) ?_;refine aj (bJ (by lia) ..) ?_);rfl
 refine aC (b4 (sE (xs:=[]) aT (bg rfl) (λT=>fM.ref (aQ (i:=1) (j:=3) he .loc rfl ?_))) rfl rfl);refine aC (FN (kE.getD eL []) nV (λc=>wV [c]) ⟨rfl,rfl,by decide+kernel,by decide+kernel⟩ (dA (bF (cP (ah (j:=0) he .loc (ab _ aa) rfl)) (cP (ah (j:=1) he .loc (ab _ aa) rfl)) (by exact ew (inj:=wV) (hget eL hb) (by lia)))) (by lia) ?sz (λC1 a ha=>iu 1 he.comp .loc dk (λhb=>(ij (xs:=[_]) (au (ah (j:=1) he.comp .loc aa rfl) aT) (bg rfl)))) rfl (λW=>fM.ref (aQ (i:=2) (j:=4) he .loc rfl ?_)))
 case sz=>have:=ez (hh.nd eL) (hh.lt eL);exact aw (by assumption) (by decide)
 show WS (k_+1) (bl W ((kE.getD eL []).map λc=>wV [c])::bl T []::LX L kE eL dz T W av::e9) _ _ _;have fill:∀(i:Nat) (ws:List (List Nat)) (w:List Nat),ws[i]? =ae w->((ws.take (i+1)).filter (tS dz))=((ws.take i).filter (tS dz))++(if tS dz w then [w] else []):=λi ws w h=>by
  (refine aj (dF ..) ?_;refine aj (h ..) ?_);simp [fX,hZ]
 refine aC (Hj (λm i xs nu=>∃ws o,xs=ws.map wV/\m=((ws.drop i).map xf).sum/\(nP kE eL dz i ws/\ws=k5 kE eL dz i)/\nu=bl W xs::bl T (((ws.take i).filter (tS dz)).map wV)::LX L kE eL dz T W o::e9)
  (ah (j:=4) he .loc (ab _ (ab _ aa)) rfl) (by lia) _ _ ⟨(kE.getD eL []).map λc=>[c],av,by (refine aj (a0 ..) ?_;rfl) <;> rfl,rfl,⟨nP.start hh,rfl⟩,by refine aj (xr ..) ?_;rfl⟩
  (λm i xs nu ⟨ws,o,e1,e2,e3,e4⟩=>by refine aj (e4 ..) ?_;exact aa) ?step ?fin (λm i xs nu ⟨ws,o,e1,e2,e3,e4⟩=>by (refine aj (e1 ..) ?_;refine aj (ak ..) ?_);exact e3.1.le))
 case fin=>
  intro m i xs nu dO hi;refine ir dO λws o e1 e2 e3 e4=>?_;clear dO;refine bC ?_;subst e4;refine aC (gw (cf (ah (j:=3) he .loc (ab _ (ab _ aa)) rfl) ?_));have hi':i=ws.length:=by (refine fZ (hi ..) ?_;refine aj (e1 ..) ?_;refine aj (ak ..) ?_;rfl)
  subst hi';refine jJ.tail (jJ.list (gW _ _) ⟨?_,rfl⟩);unfold gJ;refine aj (A0 (n:=ws.length) (by rw [<- e3.2];exact e3.1) (by rw [<- e3.2]) ..) ?_;refine fZ (e3.2 ..) ?_;refine aj (cK ..) ?_;rfl
 case step=>
  intro m i xs nu x eT hx;refine ir eT λws o e1 e2 e3 e4=>?_;clear eT;subst e1 e4;rw [aJ] at hx;refine aK (aL.mp hx) λw hw gi=>?_;subst gi;have M8:=e3.1.ok w (ao hw);have hok:=M8.ok hh;obtain ⟨c,hc⟩:∃c,w.getLast? =ae c:=by
   cases h:w.getLast? with
   |none=>exact absurd (List.getLast?_eq_none_iff.mp h) hok.ne
   |some c=>exact ⟨c,rfl⟩
  have ug:c < 6:=hok.lt c (df hc);have hwl:w.length<=6:=ez hok.nd hok.lt;refine dU (e3.1.turn (w:=w) hh hw) λt1 t2=>?_;have t3:=(AY (hs:=kE) (block:=eL) (marks:=dz) (i:=i) (w:=w) (by refine fZ (e3.2 ..) ?_;exact hw)).symm;rw [<- e3.2] at t3;have hlen:=e3.1.len;refine aQ (i:=2) (j:=5) he (.cell (L+1) "way") rfl ?_;show WS (k_+1) (bl W (ws.map wV)::bl T (((ws.take i).filter (tS dz)).map wV)::LX L kE eL dz T W (ae (wV w))::e9) _ _ _;refine aC (iY (c9 (cP (bF (cP (ah (j:=5) he (.cell (L+1) "way") (ab _ (ab _ aa)) rfl)) (cP (o8 aU)) (by exact xF hc (by exact b7 (by assumption) (by decide))))) (cP (ah (j:=2) he .loc (ab _ (ab _ aa)) rfl)) (by exact KJ)) (λh=>?_) λh=>?_)
  ·have JV:c∈dz:=of_decide_eq_true h;have qm:tS dz w=aI:=yH.mpr ⟨c,hc,JV⟩;have GI:j7 kE eL dz w=[]:=by unfold j7;refine aj (hc ..) ?_;simp [JV]
   rw [GI,cy] at t1 t2 t3;refine aC (ig (mZ (ah (j:=3) he .loc (ab _ (ab _ aa)) rfl) (j5 (xs:=((ws.take i).filter (tS dz)).map wV) (ab _ aa)) (au (ah (j:=5) he (.cell (L+1) "way") (ab _ (ab _ aa)) rfl) aT) (kA (i:=1) rfl ?a1 ?a2) (by exact fQ) (by exact iT) (by exact iU) rfl))
   case a1=>
    have q1:=bu (tS dz) (ws.take i);have q2:(ws.take i).length<=ws.length:=by refine aj (dR ..) ?_;exact ow _ _
    exact aj (ak ..) (b7 (aw q1 (aw q2 hlen)) (by decide))
   case a2=>refine bC (bC ?_);refine ⟨_,_,e2▸t2,ws,ae (wV w),rfl,rfl,⟨t1,t3⟩,?_⟩;refine aj (fill i ws w hw ..) ?_;refine aj (if_pos qm ..) ?_;simp only [bj];rfl
  ·have JV:c∉dz:=of_decide_eq_false h;have qm:tS dz w=aH:=by
    cases h:tS dz w
    ·rfl
    ·refine aK (yH.mp h) λc' h1 h2=>?_;rw [hc] at h1;(have lA:=aO h1;clear h1;subst lA);exact absurd h2 JV
   have keep:j7 kE eL dz w=[]->∃m' Uj,m' < m/\∃Us o,Uj=Us.map wV/\m'=((Us.drop (i+1)).map xf).sum/\(nP kE eL dz (i+1) Us/\Us=k5 kE eL dz (i+1))/\bl W (ws.map wV)::bl T (((ws.take i).filter (tS dz)).map wV)::LX L kE eL dz T W (ae (wV w))::e9=bl W Uj::bl T (((Us.take (i+1)).filter (tS dz)).map wV)::LX L kE eL dz T W o::e9:=λGI=>by
    rw [GI,cy] at t1 t2 t3;refine ⟨_,_,e2▸t2,ws,ae (wV w),rfl,rfl,⟨t1,t3⟩,?_⟩;refine aj (fill i ws w hw ..) ?_;refine aj (if_neg (by rw [qm];decide) ..) ?_;refine aj (cy ..) ?_;rfl
   refine aC (iY (c9 (cP (bF (cP (ah (j:=5) he (.cell (L+1) "way") (ab _ (ab _ aa)) rfl)) (cP (o8 aU)) (by exact xF hc (by exact b7 (by assumption) (by decide))))) (cP (ah (j:=1) he .loc (ab _ (ab _ aa)) rfl)) (by exact FB)) (λh2=>?_) λh2=>?_)
   ·have QR:c≠eL:=by rintro rfl;simp at h2
    have hcl:(kE.getD c []).length<=6:=ez (hh.nd c) (hh.lt c);have GI:j7 kE eL dz w=((kE.getD c []).filter λd=>!decide (d∈w)).map λd=>w++[d]:=by unfold j7;refine aj (hc ..) ?_;simp only [if_neg JV,if_neg QR]
    have PX:=bu (λd=>!decide (d∈w)) (kE.getD c []);refine aC (ig (mZ (ah (j:=4) he .loc (ab _ (ab _ aa)) rfl) (j5 (xs:=ws.map wV) aa)
     (au (nF (kE.getD c []) nV (λd=>!decide (d∈w)) (λd=>wV (w++[d])) ⟨rfl,rfl,by decide+kernel,by decide+kernel⟩
      (dA (bF (cP (ah (j:=0) he .loc (ab _ (ab _ aa)) rfl)) (cP (bF (cP (ah (j:=5) he (.cell (L+1) "way") (ab _ (ab _ aa)) rfl)) (cP (o8 aU)) (by exact xF hc (by exact b7 (by assumption) (by decide))))) (by exact ew (inj:=wV) (hget c ug) (by lia)))) (by lia) (by exact aw (by assumption) (by decide))
      (λC2 a ha=>iu 1 he.comp .loc (fS (c9 (cP (ah (j:=1) he.comp .loc aa rfl)) (cP (ah (j:=5) he.comp (.cell (L+1) "way") (ab _ (ab _ (ab _ aa))) rfl)) (by exact Hl)))
       (λhb=>bM (br (cP (ah (j:=5) he.comp (.cell (L+1) "way") (ab _ (ab _ (ab _ aa))) rfl)) (cP (ij (xs:=[_]) (au (ah (j:=1) he.comp .loc aa rfl) aT) (bg rfl))) (by exact uN (by refine aj (ak ..) ?_;show w.length+1<=_;lia))) (by simp [wV])))) aT)
     (Im (i:=0) rfl ?a3 ?a4) (by exact fQ) (by exact F.slot_list_extend) (by exact F.type_list_extend) rfl))
    case a3=>(refine aj (ak ..) ?_;refine aj (ak ..) ?_);lia
    case a4=>refine bC (bC (bC ?_));rw [GI] at t1 t2 t3;refine ⟨_,_,e2▸t2,_,ae (wV w),rfl,rfl,⟨t1,t3⟩,?_⟩;refine aj (fill i _ w (by rw [eE (aB.mp hw).1];exact hw) ..) ?_;refine aj (if_neg (by rw [qm];decide) ..) ?_;refine aj (cy ..) ?_;refine aj (Fo e3.1.le ..) ?_;simp only [bj,a0];rfl
   ·have QR:c=eL:=Nq (by simpa using h2);refine bC (bC (bC (keep ?_)));unfold j7;refine aj (hc ..) ?_;simp only [if_neg JV,if_pos QR]
end nc
theorem nc{hs:List (List Nat)}{block:Nat}{marks:List Nat}:nc.S0 k mu hs block marks 0:=by with_unfolding_all exact uE _ _ _ _ _ _ nc.S0 @nc.T0 k mu hs block marks 0
theorem Sd(H:Hy G){hs:List (List Nat)}{block:Nat}{marks:List Nat}(hh:zX hs)(hb:block < 6)(hm:marks.length<=100):
 FW (k+2) mu (.ref 290) [.list (hs.map wV),nV block,wV marks] λy nu=>nu=mu/\∃W:List (List Nat),y= .list (W.map wV)/\W.length<=2000/\∀w,w∈W↔BW hs block marks w/\∃c,w.getLast? =ae c/\c∈marks:=
 (nc H hh hb hm).mono λy nu e=>⟨e.2,_,e.1,(r8 hh).1,(r8 hh).2⟩
noncomputable def pX(w:Int):bb:=if decide (w % 4 < 2) then "\\\"" else "\\\n\t\r "
noncomputable def lK(w:Int)(q:Nat×Nat):bb:=
 if (w % 2 == 1) || ((!(cZ (pX w) ⟨#[q.1]⟩ 0 (pX w).length 1).isEmpty) || (((⟨#[q.1]⟩:bb) == "\"" && ((((q.2:Nat):Int) == 0) && aI)) || false)) then "\\"++(⟨#[q.1]⟩:bb) else ⟨#[q.1]⟩
noncomputable def qL(x:bb)(w:Int):bb:=fP "" (x.cps.toList.zipIdx.map (lK w))
noncomputable def jM(w:Int):bb:=(["\n","\t","\r"," ",if decide (w % 4 < 2) then "" else " \n"]:List bb).getD (w / 4 % 5).toNat ""
noncomputable def ik(x:bb)(w:Int):bb:=if decide (w % 4 < 2) then "\""++qL x w++"\""++jM w else qL x w++jM w
theorem LY(w:Int):([V.str "\n",.str "\t",.str "\r",.str " ",.str (if decide (w % 4 < 2) then "" else " \n")]:List V).getD (w / 4 % 5).toNat .none= .str (jM w):=by
 unfold jM;have h:(w / 4 % 5).toNat < 5:=by lia
 generalize (w / 4 % 5).toNat=n at h;exact lt5 h rfl rfl rfl rfl rfl
theorem A5(w:Int):(jM w).length<=2 ^ 22:=by
 unfold jM;have h:(w / 4 % 5).toNat < 5:=by lia
 generalize (w / 4 % 5).toNat=n at h
 match n,h with
 |0,_=>exact bg rfl
 |1,_=>exact bg rfl
 |2,_=>exact bg rfl
 |3,_=>exact bg rfl
 |4,_=>
  show (if decide (w % 4 < 2)=aI then ("":bb) else " \n").length<=_
  split <;> decide
theorem qM(a b:bb):(a++b).length=a.length+b.length:=by show (a.cps++b.cps).size=_;refine aj (Array.size_append ..) ?_;rfl
def lL.S0(k:Nat)(x:bb)(w:Int)(_:Nat):Prop:=∀{mu:Mu} (H:Hy G) (hx:x.length<=1000) (hsz:(qL x w).length<=100000) (hj:Nm "" (x.cps.toList.zipIdx.map (lK w))=aI),FW (k+2) mu (.ref 280) [.str x,.int w] λy nu=>y= .str (ik x w)/\nu=mu
namespace lL
@[irreducible] def e0:=G2 eN inferInstance Ra eN S0
def k_:=e0.1
def x_:=e0.2.1
def w_:=e0.2.2.1
theorem T0:S0 k_ x_ w_ e0.2.2.2:=by
 intro mu H hx hsz hj;refine ti H H.f280 (names:=["word","way"]) (vals':=λL=>[ae (.str x_),ae (.int w_),av,av,av,av]) (λpm cd doc vs h=>?_) (by decide+kernel) rfl (λpm cd doc L=>?_) (λpm cd doc L he=>?_)
 ·exact zS h λa b=>rfl
 ·exact .cons (j:=0) .loc rfl (.cons (j:=1) (.cell (L+1) "way") rfl .nil)
 have hx':x_.cps.toList.zipIdx.length<=2 ^ 21:=by have:x_.cps.toList.length=x_.length:=rfl;simp only [eW];lia
 refine aC (bX (mJ (cP (br (cP (ah (j:=1) he (.cell (L+1) "way") aa rfl)) (cP aU) (by exact fl (by decide)))) (cP aU) (by exact Dc)) (aQ (i:=0) (j:=2) he .loc rfl ?_) rfl rfl);refine aC (bX (y:= .str (pX w_)) (BV (kU (cP (ah (j:=2) he .loc aa rfl)) (by exact qw)) (λh=>cO) (λh=>cO)) (aQ (i:=0) (j:=3) he (.cell (L+2) "marked") rfl ?_) rfl rfl);refine aC (bX (y:= .str (qL x_ w_)) (f7 (cP cO) (by exact mL) (au (cP (jO (g:=λq=>V.str (lK w_ q)) _ _ ⟨rfl,rfl,by decide+kernel,by decide+kernel⟩ (H8 (iN H he H.b_enumerate rfl) (ah (j:=0) he .loc aa rfl)) (by lia) (by assumption) (λC1 a ha=>tJ 1 2 he.comp .loc .loc dk (λhb=>(BV (oM (iM (c9 (cP (br (cP (ah (j:=1) he.comp (.cell (L+1) "way") (ab _ aa) rfl)) (cP aU) (by exact fl (by decide)))) (cP aU) (by exact qv)) (λh=>(iM (c9 (cP (ah (j:=2) he.comp .loc aa rfl)) (cP (ah (j:=3) he.comp (.cell (L+2) "marked") (ab _ aa) rfl)) (by exact Dd)) (λh=>(iM (oM (Da (c9 (cP (ah (j:=2) he.comp .loc aa rfl)) (cP cO) (by exact rC)) (λh=>(Da (c9 (cP (ah (j:=1) he.comp .loc aa rfl)) (cP aU) (by exact qv)) (λh=>BK))))) (λh=>jn))))))) (λh=>(br (cP cO) (cP (ah (j:=2) he.comp .loc aa rfl)) (by exact uP (by exact KI _) (by exact KI _)))) (λh=>(ah (j:=2) he.comp .loc aa rfl))))))) aT) (rM (f:=lK w_) hj) (by exact eM) (by exact nz) (by exact nA) rfl) (aQ (i:=0) (j:=4) he .loc rfl ?_) rfl rfl);refine aC (bX (y:= .str (jM w_)) (bM (bF (cP (f9 (xs:=[_,_,_,_,_]) (au cO (au cO (au cO (au cO (au (BV (kU (cP (ah (j:=2) he .loc aa rfl)) (by exact qw)) (λh=>cO) (λh=>cO)) aT))))) (bg rfl))) (cP (br (cP (br (cP (ah (j:=1) he (.cell (L+1) "way") aa rfl)) (cP aU) (by exact l9 (by decide)))) (cP aU) (by exact fl (by decide)))) (by refine Qs ?_ ?_ (bg rfl) <;> first|lia|(simp;lia))) (LY w_)) (aQ (i:=0) (j:=5) he .loc rfl ?_) rfl rfl);refine aC (gw (cf (y:= .str (ik x_ w_)) (bM (BV (kU (cP (ah (j:=2) he .loc aa rfl)) (by exact qw)) (λh=>(br (cP (br (cP (br (cP cO) (cP (ah (j:=4) he .loc aa rfl)) (by exact uP (by decide) (by exact aw (by assumption) (by decide))))) (cP cO) (by exact uP (by refine aj (qM ..) ?_;have:("\"":bb).length=1:=rfl;lia) (by decide)))) (cP (ah (j:=5) he .loc aa rfl)) (by exact uP (by (refine aj (qM ..) ?_;refine aj (qM ..) ?_);have:("\"":bb).length=1:=rfl;lia) (A5 w_)))) (λh=>(br (cP (ah (j:=4) he .loc aa rfl)) (cP (ah (j:=5) he .loc aa rfl)) (by exact uP (by exact aw (by assumption) (by decide)) (A5 w_))))) (by unfold ik;split <;> rfl)) (ki ⟨rfl,rfl⟩)))
end lL
theorem lL{x:bb}{w:Int}:lL.S0 k x w 0:=by with_unfolding_all exact vK _ _ _ _ lL.S0 @lL.T0 k x w 0
end
section
variable {k n6 j:Nat}{mu nu ctx:Mu}{env:gV}{p p2 pos:jX}{e l r:bH}{es:List bH}{xs ys:List V}{x y:V}{vs bB:el}{S:List (Nat×V)}{Φ:V->Mu->Prop}{Θ Ψ:AF->Mu->Prop}{L C D:ay}{ds:List Nat}{ns:List Int}{lay:Ax}
section
variable {t:bH}{v:V}{scope:fh}{cl:List (bb×ay)}{i m:Nat}
set_option maxRecDepth 100000 in
theorem zY:seqSlot? (.type "list") (dunderI "add")=dg (ae (.builtin "list.__iadd__")):=PySem.seqSlot_of vj.lookup (by decide+kernel)
def iO.S0(l b:ay):Prop:=∀{prog:dB} {w:d9} {A:bh} {E:ai->aq->Prop} {s:aq} {items items2:Array ai} {n n2:Nat} {Q:ai->aq->Prop} (hl:IsL s.heap l items n) (hb:IsL s.heap b items2 n2) (h:Q (.ref l) {s with heap:=s.heap.update l (Obj.mapSeq λx=>x++items2)}) (Ut:¬(!items.isEmpty && wH (items.size+items2.size))=aI) (hsz:items.size<=er) (GG:items.size+items2.size<=er+1),aS (aX prog w) A (inplaceOp .Add (.ref l) (.ref b)) Q E s
namespace iO
@[irreducible] def e0:=Qi cL cL S0
def l_:=e0.1
def b_:=e0.2
theorem T0:S0 l_ b_:=by
 intro prog w A E s items items2 n n2 Q hl hb h Ut hsz GG;unfold inplaceOp;refine bE ?_;have ha:s.TypeIs (.ref l_) "list":=⟨_,hl,rfl⟩;have hbt:s.TypeIs (.ref b_) "list":=⟨_,hb,rfl⟩;have hfi:fillsInplaceSlot (.type "list") "add" (Operator.Add == .Add)=dg aH:=by
  unfold fillsInplaceSlot;show (iQ (.type "list") (dunderI "add") >>=λfi=>dg (fi.isSome && !isSeqSlot fi))=dg aH;refine aj (vj.lookup ..) ?_;refine aj (pure_bind ..) ?_;have:isSeqSlot (ae (.builtin "list.__iadd__"))=aI:=by decide+kernel
  refine aj (this ..) ?_;rfl
 refine ag (wpAny_typeOf ha (ag (cN hfi ?_)));show aS _ A (if aH=aI then _ else _) Q E s;refine aj (if_neg cF ..) (ag (wpAny_binaryOp1_none (nm:="add") ha hbt noFill_list_add ?_));refine ag (cN zY ?_);exact ag (oj (l6 vj ha PySem.F.entry_list_iadd (PySem.F.args_list_iadd_2 _ _) (AutoSeq1.list___iadd___list_list_0 l_ items n b_ items2 n2 Ut hsz GG) ⟨hl,hb,h⟩))
end iO
theorem iO{l b:ay}:iO.S0 l b:=by with_unfolding_all exact Fp _ _ iO.S0 @iO.T0 l b
theorem OV{x:bb}{e:bH}(he:du env)(sl:Sl env L lay x j)(hi:mu[i]? =ae (bq L lay bB))(GJ:bB[j]? =ae (ae (.ref D)))(hm:mu[m]? =ae (bl D xs))(hv:PE k mu env e (.list ys))(hl:xs.length+ys.length < 2 ^ 22)(hmi:m≠i)
 (h:Ψ .next ((mu.set m (bl D (xs++ys))).set i (bq L lay (bB.set j (ae (.ref D)))))) (CB:autoParam ((env.kindOf x == ae .free)=aH) aR):
 WX k mu env (.AugAssign (.Name x p) .Add e pos) Ψ:=⟨λ{A E Z s fr Q} hA r q=>by
 with_reducible refine wpAny_AugAssign_Name ?_
 refine FO he sl (aE fr (ao hi)) GJ r λ{old} q1=>hv.c hA r λ{u s2 Z2} z2 q2 r2=>aj (aZ.refE q1 ..) (cE (rk.list q2) λb ws n2 dO e1 hr=>?_);subst dO;refine eD (r2.sat _ (ao (cH (fr:=fr) hm))) λvs n h2 h3=>?_;have l1:=b9 h3;have l2:=b9 hr;rw [l1,l2] at hl;refine iO h2 (r2.zin _ _ e1) ?_ (by refine aj (wQ hl ..) ?_;simp) (by show _<=2 ^ 24;lia) (by show _<=2 ^ 24+1;exact aw (eB (by assumption)) (by decide));have hmm:=NS vs ws n av #[];have r3:R Z2 ((mu.set m (bl D (xs++ys)))++fr) {s2 with heap:=s2.heap.update D (Obj.mapSeq λx=>x++ws)}:=yd (tk:=s2.toks) r2 hm (λc o hb e=>(bY ..).extBut c o hb e) ((bS _ h2 (by refine aj (hmm ..) ?_;rfl)).trans (congrArg ae hmm)) (by refine aj (lB ..) ?_;exact h3.append hr);exact xT r3 he sl (by refine aj (kI hmi ..) ?_;exact hi) (beq_eq_false_iff_ne.mp CB) (aZ.ref _) λs' r'=>q z2 .next r' h⟩
theorem Cg{kk:Nat}(h:Dv k mu env es λys nu=>ys.length<=2 ^ 20/\Φ (.tup ys) nu):WE k mu env (.Tuple es kk pos) Φ:=⟨λ{A E Z s fr Q} hA r q=>by
 with_reducible refine E4 ?_
 refine h.c hA r λ{vs s1 Z1 ys nu} z1 q1 r1 w=>⟨q1.length▸aw w.1 (show 2 ^ 20<=2 ^ 24 by decide),?_⟩
 have z2:=bI.le_put (o:={cls:= .type "tuple",data:= .seq vs.toArray}) (r1.fresh (bp _));exact q (z1.trans z2) (aZ.tup (vs:=vs.toArray) (n:=0) (bI.put_self ..) rfl rfl (q1.mono z2)) r1.pushZ w.2⟩
noncomputable def sP(ds:List Nat)(p:Nat):Nat:=dr ds p % 6
noncomputable def eP(ds:List Nat)(p:Nat):Nat:=sP ds p+1+dr ds (p+1) % (6 - sP ds p)
noncomputable def tP(ds:List Nat)(p:Nat):Nat:=1+dr ds (p+2) % 5
noncomputable def lP(ds:List Nat)(p:Nat):Nat:=dr ds (p+3)
theorem HD(p:Nat):sP ds p < 6:=ee _ (by decide)
theorem LZ(p:Nat):sP ds p < eP ds p/\eP ds p<=6:=by have h:=HD (ds:=ds) p;have:=ee (dr ds (p+1)) (show 0 < 6 - sP ds p by lia);unfold eP;lia
theorem HE(p:Nat):1<=tP ds p/\tP ds p < 6:=by have:=ee (dr ds (p+2)) (show 0 < 5 by decide);unfold tP;lia
noncomputable def u3(ds:List Nat)(p:Nat):V:= .tup [nV (2*cc ds (sP ds p)),nV (2*cc ds (eP ds p)),nV (2*cc ds (tP ds p)),nV (lP ds p / 2),.bool (decide (lP ds p % 2=1))]
noncomputable def jy(ds:List Nat)(p:Nat):List Nat:=[cc ds (sP ds p),cc ds (eP ds p) - cc ds (sP ds p),cc ds (tP ds p),lP ds p]
noncomputable def iA(n6:Nat)(xs:List Int)(l:List Nat):List Int:=l.foldl (λ(xs:List Int) (n:Nat)=>xs++gm n ((n6:Int) / ((xs.length:Int)+1))) xs
theorem Ec(n w:Int):(gm n w).length<=3:=by have h:=u0 ((aN (mN n w)).map (pW n w)) av av (ae (-1));have:=kZ n w;unfold gm;simp only [ak,fq] at h;lia
theorem wd:∀(l:List Nat) (xs:List Int),(iA n6 xs l).length<=xs.length+3*l.length
 |[],xs=>by exact bp _
 |n::l,xs=>by
  have h:=wd l (xs++gm n ((n6:Int) / ((xs.length:Int)+1)));have:=Ec n ((n6:Int) / ((xs.length:Int)+1));rw [ba] at h;show (iA n6 (xs++gm n ((n6:Int) / ((xs.length:Int)+1))) l).length<=_;refine aj (bK ..) ?_;lia
theorem Gc(l:List Nat)(n:Nat)(xs:List Int):iA n6 xs (l++[n])=iA n6 xs l++gm n ((n6:Int) / (((iA n6 xs l).length:Int)+1)):=by unfold iA;refine aj (fu ..) ?_;rfl
theorem Ee(h:Dr ds ns n6)(b:Nat)(hb:b<=6):cc ds b<=366:=by
 unfold cc;have:∀l:List Nat,(∀d∈l,d < 60)->l.sum<=60*l.length:=λl=>by
  induction l with
  |nil=>intro z;simp
  |cons a l ih=>intro h;have:=ih λd hd=>h d (ab _ hd);have:=h a aa;simp only [da,bK];lia
 have h2:=this ((ds.drop 18).take b) λd hd=>h.lt d (gn (pC hd));have h3:((ds.drop 18).take b).length<=b:=by refine aj (dR ..) ?_;exact Nat.min_le_left _ _
 lia
theorem nQ{a b:Nat}(h:a<=b):cc ds a<=cc ds b:=by
 unfold cc;have:∀(l:List Nat) (a b:Nat),a<=b->(l.take a).sum<=(l.take b).sum:=λl=>by
  induction l with
  |nil=>intro a b z;simp
  |cons x l ih=>
   intro a b h;cases a with
   |zero=>simp
   |succ a=>
    cases b with
    |zero=>with_reducible exact absurd (by assumption) (TU _)
    |succ b=>have:=ih a b (by exact Qf (by assumption));simp only [jb,da];lia
 have:=this (ds.drop 18) a b h
 with_reducible exact Nat.add_le_add (by assumption) (by assumption)
structure OW(k:Nat)(mu:Mu)(env:gV)(nms:List bb)(xs:List V)(Ψ:Mu->Prop):Prop where
 c:∀{A:bh} {E:ai->aq->Prop} {Z:bI} {s:aq} {fr:Mu} {vs:List ai} {Q:Unit->aq->Prop},Rm k A->R Z (mu++fr) s->bW G Z vs xs->(∀{s' Z' nu},Z.le Z'->R Z' (nu++fr) s'->Ψ nu->Q () s')->aS (aX G.prog G.w) A (assignInOrder (nms.map λn=>bindName env n) vs) Q E s
theorem Ef{Ψ:Mu->Prop}(h:Ψ mu):OW k mu env [] [] Ψ:=⟨λ{z z z z z z z} hA r hv q=>hv.nil_inv▸ar (q .rfl r h)⟩
theorem pY{Ψ:Mu->Prop}{x:bb}{nms:List bb}(he:du env)(sl:Sl env L lay x j)(hi:mu[i]? =ae (bq L lay bB))(h:OW k (mu.set i (bq L lay (bB.set j (ae y)))) env nms xs Ψ)(CB:autoParam ((env.kindOf x == ae .free)=aH) aR):
 OW k mu env (x::nms) (y::xs) Ψ:=⟨λ{A E Z s fr vs Q} hA r hv q=>by
 obtain ⟨v,vs,rfl,hv,hr⟩:=hv.cons_inv;exact ag (bE (wpAny_bindName (xT r he sl hi (beq_eq_false_iff_ne.mp CB) hv λs' r'=>h.c hA r' hr q)))⟩
theorem bW.rev{Z:bI}{vs:List ai}{xs:List V}(h:bW G Z vs xs):bW G Z vs.reverse xs.reverse:=h.ind .nil λ{z z z z} hv z ih=>by (refine aj (CR ..) ?_;refine aj (CR ..) ?_);exact ih.append (.cons hv .nil)
theorem HF{kk:Nat}{elts:List bH}{M6:jX}{nms:List bb}{e:bH}{Ψ:AF->Mu->Prop}(hv:WE k mu env e λy nu=>∃xs,y= .tup xs/\xs.length=nms.length/\OW k nu env nms.reverse xs.reverse (Ψ .next))(hs:wC [.Tuple elts kk M6] e pos.line env=dg aH)(hw:wD [.Tuple elts kk M6] e env=dg (ae nms)):
 WX k mu env (.Assign [.Tuple elts kk M6] e pos) Ψ:=⟨λ{A E Z s fr Q} hA r q=>by
 refine PyProof.Rows.Assign_Tuple_swapped ?_ hs hw;refine hv.c hA r λ{v s1 Z1 y nu} z1 q1 r1 w=>?_;obtain ⟨xs,rfl,hl,w⟩:=w;obtain ⟨a,o,vs,n,rfl,e1,hc,hd,hr⟩:=aZ.tup_inv q1;refine fZ (hl ..) ?_;refine aj (b9 hr ..) ?_;exact wpAny_unpackItems_tuple hA.hh (⟨_,r1.zin _ _ e1,hc,n,hd⟩:s1.heap.IsTuple a vs) λh' hx=>w.c hA (r1.keep (tk:=s1.toks) λb o e=>hx b o (c8 (bN e)) e) hr.rev λ{z z z} z2=>q (z1.trans z2) .next⟩
end
variable {A:ay}
theorem OX{a:Int}{n:Nat}(h:a=(n:Nat)):V.int a=nV n:=congrArg V.int h
noncomputable abbrev S4(ds:List Nat)(ns:List Int)(A:ay):List (Nat×V):=[(11,.list ((aN 7).map λb=>nV (cc ds b))),(10,.ref A),(42,.dict (qE (aF ds))),(7,rZ (aF ds)),(5,nV (aF ds)),(4,.list (ds.map nV)),(3,.list (ns.map .int))]
noncomputable abbrev S7(ds:List Nat)(ns:List Int)(A Du Oc:ay):List (Nat×V):=(13,.ref Oc)::(12,.ref Du)::S4 ds ns A
noncomputable def eQ(ds:List Nat)(n6:Nat)(ps:List Nat):List Int:=ps.foldl (λ(xs:List Int) (p:Nat)=>iA n6 xs (jy ds p)) []
theorem Ci(ps:List Nat)(p:Nat):eQ ds n6 (ps++[p])=iA n6 (eQ ds n6 ps) (jy ds p):=by unfold eQ;refine aj (fu ..) ?_;rfl
theorem r9:∀ps:List Nat,(eQ ds n6 ps).length<=12*ps.length:=λps=>by
 have:∀(ps:List Nat) (xs:List Int),(ps.foldl (λ(xs:List Int) (p:Nat)=>iA n6 xs (jy ds p)) xs).length<=xs.length+12*ps.length:=λps=>by
  induction ps with
  |nil=>intro xs;simp
  |cons p ps ih=>intro xs;have h:=ih (iA n6 xs (jy ds p));have h2:=wd (n6:=n6) (jy ds p) xs;have h3:(jy ds p).length=4:=rfl;simp only [fF,bK];lia
 have h:=this ps [];simpa [eQ] using h
theorem S7.again{vs:el}{Du Oc:ay}{j:Nat}{y:V}(h:Sv vs ((j,y)::S7 ds ns A Du Oc))(hj:(S7 ds ns A Du Oc).lookup j=av):Sv vs (S7 ds ns A Du Oc):=h.drop hj
theorem lM{α:Type}{xs:List α}{i:Nat}{a:α}(h:xs[i]? =ae a):xs.take (i+1)=xs.take i++[a]:=by (refine aj (dF ..) ?_;refine aj (h ..) ?_);rfl
def yI.S0(k:Nat)(mu:Mu)(Θ:AF->Mu->Prop)(L A:ay)(ds:List Nat)(ns:List Int)(n6:Nat)(pm doc:ai):Prop:=∀{vs:el} (H:Hy G) (he:du (bT pm doc L)) (hD:Dr ds ns n6) (hS:Sv vs (S4 ds ns A)) (next:∀vs Oc Du,Sv vs (S7 ds ns A Du Oc)->WS (k+8) (bl Oc ((eQ ds n6 [10,14]).map .int)::bl Du ([10,14].map (u3 ds))::bl A ((dm ds).map kH)::cw L vs::mu) (bT pm doc L) (mw 9) Θ),WS (k+8) (bl A ((dm ds).map kH)::cw L vs::mu) (bT pm doc L) (mw 7) Θ
namespace yI
@[irreducible] def e0:=zL eN gD ta cL cL gD gD eN gL gL S0
def k_:=e0.1
def e9:=e0.2.1
def Θ_:=e0.2.2.1
def L_:=e0.2.2.2.1
def A_:=e0.2.2.2.2.1
def aV:=e0.2.2.2.2.2.1
def HC:=e0.2.2.2.2.2.2.1
def gO:=e0.2.2.2.2.2.2.2.1
def pj:=e0.2.2.2.2.2.2.2.2.1
def g8:=e0.2.2.2.2.2.2.2.2.2
theorem T0:S0 k_ e9 Θ_ L_ A_ aV HC gO pj g8:=by
 intro vs H he hD hS next
 refine aC (HF (nms:=["due","octets"]) (Cg (cA (sE (xs:=[]) aT (by show 0<=2 ^ 20;decide) (λDu=>fM.ref (cA (sE (xs:=[]) aT (by show 0<=2 ^ 20;decide) (λOc=>fM.ref (e8 ⟨by show 2<=2 ^ 20;decide,_,rfl,rfl,pY (i:=3) (j:=13) he .loc rfl (pY (i:=3) (j:=12) he .loc rfl (Ef ?_))⟩)))))))) rfl rfl);have hS1:Sv _ (S7 aV HC A_ Du Oc):=((hS.set (j:=13) (y:= .ref Oc)).set (j:=12) (y:= .ref Du)).sub ⟨rfl,rfl,rfl,rfl,rfl,rfl,rfl,rfl,rfl,trivial⟩;refine aC (jN (ctx:=[]) (xs:=[10,14].map nV) (λi nu=>∃rt,nu=bl Oc ((eQ aV gO ([10,14].take i)).map .int)::bl Du (([10,14].take i).map (u3 aV))::bl A_ ((dm aV).map kH)::cw L_ rt::e9/\Sv rt (S7 aV HC A_ Du Oc))
  (xC (f9 (xs:=[nV 10,nV 14]) (au aU (au aU aT)) (by show 2<=2 ^ 20;decide))) (by lia) ⟨_,rfl,hS1⟩ (λi nu h o ho=>(eo ho)) ?_ ?_)
 ·intro i x nu hx dO;refine aK dO λrt eT hS=>?_;clear dO;subst eT;rw [aJ] at hx;refine aK (aL.mp hx) λq hq gi=>?_;subst gi;have Uo:i < 2:=(aB.mp hq).1;have hq14:q<=14:=by have:=ao hq;simp at this;lia
  have hf:∀{x y z:cX} {rt},bq L_ (aM (L_+1) (bk (cM 23)).names) rt∈x::y::z::cw L_ rt::e9:=ab _ (ab _ (ab _ aa));refine aQ (i:=3) (j:=1) he .loc rfl ?_;have hS2:=hS.set (j:=1) (y:=nV q);have hs6:=HD (ds:=aV) q;have he6:=LZ (ds:=aV) q;have ht6:=HE (ds:=aV) q;refine aC (HF (nms:=["start","target","last"]) (cf (y:= .tup [nV (sP aV q),nV (tP aV q),nV (lP aV q)]) (f9 (xs:=[nV (sP aV q),nV (tP aV q),nV (lP aV q)]) (au (bM (br (bF (dE (ah (j:=4) he (.cell (L_+3) "draws") hf (hS2.get rfl))) (ah (j:=1) he .loc hf (hS2.get rfl)) (ew (hD.at (i:=q) (by exact b7 (by assumption) (by decide))) (by refine aj (hD.len ..) ?_;decide))) aU (fl (by decide))) (OX (by unfold sP;lia))) (au (bM (br aU (br (bF (dE (ah (j:=4) he (.cell (L_+3) "draws") hf (hS2.get rfl))) (br (ah (j:=1) he .loc hf (hS2.get rfl)) aU fC) (ew (hD.at (i:=q+2) (by lia)) (by refine aj (hD.len ..) ?_;decide))) aU (fl (by decide))) fC) (OX (by unfold tP;lia))) (au (bF (dE (ah (j:=4) he (.cell (L_+3) "draws") hf (hS2.get rfl))) (br (ah (j:=1) he .loc hf (hS2.get rfl)) aU fC) (ew (hD.at (i:=q+3) (by lia)) (by refine aj (hD.len ..) ?_;decide))) aT))) (by show 3<=2 ^ 20;decide)) ⟨_,rfl,rfl,pY (i:=3) (j:=16) he .loc rfl (pY (i:=3) (j:=15) he .loc rfl (pY (i:=3) (j:=14) he .loc rfl (Ef ?_)))⟩) rfl rfl);have hS3:=((hS2.set (j:=16) (y:=nV (lP aV q))).set (j:=15) (y:=nV (tP aV q))).set (j:=14) (y:=nV (sP aV q));refine aC (bX (y:=nV (eP aV q)) (bM (br (br (ah (j:=14) he .loc hf (hS3.get rfl)) aU fC) (br (bF (dE (ah (j:=4) he (.cell (L_+3) "draws") hf (hS3.get rfl))) (br (ah (j:=1) he .loc hf (hS3.get rfl)) aU fC) (ew (hD.at (i:=q+1) (by lia)) (by refine aj (hD.len ..) ?_;decide))) (bM (br aU (ah (j:=14) he .loc hf (hS3.get rfl)) vM) (OX (n:=6 - sP aV q) (by lia))) (fl (by lia))) fC) (OX (by unfold eP;lia))) (aQ (i:=3) (j:=17) he .loc rfl ?_) rfl rfl);have Ad:=hS3.set (j:=17) (y:=nV (eP aV q));have Tg:∀{b:Nat},b < 7->(aN 7)[b]? =ae b:=λ{w} h=>bz h;refine aC (ig (mZ (ah (j:=12) he .loc hf (Ad.get rfl)) (j5 (xs:=([10,14].take i).map (u3 aV)) (ab _ aa)) (au (P:=bZ (u3 aV q)) (f9 (xs:=[nV (2*cc aV (sP aV q)),nV (2*cc aV (eP aV q)),nV (2*cc aV (tP aV q)),nV (lP aV q / 2),.bool (decide (lP aV q % 2=1))]) (au (bM (br aU (bF (dE (ah (j:=11) he .loc hf (Ad.get rfl))) (ah (j:=14) he .loc hf (Ad.get rfl)) (ew (Tg (by exact cI (by assumption))) (by decide))) (mY (by decide))) (OX (by lia))) (au (bM (br aU (bF (dE (ah (j:=11) he .loc hf (Ad.get rfl))) (ah (j:=17) he .loc hf (Ad.get rfl)) (ew (Tg (by lia)) (by decide))) (mY (by decide))) (OX (by lia))) (au (bM (br aU (bF (dE (ah (j:=11) he .loc hf (Ad.get rfl))) (ah (j:=15) he .loc hf (Ad.get rfl)) (ew (Tg (by lia)) (by decide))) (mY (by decide))) (OX (by lia))) (au (bM (br (ah (j:=16) he .loc hf (Ad.get rfl)) aU (l9 (by decide))) (OX (by lia))) (au (bM (mJ (br (ah (j:=16) he .loc hf (Ad.get rfl)) aU (fl (by decide))) aU qv) ?_) aT))))) (by show 5<=2 ^ 20;decide)) aT) (kA (i:=1) rfl (by (refine aj (ak ..) ?_;refine aj (dR ..) ?_);show min i 2 < 2 ^ 22;lia) ?_) (by exact fQ) (by exact iT) (by exact iU) rfl))
  ·refine congrArg V.bool ?_;by_cases h:lP aV q % 2=1
   ·(refine aj (decide_eq_true h ..) ?_;refine gj (beq_iff_eq ..) ?_);lia
   ·(refine aj (decide_eq_false h ..) ?_;refine gj (beq_eq_false_iff_ne ..) ?_);lia
  have hX:=r9 (ds:=aV) (n6:=gO) ([10,14].take i);have hT:([10,14].take i).length<=2:=by refine aj (dR ..) ?_;exact ow _ _
  generalize hXe:eQ aV gO ([10,14].take i)=X at hX ⊢;refine cq (H.f285.go) λob Uk cd' Jq h0 hd w=>?_;have hS5:Sv _ (S7 aV HC A_ Du Oc):=Ad.sub ⟨rfl,rfl,rfl,rfl,rfl,rfl,rfl,rfl,rfl,trivial⟩;refine aC (jN (ctx:=[]) (xs:=(jy aV q).map nV) (λj nu=>∃rt,nu=bl Oc ((iA gO X ((jy aV q).take j)).map .int)::bl Du (([10,14].take i).map (u3 aV)++[u3 aV q])::bl A_ ((dm aV).map kH)::cw L_ rt::e9/\Sv rt (S7 aV HC A_ Du Oc))
   (xC (f9 (xs:=(jy aV q).map nV) (au (bF (dE (ah (j:=11) he .loc hf (Ad.get rfl))) (ah (j:=14) he .loc hf (Ad.get rfl)) (ew (Tg (by exact cI (by assumption))) (by decide))) (au (bM (br (bF (dE (ah (j:=11) he .loc hf (Ad.get rfl))) (ah (j:=17) he .loc hf (Ad.get rfl)) (ew (Tg (by lia)) (by decide))) (bF (dE (ah (j:=11) he .loc hf (Ad.get rfl))) (ah (j:=14) he .loc hf (Ad.get rfl)) (ew (Tg (by exact cI (by assumption))) (by decide))) vM) ?_) (au (bF (dE (ah (j:=11) he .loc hf (Ad.get rfl))) (ah (j:=15) he .loc hf (Ad.get rfl)) (ew (Tg (by lia)) (by decide))) (au (ah (j:=16) he .loc hf (Ad.get rfl)) aT)))) (by show 4<=2 ^ 20;decide))) (by lia) ⟨_,rfl,hS5⟩ (λi nu h o ho=>(eo ho)) ?_ ?_)
  ·have:cc aV (sP aV q)<=cc aV (eP aV q):=nQ (by lia);exact OX (by lia)
  ·intro j x nu hx iC;refine aK iC λrt kG hS=>?_;clear iC;subst kG;rw [aJ] at hx;refine aK (aL.mp hx) λn hn ma=>?_;subst ma;have hj4:j < 4:=(aB.mp hn).1;refine aQ (i:=3) (j:=2) he .loc rfl ?_;have hS6:=hS.set (j:=2) (y:=nV n);have hY:=wd (n6:=gO) ((jy aV q).take j) X;have hTj:((jy aV q).take j).length<=4:=by refine aj (dR ..) ?_;exact ow _ _
   have hoc:=Ec n ((gO:Int) / (((iA gO X ((jy aV q).take j)).length:Int)+1));have hsn:=Gc (n6:=gO) ((jy aV q).take j) n X;refine aj (lM hn ..) ?_;refine aj (hsn ..) ?_;generalize iA gO X ((jy aV q).take j)=Y at hY hoc ⊢;refine aC (OV (i:=3) (j:=13) (m:=0) (xs:=Y.map .int) (ys:=(gm n ((gO:Int) / ((Y.length:Int)+1))).map .int) he .loc rfl (hS6.get rfl) rfl (ju (ys:=[nV n,.int ((gO:Int) / ((Y.length:Int)+1))]) (mn H he H.m_octets rfl) h0 hd (au (ah (j:=2) he .loc hf (hS6.get rfl)) (au (br (bF (dE (ah (j:=3) he (.cell (L_+2) "numbers") hf (hS6.get rfl))) aU (ew (j:=6) hD.six (by refine aj (hD.nlen ..) ?_;decide))) (br (bM (ej (j4 H he H.b_len rfl) (au (uH (ah (j:=13) he .loc hf (hS6.get rfl)) aa) aT) (mi (by refine aj (ak ..) ?_;lia))) (by (refine aj (ak ..) ?_;rfl))) aU fC) (l9 (by lia))) aT)) (LV H)) (by (refine aj (ak ..) ?_;refine aj (ak ..) ?_);lia) (by decide) ?_);refine bC ⟨_,by refine fZ (bj ..) ?_;rfl,(hS6.set (j:=13)).sub ⟨rfl,rfl,rfl,rfl,rfl,rfl,rfl,rfl,rfl,trivial⟩⟩
  ·intro nu mE;refine aK mE λrt q8 hS=>?_;clear mE;subst q8;refine bC (bC ⟨rt,?_,hS⟩);rw [lM hq,Ci,hXe,bj,ak,cK];rfl
 ·intro nu uf;refine aK uf λrt mP hS=>?_;clear uf;subst mP;exact bC (next _ _ _ hS)
end yI
theorem yI{pm doc:ai}:yI.S0 k mu Θ L A ds ns n6 pm doc:=by with_unfolding_all exact uF _ _ _ _ _ _ _ _ _ _ yI.S0 @yI.T0 k mu Θ L A ds ns n6 pm doc
variable {Du Oc:ay}
noncomputable def xJ:List bb:=["a","b c","\"d","\\e","#\t","\n\r"]
noncomputable def tT(ds:List Nat)(n6:Nat):List Int:=eQ ds n6 [10,14]++(eQ ds n6 [10,14]).take (n6 % 4)
noncomputable def qN(ds:List Nat)(n6:Nat):bb:=fP "" ((tT ds n6).map λo=>⟨#[o.toNat]⟩)
noncomputable def ea(ds:List Nat)(n6:Nat):List bb:=((dm ds).flatMap λq=>[q.1,q.2].map λb=>xJ.getD b "")++[qN ds n6,"done","end"]
noncomputable def g9(ds:List Nat)(n6:Nat):bb:=fP "" ((ea ds n6).zipIdx.map λq=>ik q.1 ((n6:Int) / ((q.2:Int)+1)))
theorem nf{sep:bb}{l:List bb}{B:Nat}(hb:∀t∈l,t.length<=B)(h:l.length*(B+sep.length)<=2 ^ 20):Nm sep l=aI:=by
 refine joinOk_of ?_;have h1:∀l:List bb,(∀t∈l,t.length<=B)->(l.map (·.length)).sum<=l.length*B:=by
  intro l;induction l with
  |nil=>intro z;simp
  |cons a l ih=>intro h;have:=ih λi hi=>h i (ab _ hi);have:=h a aa;simp only [bA,da,bK];refine aj (iS ..) ?_;lia
 have h2:=h1 l hb;rw [Nat.mul_add] at h;have:(2:Nat) ^ 20<=er:=by show 2 ^ 20<=2 ^ 24;decide
 lia
theorem we{l:List bb}{B:Nat}(hb:∀t∈l,t.length<=B):(fP "" l).length<=l.length*B:=by
 have h:(fP "" l).length<=(l.map (·.length)).sum:=by have h0:("":bb).length=0:=rfl;have e:(fP "" l).length=(l.map (·.length)).sum+(l.length - 1)*("":bb).length:=size_glued "" l;(refine aj (e ..) ?_;refine aj (h0 ..) ?_);lia
 have h1:∀l:List bb,(∀t∈l,t.length<=B)->(l.map (·.length)).sum<=l.length*B:=by
  intro l;induction l with
  |nil=>intro z;simp
  |cons a l ih=>intro h;have:=ih λi hi=>h i (ab _ hi);have:=h a aa;simp only [bA,da,bK];refine aj (iS ..) ?_;lia
 have h2:=h1 l hb;exact aw h h2
theorem wg(n:Nat)(w:Int)(i:Nat):0<=pW n w i/\pW n w i < 256:=by
 unfold pW;have h1:0<=(n:Int) / 64 ^ i % 64/\(n:Int) / 64 ^ i % 64 < 64:=⟨Int.emod_nonneg _ (by decide),Int.emod_lt_of_pos _ (by decide)⟩;have h2:0<=w / ((i:Int)+1) % 2/\w / ((i:Int)+1) % 2 < 2:=⟨Int.emod_nonneg _ (by decide),Int.emod_lt_of_pos _ (by decide)⟩
 split <;> omega
theorem L6(n:Nat)(w:Int):∀o∈gm n w,0<=o/\o < 256:=by
 intro o ho;have h0:=wg n w 0;have h1:=wg n w 1;have h2:=wg n w 2;rcases kZ n w with h|h|h
 ·rw [tR h] at ho;simp at ho;rcases ho with rfl|rfl|rfl <;> assumption
 ·rw [yG h] at ho;simp at ho;rcases ho with rfl;assumption
 ·rw [yF h] at ho;simp at ho;rcases ho with rfl|rfl <;> assumption
theorem wh:∀(l:List Nat) (xs:List Int),(∀o∈xs,0<=o/\o < 256)->∀o∈iA n6 xs l,0<=o/\o < 256
 |[],xs,h=>h
 |n::l,xs,h=>wh l _ λo ho=>by
  rcases bc.mp ho with h'|h'
  ·exact h o h'
  ·exact L6 n _ o h'
theorem wX:∀o∈eQ ds n6 [10,14],0<=o/\o < 256:=by unfold eQ;simp only [fF,List.foldl_nil];exact wh _ _ (wh _ _ λo ho=>eo ho)
theorem u4:∀o∈tT ds n6,0<=o/\o < 256:=λo ho=>by
 rcases bc.mp ho with h|h
 ·exact wX o h
 ·exact wX o (pC h)
theorem yJ:(tT ds n6).length<=27:=by delta tT;have:=r9 (ds:=ds) (n6:=n6) [10,14];have h2:[10,14].length=2:=rfl;have h3:=List.length_take_le (n6 % 4) (eQ ds n6 [10,14]);refine aj (ba ..) ?_;lia
def kf.S0(ds:List Nat)(_:Nat):Prop:=∀q∈dm ds,q.1 < 6/\1<=q.2/\q.2 < 6
namespace kf
@[irreducible] def e0:=Qi gD eN S0
def aV:=e0.1
theorem T0:S0 aV e0.2:=by
 unfold S0;intro q hq;unfold dm LR LS at hq;have m6:∀n,n % 6 < 6:=λn=>ee _ (by decide);have m5:∀n,n % 5 < 5:=λn=>ee _ (by decide);simp only [bA,vg,fU,qj,aP,uy,or_false] at hq;have a1:=ee (dr aV (2 - 2)) (show 0 < 2 by decide);have a2:=ee (dr aV (3 - 2)) (show 0 < 3 by decide);have a3:=ee (dr aV (4 - 2)) (show 0 < 4 by decide);have a4:=ee (dr aV (5 - 2)) (show 0 < 5 by decide);rcases hq with rfl|rfl|rfl|rfl|rfl|rfl|rfl|rfl
 ·exact ⟨by decide,by decide,by decide⟩
 ·exact ⟨by show _ < 6;exact cb (by assumption) (by decide),by show 1<=2;decide,by show 2 < 6;decide⟩
 ·exact ⟨by show _ < 6;exact cb (by assumption) (by decide),by show 1<=3;decide,by show 3 < 6;decide⟩
 ·exact ⟨by show _ < 6;exact cb (by assumption) (by decide),by show 1<=4;decide,by show 4 < 6;decide⟩
 ·exact ⟨by show _ < 6;exact cI (by assumption),by show 1<=5;decide,by show 5 < 6;decide⟩
 ·exact ⟨m6 _,by show 1<=1+_;exact dD _ _,by have:=m5 (dr aV (4+1));show 1+_ < 6;lia⟩
 ·exact ⟨m6 _,by show 1<=1+_;exact dD _ _,by have:=m5 (dr aV (6+1));show 1+_ < 6;lia⟩
 ·exact ⟨m6 _,by show 1<=1+_;exact dD _ _,by have:=m5 (dr aV (8+1));show 1+_ < 6;lia⟩
end kf
theorem kf(ds:List Nat):kf.S0 ds 0:=by with_unfolding_all exact Fp _ _ kf.S0 @kf.T0 ds 0
theorem OY(b:Nat):(xJ.getD b "").length<=27:=by
 rcases gX b 6 with h|h
 ·rcases (by lia:b=0\/b=1\/b=2\/b=3\/b=4\/b=5) with rfl|rfl|rfl|rfl|rfl|rfl <;> decide
 ·(refine aj (bR ..) ?_;refine aj (il (by exact h) ..) ?_);decide
theorem yK:(qN ds n6).length<=27:=by refine aw (we (B:=1) λt ht=>?_) (by refine aj (ak ..) ?_;have:=yJ (ds:=ds) (n6:=n6);lia);refine aK (aG.mp ht) λo z dO=>?_;subst dO;exact bp 1
theorem wi:∀w∈ea ds n6,w.length<=27:=by
 intro w hw;rcases bc.mp hw with h|h
 ·refine aK (bG.mp h) λq z h2=>aK (aG.mp h2) λb z eT=>?_;subst eT;exact OY b
 ·simp only [aP,uy,or_false] at h;rcases h with rfl|rfl|rfl
  ·exact yK
  ·decide
  ·decide
theorem L7:(dm ds).length=8:=rfl
theorem pZ:(ea ds n6).length=19:=rfl
theorem Ge(w:Int)(q:Nat×Nat):(lK w q).length<=2:=by
 unfold lK
 split
 ·exact bp 2
 ·show 1<=2;decide
theorem wj{x:bb}(w:Int)(hx:x.length<=1000):(qL x w).length<=2*x.length/\Nm "" (x.cps.toList.zipIdx.map (lK w))=aI:=by
 have hl:(x.cps.toList.zipIdx.map (lK w)).length=x.length:=by simp [Str.length]
 have hb:∀t∈x.cps.toList.zipIdx.map (lK w),t.length<=2:=λt ht=>by
  refine aK (aG.mp ht) λq z gi=>?_;subst gi;exact Ge w q
 have h0:("":bb).length=0:=rfl;refine ⟨?_,nf hb (by (refine aj (hl ..) ?_;refine aj (h0 ..) ?_);show _<=1048576;lia)⟩;have:=we hb;rw [hl] at this;unfold qL;lia
theorem wY{x:bb}(w:Int)(hx:x.length<=27):(ik x w).length<=60:=by
 have h:=(wj w (x:=x) (by exact aw (by assumption) (by decide))).1;have hg:(jM w).length<=2:=by
  unfold jM;have h:(w / 4 % 5).toNat < 5:=by lia
  generalize (w / 4 % 5).toNat=n at h
  match n,h with
  |0,_=>exact bg rfl
  |1,_=>exact bg rfl
  |2,_=>exact bg rfl
  |3,_=>exact bg rfl
  |4,_=>
   show (if decide (w % 4 < 2)=aI then ("":bb) else " \n").length<=_
   split <;> decide
 have h1:("\"":bb).length=1:=rfl;unfold ik
 split
 ·(refine aj (qM ..) ?_;refine aj (qM ..) ?_;refine aj (qM ..) ?_;refine aj (h1 ..) ?_);lia
 ·refine aj (qM ..) ?_;lia
theorem I1:Nm "" ((ea ds n6).zipIdx.map λq=>ik q.1 ((n6:Int) / ((q.2:Int)+1)))=aI:=by
 refine nf (B:=60) (λt ht=>?_) (by (refine aj (ak ..) ?_;refine aj (eW ..) ?_;refine aj (pZ ..) ?_);decide);refine aK (aG.mp ht) λq hq iC=>?_;subst iC;have ER:q.1∈ea ds n6:=by
  have:=gR (f:=uz) hq
  rwa [jd] at this
 exact wY _ (wi _ ER)
theorem Eg:(g9 ds n6).length<=1200:=by
 refine aw (we (B:=60) λt ht=>?_) (by (refine aj (ak ..) ?_;refine aj (eW ..) ?_;refine aj (pZ ..) ?_);decide);refine aK (aG.mp ht) λq hq kG=>?_;subst kG;have ER:q.1∈ea ds n6:=by
  have:=gR (f:=uz) hq
  rwa [jd] at this
 exact wY _ (wi _ ER)
noncomputable def qO:List Nat->Mu->Mu
 |[],nu=>nu
 |j::js,nu=>match nu[j]? with
  |some a=>a::qO js (nu.eraseIdx j)
  |none=>nu
theorem yL:∀{nu:Mu} {j:Nat} {a:cX},nu[j]? =ae a->nu.Perm (a::nu.eraseIdx j)
 |b::nu,0,a,h=>by (have lA:=aO h;clear h;subst lA);exact ic _
 |b::nu,j+1,a,h=>((yL (nu:=nu) (j:=j) h).cons b).trans (jh a b _)
theorem nh:∀(js:List Nat) (nu:Mu),nu.Perm (qO js nu)
 |[],nu=>ic _
 |j::js,nu=>by
  show nu.Perm (match nu[j]? with|some a=>a::qO js (nu.eraseIdx j)|none=>nu);cases h:nu[j]? with
  |none=>exact ic _
  |some a=>exact (yL h).trans ((nh js _).cons a)
theorem WF.to{nu:Mu}{t:mF uk}(js:List Nat)(h:WF k (qO js nu) t Θ):WF k nu t Θ:=⟨λ{A E Z s fr Q} hA r=>h.c hA (r.perm ((nh js nu).append_right fr))⟩
noncomputable def yM(a:ay)(xs:List V):cX where
 own:=[]
 sat:=λZ h=>∃o vs n,Z a=ae o/\o.cls= .type "tuple"/\o.data= .seq vs n/\o.dict=av/\bW G Z vs.toList xs
 mono:=λZ Z' h hz=>bQ λo=>bQ λvs=>bQ λn u=>⟨hz _ _ u.1,u.2.1,u.2.2.1,u.2.2.2.1,u.2.2.2.2.mono hz⟩
 loc:=λZ h h' q z z z=>q
 live:=λZ h q c hc=>eo hc
theorem PE_tk{e:bH}{a:ay}{xs:List V}(h:PE k mu env e (.ref a))(hm:yM a xs∈mu):PE k mu env e (.tup xs):=⟨λ{A E Z s fr Q} hA r q=>h.c hA r λ{v s1 Z1} z1 q1 r1=>by
 refine aj (aZ.refE q1 ..) (g6 (r1.sat _ (aE fr hm)) λo vs n h1 h2 h3 z h5=>?_);exact q z1 (aZ.tup h1 h2 h3 h5) r1⟩
theorem ty_tk{a:ay}{xs:List V}(hm:yM a xs∈mu):Ty mu (bZ (.ref a)) "tuple":=⟨λZ s fr v r h=>by
 exact g6 (r.sat _ (aE fr hm)) λo vs n h1 h2 h3 h4 h5=>aZ.refE h▸Ty.at (r.zin _ _ h1) h2 h4⟩
theorem OZ{es:List bH}{kk:Nat}{xs:List V}(h:tD k mu env es (xs.map bZ))(hl:xs.length<=2 ^ 20)(hΦ:∀a,Φ (.ref a) (yM a xs::mu)):WE k mu env (.Tuple es kk pos) Φ:=⟨λ{A E Z s fr Q} hA r q=>by
 with_reducible refine E4 ?_
 refine h.c hA r λ{vs s1 Z1} z1 q1 r1=>⟨q1.size hl,?_⟩
 have z2:=bI.le_put (o:={cls:= .type "tuple",data:= .seq vs.toArray}) (r1.fresh (bp _));exact q (z1.trans z2) (aZ.ref _) (r1.pushZ.addNew (tk:=s1.toks) (h':=s1.heap.push {cls:= .type "tuple",data:= .seq vs.toArray}) (yM s1.heap.objs.size xs) (λb o e=>e) ⟨_,vs.toArray,0,bI.put_self ..,rfl,rfl,rfl,q1.vrels.mono z2⟩ kQ (λb hb=>eo hb)) (hΦ _)⟩
noncomputable abbrev S9(ds:List Nat)(ns:List Int)(n6:Nat)(A Du Oc Sg:ay):List (Nat×V):=(20,.str (g9 ds n6))::(19,.list ((ea ds n6).map .str))::(18,.ref Sg)::S7 ds ns A Du Oc
def yN.S0(k:Nat)(L A Du Oc:ay)(ds:List Nat)(ns:List Int)(n6:Nat)(pm doc:ai):Prop:=∀{mu:Mu} {vs:el} {Θ:AF->Mu->Prop} (H:Hy G) (he:du (bT pm doc L)) (hD:Dr ds ns n6) (hS:Sv vs (S7 ds ns A Du Oc)) (next:∀vs Sg,Sv vs (S9 ds ns n6 A Du Oc Sg)->WS (k+8) (bl Oc ((eQ ds n6 [10,14]).map .int)::bl Du ([10,14].map (u3 ds))::bl A ((dm ds).map kH)::cw L vs::yM Sg (xJ.map .str)::mu) (bT pm doc L) (mw 12) Θ),WS (k+8) (bl Oc ((eQ ds n6 [10,14]).map .int)::bl Du ([10,14].map (u3 ds))::bl A ((dm ds).map kH)::cw L vs::mu) (bT pm doc L) (mw 9) Θ
namespace yN
@[irreducible] def e0:=zL eN cL cL cL cL gD gD eN gL gL S0
def k_:=e0.1
def L_:=e0.2.1
def A_:=e0.2.2.1
def JT:=e0.2.2.2.1
def Se:=e0.2.2.2.2.1
def aV:=e0.2.2.2.2.2.1
def HC:=e0.2.2.2.2.2.2.1
def gO:=e0.2.2.2.2.2.2.2.1
def pj:=e0.2.2.2.2.2.2.2.2.1
def g8:=e0.2.2.2.2.2.2.2.2.2
theorem T0:S0 k_ L_ A_ JT Se aV HC gO pj g8:=by
 intro mu vs Θ H he hD hS next
 have hf:∀{x y z:cX} {rt} {mu:Mu},bq L_ (aM (L_+1) (bk (cM 23)).names) rt∈x::y::z::cw L_ rt::mu:=ab _ (ab _ (ab _ aa));have hX:=r9 (ds:=aV) (n6:=gO) [10,14];have h2:[10,14].length=2:=rfl;refine aC (b4 (OZ (xs:=xJ.map .str) (au cO (au cO (au cO (au cO (au cO (au cO aT)))))) (by show 6<=2 ^ 20;decide) (λSg=>aQ (i:=4) (j:=18) he (.cell (L_+10) "signs") rfl ?_)) rfl rfl);refine WF.to [1,1,1,1] ?_;show WS (k_+8) (bl Se ((eQ aV gO [10,14]).map .int)::bl JT ([10,14].map (u3 aV))::bl A_ ((dm aV).map kH)::cw L_ (vs.set 18 (ae (.ref Sg)))::yM Sg (xJ.map .str)::mu) _ _ _;have hS1:=hS.set (j:=18) (y:= .ref Sg);have hK:∀{x y z w:cX} {mu:Mu},yM Sg (xJ.map .str)∈x::y::z::w::yM Sg (xJ.map .str)::mu:=ao (i:=4) rfl;refine aC (bX (y:= .list ((ea aV gO).map .str)) (bM (br (dE (Hz (dm aV) kH (λq=>[q.1,q.2]) nV (λq b=> .str (xJ.getD b "")) ⟨rfl,rfl,by decide+kernel,by decide+kernel⟩ (AA (ah (j:=10) he (.cell (L_+9) "arms") hf (hS1.get rfl)) (ab _ (ab _ aa))) (by lia) (by show 16<=2 ^ 21;decide) (λC a ha=>LN 1 2 he.comp .loc .loc rfl (xC (ah (j:=1) he.comp .loc aa rfl)) (λb hb=>bM (bF (PE_tk (ah (j:=18) he.comp (.cell (L_+10) "signs") (ab _ hf) (hS1.get rfl)) (ab _ hK)) (ah (j:=2) he.comp .loc aa rfl) (Qs (by exact dJ _) ?_ (by show 6 < 2 ^ 60;decide))) ?_)))) (dE (ij (xs:=[V.str (qN aV gO),.str "done",.str "end"]) (au (f7 cO mL (au (dE (jO (tT aV gO) .int (λo=> .str ⟨#[o.toNat]⟩) ⟨rfl,rfl,by decide+kernel,by decide+kernel⟩ (dA (bM (br (uH (ah (j:=13) he .loc hf (hS1.get rfl)) aa) (dE (bF (uH (ah (j:=13) he .loc hf (hS1.get rfl)) aa) (jo dM (eO (br (bF (dE (ah (j:=3) he (.cell (L_+2) "numbers") hf (hS1.get rfl))) aU (ew (j:=6) hD.six (by refine aj (hD.nlen ..) ?_;decide))) aU (fl (by decide)))) dM) (pg (by decide) (by refine aj (ak ..) ?_;show _<=8388608;exact aw (by assumption) (by decide))))) (uN ?_)) ?_)) (by lia) (aw yJ (by decide)) (λC2 a ha=>iu 1 he.comp .loc dk (λhb=>ej (j4 H he.comp H.b_chr rfl) (au (ah (j:=1) he.comp .loc aa rfl) aT) (RA (u4 a ha).1 (by have:=(u4 a ha).2;lia)))))) aT) (rM ?_) (by exact eM) (by exact nz) (by exact nA) rfl) (au cO (au cO aT))) (by show 3<=2 ^ 20;decide))) (uN ?_)) ?_) (aQ (i:=3) (j:=19) he .loc rfl ?_) rfl rfl)
 ·have:=kf aV a ha;have:b < 6:=by simp at hb;lia
  show (b:Int) < 6;lia
 ·refine aj (b8 ..) ?_;have:=kf aV a ha;have:b < 6:=by simp at hb;lia
  rcases (by lia:b=0\/b=1\/b=2\/b=3\/b=4\/b=5) with rfl|rfl|rfl|rfl|rfl|rfl <;> rfl
 ·have:=u0 ((eQ aV gO [10,14]).map V.int) av (ae ((gO:Int) % 4)) av;rw [ak] at this ⊢;show _<=8388608;lia
 ·rw [show ((gO:Int) % 4)=((gO % 4:Nat):Int) by lia,OP,tT,bj,List.map_take]
 ·refine nf (B:=1) (λt ht=>?_) (by refine aj (ak ..) ?_;have:=yJ (ds:=aV) (n6:=gO);have h0:("":bb).length=0:=rfl;refine aj (h0 ..) ?_;show _<=1048576;lia);refine aK (aG.mp ht) λo v ma=>?_;subst ma;exact bp 1
 ·show 16+3<=2 ^ 23;decide
 ·unfold ea;rw [bj,uw];simp only [a0];rfl
 have hS2:=hS1.set (j:=19) (y:= .list ((ea aV gO).map .str));refine cq (H.f280.go) λob Uk cd' Jq h0 hd v=>aC (bX (y:= .str (g9 aV gO)) (f7 cO mL (au (dE (jO ((ea aV gO).zipIdx) (λq=> .tup [.int (q.2:Nat),.str q.1]) (λq=> .str (ik q.1 ((gO:Int) / ((q.2:Int)+1)))) ⟨rfl,rfl,by decide+kernel,by decide+kernel⟩ (sD (iN H he H.b_enumerate rfl) (ah (j:=19) he .loc hf (hS2.get rfl))) (by lia) (by rw [eW,pZ];decide) (λC3 a ha=>tJ 1 2 he.comp .loc .loc dk (λhb=>ju (ys:=[.str a.1,.int ((gO:Int) / ((a.2:Int)+1))]) (mn H he.comp H.m_spelled rfl) h0 hd (au (ah (j:=2) he.comp .loc aa rfl) (au (br (bF (dE (ah (j:=3) he.comp (.cell (L_+2) "numbers") (ab _ hf) (hS2.get rfl))) aU (ew (j:=6) hD.six (by rw [hD.nlen];decide))) (br (ah (j:=1) he.comp .loc aa rfl) aU fC) (l9 ?_)) aT)) (lL H ?_ ?_ ?_))))) aT) (rM I1) (by exact eM) (by exact nz) (by exact nA) rfl) (aQ (i:=3) (j:=20) he .loc rfl (next _ Sg (hS2.set (j:=20)))) rfl rfl)
 all_goals (have hm:a.1∈ea aV gO:=by
  {have:=gR (f:=uz) ha
   rwa [jd] at this})
 all_goals have hw:=wi _ hm
 ·have:=List.snd_lt_of_mem_zipIdx ha;rw [pZ] at this;lia
 ·with_reducible exact aw (by assumption) (by decide)
 ·have:=(wj ((gO:Int) / ((a.2:Int)+1)) (x:=a.1) (by exact aw (by assumption) (by decide))).1;lia
 ·exact (wj _ (x:=a.1) (by exact aw (by assumption) (by decide))).2
end yN
theorem yN{pm doc:ai}:yN.S0 k L A Du Oc ds ns n6 pm doc:=by with_unfolding_all exact uF _ _ _ _ _ _ _ _ _ _ yN.S0 @yN.T0 k L A Du Oc ds ns n6 pm doc
section
variable {ke ve:bH}{x:bb}
theorem L8(B:g7 G)(hk:PE k mu env ke (.str x))(hv:PE k mu env ve y):PE k mu env (.Dict [ae ke] [ve] pos) (.dict [(x,y)]):=⟨λ{A E Z s fr Q} hA r q=>by
 with_reducible refine wpAny_Dict_walk (knd:=strKind G.prog G.w) rfl rfl (by simp) (by simp) ?_
 refine pairTrees_cons_walk (hk.c (fr:=cD s.heap.objs.size []::fr) hA ((vR B r).perm cu.symm) λ{kv s1 Z1} z1 q1 r1=>hv.c hA r1 λ{vv s3 Z3} z3 q3 r3=>pairTrees_nil_walk ?_);refine cJ (gU q1) λtk dO=>?_;subst dO;have r4:R Z3 (cD s.heap.objs.size []::(mu++fr)) s3:=r3.perm cu;refine qr (r4.sat _ aa) λhq kvs hD Tc hr1=>?_;cases jc.mp Tc;exact ⟨[(x,vv)],⟨zw G.prog G.w x tk,rfl,trivial⟩,hD,λh' hD' ud=>(fM.dict (D:=s.heap.objs.size) (es:=[(x,y)]) (mu:=mu) (Θ:=λz nu=>z= .dict [(x,y)]/\nu=mu) ⟨rfl,rfl⟩).c (fr:=fr)
  (r4.upd' (x':=cD s.heap.objs.size [(x,y)]) (i:=0) (h':=h') (tk:=s3.toks+1) rfl rfl (λc o hb e=>ud.extBut c o (λq=>hb (q▸aa)) e) ⟨hq,[(x,vv)],hD',rfl,.cons q3 .nil⟩) λ{v v v} z6 q6 r6 u=>q (z1.trans (z3.trans z6)) (u.1▸q6) (u.2▸r6)⟩⟩
theorem WF.drop1{t:mF uk}{a:cX}(h:WF k nu t Θ):WF k (a::nu) t Θ:=⟨λ{A E Z s fr Q} hA r=>h.c hA (r.sublist (.cons _ (sS _)))⟩
theorem FW.app{f:ai}{xs:List V}(more:Mu)(h:FW k mu f xs Φ):FW k (mu++more) f xs λy nu=>∃nu',nu=nu'++more/\Φ y nu':=⟨λ{A E Z s fr vs Q} hA r hv q=>h.c (fr:=more++fr) hA (bU .. ▸r) hv λ{x x x x x} z w r u=>q z w ((bU ..).symm▸r) ⟨_,rfl,u⟩⟩
theorem FW.to{f:ai}{xs:List V}(js:List Nat)(h:FW k (qO js nu) f xs Φ):FW k nu f xs Φ:=⟨λ{A E Z s fr vs Q} hA r hv=>h.c hA (r.perm ((nh js nu).append_right fr)) hv⟩
theorem WF.from{t:mF uk}(js:List Nat){X:Mu}(e:qO js nu=X)(h:WF k X t Θ):WF k nu t Θ:=WF.to js (e▸h)
end
variable {Sg:ay}{K:fH}
theorem sI(l:List bb):(fP "" l).cps.toList=l.flatMap (·.cps.toList):=by
 cases l with
 |nil=>rfl
 |cons t ts=>
  have h:∀(ts:List bb) (acc:Array Nat),(ts.foldl (λacc p=>acc++("":bb).cps++p.cps) acc).toList=acc.toList++ts.flatMap (·.cps.toList):=λts=>by
   induction ts with
   |nil=>intro acc;simp
   |cons u ts ih=>
    intro acc;refine aj (fF ..) ?_;refine aj (ih ..) ?_;refine aj (dG ..) ?_;have:(acc++("":bb).cps++u.cps).toList=acc.toList++u.cps.toList:=by have:("":bb).cps=#[]:=rfl;refine aj (this ..) ?_;simp
    refine aj (this ..) ?_;simp
  show ((ts.foldl (λacc p=>acc++("":bb).cps++p.cps) t.cps).toList)=_;refine aj (h ..) ?_;refine aj (dG ..) ?_;rfl
theorem sJ(a b:bb):(a++b).cps.toList=a.cps.toList++b.cps.toList:=by show (a.cps++b.cps).toList=_;simp
abbrev jz(x:bb):Prop:=∀c∈x.cps.toList,c < 256
theorem jz.cat{a b:bb}(ha:jz a)(hb:jz b):jz (a++b):=λc hc=>by
 rw [sJ] at hc;rcases bc.mp hc with h|h
 ·exact ha c h
 ·exact hb c h
theorem jz.join{l:List bb}(h:∀t∈l,jz t):jz (fP "" l):=λc hc=>by
 rw [sI] at hc;exact aK (bG.mp hc) λt ht h2=>h t ht c h2
theorem Eh(w:Int):jz (jM w):=by
 unfold jM;have h:(w / 4 % 5).toNat < 5:=by lia
 generalize (w / 4 % 5).toNat=n at h;have:∀x∈([["\n","\t","\r"," ",""],["\n","\t","\r"," "," \n"]]:List (List bb)),∀n,n < 5->jz (x.getD n ""):=by decide
 split
 ·exact this _ (.head _) n h
 ·exact this _ (.tail _ (.head _)) n h
theorem Gf{x:bb}(w:Int)(hx:jz x):jz (ik x w):=by
 have h1:jz (qL x w):=jz.join λt ht=>by
  refine aK (aG.mp ht) λq hq dO=>?_;subst dO;have hm:q.1∈x.cps.toList:=by
   have:=gR (f:=uz) hq
   rwa [jd] at this
  have h0:jz (⟨#[q.1]⟩:bb):=λc hc=>by
   have:c=q.1:=by simpa using hc
   subst this;exact hx _ hm
  unfold lK
  split
  ·exact jz.cat (by decide) h0
  ·exact h0
 have h2:jz ("\"":bb):=by decide
 unfold ik
 split
 ·exact ((h2.cat h1).cat h2).cat (Eh w)
 ·exact h1.cat (Eh w)
theorem tU:(qN ds n6).cps.toList=(tT ds n6).map ux:=by
 unfold qN;refine aj (sI ..) ?_;induction tT ds n6 with
 |nil=>rfl
 |cons a l ih=>(refine aj (bA ..) ?_;refine aj (dG ..) ?_;refine aj (ih ..) ?_);rfl
theorem A6:jz (qN ds n6):=λc hc=>by
 rw [tU] at hc;refine aK (aG.mp hc) λo ho eT=>?_;subst eT;have:=u4 o ho;lia
theorem Ei:∀w∈ea ds n6,jz w:=by
 intro w hw;have h6:∀n,n < 6->jz (xJ.getD n ""):=by decide
 rcases bc.mp hw with h|h
 ·refine aK (bG.mp h) λq hq h2=>aK (aG.mp h2) λb hb gi=>?_;subst gi;have:=kf ds q hq;exact h6 b (by simp at hb;lia)
 ·simp only [aP,uy,or_false] at h;rcases h with rfl|rfl|rfl
  ·exact A6
  ·decide
  ·decide
theorem O0:jz (g9 ds n6):=jz.join λt ht=>by
 refine aK (aG.mp ht) λq hq iC=>?_;subst iC;have ER:q.1∈ea ds n6:=by
  have:=gR (f:=uz) hq
  rwa [jd] at this
 exact Gf _ (Ei _ ER)
noncomputable def L9(low:Nat):List (bb×V):=bD low (aN 6) λb=>cV [(cB (low+b),1)]
noncomputable abbrev S12(ds:List Nat)(ns:List Int)(n6:Nat)(A Du Oc Sg lx:ay):List (Nat×V):=(23,.dict (L9 (aF ds)))::(22,.dict [])::(21,.ref lx)::S9 ds ns n6 A Du Oc Sg
def tV.S0(k:Nat)(mu:Mu)(vs:el)(Θ:AF->Mu->Prop)(L A Du Oc:ay)(ds:List Nat)(n6:Nat)(pm doc:ai):Prop:=∀{Sg:ay} {ns:List Int} {K:fH} (H:Hy G) (LH:fN G K) (NH:uT K) (GH:Lv G) (he:du (bT pm doc L)) (hD:Dr ds ns n6) (hS:Sv vs (S9 ds ns n6 A Du Oc Sg)) (next:∀vs P,mV P->P.text=g9 ds n6->Sv vs (S12 ds ns n6 A Du Oc Sg P.lx)->WS (k+8) (cw L vs::(j6 P [] (1+((g9 ds n6).cps.toList.count 10:Nat)) (g9 ds n6).cps.toList++(bl A ((dm ds).map kH)::bl Du ([10,14].map (u3 ds))::gG 304 []::bl Oc ((eQ ds n6 [10,14]).map .int)::mu))) (bT pm doc L) (mw 13) Θ),WS (k+8) (bl Oc ((eQ ds n6 [10,14]).map .int)::bl Du ([10,14].map (u3 ds))::bl A ((dm ds).map kH)::cw L vs::gG 272 (zW av)::gG 304 []::mu) (bT pm doc L) (mw 12) Θ
namespace tV
@[irreducible] def e0:=HY eN gD gD ta cL cL cL cL gD eN gL gL S0
def k_:=e0.1
def e9:=e0.2.1
def kR:=e0.2.2.1
def Θ_:=e0.2.2.2.1
def L_:=e0.2.2.2.2.1
def A_:=e0.2.2.2.2.2.1
def JT:=e0.2.2.2.2.2.2.1
def Se:=e0.2.2.2.2.2.2.2.1
def aV:=e0.2.2.2.2.2.2.2.2.1
def gO:=e0.2.2.2.2.2.2.2.2.2.1
def pj:=e0.2.2.2.2.2.2.2.2.2.2.1
def g8:=e0.2.2.2.2.2.2.2.2.2.2.2
theorem T0:S0 k_ e9 kR Θ_ L_ A_ JT Se aV gO pj g8:=by
 intro Sg ns K H LH NH GH he hD hS next
 have hf:∀{x y z:cX} {rt HU},bq L_ (aM (L_+1) (bk (cM 23)).names) rt∈x::y::z::cw L_ rt::HU:=ab _ (ab _ (ab _ aa));have d8:=eI aV;refine cE (GH.f275.go) λob Uk Jq h0 hd w=>aC (b4 (Cg (cA (B8 LH.KO NH.k217 (mn H he H.m_lex rfl) (cA (ml (mn H he H.m_given rfl) h0 hd (cA (cf (ah (j:=20) he .loc hf (hS.get rfl)) (e8 (FW.mono (m9 (i:=4) H GH rfl O0 (aw Eg (by decide))) λy nu hy=>?_))))))))) rfl rfl);obtain ⟨f,dx,lam,it,L1,gd,ld,a,b,e1,_,hR,e2⟩:=hy;refine e8 (FW.mono (K4 H LH NH) λy2 ue hy=>?_);refine oH hy λlx dx2 pb e3 e4=>?_;clear hy;subst e1 e2 e3 e4
 let P:ib:={lx:=lx,dx:=dx2,pb:=pb,f:=f,fdx:=dx,it:=it,L:=L1,lam:=lam,a:=a,b:=b,gd:=gd,ld:=ld,text:=g9 aV gO}
 have hf9:∀{x0 x1 x2 x3 x4 x5 x6 x7 x8:cX} {rt HU},bq L_ (aM (L_+1) (bk (cM 23)).names) rt∈x0::x1::x2::x3::x4::x5::x6::x7::x8::cw L_ rt::HU:=ao (i:=9) rfl;refine cA (ya H.B (λD0=>fM.dict (cA (yD H.B (aN 6) (λb=> .str (cB (aF aV+b))) (λb=>(cB (aF aV+b),cV [(cB (aF aV+b),1)])) ⟨rfl,rfl,by decide+kernel,by decide+kernel⟩ (dA (ah (j:=7) he (.cell (L_+6) "names") hf9 (hS.get rfl))) (by lia) (by decide) (λC4 a ha=>BS 1 he.comp .loc dk (λhb=>(ah (j:=1) he.comp .loc aa rfl)) (λhb=>L8 H.B (ah (j:=1) he.comp .loc aa rfl) aU)) (jx d8 (aN 6) (λb hb=>aY.mp hb) lp) (λD1=>fM.dict (e8 ⟨by show 3<=2 ^ 20;decide,i7 (cv rfl rfl (aQ (i:=9) (j:=21) he (.cell (L_+11) "lexer") rfl (cv rfl rfl (aQ (i:=9) (j:=22) he (.cell (L_+12) "none") rfl (cv rfl rfl (aQ (i:=9) (j:=23) he .loc rfl (iX ?_)))))))⟩))))));refine WF.from [9,0,0,0,0,0,0,3,2,1,1] rfl ?_;have hn:=next _ P ⟨hR⟩ rfl (((hS.set (j:=21) (y:= .ref lx)).set (j:=22) (y:= .dict [])).set (j:=23) (y:= .dict (L9 (aF aV))))
 have e1:(1+((g9 aV gO).cps.toList.count 10:Nat):Int) - ((g9 aV gO).cps.toList.count 10:Nat)=1:=by lia
 unfold j6 at hn;rw [e1] at hn;exact hn
end tV
theorem tV{pm doc:ai}:tV.S0 k mu vs Θ L A Du Oc ds n6 pm doc:=by with_unfolding_all exact C6 _ _ _ _ _ _ _ _ _ _ _ _ tV.S0 @tV.T0 k mu vs Θ L A Du Oc ds n6 pm doc
noncomputable def I2(w:Int)(q:Nat×Nat):Bool:=(w % 2 == 1) || (decide (q.1∈(if decide (w % 4 < 2) then [92,34] else [92,10,9,13,32])) || (decide (q.1=34) && decide (q.2=0)))
noncomputable def HG(w:Int)(q:Nat×Nat):List Nat:=if I2 w q then [92,q.1] else [q.1]
theorem Ma:∀c,c < 256->(!(cZ ("\\\"":bb) ⟨#[c]⟩ 0 ("\\\"":bb).length 1).isEmpty)=decide (c∈[92,34]):=by decide+kernel
theorem Mb:∀c,c < 256->(!(cZ ("\\\n\t\r ":bb) ⟨#[c]⟩ 0 ("\\\n\t\r ":bb).length 1).isEmpty)=decide (c∈[92,10,9,13,32]):=by decide+kernel
theorem Mc:∀c,c < 256->((⟨#[c]⟩:bb) == "\"")=decide (c=34):=by decide+kernel
theorem Gg{w:Int}{q:Nat×Nat}(hc:q.1 < 256):(lK w q).cps.toList=HG w q:=by
 have hb:((w % 2 == 1) || ((!(cZ (pX w) ⟨#[q.1]⟩ 0 (pX w).length 1).isEmpty) || (((⟨#[q.1]⟩:bb) == "\"" && ((((q.2:Nat):Int) == 0) && aI)) || false)))=I2 w q:=by
  delta I2 pX;refine aj (Mc _ hc ..) ?_;refine aj (zH ..) ?_;refine aj (Bool.and_true ..) ?_;have e0:(((q.2:Nat):Int) == 0)=decide (q.2=0):=by
   by_cases h:q.2=0
   ·refine aj (h ..) ?_;rfl
   ·(refine aj (decide_eq_false h ..) ?_;refine gj (beq_eq_false_iff_ne ..) ?_);lia
  refine aj (e0 ..) ?_
  split
  ·(refine aj (Ma _ hc ..) ?_;rfl)
  ·(refine aj (Mb _ hc ..) ?_;rfl)
 delta lK HG;refine aj (hb ..) ?_
 split
 ·refine aj (sJ ..) ?_;rfl
 ·rfl
theorem yO{x:bb}{w:Int}(hx:jz x):(qL x w).cps.toList=x.cps.toList.zipIdx.flatMap (HG w):=by
 delta qL;refine aj (sI ..) ?_;have:∀l:List (Nat×Nat),(∀q∈l,q.1 < 256)->(l.map (lK w)).flatMap (·.cps.toList)=l.flatMap (HG w):=λl=>by
  induction l with
  |nil=>intro z;rfl
  |cons q l ih=>intro h;refine aj (bA ..) ?_;refine aj (dG ..) ?_;refine aj (dG ..) ?_;refine aj (ih λq hq=>h q (ab _ hq) ..) ?_;refine aj (Gg (h q aa) ..) ?_;rfl
 refine this _ λq hq=>hx _ ?_;have:=gR (f:=uz) hq
 rwa [jd] at this
set_option tactic.hygienic true in
theorem Ej{w:Int}(hw:w % 4 < 2)(rest:List Nat):∀(l:List Nat) (i:Nat) (acc:List Nat),uY acc ((l.zipIdx i).flatMap (HG w)++34::rest)=ae (acc++l,rest)
 |[],i,acc=>by
  show uY acc (34::rest)=_;unfold uY;simp
 |c::l,i,acc=>by
  refine aj (oy ..) ?_;refine aj (dG ..) ?_;have ih:=Ej hw rest l (i+1) (acc++[c]);unfold HG
  split
  ·rename_i h;show uY acc (92::c::(((l.zipIdx (i+1)).flatMap (HG w))++34::rest))=_;unfold uY;refine aj (if_neg (by decide) ..) ?_;refine aj (if_pos rfl ..) ?_;show uY (acc++[c]) _=_;refine aj (ih ..) ?_;simp
  ·rename_i h;show uY acc (c::(((l.zipIdx (i+1)).flatMap (HG w))++34::rest))=_;unfold I2 at h;rw [decide_eq_true hw,if_pos rfl] at h;simp at h;refine G1 h λ_ h1 _=>?_;clear h;unfold uY;(refine aj (if_neg h1.2 ..) ?_;refine aj (if_neg h1.1 ..) ?_;refine aj (ih ..) ?_);simp
set_option tactic.hygienic true in
theorem Ek{w:Int}(hw:¬w % 4 < 2){g:Nat}(hg:xH g=aI)(rest:List Nat):∀(l:List Nat) (i:Nat) (acc:List Nat),sZ acc ((l.zipIdx i).flatMap (HG w)++g::rest)=ae (acc++l,rest)
 |[],i,acc=>by
  show sZ acc (g::rest)=_;unfold sZ;refine aj (if_pos hg ..) ?_;simp
 |c::l,i,acc=>by
  refine aj (oy ..) ?_;refine aj (dG ..) ?_;have ih:=Ek hw hg rest l (i+1) (acc++[c]);unfold HG
  split
  ·rename_i h;show sZ acc (92::c::(((l.zipIdx (i+1)).flatMap (HG w))++g::rest))=_;unfold sZ;refine aj (if_neg (by decide) ..) ?_;refine aj (if_pos rfl ..) ?_;show sZ (acc++[c]) _=_;refine aj (ih ..) ?_;simp
  ·rename_i h;show sZ acc (c::(((l.zipIdx (i+1)).flatMap (HG w))++g::rest))=_;unfold I2 at h;rw [decide_eq_false hw,if_neg (by decide)] at h;simp at h;have hws:xH c=aH:=by
    unfold xH;simp;lia
   unfold sZ;(refine aj (hws ..) ?_;refine aj (if_neg (by decide) ..) ?_;refine aj (if_neg (by lia) ..) ?_;refine aj (ih ..) ?_);simp
theorem El:∀(pre l:List Nat),(∀c∈pre,xH c=aI)->yx (pre++l)=yx l
 |[],l,_=>rfl
 |c::pre,l,h=>by
  refine aj (fU ..) ?_;show (if xH c then yx (pre++l) else _)=_;exact aj (if_pos (h c aa) ..) (El pre l λc hc=>h c (ab _ hc))
theorem A7(w:Int):∀c∈(jM w).cps.toList,xH c=aI:=by
 delta jM;have h:(w / 4 % 5).toNat < 5:=by lia
 generalize (w / 4 % 5).toNat=n at h;have:∀x∈([["\n","\t","\r"," ",""],["\n","\t","\r"," "," \n"]]:List (List bb)),∀n,n < 5->∀c∈(x.getD n "").cps.toList,xH c=aI:=by decide
 split
 ·exact this _ (.head _) n h
 ·exact this _ (.tail _ (.head _)) n h
theorem A8(w:Int):(jM w).cps.toList.length<=2:=by
 delta jM;have h:(w / 4 % 5).toNat < 5:=by lia
 generalize (w / 4 % 5).toNat=n at h;have:∀x∈([["\n","\t","\r"," ",""],["\n","\t","\r"," "," \n"]]:List (List bb)),∀n,n < 5->(x.getD n "").cps.toList.length<=2:=by decide
 split
 ·exact this _ (.head _) n h
 ·exact this _ (.tail _ (.head _)) n h
theorem Gh{w:Int}(hw:¬w % 4 < 2):∃g pre,(jM w).cps.toList=g::pre/\xH g=aI/\∀c∈pre,xH c=aI:=by
 have h1:=A7 w;have h2:(jM w).cps.toList≠[]:=by
  delta jM;refine aj (decide_eq_false hw ..) ?_;have h:(w / 4 % 5).toNat < 5:=by lia
  generalize (w / 4 % 5).toNat=n at h;have:∀n,n < 5->((["\n","\t","\r"," "," \n"]:List bb).getD n "").cps.toList≠[]:=by decide
  exact this n h
 cases e:(jM w).cps.toList with
 |nil=>exact absurd e h2
 |cons g pre=>exact ⟨g,pre,rfl,h1 g (by refine aj (e ..) ?_;exact aa),λc hc=>h1 c (by refine aj (e ..) ?_;exact ab _ hc)⟩
set_option tactic.hygienic true in
theorem Md{x:bb}{w:Int}(hx:jz x)(iP:x.cps.toList≠[])(rest:List Nat):∃pre,(∀c∈pre,xH c=aI)/\pre.length<=2/\yx ((ik x w).cps.toList++rest)=ae (x.cps.toList,pre++rest):=by
 by_cases hw:w % 4 < 2
 ·refine ⟨(jM w).cps.toList,A7 w,A8 w,?_⟩;delta ik;refine aj (decide_eq_true hw ..) ?_;refine aj (if_pos rfl ..) ?_;refine aj (sJ ..) ?_;refine aj (sJ ..) ?_;refine aj (sJ ..) ?_;refine aj (yO hx ..) ?_;have e:("\"":bb).cps.toList=[34]:=rfl;refine aj (e ..) ?_;show yx (34::(x.cps.toList.zipIdx.flatMap (HG w))++[34]++(jM w).cps.toList++rest)=_;have:=Ej hw ((jM w).cps.toList++rest) x.cps.toList 0 [];simp only [fU,bU,qj] at this ⊢;show (if xH 34 then _ else if 34=34 then uY [] _ else _)=_;refine aj (if_neg (by decide) ..) ?_;refine aj (if_pos rfl ..) ?_;exact this
 ·refine cC (Gh hw) λg pre e hg hp=>⟨pre,hp,by have:=A8 w;rw [e,bK] at this;exact nj (by assumption),?_⟩
  delta ik;refine aj (decide_eq_false hw ..) ?_;refine aj (if_neg (by decide) ..) ?_;refine aj (sJ ..) ?_;refine aj (yO hx ..) ?_;refine aj (e ..) ?_;have:=Ek hw hg (pre++rest) x.cps.toList 0 [];simp only [fU,bU,qj] at this ⊢;refine fZ (this ..) ?_;cases hxl:x.cps.toList with
  |nil=>exact absurd hxl iP
  |cons c l=>
   refine aj (oy ..) ?_;refine aj (dG ..) ?_;delta HG
   split
   ·show (if xH 92 then _ else if 92=34 then _ else sZ [] _)=_;refine aj (if_neg (by decide) ..) ?_;refine aj (if_neg (by decide) ..) ?_;rfl
   ·rename_i h;unfold I2 at h;rw [decide_eq_false hw,if_neg (by decide)] at h;simp at h;have hws:xH c=aH:=by
     delta xH;simp;lia
    show (if xH c then _ else if c=34 then _ else sZ [] _)=_;refine aj (hws ..) ?_;refine aj (if_neg (by decide) ..) ?_;refine aj (if_neg (by lia) ..) ?_;rfl
noncomputable def tl(ds:List Nat)(n6 i:Nat):List Nat:=((ea ds n6).zipIdx.drop i).flatMap λq=>(ik q.1 ((n6:Int) / ((q.2:Int)+1))).cps.toList
theorem HH:(g9 ds n6).cps.toList=tl ds n6 0:=by delta g9 tl;refine aj (sI ..) ?_;refine aj (fy ..) ?_;refine aj (List.flatMap_map ..) ?_;rfl
theorem Me(n w:Int):1<=(gm n w).length:=by
 rcases kZ n w with h|h|h
 ·refine aj (tR h ..) ?_;simp
 ·refine aj (yG h ..) ?_;simp
 ·refine aj (yF h ..) ?_;simp
theorem A9:∀(l:List Nat) (xs:List Int),xs.length+l.length<=(iA n6 xs l).length
 |[],xs=>by simp [iA]
 |n::l,xs=>by
  have h:=A9 l (xs++gm n ((n6:Int) / ((xs.length:Int)+1)));have:=Me n ((n6:Int) / ((xs.length:Int)+1));rw [ba] at h;show _<=(iA n6 (xs++gm n ((n6:Int) / ((xs.length:Int)+1))) l).length;refine aj (bK ..) ?_;lia
theorem Mf:4<=(tT ds n6).length:=by
 delta tT;refine aj (ba ..) ?_;have:4<=(eQ ds n6 [10,14]).length:=by delta eQ;simp only [fF,List.foldl_nil];have:=A9 (n6:=n6) (jy ds 14) (iA n6 [] (jy ds 10));have h4:(jy ds 14).length=4:=rfl;lia
 lia
theorem Mg:∀w∈ea ds n6,w.cps.toList≠[]:=by
 intro w hw;have h6:∀n,n < 6->(xJ.getD n "").cps.toList≠[]:=by decide
 rcases bc.mp hw with h|h
 ·refine aK (bG.mp h) λq hq h2=>aK (aG.mp h2) λb hb dO=>?_;subst dO;have:=kf ds q hq;exact h6 b (by simp at hb;lia)
 ·simp only [aP,uy,or_false] at h;rcases h with rfl|rfl|rfl
  ·intro e;rw [tU] at e;have:=Mf (ds:=ds) (n6:=n6);have e2:=congrArg kM e;rw [ak,GX] at e2;lia
  ·decide
  ·decide
def pn(ds:List Nat)(n6 i:Nat)(cs:List Nat):Prop:=∃pre,(∀c∈pre,xH c=aI)/\pre.length<=2/\cs=pre++tl ds n6 i
theorem pn.start:pn ds n6 0 (g9 ds n6).cps.toList:=⟨[],(λz h=>eo h),by simp,by refine aj (HH ..) ?_;rfl⟩
theorem Sf(i:Nat):(tl ds n6 i).length<=1200:=by
 have h:(tl ds n6 i).length<=(tl ds n6 0).length:=by delta tl;rw [fy];have e:(ea ds n6).zipIdx=(ea ds n6).zipIdx.take i++(ea ds n6).zipIdx.drop i:=(oq i _).symm;have e2:=congrArg (λl=>(l.flatMap λq=>(ik q.1 ((n6:Int) / ((q.2:Int)+1))).cps.toList).length) e;simp only [UB,ba] at e2;lia
 rw [<- HH] at h;exact aw h (Eg (ds:=ds) (n6:=n6))
theorem pn.len{i:Nat}{cs:List Nat}(h:pn ds n6 i cs):cs.length<=2 ^ 20:=by refine ef h λpre z h2 eT=>?_;clear h;subst eT;have:=Sf (ds:=ds) (n6:=n6) i;refine aj (ba ..) ?_;show _<=1048576;lia
theorem pn.tok{i:Nat}{cs:List Nat}{x:bb}(h:pn ds n6 i cs)(hx:(ea ds n6)[i]? =ae x):∃cs',yx cs=ae (x.cps.toList,cs')/\pn ds n6 (i+1) cs':=by
 refine ef h λpre h1 h2 gi=>?_;clear h;subst gi;have hi:=(aB.mp hx).1;have hd:(ea ds n6).zipIdx.drop i=(x,i)::(ea ds n6).zipIdx.drop (i+1):=by refine aj (dZ (by rw [eW];exact hi) ..) ?_;congr 1;refine aj (List.getElem_zipIdx ..) ?_;have:=(aB.mp hx).2;refine aj (this ..) ?_;simp
 have e:tl ds n6 i=(ik x ((n6:Int) / ((i:Int)+1))).cps.toList++tl ds n6 (i+1):=by delta tl;refine aj (hd ..) ?_;refine aj (dG ..) ?_;rfl
 have hm:=ao hx;obtain ⟨pre',h3,h4,h5⟩:=Md (w:=(n6:Int) / ((i:Int)+1)) (Ei x hm) (Mg x hm) (tl ds n6 (i+1));exact ⟨_,by (refine aj (El pre _ h1 ..) ?_;refine aj (e ..) ?_);exact h5,pre',h3,h4,rfl⟩
theorem pn.end_{cs:List Nat}(h:pn ds n6 19 cs):∀c∈cs,xH c=aI:=by
 refine ef h λpre h1 z iC=>?_;clear h;subst iC;have:tl ds n6 19=[]:=by delta tl;refine aj (List.drop_eq_nil_of_le (by rw [eW,pZ];exact bp _) ..) ?_;rfl
 (refine aj (this ..) ?_;refine aj (cy ..) ?_);exact h1
theorem O1{p:Nat}(hp:p < 8):(ea ds n6)[2*p]? =ae (xJ.getD ((dm ds).getD p (0,0)).1 "")/\(ea ds n6)[2*p+1]? =ae (xJ.getD ((dm ds).getD p (0,0)).2 ""):=by rcases (by lia:p=0\/p=1\/p=2\/p=3\/p=4\/p=5\/p=6\/p=7) with rfl|rfl|rfl|rfl|rfl|rfl|rfl|rfl <;> exact ⟨rfl,rfl⟩
theorem O2:(ea ds n6)[16]? =ae (qN ds n6):=rfl
theorem O3:(ea ds n6)[17]? =ae ("done":bb):=rfl
theorem O4:(ea ds n6)[18]? =ae ("end":bb):=rfl
variable {prog:dB}{w:d9}{E:ai->aq->Prop}{s:aq}
section
variable {A:bh}
theorem Em{items:Array ai}{x:ai}{e:ai->Bool}(he:∀y,y∈items->MeetsSeq.EqGives y x (e y)){j:Nat}(hj:j < items.size)(hit:e items[j]=aI)(Bv:∀m (hm:m < items.size),m < j->e items[m]=aH){Q:Option NZ×Unit->aq->Prop}(hQ:Q (ae (.done (.ret (.int j s.toks))),()) {s with toks:=s.toks+1})
 {f:Nat->Option NZ×Unit->mF (ForInStep (Option NZ×Unit))} (hf:∀i y r,items[i]? =ae y->f i r=(do
  let b <- eqBool y x
  if b=aI then do
   let q <- retInt i
   dg (ForInStep.done (ae q,()))
  else dg (GS (av,())))):
 ∀(n i:Nat),i<=j->j < i+n->aS (aX prog w) A (forIn (List.range' i n 1) ((av,()):Option NZ×Unit) f) Q E s
 |0,i,h1,h2=>by lia
 |n+1,i,h1,h2=>by
  refine aj (List.range'_succ ..) ?_;refine aj (List.forIn_cons ..) ?_;have hi:i < items.size:=by exact b7 (by assumption) (by assumption)
  refine ag (aj (hf i _ _ (dY hi) ..) ?_);refine ag (he _ (Array.getElem_mem hi) prog w _ _ _ _ ?_);by_cases Bu:i=j
  ·subst Bu;refine aj (hit ..) ?_;refine aj (if_pos rfl ..) ?_;refine ag ?_
   wp_walk
   exact hQ
  ·(refine aj (Bv i hi (by exact Nat.lt_of_le_of_ne (by assumption) (by assumption)) ..) ?_;refine aj (if_neg cF ..) ?_)
   exact ar (Em he hj hit Bv hQ hf n (i+1) (by lia) (by lia))
theorem En(l:ay)(o:o6)(hc:o.cls= .type "tuple")(items:Array ai)(n:Nat)(hd:o.data= .seq items n)(x:ai)(e:ai->Bool)(he:∀y,y∈items->MeetsSeq.EqGives y x (e y))(j:Nat)(hj:j < items.size)
 (hit:e items[j]=aI) (Bv:∀m (hm:m < items.size),m < j->e items[m]=aH):
 Meets (Builtin.«tuple.index» ⟨[.ref l,x],[]⟩) (λz R s=>s.heap.get? l=ae o/\R (.ok (.ret (.int j s.toks))) {s with toks:=s.toks+1}):=
 .of_wp λprog w A R s h=>by
  obtain ⟨hp,g,d,tk,os⟩:=s;obtain ⟨hl,h⟩:=h;show aS _ _ (selfAndSome "tuple.index" "index" 1 3 ⟨[.ref l,x],[]⟩ >>=_) _ _ _;refine ag (cN (a:=(.ref l,[x])) (by rfl) ?_);show aS _ _ (Builtin.Tuple.tupleItemsOf (.ref l) >>=_) _ _ _;refine ag (wpAny_tupleItemsOf hl hd ?_);refine ag (ar (ag (ar (ag ?_))));refine aj (Std.Legacy.Range.forIn_eq_forIn_range' ..) ?_;have hsz:(min items.size items.size - 0+1 - 1) / 1=min items.size items.size:=by lia
  refine eR (Q:=λr s'=>r=(ae (.done (.ret (.int j tk))),())/\s'=⟨hp,g,d,tk+1,os⟩) ?_ (λr s' ⟨e1,e2⟩=>?_) λz z e=>e
  ·show aS _ _ (forIn (List.range' 0 ((min items.size items.size - 0+1 - 1) / 1) 1) _ _) _ _ _;refine aj (hsz ..) (Em he hj hit Bv ⟨rfl,rfl⟩ (λi y r h=>?_) _ 0 (gp _) (by lia));simp only [h]
  ·subst e1 e2;exact ar ⟨_,rfl,h⟩
theorem rm{it t:ay}{items:Array ai}(iP:t≠it):∀(n i:Nat) (s:aq) (Q:List ai->aq->Prop),s.heap.IsListIter it t i->s.heap.IsList t items->i+n<=items.size->
 (∀h',h'.IsListIter it t (i+n)->ji it s.heap h'->Q ((items.toList.drop i).take n) {s with heap:=h'})->aS (aX prog w) A (draw (.ref it) n) Q E s
 |0,i,s,Q,hit,_,_,hQ=>by
  show aS _ _ (dg []) Q E s;exact ar (by exact hQ s.heap hit (JQ ..))
 |n+1,i,s,Q,hit,ht,hle,hQ=>by
  have hlt:i < items.size:=by lia
  show aS _ _ (l0 (.ref it) >>=_) Q E s;refine ag (zv hit ht (x:=items[i]) (by simp [hlt]) λh₁ GM Na=>?_);have ht₁:h₁.IsList t items:=by refine aK ht λo h1 h2=>?_;clear ht;exact ⟨o,Na.extBut t o iP h1,h2⟩
  refine ag (bE (rm iP n (i+1) _ _ GM ht₁ (by lia) λh₂ Th hs₂=>ar ?_));have hd:items.toList.drop i=items[i]::items.toList.drop (i+1):=by simp [dZ,hlt]
  have:=hQ h₂ (by refine aj (show i+(n+1)=i+1+n by lia) ?_;exact Th) (Na.trans hs₂);rw [hd,jb] at this;exact this
def dN.S0(prog:dB)(w:d9)(s:aq)(t:ay)(items:Array ai)(_:Nat):Prop:=∀{A:bh} {E:ai->aq->Prop} {Q:List ai->aq->Prop} (hh:A.handled=av) (ht:s.heap.IsList t items) (hQ:∀h',ry s.heap.objs.size s.heap h'->Q items.toList {s with heap:=h'}),aS (aX prog w) A (N0 (.ref t) items.size av) Q E s
namespace dN
@[irreducible] def e0:=Fq sY Fb zM cL inferInstance eN S0
def cT:=e0.1
def w_:=e0.2.1
def s_:=e0.2.2.1
def t_:=e0.2.2.2.1
def k6:=e0.2.2.2.2.1
theorem T0:S0 cT w_ s_ t_ k6 e0.2.2.2.2.2:=by
 intro A E Q hh ht hQ;have hlt:t_≠s_.heap.objs.size:=by obtain ⟨o,ho,_⟩:=ht;exact c8 (bN ho)
 have hT:s_.TypeIs (.ref t_) "list":=by obtain ⟨o,ho,hc,_⟩:=ht;exact ⟨o,ho,hc⟩
 unfold N0;refine ag ?_
 ·unfold notIterableAtAll;refine ag (h8 hT PySem.F.slot_list_iter.lookup ?_);refine ar ?_;simp only [dj,if_false];refine ag (bE (lr ht ?_));have P5:(s_.heap.push {cls:= .type "list_iterator",data:= .fields #[.ref t_,.int 0 0]}).IsList t_ k6:=by
   refine aK ht λo h1 h2=>?_;clear ht;exact ⟨o,az _ h1,h2⟩
  refine ag (bE (rm hlt k6.size 0 _ _ ⟨_,aW _ rfl,rfl,rfl⟩ P5 (by lia) λh₁ GM Na=>?_));have zt:List.take k6.size (List.drop 0 k6.toList)=k6.toList:=by refine aj (fy ..) ?_;exact d7 (by exact bp _)
  refine aj (zt ..) (aj (if_neg (by simp) ..) ?_);have ht₁:h₁.IsList t_ k6:=by refine aK P5 λo h1 h2=>?_;clear P5;exact ⟨o,Na.extBut t_ o hlt h1,h2⟩
  refine ag (bE (Aj hh GM ht₁ (by simp) λh₂ he₂=>?_));simp only [Ak,dj,if_false];refine ar (hQ h₂ λb o hb e=>he₂ b o hb (Na.extBut b o hb (az _ e)))
end dN
theorem dN{t:ay}{items:Array ai}:dN.S0 prog w s t items 0:=by with_unfolding_all exact uE _ _ _ _ _ _ dN.S0 @dN.T0 prog w s t items 0
end
section
variable {Ψ:Mu->Prop}{x:bb}{ns:List bb}
theorem Gj{ts:List bH}{kk:Nat}(h:H1 k mu env ts xs Ψ):mK k mu env (.Tuple ts kk p) (.list xs) Ψ:=⟨λ{A E Z s fr v Q} hA r hv q=>by
 refine cE (rk.list hv) λa vs n dO e1 hr=>?_;subst dO;have hn:(jB ts env).length=vs.toList.length:=(nB ts).trans (h.len.trans hr.length.symm);refine aj (arm_assign_Tuple ..) ?_;refine ag (iH ?_);unfold unpack;refine aj (hn ..) ?_;refine aj (o9 h.plain ..) ?_;refine ag (bE ?_);refine aj (eK ..) ?_;exact dN hA.hh (⟨_,r.zin _ _ e1,rfl,n,rfl⟩:s.heap.IsList a vs) λh' hx=>h.c hA (r.keep (tk:=s.toks) λb o e=>hx b o (c8 (bN e)) e) hr q⟩
theorem Eo(hj:ns[j]? =ae x)(Bv:∀m,m < j->ns[m]? ≠ae x):Fn k mu (.builtin "tuple.index") [bZ (.tup (ns.map .str)),bZ (.str x)] (bZ (.int j)):=⟨λ{A E Z s fr vs Q} hA r hq q=>by
 refine cC (hq.two) λv u eT q1 q2=>?_;subst eT;refine dK (aZ.tup_inv q1) λa o ws n gi e1 hc hd hr=>?_;subst gi;refine cJ (gU q2) λny iC=>?_;subst iC;have hlen:ws.size=ns.length:=by (refine fZ (b9 hr ..) ?_;refine aj (ak ..) ?_;rfl)
 have hjl:=(aB.mp hj).1;have key:∀(m:Nat) (hm:m < ws.size),isStrOf x ws[m]=decide (ns[m]? =ae x):=by intro m hm;refine aK (hr.get' (bV.trans (dY hm))) λy h4 h5=>?_;rw [aJ] at h4;refine aK (aL.mp h4) λc h6 kG=>?_;subst kG;refine cJ (gU h5) λtk h7=>?_;refine aj (h7 ..) ?_;refine aj (h6 ..) ?_;simp [isStrOf];refine gj (cj ..) ?_;simp
 have hi:=tI hr;exact l6 Nw (⟨_,r.zin _ _ e1,hc⟩:s.TypeIs (.ref a) "tuple") PySem.F.entry_tuple_index (PySem.F.args_tuple_index_2 _ _) (En a o hc ws n hd (.str x ny) (isStrOf x) (λy hy=>eq_isStrOf x ny hi y (pI.mpr hy)) j (hlen▸hjl) (by (refine aj (key _ (hlen▸hjl) ..) ?_;refine aj (hj ..) ?_);exact decide_eq_true rfl) (λm hm h=>by refine aj (key ..) ?_;exact decide_eq_false (Bv m h)))
  ⟨r.zin _ _ e1,q .rfl (aZ.int _ _) r.toks⟩⟩
end
variable {o:bH}
section
variable {i:bH}
theorem O5(ho:PE k mu env o (.list xs))(hi:WE k mu env i λy nu=>∃z,Gi k nu (me nu xs) (bZ y) (bZ z)/\Φ z nu)(hs:∀a b,∃ops,NR i aH a b=operate ops (JC a b):=by intro a b;exact ⟨_,rfl⟩):
 WE k mu env (.Subscript o i p) Φ:=⟨λ{x x x x x x} hA r q=>Kw hs (ho.c hA r λ{x x x} z1 q1 r1=>hi.c hA r1 λz2 q2 r2 ⟨z,g,w⟩ T' t=>g.c hA r2 (BJ (aZ.mono z2 q1)) q2 λ{x x x} z3 q3 r3=>t (q (z1.trans (z2.trans z3)) q3 r3 w))⟩
end
noncomputable def k7(c:Cs)(a:Nat):Cs:=if c.any (λp=>p.1=a) then c.map (λp=>if p.1=a then (p.1,p.2+1) else p) else c++[(a,1)]
noncomputable abbrev Ep(low:Nat)(c:Cs):List (bb×Int):=c.map λq=>(cB (low+q.1),q.2)
theorem Cj(low:Nat)(c:Cs):FV low c=cV (Ep low c):=by delta FV cV Ep;refine aj (a0 ..) ?_;rfl
theorem wZ{low a b:Nat}(hl:low < 28)(ha:a < 6)(hb:b < 6):(cB (low+a)=cB (low+b))↔a=b:=⟨λh=>by have:=qD (low+a) (by lia) (low+b) (by lia) h;lia,λh=>by (refine aj (h ..) ?_;rfl)⟩
theorem I3{low a:Nat}{c:Cs}(hl:low < 28)(ha:a < 6)(hc:∀q∈c,q.1 < 6):oO (Ep low c) [(cB (low+a),1)]=Ep low (k7 c a):=by
 show uS (Ep low c) (cB (low+a),1)=_;delta uS k7;have e:(Ep low c).any (λp=>p.1=cB (low+a))=c.any (λp=>p.1=a):=by
  delta Ep;refine aj (CH ..) ?_;induction c with
  |nil=>rfl
  |cons q c ih=>refine aj (zI ..) ?_;refine aj (zI ..) ?_;refine aj (ih λq hq=>hc q (ab _ hq) ..) ?_;congr 1;show decide (cB (low+q.1)=cB (low+a))=_;exact gj (decide_eq_decide ..) (wZ hl (hc q aa) ha)
 refine aj (e ..) ?_
 split
 ·delta Ep;refine aj (a0 ..) ?_;refine aj (a0 ..) ?_;apply b5;intro q hq;show (if cB (low+q.1)=cB (low+a) then (cB (low+q.1),q.2+1) else (cB (low+q.1),q.2))=(cB (low+(if q.1=a then (q.1,q.2+1) else q).1),(if q.1=a then (q.1,q.2+1) else q).2);by_cases h:q.1=a
  ·(refine aj (if_pos ((wZ hl (hc q hq) ha).mpr h) ..) ?_;refine aj (if_pos h ..) ?_;rfl)
  ·(refine aj (if_neg (λe=>h ((wZ hl (hc q hq) ha).mp e)) ..) ?_;refine aj (if_neg h ..) ?_;rfl)
 ·delta Ep;refine aj (bj ..) ?_;rfl
theorem oY(c:Cs)(a:Nat):(k7 c a).map (·.1)=if a∈c.map (·.1) then c.map (·.1) else c.map (·.1)++[a]:=by
 delta k7;have e:c.any (λp=>p.1=a)=decide (a∈c.map (·.1)):=by
  refine gj (cj ..) ?_;refine gj (cS ..) ?_;refine aj (decide_eq_true_eq ..) ?_;constructor
  ·intro dO;refine aK dO λq hq h=>?_;clear dO;exact aG.mpr ⟨q,hq,by simpa using h⟩
  ·intro h;exact aK (aG.mp h) λq hq h=>⟨q,hq,by simpa using h⟩
 refine aj (e ..) ?_;by_cases h:a∈c.map (·.1)
 ·(refine aj (decide_eq_true h ..) ?_;refine aj (if_pos rfl ..) ?_;refine aj (if_pos h ..) ?_;refine aj (a0 ..) ?_)
  apply b5;intro q z;show (if q.1=a then (q.1,q.2+1) else q).1=q.1
  split <;> rfl
 ·(refine aj (decide_eq_false h ..) ?_;refine aj (if_neg (by decide) ..) ?_;refine aj (if_neg h ..) ?_;refine aj (bj ..) ?_);rfl
noncomputable def kl(B:Rw)(pl:Nat)(q:Nat×Nat):Rw where
 a:=λb=>if b=q.2 then (if q.1=q.2 then 0 else 1)+B.a b else B.a b
 b:=λb=>if b=q.2 then 1+B.b b else B.b b
 c:=λb=>if b=q.2 then (pl:Int)+B.c b else B.c b
 d:=λb=>if b=q.2 then (pl:Int)*pl+B.d b else B.d b
 cs:=λb=>if b=q.2 then k7 (B.cs b) q.1 else B.cs b
noncomputable def B0:Rw:=⟨λz=>0,λz=>0,λz=>0,λz=>0,λz=>[]⟩
noncomputable def fG(B:Rw)(i:Nat)(l:List (Nat×Nat)):Rw:=(l.zipIdx i).foldl (λB q=>kl B q.2 q.1) B
structure Fe(B:Rw)(n:Nat):Prop where
 lt:∀b,∀c∈B.cs b,c.1 < 6
 nd:∀b,((B.cs b).map (·.1)).Nodup
 len:∀b,(B.cs b).length<=n
theorem Fe.zero:Fe B0 0:=⟨λz z h=>(eo h),λz=>kQ,λz=>bp _⟩
set_option tactic.hygienic true in
theorem Fe.step{B:Rw}{n pl:Nat}{q:Nat×Nat}(h:Fe B n)(hq:q.1 < 6):Fe (kl B pl q) (n+1):=by
 refine ⟨λb c hc=>?_,λb=>?_,λb=>?_⟩
 ·unfold kl at hc;simp only at hc
  split at hc
  ·have:c.1∈(k7 (B.cs b) q.1).map (·.1):=gR hc;rw [oY] at this;have old:∀x∈(B.cs b).map (·.1),x < 6:=λx hx=>by
    refine aK (aG.mp hx) λy hy eT=>?_;subst eT;exact h.lt b y hy
   split at this
   ·exact old _ this
   ·rcases bc.mp this with h'|h'
    ·exact old _ h'
    ·refine aj (aA.mp h' ..) ?_;exact hq
  ·exact h.lt b c hc
 ·delta kl;simp only
  split
  ·refine aj (oY ..) ?_
   split
   ·exact h.nd b
   ·rename_i hn;exact gj (bP ..) (⟨h.nd b,by simp,λx hx y hy=>by refine aj (aA.mp hy ..) ?_;exact λe=>hn (e▸hx)⟩)
  ·exact h.nd b
 ·delta kl;simp only
  split
  ·have:=congrArg kM (oY (B.cs b) q.1);rw [ak] at this;refine aj (this ..) ?_;have:=h.len b
   split
   ·refine aj (ak ..) ?_;exact Nat.le_succ_of_le (by assumption)
   ·(refine aj (ba ..) ?_;refine aj (ak ..) ?_);simp;with_reducible assumption
  ·have:=h.len b;exact Nat.le_succ_of_le (by assumption)
theorem Mh{low:Nat}{l:List Nat}{f g:Nat->V}(h:∀b∈l,f b=g b):bD low l f=bD low l g:=by delta bD;exact b5 λb hb=>by (refine aj (h b hb ..) ?_;rfl)
set_option tactic.hygienic true in
theorem Er{low:Nat}{B:Rw}{pl:Nat}{q:Nat×Nat}(hl:low < 28)(hj:q.2∈[1,2,3,4,5]):jE (fT low B) (cB (low+q.2)) (rr low (kl B pl q) q.2)=fT low (kl B pl q):=by
 delta fT;refine aj (FU hl (by decide) hj ..) (Mh λb hb=>?_)
 split
 ·rename_i h;(refine aj (h ..) ?_;rfl)
 ·rename_i h;simp only [rr,kl,if_neg h]
theorem kF(B:Rw)(i:Nat)(l:List (Nat×Nat))(q:Nat×Nat):fG B i (l++[q])=kl (fG B i l) (i+l.length) q:=by delta fG;refine aj (List.zipIdx_append ..) ?_;refine aj (fu ..) ?_;rfl
noncomputable abbrev QC(ds:List Nat)(ns:List Int)(n6:Nat)(A Du Oc Sg lx Bk:ay):List (Nat×V):=(41,.ref Bk)::S12 ds ns n6 A Du Oc Sg lx
noncomputable abbrev pq(P:ib)(N:Int)(cs:List Nat)(A:ay)(arms:List (Nat×Nat))(ds:List Nat)(Du:ay)(mu:Mu):Mu:=j6 P [] N cs++(bl A (arms.map kH)::bl Du ([10,14].map (u3 ds))::gG 304 []::mu)
theorem Sh(H:Hy G){pm doc:ai}(he:du (bT pm doc L)){P:ib}{N:Int}{cs:List Nat}(hS:Sv vs (S12 ds ns n6 A Du Oc Sg P.lx))
 (next:∀vs Bk,Sv vs (QC ds ns n6 A Du Oc Sg P.lx Bk)->WS (k+8) (cw L vs::cD Bk (fT (aF ds) B0)::pq P N cs A (dm ds) ds Du mu) (bT pm doc L) (mw 14) Θ):
 WS (k+8) (cw L vs::pq P N cs A (dm ds) ds Du mu) (bT pm doc L) (mw 13) Θ:=by
 have d8:=eI ds;refine aC (b4 (yD H.B [1,2,3,4,5] (λb=> .str (cB (aF ds+b))) (λb=>(cB (aF ds+b),rr (aF ds) B0 b)) ⟨rfl,rfl,by decide+kernel,by decide+kernel⟩ (dA (bM (bF (dE (ah (j:=7) he (.cell (L+6) "names") aa (hS.get rfl))) (jo (eO aU) dM dM) (pg (by decide) (by show 6<=2 ^ 23;decide))) ?_)) (by lia) (by decide) (λC5 a ha=>BS 1 he.comp .loc dk (λhb=>(ah (j:=1) he.comp .loc aa rfl)) (λhb=>f9 (xs:=[.int 0,.int 0,.int 0,.int 0,.dict []]) (au aU (au aU (au aU (au aU (au (ah (j:=22) he.comp (.cell (L+12) "none") (ab _ aa) (hS.get rfl)) aT))))) (by show 5<=2 ^ 20;decide))) (jx d8 [1,2,3,4,5] (by decide) (by decide)) (λD=>fM.ref (aQ (i:=1) (j:=41) he (.cell (L+15) "book") rfl ?_))) rfl rfl)
 ·(refine aj (jr ..) ?_;refine aj (show jq (aN 6) (ae 1) av av=[1,2,3,4,5] from by decide+kernel) ?_;rfl)
 ·exact WF.to [1] (next _ D (hS.set (j:=41)))
variable {Bk:ay}
theorem Es{x:bb}{ts:List bb}{j:Nat}(hm:yM Sg (ts.map .str)∈mu)(hj:ts[j]? =ae x)(Bv:∀m,m < j->ts[m]? ≠ae x):Fn k mu (.builtin "tuple.index") [bZ (.ref Sg),bZ (.str x)] (bZ (.int j)):=⟨λ{A E Z s fr vs Q} hA r hq q=>by
 refine cC (hq.two) λv u dO q1 q2=>?_;subst dO;refine aj (aZ.refE q1 ..) (g6 (r.sat _ (aE fr hm)) λo vs n h1 h2 h3 z h5=>?_);exact (Eo (k:=k) (mu:=mu) hj Bv).c hA r (.cons (aZ.tup h1 h2 h3 h5) (.cons q2 .nil)) q⟩
theorem yP(n:Int)(fp:V)(pb:ay):("get_token":bb)∉(tm n fp pb).map (·.1):=by show ("get_token":bb)∉(["lineno","instream","whitespace","pushback"]:List bb);decide
theorem Et{b:Nat}(hb:b < 6):xJ[b]? =ae (xJ.getD b "")/\∀m,m < b->xJ[m]? ≠ae (xJ.getD b ""):=by
 have:∀b,b < 6->xJ[b]? =ae (xJ.getD b "")/\∀m,m < b->xJ[m]? ≠ae (xJ.getD b ""):=by decide
 exact this b hb
theorem Mi{low b:Nat}(hb:b < 6):((aN 6).map λb=>V.str (cB (low+b)))[b]? =ae (V.str (cB (low+b))):=by (refine aj (aJ ..) ?_;refine aj (bz hb ..) ?_);rfl
theorem nme{low a b:Nat}(hl:low < 28)(ha:a < 6)(hb:b < 6):(if (cB (low+a) != cB (low+b))=aI then (1:Int) else 0)=if a=b then 0 else 1:=by
 by_cases h:a=b
 ·subst h;simp
 ·have:cB (low+a)≠cB (low+b):=λe=>h ((wZ hl ha hb).mp e);refine aj (if_neg h ..) ?_;refine aj (if_pos (by simpa using this) ..) ?_;rfl
theorem Eu{low:Nat}(hl:low < 28){c:Cs}(h6:∀q∈c,q.1 < 6)(hn:(c.map (·.1)).Nodup):((Ep low c).map (·.1)).Nodup:=by have:=jx hl (c.map (·.1)) (λb hb=>by obtain ⟨q,hq,rfl⟩:=aG.mp hb;exact h6 q hq) hn;rw [a0] at this;delta Ep;exact aj (a0 ..) (this)
theorem Ba(H:Hy G){low:Nat}{B:Rw}{n pl:Nat}{q:Nat×Nat}(hl:low < 28)(hB:Fe B n)(hn:n<=100)(h1:q.1 < 6):FW (k+3) mu (.ref 256) [rr low B q.2,.tup [.int (if q.1=q.2 then 0 else 1),.int 1,.int pl,.int ((pl:Int)*pl),cV [(cB (low+q.1),1)]]] λy nu=>y=rr low (kl B pl q) q.2/\nu=mu:=by
 have h:=Ou (k:=k) (mu:=mu) (a:=B.a q.2) (b:=B.b q.2) (c:=B.c q.2) (d:=B.d q.2) (a':=if q.1=q.2 then 0 else 1) (b':=1) (c':=pl) (d':=(pl:Int)*pl) (q:=Ep low (B.cs q.2)) (q':=[(cB (low+q.1),1)]) H (Eu hl (hB.lt q.2) (hB.nd q.2)) (by refine aj (ak ..) ?_;have:=hB.len q.2;lia) (by show 1<=1000;decide);rw [I3 hl h1 (hB.lt q.2)] at h;refine aj (show rr low B q.2=Qu (B.a q.2) (B.b q.2) (B.c q.2) (B.d q.2) (Ep low (B.cs q.2)) by delta rr Qu;rw [Cj]) ?_;refine h.mono λy nu ⟨e1,e2⟩=>⟨e1.trans ?_,e2⟩
 simp only [rr,Qu,kl,if_pos,Cj]
def tW.S0(k:Nat)(mu:Mu)(L A Du Oc Bk Sg:ay)(ds:List Nat)(ns:List Int)(n6:Nat)(pm doc:ai)(P:ib)(N:Int)(_:Nat):Prop:=∀{vs:el} {Θ:AF->Mu->Prop} {K:fH} {cs:List Nat} (H:Hy G) (LH:fN G K) (BH:yz K) (he:du (bT pm doc L)) (PO:mV P) (hS:Sv vs (QC ds ns n6 A Du Oc Sg P.lx Bk)) (hR:pn ds n6 0 cs) (hK:yM Sg (xJ.map .str)∈mu) (next:∀vs cs,Sv vs (QC ds ns n6 A Du Oc Sg P.lx Bk)->pn ds n6 16 cs->Fe (fG B0 0 (dm ds)) 8->WS (k+8) (cw L vs::cD Bk (fT (aF ds) (fG B0 0 (dm ds)))::pq P N cs A (dm ds) ds Du mu) (bT pm doc L) (mw 15) Θ),WS (k+8) (cw L vs::cD Bk (fT (aF ds) B0)::pq P N cs A (dm ds) ds Du mu) (bT pm doc L) (mw 14) Θ
namespace tW
@[irreducible] def e0:=Fs eN gD cL cL cL cL cL cL gD gD eN gL gL IV Ra eN S0
def k_:=e0.1
def e9:=e0.2.1
def L_:=e0.2.2.1
def A_:=e0.2.2.2.1
def JT:=e0.2.2.2.2.1
def Se:=e0.2.2.2.2.2.1
def wk:=e0.2.2.2.2.2.2.1
def Sg_:=e0.2.2.2.2.2.2.2.1
def aV:=e0.2.2.2.2.2.2.2.2.1
def HC:=e0.2.2.2.2.2.2.2.2.2.1
def gO:=e0.2.2.2.2.2.2.2.2.2.2.1
def pj:=e0.2.2.2.2.2.2.2.2.2.2.2.1
def g8:=e0.2.2.2.2.2.2.2.2.2.2.2.2.1
def P_:=e0.2.2.2.2.2.2.2.2.2.2.2.2.2.1
def N_:=e0.2.2.2.2.2.2.2.2.2.2.2.2.2.2.1
theorem T0:S0 k_ e9 L_ A_ JT Se wk Sg_ aV HC gO pj g8 P_ N_ e0.2.2.2.2.2.2.2.2.2.2.2.2.2.2.2:=by
 intro vs Θ K cs H LH BH he PO hS hR hK next
 have d8:=eI aV;have hKm:∀{cs} (a b c d:cX),yM Sg_ (xJ.map .str)∈a::b::c::d::pq P_ N_ cs A_ (dm aV) aV JT e9:=λ{z} a b c d=> .tail _ (.tail _ (.tail _ (.tail _ (bL _ (.tail _ (.tail _ (.tail _ hK)))))));refine aC (jN (ctx:=[]) (xs:=(aN 8).map nV) (λi nu=>∃vs cs,nu=cw L_ vs::cD wk (fT (aF aV) (fG B0 0 ((dm aV).take i)))::pq P_ N_ cs A_ (dm aV) aV JT e9/\Sv vs (QC aV HC gO A_ JT Se Sg_ P_.lx wk)/\pn aV gO (2*i) cs/\Fe (fG B0 0 ((dm aV).take i)) i)
  (fL (n:=8) (iN H he H.b_range rfl) aU rfl (by decide)) (by lia) ⟨vs,cs,rfl,hS,hR,Fe.zero⟩ (λi nu h o ho=>(eo ho)) ?_ ?_)
 ·intro i x nu hx eT;refine ir eT λvs cs gi hS hR hB=>?_;clear eT;subst gi;rw [aJ] at hx;refine aK (aL.mp hx) λi' hi' iC=>?_;subst iC;have hi8:i < 8:=by have:=(aB.mp hi').1;exact this
  have:i'=i:=by rw [bz hi8] at hi';exact (aO hi').symm
  subst this;refine aQ (i:=0) (j:=1) he .loc rfl ?_;have hS1:=hS.set (j:=1) (y:=nV i');obtain ⟨q,hq⟩:∃q,(dm aV)[i']? =ae q:=⟨_,bJ (show i' < (dm aV).length from hi8)⟩;have hqD:(dm aV).getD i' (0,0)=q:=by (refine aj (bR ..) ?_;refine aj (hq ..) ?_);rfl
  have Js:=kf aV q (ao hq);have hw:=O1 (ds:=aV) (n6:=gO) hi8;rw [hqD] at hw;refine cq (LH.f207.go) λob z z z P0 Ta z=>cq (H.f256.go) λob2 z z z Ut GN z=>?_
  let qn:Nat->Nat:=λm=>if m=0 then q.1 else q.2
  refine aC (b4 (Lp (ctx:=[]) (xs:=(aN 2).map nV) (λm ys nu=>m<=2/\∃cs,nu=cw L_ (vs.set 1 (ae (nV i')))::cD wk (fT (aF aV) (fG B0 0 ((dm aV).take i')))::pq P_ N_ cs A_ (dm aV) aV JT e9/\pn aV gO (2*i'+m) cs/\ys=(aN m).map λm=>V.str (cB (aF aV+qn m)))
   ⟨rfl,rfl,by decide+kernel,by decide+kernel⟩ (fL (n:=2) (iN H he H.b_range rfl) aU rfl (by decide)) (by lia) (by decide) ⟨gp _,cs,rfl,hR,rfl⟩ (λz z z z o ho=>eo ho) (λm ys nu ⟨_,_,_,_,e⟩=>by refine aj (e ..) ?_;simp) (λC D m x ys nu hx hJ=>?_) (λD ys nu hJ=>?_)) rfl rfl)
  ·refine qr hJ λz cs kG hR ma=>?_;clear hJ;subst kG;subst ma;have hm2:m < 2:=by have:=(aB.mp hx).1;exact this
   refine ⟨_,qB (j:=1) he.comp .loc,?_⟩;have hwm:(ea aV gO)[2*i'+m]? =ae (xJ.getD (qn m) ""):=by
    rcases (by lia:m=0\/m=1) with rfl|rfl
    ·exact hw.1
    ·exact hw.2
   have hqm:qn m < 6:=by
    rcases (by lia:m=0\/m=1) with rfl|rfl
    ·exact Js.1
    ·exact Js.2.2
   refine aK (hR.tok hwm) λcs' ht Ti=>O5 (xs:=(aN 6).map λb=>V.str (cB (aF aV+b))) (ah (j:=7) he.comp (.cell (L_+6) "names") (ab _ (ab _ aa)) (hS1.get rfl)) (DZ (ah (j:=18) he.comp (.cell (L_+10) "signs") (ab _ (ab _ aa)) (hS1.get rfl)) (ty_tk (hKm _ _ _ _)) (cA (pR LH.KO LH.m_get (ah (j:=21) he.comp (.cell (L_+11) "lexer") (ab _ (ab _ aa)) (hS1.get rfl)) (ao (i:=5) rfl) (yP _ _ _) P0 Ta (FW.mono (FW.cons _ (FW.cons _ (FW.cons _ (FW.cons _ (FW.app _ (xI (k:=k_+3) H LH BH PO ht hR.len)))))) λy nu hy=>?_))) PySem.F.plainAttrs_tuple Nw PySem.F.type_tuple_index rfl);obtain ⟨_,e1,_,e2,_,e3,_,e4,_,e5,ey,e6⟩:=hy;subst e6 e5 e4 e3 e2 e1 ey;refine e8 ⟨[bZ (.str (xJ.getD (qn m) ""))],.int (qn m:Nat),λZ vs hv=>?_,Es (hKm _ _ _ _) (Et hqm).1 (Et hqm).2,V.str (cB (aF aV+qn m)),Rz (by delta j9;(refine aj (if_neg (by lia) ..) ?_;refine aj (b8 ..) ?_);exact Mi hqm) (by show -(6:Int)<=_;lia) (by lia) (by show 6 < 2 ^ 62;decide),_,rfl,by lia,cs',rfl,Ti,?_⟩
   ·cases hv with
    |cons a b=>cases b;exact .cons a .nil
   ·(refine aj (qh ..) ?_;refine aj (bj ..) ?_);rfl
  ·refine qr hJ λz cs mE hR q8=>?_;clear hJ;subst mE;subst q8;refine fM.list (Gj (cv rfl rfl (aQ (i:=0) (j:=24) he .loc rfl (cv rfl rfl (aQ (i:=0) (j:=25) he .loc rfl (iX ?_))))));have hS2:=(hS1.set (j:=24) (y:= .str (cB (aF aV+q.1)))).set (j:=25) (y:= .str (cB (aF aV+q.2)));have hq5:q.2∈[1,2,3,4,5]:=by
    have h1:=Js.2.1;have h2:=Js.2.2;rcases (by lia:q.2=1\/q.2=2\/q.2=3\/q.2=4\/q.2=5) with h|h|h|h|h <;> refine aj (h ..) ?_ <;> decide
   refine aC (qC (i:=1) (D:=wk) (x:=cB (aF aV+q.2)) (y:=rr (aF aV) (kl (fG B0 0 ((dm aV).take i')) i' q) q.2) (ju (ys:=[rr (aF aV) (fG B0 0 ((dm aV).take i')) q.2,.tup [.int (if q.1=q.2 then 0 else 1),.int 1,.int i',.int ((i':Int)*i'),cV [(cB (aF aV+q.1),1)]]]) (mn H he H.m_stats rfl) Ut GN (au (bF (wK (ah (j:=41) he (.cell (L_+15) "book") aa (hS2.get rfl)) (ab _ aa)) (ah (j:=25) he .loc aa (hS2.get rfl)) (mh (gb d8 (by decide) hq5))) (au (f9 (xs:=[.int (if q.1=q.2 then 0 else 1),.int 1,.int i',.int ((i':Int)*i'),cV [(cB (aF aV+q.1),1)]]) (au (bM (iZ (iN H he H.b_int rfl) (au (mJ (ah (j:=24) he .loc aa (hS2.get rfl)) (ah (j:=25) he .loc aa (hS2.get rfl)) tC) aT) rH) (congrArg V.int (nme d8 Js.1 Js.2.2))) (au aU (au (ah (j:=1) he .loc aa (hS2.get rfl)) (au (br (ah (j:=1) he .loc aa (hS2.get rfl)) (ah (j:=1) he .loc aa (hS2.get rfl)) (mY (by lia))) (au (bF (pN (ah (j:=23) he .loc aa (hS2.get rfl))) (ah (j:=24) he .loc aa (hS2.get rfl)) (mh (gb d8 (by decide) (aY.mpr Js.1)))) aT))))) (by show 5<=2 ^ 20;decide)) aT)) (FW.mono (Ba (k:=k_+5) H d8 hB (by exact aw (eB (by assumption)) (by decide)) Js.1) λy nu h=>h)) (ah (j:=41) he (.cell (L_+15) "book") aa (hS2.get rfl)) (ah (j:=25) he .loc aa (hS2.get rfl)) rfl (by show 5<=2 ^ 24;decide) ?_);refine bC ⟨_,cs,?_,hS2.sub ⟨rfl,rfl,rfl,rfl,rfl,rfl,rfl,rfl,rfl,rfl,rfl,rfl,rfl,rfl,rfl,rfl,trivial⟩,?_,?_⟩
   ·(refine aj (lM hq ..) ?_;refine aj (kF ..) ?_;refine aj (dR ..) ?_;refine aj (Nat.min_eq_left (eB (show i' < (dm aV).length from hi8))) ?_;refine aj (eC ..) ?_)
    show _::cD wk (jE (fT (aF aV) _) _ _)::_=_;refine aj (Er d8 hq5 ..) ?_;rfl
   ·have e:2*i'+((aN 2).map nV).length=2*(i'+1):=by simp;lia
    refine fZ (e ..) ?_;exact hR
   ·(refine aj (lM hq ..) ?_;refine aj (kF ..) ?_)
    exact hB.step Js.1
 ·intro nu uf;refine ir uf λvs cs mP hS hR hB=>?_;clear uf;subst mP;refine bC (next vs cs hS hR ?_);exact hB
end tW
theorem tW{pm doc:ai}{P:ib}{N:Int}:tW.S0 k mu L A Du Oc Bk Sg ds ns n6 pm doc P N 0:=by with_unfolding_all exact Au _ _ _ _ _ _ _ _ _ _ _ _ _ _ _ _ tW.S0 @tW.T0 k mu L A Du Oc Bk Sg ds ns n6 pm doc P N 0
theorem Bb:∀(l1 l2:List d6) (env:gV),Jx (l1++l2) env=(Jx l1 env >>=λf=>match f with
 | .next=>Jx l2 env
 |f=>dg f)
 |[],l2,env=>by
  show Jx l2 env=((dg Flow.next:mF uk) >>=_);rw [pure_bind]
 |st::l1,l2,env=>by
  rw [fU,execs_cons,execs_cons,bind_assoc];congr 1;funext f;cases f with
  |next=>exact Bb l1 l2 env
  |_=>exact (pure_bind ..).symm
theorem O6{l1 l2:List d6}(h:WS k mu env l1 (K9 k env l2 Θ)):ym k mu env (l1++l2) Θ:=⟨λ{A E Z s fr outer Q} hA hf iD r q=>by
 rw [Bb];refine ag (h.c hA r λ{f s1 Z1 a nu} z1 f1 r1 w=>?_)
 revert w
 exact o7.by f1 (λw=>Wf.c (show ym k nu env l2 Θ from w) hA hf iD r1 λ{z z z z z} z2=>q (z1.trans z2)) (λw=>ar (q z1 .brk r1 w)) (λw=>ar (q z1 .cont r1 w)) λv x hv w=>ar (q z1 (.ret hv) r1 w)⟩
theorem I4:fR (cM 23)=mw 0++je 15:=(oq 15 _).symm
theorem Ck{a:Nat}{l:List Nat}{xs:List Int}:∃w:Int,iA n6 xs (a::l)=iA n6 (xs++gm a w) l:=⟨_,rfl⟩
theorem Mj{a b c d:Nat}{xs:List Int}:∃w1 w2 w3 w4:Int,iA n6 xs [a,b,c,d]=xs++(gm a w1++gm b w2++gm c w3++gm d w4):=by
 refine cJ (Ck (n6:=n6) (a:=a) (l:=[b,c,d]) (xs:=xs)) λw1 e1=>cJ (Ck (n6:=n6) (a:=b) (l:=[c,d]) (xs:=xs++gm a w1)) λw2 e2=>cJ (Ck (n6:=n6) (a:=c) (l:=[d]) (xs:=xs++gm a w1++gm b w2)) λw3 e3=>cJ (Ck (n6:=n6) (a:=d) (l:=[]) (xs:=xs++gm a w1++gm b w2++gm c w3)) λw4 e4=>⟨w1,w2,w3,w4,?_⟩
 rw [e1,e2,e3,e4];show xs++gm a w1++gm b w2++gm c w3++gm d w4=_;simp only [bU]
theorem yQ{a b c d:Nat}{w1 w2 w3 w4:Int}(ha:a < 4096)(hb:b < 4096)(hc:c < 4096)(hd:d < 4096)(rs:List Nat):
 yo ((gm a w1++gm b w2++gm c w3++gm d w4).map ux++rs)=ae ((a,b,c,d),rs):=by
 simp only [bj,bU];delta yo;exact dq.mpr ⟨_,sH ha _,dq.mpr ⟨_,sH hb _,dq.mpr ⟨_,sH hc _,dq.mpr ⟨_,sH hd _,rfl⟩⟩⟩⟩
noncomputable def QD(ds:List Nat)(p:Nat):Nat×Nat×Nat×Nat:=(cc ds (sP ds p),cc ds (eP ds p) - cc ds (sP ds p),cc ds (tP ds p),lP ds p)
def lN.S0(ds:List Nat)(n6:Nat):Prop:=∀{ns:List Int} (h:Dr ds ns n6),D2 ((tT ds n6).map ux) [QD ds 10,QD ds 14]
namespace lN
@[irreducible] def e0:=Qi gD eN S0
def aV:=e0.1
def gO:=e0.2
theorem T0:S0 aV gO:=by
 intro ns h;have hb:∀b,b<=6->cc aV b < 4096:=λb hb=>by have:=Ee h b hb;exact b7 (by assumption) (by decide)
 have hl:∀p,lP aV p < 4096:=λp=>by have:=h.dlt (p+3);delta lP;exact cb (by assumption) (by decide)
 obtain ⟨w1,w2,w3,w4,e1⟩:=Mj (n6:=gO) (a:=cc aV (sP aV 10)) (b:=cc aV (eP aV 10) - cc aV (sP aV 10)) (c:=cc aV (tP aV 10)) (d:=lP aV 10) (xs:=[]);obtain ⟨w1',w2',w3',w4',e2⟩:=Mj (n6:=gO) (a:=cc aV (sP aV 14)) (b:=cc aV (eP aV 14) - cc aV (sP aV 14)) (c:=cc aV (tP aV 14)) (d:=lP aV 14) (xs:=iA gO [] (jy aV 10));have e:eQ aV gO [10,14]=(gm (cc aV (sP aV 10)) w1++gm (cc aV (eP aV 10) - cc aV (sP aV 10):Nat) w2++gm (cc aV (tP aV 10)) w3++gm (lP aV 10) w4)++(gm (cc aV (sP aV 14)) w1'++gm (cc aV (eP aV 14) - cc aV (sP aV 14):Nat) w2'++gm (cc aV (tP aV 14)) w3'++gm (lP aV 14) w4'):=by show iA gO (iA gO [] (jy aV 10)) (jy aV 14)=_;rw [show iA gO (iA gO [] (jy aV 10)) (jy aV 14)=_ from e2,show iA gO [] (jy aV 10)=_ from e1,qj]
 have h6:∀p,sP aV p<=6:=λp=>eB (HD p);have t6:∀p,tP aV p<=6:=λp=>eB (HE p).2;have k1:∀p,cc aV (eP aV p) - cc aV (sP aV p) < 4096:=λp=>by have:=hb _ (LZ (ds:=aV) p).2;lia
 have sm:∀{n},n < 4096->n < 2 ^ 60:=λ{z} h=>by exact cb (by assumption) (by decide)
 delta tT;generalize ht:(eQ aV gO [10,14]).take (gO % 4)=tail;have htl:tail.length<=3:=by rw [<- ht,dR];have:=ee gO (show 0 < 4 by decide);lia
 rw [e,bU,bj];refine .more (yQ (hb _ (h6 10)) (k1 10) (hb _ (t6 10)) (hl 10) _) (sm (hb _ (h6 10))) (sm (k1 10)) (sm (hb _ (t6 10))) (sm (hl 10)) ?_;rw [bj];exact .more (yQ (hb _ (h6 14)) (k1 14) (hb _ (t6 14)) (hl 14) _) (sm (hb _ (h6 14))) (sm (k1 14)) (sm (hb _ (t6 14))) (sm (hl 14)) (.stop (DS (by rw [ak];exact Nat.lt_succ_of_le (by assumption))) (by rw [ak];exact aw (by assumption) (by decide)))
end lN
theorem lN:lN.S0 ds n6:=by with_unfolding_all exact Fp _ _ lN.S0 @lN.T0 ds n6
theorem Cm:(JN (tn (qN ds n6))).toList.map pM=(tT ds n6).map ux:=by
 have hlt:∀c∈(tT ds n6).map ux,c < 256:=λc hc=>by
  refine aK (aG.mp hc) λo ho dO=>?_;subst dO;have:=u4 o ho;lia
 delta JN tn;rw [tU];generalize (tT ds n6).map ux=l at hlt;simp only [a0];refine (b5 λc hc=>?_).trans (xA l);show ((fB c).toNat.toUInt8).toNat=c;show c % 256=c;exact Nat.mod_eq_of_lt (hlt c hc)
theorem Wf.drop1{t:mF uk}{a:cX}(h:Wf k nu env t Θ):Wf k (a::nu) env t Θ:=⟨λ{A E Z s fr outer Q} hA hf iD r=>h.c hA hf iD (r.sublist (.cons _ (sS _)))⟩
theorem Wf.to{t:mF uk}(js:List Nat)(h:Wf k (qO js nu) env t Θ):Wf k nu env t Θ:=⟨λ{A E Z s fr outer Q} hA hf iD r=>h.c hA hf iD (r.perm ((nh js nu).append_right fr))⟩
theorem JS.mono{f:ai}{xs:List V}{Φ':V->Mu->Prop}(h:JS k mu f xs Φ)(hi:∀y nu,Φ y nu->Φ' y nu):JS k mu f xs Φ':=⟨λ{x x x x x x x x} hA hf iD r hv q=>h.c hA hf iD r hv λ{x x x x x} z w r u=>q z w r (hi _ _ u)⟩
noncomputable def Mk(ds:List Nat):V:= .list ([QD ds 10,QD ds 14].map D3)
noncomputable abbrev S15(ds:List Nat)(ns:List Int)(n6:Nat)(A Du Oc Sg lx Bk:ay):List (Nat×V):=(26,Mk ds)::QC ds ns n6 A Du Oc Sg lx Bk
theorem Cn(x:bb):IW x.cps.toList= .str x:=by
 cases x with
 |mk c=>cases c;rfl
def tX.S0(k:Nat)(mu:Mu)(vs:el)(Θ:AF->Mu->Prop)(L A Du Bk:ay)(ds:List Nat)(n6:Nat)(pm doc:ai)(P:ib)(N:Int)(cs:List Nat)(B:Rw):Prop:=∀{Oc Sg:ay} {ns:List Int} {K:fH} (H:Hy G) (LH:fN G K) (BH:yz K) (GH:Lv G) (EH:gN G K) (he:du (bT pm doc L)) (hk:vZ (bT pm doc L)) (hD:Dr ds ns n6) (PO:mV P) (hS:Sv vs (QC ds ns n6 A Du Oc Sg P.lx Bk)) (hR:pn ds n6 16 cs) (next:∀vs cs,Sv vs (S15 ds ns n6 A Du Oc Sg P.lx Bk)->pn ds n6 17 cs->ym (k+8) (cw L vs::cD Bk (fT (aF ds) B)::pq P N cs A (dm ds) ds Du mu) (bT pm doc L) (je 16) Θ),ym (k+8) (cw L vs::cD Bk (fT (aF ds) B)::pq P N cs A (dm ds) ds Du mu) (bT pm doc L) (je 15) Θ
namespace tX
@[irreducible] def e0:=Fs eN gD gD ta cL cL cL cL gD eN gL gL IV Ra gD RQ S0
def k_:=e0.1
def e9:=e0.2.1
def kR:=e0.2.2.1
def Θ_:=e0.2.2.2.1
def L_:=e0.2.2.2.2.1
def A_:=e0.2.2.2.2.2.1
def JT:=e0.2.2.2.2.2.2.1
def wk:=e0.2.2.2.2.2.2.2.1
def aV:=e0.2.2.2.2.2.2.2.2.1
def gO:=e0.2.2.2.2.2.2.2.2.2.1
def pj:=e0.2.2.2.2.2.2.2.2.2.2.1
def g8:=e0.2.2.2.2.2.2.2.2.2.2.2.1
def P_:=e0.2.2.2.2.2.2.2.2.2.2.2.2.1
def N_:=e0.2.2.2.2.2.2.2.2.2.2.2.2.2.1
def qP:=e0.2.2.2.2.2.2.2.2.2.2.2.2.2.2.1
def B_:=e0.2.2.2.2.2.2.2.2.2.2.2.2.2.2.2
theorem T0:S0 k_ e9 kR Θ_ L_ A_ JT wk aV gO pj g8 P_ N_ qP B_:=by
 intro Oc Sg ns K H LH BH GH EH he hk hD PO hS hR next
 refine aK (hR.tok O2) λcs' ht Ti=>cq (LH.f207.go) λob z z z P0 Ta z=>cE (GH.f275.go) λob2 z z g0 gd0 z=>cq (H.f179.go) λob3 z z z t0 td z=>nJ (F1 (AR hk (mn H he H.m_table rfl) t0 td (cA (ml (mn H he H.m_given rfl) g0 gd0 (cA (pR LH.KO LH.m_get (ah (j:=21) he (.cell (L_+11) "lexer") aa (hS.get rfl)) (ao (i:=3) rfl) (yP _ _ _) P0 Ta (FW.mono (FW.cons _ (FW.cons _ (FW.app _ (xI (k:=k_+3) H LH BH PO ht hR.len)))) λy nu hq=>?_)))))) rfl rfl);obtain ⟨_,e1,_,e2,_,e3,ey,e4⟩:=hq;subst e4 e3 e2 e1 ey;rw [Cn];refine e8 (FW.mono (m9 (k:=k_+6) (i:=8) (text:=qN aV gO) (o:=ae (P_.a,P_.b)) H GH rfl A6 (aw yK (by decide))) λy nu hq=>?_);obtain ⟨f,dx,lam,it,L1,gd,ld,a,b,e1,xb,hRd,e2⟩:=hq;cases xb _ rfl;subst e1 e2;refine e8 ⟨[_,_,_,_],_,ic _,⟨_,_,aa⟩,JS.mono (Hw (k:=k_+4) (qs:=[QD aV 10,QD aV 14]) H EH (.tail _ (.head _)) (by show (["read","co_exceptiontable"]:List bb).Nodup;decide) (.tail _ (.head _)) (by rw [Cm];exact lN hD) (by show 2<=2 ^ 20;decide)) λy nu hq=>?_⟩;refine dU hq λe1 e2=>?_;clear hq;subst e1 e2;refine ⟨_,ic _,aQ (i:=4) (j:=26) he .loc rfl ?_⟩;refine Wf.drop1 (Wf.drop1 (Wf.drop1 (Wf.drop1 (next _ cs' (hS.set (j:=26)) Ti))))
end tX
theorem tX{pm doc:ai}{P:ib}{N:Int}{cs:List Nat}{B:Rw}:tX.S0 k mu vs Θ L A Du Bk ds n6 pm doc P N cs B:=by with_unfolding_all exact Au _ _ _ _ _ _ _ _ _ _ _ _ _ _ _ _ tX.S0 @tX.T0 k mu vs Θ L A Du Bk ds n6 pm doc P N cs B
variable {name:bb}{apos:jX}
section
open Builtin Builtin.ObjectAttr Builtin.Getset_descriptor Builtin.Tuple
section
variable {A:bh}{x:ay}{expr:Bool}{Q:ai->aq->Prop}
theorem I5{M:zG}{h:dH}{a g:ai}(X:K.In h)(ha:fJ K (.ref C) name=ae (ae a))(hg:Fh K a "__get__"=ae (ae g))(ht:Uz K a=ae aI):iL M h (find (.ref x) (.ref C) name) (.bind g a):=by have L1:=mT (M:=M) X ha;have L2:iL M h (getOf (ae a)) (ae g):=looks_specialIn X hg;have L3:=looks_takesIn (M:=M) X ht;exact L1.andThen (L2.andThen ((show iL M h (dataDescriptor? (ae a) (ae g)) (ae (g,a)) from L3.andThen .now).andThen (Looks.tag .now)))
theorem Ml:uq TL "tuple.__getattribute__"=ae Builtin.«object.__getattribute__»:=F.entry_tuple_ga
theorem O7:CO "tuple.__getattribute__"=ae .slot:=by kernel_rfl
theorem Mm:Q3 "tuple.__getattribute__"=ae ("tuple","__getattribute__"):=by kernel_rfl
theorem ga_ne:(iG "tuple.__getattribute__" == iG "object.__getattribute__")=aH:=by decide+kernel
def lO.S0(prog:dB)(w:d9)(A:bh)(E:ai->aq->Prop)(x C:ay)(name:bb)(Q:ai->aq->Prop):Prop:=∀{s:aq} {K:fH} {a g:ai} (X:K.In s.heap) (L0:∀M,iL M s.heap (jT (.ref x)) (.ref C)) (LT:iL (aX prog w) s.heap (ui (.ref x) (.type "tuple")) aI) (hga:fJ K (.ref C) "__getattribute__"=ae (ae (.builtin "tuple.__getattribute__"))) (ha:fJ K (.ref C) name=ae (ae a)) (hg:Fh K a "__get__"=ae (ae g)) (ht:Uz K a=ae aI) (hk:fJ K (.ref C) "__getattr__"=ae av) (h:∀E2,aS (aX prog w) A.in1 (ku g [a,.ref x,.ref C]) (λv s'=>aS (aX prog w) A (handedOut v) Q E s') E2 {s with toks:=s.toks+1}),aS (aX prog w) A (s9 (.ref x) name aI) Q E s
namespace lO
@[irreducible] def e0:=NB sY Fb Fv ta cL cL inferInstance ta S0
def cT:=e0.1
def w_:=e0.2.1
def A_:=e0.2.2.1
def E_:=e0.2.2.2.1
def x_:=e0.2.2.2.2.1
def C_:=e0.2.2.2.2.2.1
def iz:=e0.2.2.2.2.2.2.1
def Q_:=e0.2.2.2.2.2.2.2
theorem T0:S0 cT w_ A_ E_ x_ C_ iz Q_:=by intro s K a g X L0 LT hga ha hg ht hk h;obtain ⟨hh,gg,d,t,os⟩:=s;have L1:=mT (M:=aX cT w_) X hga;have L3:=mT (M:=aX cT w_) X hk;have L2:=I5 (M:=aX cT w_) (x:=x_) X ha hg ht;delta s9 getAttrBy;refine ag (JM (bE (ag ((L0 _).at (ag (L1.at ?_))))));show aS _ _ (if (onTheHeap (.ref C_) && (iG "tuple.__getattribute__" == iG "object.__getattribute__"))=aI then _ else _) _ _ _;refine aj (ga_ne ..) ?_;refine aj (kN ..) ?_;refine aj (if_neg (by decide) ..) ?_;show aS _ _ (hookBefore (.ref C_) >>=_) _ _ _;delta hookBefore;refine aj (if_pos (by rfl) ..) (ag (L3.at (ag (kT (bE ?_)))));delta callGetattribute;refine aj (if_neg (by decide) ..) ?_;delta TO;refine aj (vk.bind (.ref x_) ..) (ag (ar ?_));refine eF (codeAny_call_builtin_at (rp vk.plain _) Ml ?_);refine aj (gQ vk.plain _ ..) (@rz (aX cT w_) _ _ ⟨hh,gg,d,t+1,os⟩ "tuple.__getattribute__" "tuple" "__getattribute__" (.ref x_) [.str iz t] [] _ O7 Mm LT (F.args_tuple_getattribute_2 _ _) ?_);unfold Builtin.«object.__getattribute__»;refine ag (cN (a:=(cY x_,[Value.str iz t])) (by rfl) ?_);dsimp only;refine ag (cN (a:=iz) (by rfl) ?_);refine ag ((L0 _).at (ag (L2.at ?_)));show aS _ _ (eV [a] (ku g [a,.ref x_,.ref C_]) >>=vn) _ _ _;refine ag (bE (eR (h _) (λv s' z=>ar ?_) λy y z=>z));exact z
end lO
theorem lO:lO.S0 prog w A E x C name Q:=by with_unfolding_all exact BB _ _ _ _ _ _ _ _ lO.S0 @lO.T0 prog w A E x C name Q
end
theorem u5(l:ay)(o:o6)(items:Array ai)(n:Nat)(hd:o.data= .seq items n)(i:Nat)(u:HX)(y:ai)(hy:items[i]? =ae y)(hi:i < 2 ^ 62):
 Meets (Builtin.«tuple.__getitem__» ⟨[.ref l,.int i u],[]⟩) (λz R s=>s.heap.get? l=ae o/\R (.ok (.ret y)) s):=
 .of_wp λprog w A R s h=>by
  obtain ⟨hp,g,d,tk,os⟩:=s;obtain ⟨hl,h⟩:=h;have hlt:=(rx.mp hy).1;have hk:Nl (i:Int) items.size=ae i:=by unfold Nl;simp;lia
  unfold Builtin.«tuple.__getitem__»;refine ag (cN (a:=(cY l,[jS i u])) (by rfl) ?_);dsimp only;refine ag (wpAny_tupleItemsOf hl hd ?_);refine ag (cN (a:=lX "int") (by rfl) ?_);refine aj (if_neg (by decide) ..) (ag (h8 (typeIs_int _ _ _) F.slot_int_index.lookup ?_));refine aj (if_neg (by decide) ..) (ag (cN (a:=(i:Int)) (by rfl) ?_));refine aj (if_neg (by simp;lia) ..) ?_;refine aj (hk ..) ?_;refine aj (EW ..) ?_;refine aj (hy ..) ?_;exact ar ⟨_,rfl,h⟩
theorem wm{Z:bI}{s:aq}(EH:gN G K){v:ai}(r:R Z mu s)(h:aZ G Z v (.ent xs)):∃a o vs n,v= .ref a/\s.heap.get? a=ae o/\o.cls= .ref 162/\o.data= .seq vs n/\bW G Z vs.toList xs:=
 (aZ.ent_inv h).imp λa=>bQ λo=>bQ λvs=>bQ λn w=>⟨w.1,r.zin _ _ w.2.1,by (refine aj (w.2.2.1 ..) ?_;refine aj (EH.ent ..) ?_;rfl),w.2.2.2⟩
theorem sL{M:zG}{h:dH}{a:ay}{o:o6}(he:h.get? a=ae o)(hc:o.cls= .ref 162):iL M h (jT (.ref a)) (.ref 162):=hc▸(sx he).andThen .now
theorem yR(EH:gN G K){h:dH}(X:K.In h){a:ay}{o:o6}(he:h.get? a=ae o)(hc:o.cls= .ref 162):iL (aX G.prog G.w) h (ui (.ref a) (.type "tuple")) aI:=(sL he hc).andThen (fD X EH.subT)
theorem Gk(EH:gN G K):te k mu .Is (bZ (.ent xs)) (bZ .none) aH:=⟨λ{A E Z s fr v u T} hA r hp hq q=>by
 refine dK (wm EH r.left hp) λa o vs n dO h1 h2 h3 h4=>?_;subst dO;refine aj (aZ.noneE hq ..) ?_;exact is_none (q .rfl (.bool _) r)⟩
theorem Mn(EH:gN G K):Fn k mu (.type "type") [bZ (.ent xs)] (bZ (.ref 162)):=⟨λ{A E Z s fr vs Q} hA r hq q=>by
 refine aK (hq.one) λv eT q1=>?_;subst eT;refine dK (wm EH r.left q1) λa o vs n gi h1 h2 h3 h4=>?_;subst gi;refine PyProof.Rows.call_type_obj h1 (by refine aj (h2 ..) ?_;rfl) ?_;refine aj (h2 ..) ?_;exact q .rfl (aZ.ref _) r⟩
theorem I6(EH:gN G K):Fn k mu (.builtin "issubclass") [bZ (.ref 162),bZ (.type "tuple")] (bZ (.bool aI)):=⟨λ{A E Z s fr vs Q} hA r hq q=>by
 refine cC (hq.two) λv u iC q1 q2=>?_;subst iC;refine aj (aZ.refE q1 ..) ?_;refine aj (aZ.typeE q2 ..) ?_;have X:K.In s.heap:=EH.KO.inn _ r.z0in;have hs:=fD X EH.subT;have hi:=fD X EH.isT;refine eF (kK ?_);have ck:iI "issubclass" ⟨[.ref 162,.type "tuple"],[]⟩=dg ():=by have h1:ri "issubclass" ⟨[.ref 162,.type "tuple"],[]⟩:=F.args_issubclass_2 _ _;delta iI;exact aj (F.kind_issubclass ..) (h1)
 show aS _ A.in1 (do iI "issubclass" ⟨[.ref 162,.type "tuple"],[]⟩;NP (.builtin "issubclass" ⟨[.ref 162,.type "tuple"],[]⟩)) _ _ _;refine aj (ck ..) (ag (ar (ar ⟨rp F.plain_issubclass _,kO F.entry_issubclass ?_⟩)));refine aj (gQ F.plain_issubclass _ ..) (PyProof.Rows.issubclass_outer ?_);unfold Builtin.«issubclass.nested»;dsimp only;refine ag (cN (a:=lX "type") (by kernel_rfl) ?_);show aS _ _ ((isType (.ref 162) >>=_) >>=_) _ _ _;refine ag (ag (hi.here (ag (cN (a:=aI) (by kernel_rfl) ?_))));refine aj (if_pos (by rfl) ..) (hs.here ?_);exact ar (q .rfl (aZ.bool _) r)⟩
theorem O8:CO "tuple.__getitem__"=ae .slot:=by kernel_rfl
theorem Mo:Q3 "tuple.__getitem__"=ae ("tuple","__getitem__"):=by kernel_rfl
theorem Gl(EH:gN G K){i:Nat}(hx:xs[i]? =ae y)(hl:xs.length<=1000):Fn k mu (.builtin "tuple.__getitem__") [bZ (.ent xs),bZ (.int i)] (bZ y):=⟨λ{A E Z s fr vs Q} hA r hq q=>by
 refine cC (hq.two) λv u kG q1 q2=>?_;subst kG;refine dK (wm EH r.left q1) λa o ws n ma h1 h2 h3 h4=>?_;subst ma;refine cJ (gF q2) λtk mE=>?_;subst mE;have X:K.In s.heap:=EH.KO.inn _ r.z0in;refine aK (h4.get hx) λw h5 h6=>?_;have hi:i < xs.length:=(aB.mp hx).1;refine eF ?_;refine kK ?_;show aS _ A.in1 (do iI "tuple.__getitem__" ⟨[.ref a,.int i tk],[]⟩;NP (.builtin "tuple.__getitem__" ⟨[.ref a,.int i tk],[]⟩)) _ _ _;refine ag (@rz (aX G.prog G.w) _ _ s "tuple.__getitem__" "tuple" "__getitem__" (.ref a) [.int i tk] [] _ O8 Mo (yR EH X h1 h2) (F.args_tuple_getitem_2 _ _) ?_);refine ar ⟨rp F.slot_tuple_getitem.plain _,kO F.entry_tuple_getitem ?_⟩;refine aj (gQ F.slot_tuple_getitem.plain _ ..) ?_;exact (u5 a o ws n h3 i tk w (bV.symm.trans h5) (by lia)) G.prog G.w A (wants Q E) s ⟨h1,q .rfl h6 r⟩⟩
end
section
variable {x dx:ay}{Ps:List (Vw)}{S:Vw}
theorem Si{k:Nat}{mu:Mu}{xs:List V}{Φ:V->Mu->Prop}(B:g7 G){fd:cm}{a:ay}{ob:o6}{body:List d6}{names:List bb}{vals':ay->el}(Bw:Kn mu λhp=>hp.get? a=ae ob)(hd:ob.data= .func fd)(hcd:Kn mu λhp=>hp.CodeRec fd.code fd.qualname)(sr:fd.body= .stmts body)
 (i0:∀(s:aq) vs,(∀a o,G.Z0 a=ae o->s.heap.get? a=ae o)->vs.length=xs.length->BindsTo s fd ⟨vs,[]⟩ (names.zip vs)) (hnd:(aM 0 fd.scope.names).nd) (he:∀L,du (dT fd a L))
 (hb:∀L,i9 (dT fd a L) L (aM (L+1) fd.scope.names) names xs (nones (aM (L+1) fd.scope.names)) (vals' L))
 (h:∀L,WS k (vS fd L (vals' L)::mu) (dT fd a L) body (lE Φ)) (wy:autoParam (fd.scope.isCoroutine=aH) aR) (mQ:autoParam (fd.scope.isGenerator=aH) aR):FW (k+1) mu (.ref a) xs Φ:=⟨λ{A E Z s fr vs Q} hA r hv q=>by
 refine eF (qq hA.depth (Bw.app r) hd wy mQ sr (hcd.app r) ?_);refine i0 s vs r.z0in hv.length _ _ _ _ (pP (vals':=vals' s.heap.objs.size) r hnd (he _) hv (hb _) λs' r'=>⟨B.lim _ r'.z0in,JF ?_⟩);refine (h s.heap.objs.size).c (hA.deeper _) r' λ{f s2 Z2 af ue} z2 f2 r2 w2=>?_
 revert w2
 exact o7.by f2 (λw=>jJ.c (show jJ .none ue Φ from w) r2 .none λ{z z z} z3=>q (z2.trans z3)) (λw=>w.elim) (λw=>w.elim) λv x hv w=>jJ.c (show jJ x ue Φ from w) r2 hv λ{z z z} z3=>q (z2.trans z3)⟩
structure Co(G:Gd)(a:ay)(st:d6)(qual:bb):Prop where
 go:∃ob pm cd doc T o n,G.Z0 a=ae ob/\ob.data= .func {Av st qual pm cd doc with defaults:= .ref T}/\G.Z0 T=ae o/\o.data= .seq #[.none] n/\∀h:dH,(∀a o,G.Z0 a=ae o->h.get? a=ae o)->h.CodeRec cd qual
theorem Sj{k:Nat}{mu:Mu}{xs:List V}{Φ:V->Mu->Prop}(H:Hy G){a:ay}{st:d6}{qual:bb}(F:Co G a st qual){names:List bb}{vals':ay->el}
 (i0:∀pm cd doc T (s:aq) o n vs,s.heap.get? T=ae o->o.data= .seq #[.none] n->vs.length=xs.length->BindsTo s {Av st qual pm cd doc with defaults:= .ref T} ⟨vs,[]⟩ (names.zip vs)) (hnd:(aM 0 (bk st).names).nd) (hk:(bk st).kind= .function)
 (hb:∀pm cd doc T L,i9 (dT {Av st qual pm cd doc with defaults:= .ref T} a L) L (aM (L+1) (bk st).names) names xs (nones (aM (L+1) (bk st).names)) (vals' L))
 (h:∀pm cd doc T L,du (dT {Av st qual pm cd doc with defaults:= .ref T} a L)->WS k (bq L (aM (L+1) (bk st).names) (vals' L)::mu) (dT {Av st qual pm cd doc with defaults:= .ref T} a L) (fR st) (lE Φ)) (wy:autoParam ((bk st).isCoroutine=aH) aR) (mQ:autoParam ((bk st).isGenerator=aH) aR):
 FW (k+1) mu (.ref a) xs Φ:=by
 obtain ⟨ob,pm,cd,doc,T,o,n,h0,hd,hT,hn,hcd⟩:=F.go;exact Si H.B (names:=names) (vals':=vals') (Kn.z0 h0) hd (λZ s r=>hcd _ r.z0in) rfl (λs vs hz hl=>i0 pm cd doc T s o n vs (hz T o hT) hn hl) hnd (λL=>⟨hk,rfl,rfl⟩) (hb pm cd doc T) (λL=>h pm cd doc T L ⟨hk,rfl,rfl⟩) wy mQ
structure w0(K:fH)(name:bb)(g:ay)(i:Nat):Prop where
 find:fJ K (.ref 162) name=ae (ae (.ref g))
 spec:Fh K (.ref g) "__get__"=ae (ae (.ref 43))
 takes:Uz K (.ref g)=ae aI
 inst:∃d,K.lookup g=ae (Ag 60 d)/\∃es n t,K.lookup d=ae (i3 es n)/\getL "index" es=ae (ae (.int i t))
def sa(G:Gd)(K:fH):Prop:=
 (Co G 43 (jl 2 1) "_tuplegetter.__get__")/\
 (eS K 60 "index"=aI)/\
 (fJ K (.ref 162) "__getattribute__"=ae (ae (.builtin "tuple.__getattribute__")))/\
 (fJ K (.ref 162) "__getattr__"=ae av)/\
 (Fi K (.type "tuple") (.type "type") "__getitem__"=ae (.val (.builtin "tuple.__getitem__")))/\
 (G.mg "type"=av)/\
 (G.mg "issubclass"=av)/\
 (∃g,w0 K "start" g 0)/\
 (∃g,w0 K "end" g 1)/\
 (∃g,w0 K "target" g 2)/\
 (∃g,w0 K "depth" g 3)/\
 ∃g,w0 K "lasti" g 4
section
variable {G:Gd}(h:sa G K)
def sa.f43:=@h.1
def sa.p60:=@h.2.1
def sa.ga:=@h.2.2.1
def sa.gx:=@h.2.2.2.1
def sa.titem:=@h.2.2.2.2.1
def sa.b_type:=@h.2.2.2.2.2.1
def sa.b_issub:=@h.2.2.2.2.2.2.1
def sa.g0:=@h.2.2.2.2.2.2.2.1
def sa.g1:=@h.2.2.2.2.2.2.2.2.1
def sa.g2:=@h.2.2.2.2.2.2.2.2.2.1
def sa.g3:=@h.2.2.2.2.2.2.2.2.2.2.1
def sa.g4:=@h.2.2.2.2.2.2.2.2.2.2.2
end
theorem Mp{de:List gA}{n:Nat}{v:ai}(KO:FX G K)(hp:eS K C name=aI)(ho:PE k mu env o (.ref x))(hx:K.lookup x=ae (Ag C dx))(hd:K.lookup dx=ae (i3 de n))(hv:getL name de=ae (ae v))(hr:aZ G G.Z0 v y)(hy:∀n,y≠ .bi n)
 (he:autoParam (dW (.Attribute o name p) env=(do let ov <- dW o env;iE p.atName;let r <- eV [ov] (s9 ov name aI);pG o ov r;dg r)) aR):PE k mu env (.Attribute o name p) y:=⟨λ{A E Z s fr Q} hA r q=>by
 refine gZ ?_ he;refine ho.c hA r λ{ov s1 Z1} z1 q1 r1=>aj (aZ.refE q1 ..) ?_;have X:K.In s1.heap:=KO.inn _ r1.z0in;refine dU (cn.mp hp) λS6 h3=>dU (cn.mp S6) λh1 h2=>aK (any_some h1) λcd hcd ET=>get_value X (⟨X _ _ hx,rfl,rfl,X _ _ hd⟩:InstAt s1.heap x (Ag C dx) C (ae (i3 de n))) (jD h3) ?_ (m8 hr hy) (q z1 (hr.mono r1.z0) r1.toks);exact DJ hcd (jD h2) ET hv⟩
theorem Gm{f name:bb}{id:String}{fp:jX}{pl:mF Bool}(EH:gN G K)(hn:Fi K (.type "tuple") (.type "type") name=ae (.val (.builtin id)))(hf:PE k mu env (.Name f fp) (.type "tuple"))(ha:tD k mu env (e::es) Ps)(hF:Fn k mu (.builtin id) Ps S)(hh:handedIn (.builtin id)=aI:=by kernel_rfl!)(wz:autoParam (kh (e::es)=aI) aR)
 (he:autoParam (dW (.Call (.Attribute (.Name f fp) name apos) (e::es) [] pos) env=(do let ov <- dW (.Name f fp) env;iE apos.atName;let (f,first) <- eV [ov] (mB ov name pl);pF pos f first (lj pos (fo (e::es) env)) [])) aR):
 EV k mu env (.Call (.Attribute (.Name f fp) name apos) (e::es) [] pos) S:=⟨λ{A E Z s fr Q} hA r q=>by
 refine i5 (pl:=pl) ?_ he;refine hf.c hA r λ{ov s1 Z1} z1 q1 r1=>aj (aZ.typeE q1 ..) (uW (T:="tuple") (v:= .builtin id) (pl:=pl) (EH.KO.inn _ r1.z0in) DV DU hn hh ?_);exact Hg ha hA r1.toks λ{z z z} z2 q2 r2=>hF.c hA r2 q2 λ{z z z} z3=>q (z1.trans (z2.trans z3))⟩
theorem Mq(H:Hy G)(EH:gN G K)(TH:sa G K){g:ay}{i:Nat}(hg:w0 K name g i)(hx:xs[i]? =ae y)(hl:xs.length<=1000):FW (k+2) mu (.ref 43) [.ref g,.ent xs,.ref 162] λr nu=>r=y/\nu=mu:=by
 refine Sj H TH.f43 (names:=["self","obj","objtype"]) (vals':=λL=>[ae (.ref g),ae (.ent xs),ae (.ref 162)]) (λpm cd doc T s o n vs ho hs h=>?_) (by decide+kernel) rfl (λpm cd doc dv L=>?_) (λpm cd doc dv L he=>?_)
 ·exact Oo h λa b c=>BindsTo.of_defaults rfl ho hs rfl rfl
 ·exact .cons (j:=0) .loc rfl (.cons (j:=1) .loc rfl (.cons (j:=2) .loc rfl .nil))
 obtain ⟨d,hi,de,n,t,hd,hv⟩:=hg.inst;refine aC (iY (c9 (ah (j:=1) he .loc aa rfl) Kf (Gk EH)) (λh=>vL h) λz=>?_);refine bC (aC (iY (Fz (kU (ej (j4 H he TH.b_issub rfl) (au (iZ (iN H he TH.b_type rfl) (au (ah (j:=1) he .loc aa rfl) aT) (Mn EH)) (au (iN H he H.b_tuple rfl) aT)) (I6 EH)) qw)) (λh=>vL h) λz=>?_));refine bC (aC (gw (cf (Gm EH TH.titem (iN H he H.b_tuple rfl) (au (ah (j:=1) he .loc aa rfl) (au (Mp (y:= .int i) EH.KO TH.p60 (ah (j:=0) he .loc aa rfl) hi hd hv (aZ.int _ _) (λn e=>by cases e)) aT)) (Gl EH hx hl)) (ki ⟨rfl,rfl⟩))))
theorem nR(H:Hy G)(EH:gN G K)(TH:sa G K){g:ay}{i:Nat}(hg:w0 K name g i)(ho:PE (k+3) mu env o (.ent xs))(hx:xs[i]? =ae y)(hl:xs.length<=1000)(hy:∀n,y≠ .bi n)
 (he:autoParam (dW (.Attribute o name p) env=(do let ov <- dW o env;iE p.atName;let r <- eV [ov] (s9 ov name aI);pG o ov r;dg r)) aR):PE (k+3) mu env (.Attribute o name p) y:=⟨λ{A E Z s fr Q} hA r q=>by
 refine gZ ?_ he;refine ho.c hA r λ{ov s1 Z1} z1 q1 r1=>dK (wm EH r1.left q1) λa ob vs n dO h1 h2 h3 h4=>?_;subst dO;have X:K.In s1.heap:=EH.KO.inn _ r1.z0in;refine lO X (λM=>sL h1 h2) (yR EH X h1 h2) TH.ga hg.find hg.spec hg.takes TH.gx λE2=>(Mq (k:=k) (mu:=mu) H EH TH hg hx hl).c hA.in1 r1.toks (.cons (.ref _) (.cons q1 (.cons (.ref _) .nil))) λ{w s2 Z2 y' ue} z2 q2 r2 u=>dU u λe1 e2=>?_;clear u;subst e1 e2;refine aj (handedOut_of (m8 q2 hy) ..) ?_;exact ar (q (z1.trans z2) q2 r2)⟩
end
open Builtin AutoSeq1 SeqAt in
theorem Ew(l b:ay)(items items2:Array ai)(n n2:Nat)(C:ai)(dd dd2:Option ay)(sl sl2:Array (Option ai))(hs:items.size=items2.size):
 Meets (Builtin.«tuple.__eq__» ⟨[.ref l,.ref b],[]⟩) (λA R s=>s.heap.get? l=ae {cls:=C,dict:=dd,data:= .seq items n,slots:=sl}/\s.heap.get? b=ae {cls:= .type "tuple",dict:=dd2,data:= .seq items2 n2,slots:=sl2}/\
  (∀j (h1:j < items.size) (h2:j < items2.size),EqAt A.in1 s items[j] items2[j] aI)/\R (.ok (.ret (.bool aI))) s):=
 .of_wp λprog w A R s h=>by
  obtain ⟨hp,g,d,tk,os⟩:=s;obtain ⟨hl,hb,he,h⟩:=h;have f2:=AutoSeq1.sub_tuple_tuple
  wp_walk using kP hl,kP hb,wpAny_forIn_list _ (λrest acc s'=>acc.1=av/\s'=⟨hp,g,d,tk,os⟩/\∃i,rest=(items.toList.zip items2.toList).drop i) _
  case turn=>
   rintro ⟨u,v⟩ rest acc s' ⟨ha,rfl,i,hz⟩;have hlt:i < (items.toList.zip items2.toList).length:=uA λq=>by rw [Qg q] at hz;exact J4 hz
   have Nb:i < items.size/\i < items2.size:=by simp at hlt;omega
   rw [dZ hlt] at hz;obtain ⟨e1,e2⟩:=s8 hz;have hu:u=items[i]:=by have:=congrArg uz e1;simpa using this
   have hv:v=items2[i]:=by have:=congrArg Prod.snd e1;simpa using this
   subst hu hv;refine ag (he i Nb.1 Nb.2 prog w _ _ ?_)
   wp_walk
   exact ⟨rfl,rfl,i+1,e2⟩
  case fin=>
   rintro ⟨acc1,acc2⟩ s' ⟨ha,rfl,i,hz⟩;simp only at ha;subst ha
   wp_walk
   exact ⟨_,rfl,by simpa [qk,hs] using h⟩
  case h=>exact ⟨rfl,rfl,0,rfl⟩
theorem Mr:CO "tuple.__eq__"=ae .slot:=by kernel_rfl
theorem I7:Q3 "tuple.__eq__"=ae ("tuple","__eq__"):=by kernel_rfl
structure QE(K:fH):Prop where
 sub:subIn K (.type "tuple") (.ref 162)=ae aH
 eq:fJ K (.ref 162) "__eq__"=ae (ae (.builtin "tuple.__eq__"))
 up:subIn K (.ref 162) (.type "tuple")=ae aI
open SeqAt in
theorem Ms{K:fH}{A:bh}{s:aq}{l b:ay}{items items2:Array ai}{n:Nat}{o:o6}(X:K.In s.heap)(QH:QE K)(h1:s.heap.get? l=ae o)(hc:o.cls= .ref 162)(hd:o.data= .seq items n)(h2:s.heap.IsTuple b items2)(hs:items.size=items2.size)(hu:A.units < cLine)
 (he:∀j (h1:j < items.size) (h2:j < items2.size),EqAt A.in1 s items[j] items2[j] aI):RcAt A s (.ref l) (.ref b) aI:=λprog w E Q hq=>by
 obtain ⟨cls,dd,data,sl⟩:=o;obtain ⟨⟨cls2,dd2,data2,sl2⟩,NM,hc2,n2,hd2⟩:=id h2;simp only at hc hd hc2 hd2;subst hc hd hc2 hd2;obtain ⟨hp,g,d,t,os⟩:=s;have L1:iL (aX prog w) hp (jT (.ref l)) (.ref 162):=(sx h1).andThen .now;have L2:iL (aX prog w) hp (jT (.ref b)) (.type "tuple"):=(sx NM).andThen .now;have L3:=looks_subIn (M:=aX prog w) X QH.sub;have L4:=mT (M:=aX prog w) X QH.eq;have L5:iL (aX prog w) hp (ui (.ref l) (.type "tuple")) aI:=L1.andThen (looks_subIn X QH.up);unfold richCompare;refine bE (ag (wpAny_cRoomFor_or (.inr hu) ?_));show aS _ _ (jT (.ref l) >>=_) _ _ _;refine ag (L1.at (ag (L2.at (ag ?_))));have tc:∀(Qc:Option ai->aq->Prop) (E':ai->aq->Prop),Qc (ae (.bool aI)) ⟨hp,g,d,t,os⟩->aS (aX prog w) A (tryCompare (.ref l) "__eq__" (.ref b)) Qc E' ⟨hp,g,d,t,os⟩:=λQc E' hQ=>by
  have fin:∀E':ai->aq->Prop,aS (aX prog w) A (ku (.builtin "tuple.__eq__") ([.ref l]++[.ref b])) (λv s'=>v= .bool aI/\s'=⟨hp,g,d,t,os⟩) E' ⟨hp,g,d,t,os⟩:=λE'=>by
   refine eF (jj Qh.plain F.entry_tuple_eq (@rz (aX prog w) _ _ ⟨hp,g,d,t,os⟩ "tuple.__eq__" "tuple" "__eq__" (.ref l) [.ref b] [] _ Mr I7 L5 (F.args_tuple_eq_2 _ _) ?_));exact (Ew l b items items2 n n2 (.ref 162) dd dd2 sl sl2 hs) prog w A (wants _ E') _ ⟨h1,NM,he,rfl,rfl⟩
  unfold tryCompare callSpecialIfBound? bindSpecialIfBound? mA;refine ag (bE (ag (ag (ag (L1.at (L4.at ?_))))));refine ag (gC (wpAny_ite ?_))
  split
  ·refine ag (cN (Qh.bind _) (ar (ag (eR (fin _) (λv s' ⟨e1,e2⟩=>?_) λy y z=>z))));subst e1 e2;exact ar (ar hQ)
  ·refine wpAny_tryCatch (ag (cN (Qh.bind _) (ar (ag (eR (fin _) (λv s' ⟨e1,e2⟩=>?_) λy y z=>z)))));subst e1 e2;exact ar (ar hQ)
 refine L3.at (ag (tc _ _ ?_));exact ar hq
section
variable {Z:bI}{Ξ:Bool->Mu->Prop}{b:Bool}{CU:CmpOp}
theorem I8(EH:gN G K)(QH:QE K){rows:List (List V)}(hr:∀row∈rows,∃ds,ph row=ae ds/\zK ds=0):te k mu .NotEq (bZ (.list (rows.map .ent))) (bZ (.list (rows.map .tup))) aH:=⟨λ{A E Z s fr v u T} hA R hp hq q=>by
 have X:K.In s.heap:=EH.KO.inn _ R.z0in;have hu:=hA.uni;refine cE (rk.list hp) λa vs n q8 e1 r1=>?_;subst q8;refine cE (rk.list hq) λa' rt n' uf e2 r2=>?_;subst uf;have hl1:rows.length=vs.size:=by (refine fZ (b9 r1 ..) ?_;refine aj (ak ..) ?_;rfl)
 have QV:rows.length=rt.size:=by (refine fZ (b9 r2 ..) ?_;refine aj (ak ..) ?_;rfl)
 have he:∀j (j1:j < vs.size) (j2:j < rt.size),SeqAt.EqAt A.in1 s vs[j] rt[j] aI:=λj j1 j2=>by
  obtain ⟨row,Nc⟩:∃row,rows[j]? =ae row:=⟨_,bJ (hl1▸j1)⟩;have q1:=nC r1 (i:=j) (x:= .ent row) (by (refine aj (aJ ..) ?_;refine aj (Nc ..) ?_);rfl) (dY j1);have q2:=nC r2 (i:=j) (x:= .tup row) (by (refine aj (aJ ..) ?_;refine aj (Nc ..) ?_);rfl) (dY j2);refine dK (wm EH R.left q1) λc o ws m h1 g1 g2 g3 g4=>dK (aZ.tup_inv q2) λc' o' Us m' h2 z1 z2 z3 z4=>?_;refine aj (h1 ..) ?_;refine aj (h2 ..) ?_;have g5:=R.zin _ _ z1;refine aK (hr row (ao Nc)) λds hds hdd=>SeqAt.EqAt.of_refs (λe=>?_) (Ms X QH g1 g2 g3 ⟨o',g5,z2,m',z3⟩ ((b9 g4).symm.trans (b9 z4)) (by show _ < 9900;have:A.in1.units=A.units+1:=rfl;lia) λi i1 i2=>?_)
  ·subst e;rw [g1] at g5;(have lA:=aO g5;clear g5;subst lA);rw [g2] at z2;cases z2
  ·refine dU (wO (s:=s) R.zin row g4 hds) λmP h4=>cJ mP λas h3=>?_;clear mP;refine dU (wO (s:=s) R.zin row z4 hds) λsq z=>cJ sq λbs h5=>?_;clear sq;have:=SeqAt.eqAt_readsAll ds ds A.in1.in1 s _ _ _ _ h3 h5 h4 h4 (by refine aj (hdd ..) ?_;show _ < 9900;have:A.in1.in1.units=A.units+1+1:=rfl;lia) i (eK▸i1) (eK▸i2);have h6:SeqAt.pairEq ds ds i=aI:=by
    have h7:=SeqAt.eqvAll_eq ds ds;rw [SeqAt.eqvAll_refl ds h4,Nat.min_self] at h7;exact fW.mp (cn.mp h7).1 i (aY.mpr (by (refine aj (Do hds ..) ?_;refine aj (b9 g4 ..) ?_);exact i1))
   rw [h6] at this;exact this
 have:=SeqAt.RcNeAt.lists (A:=A) (s:=s) (l:=a) (b:=a') (e:=λz=>aI) ⟨_,R.zin _ _ e1,rfl,n,rfl⟩ ⟨_,R.zin _ _ e2,rfl,n',rfl⟩ (hl1.symm.trans QV) (by show _ < 9900;lia) he;rw [show (!(aN vs.size).all λz=>aI)=aH by simp] at this;exact this G.prog G.w E _ (q .rfl (.bool _) R)⟩
theorem Bc{d:wG}(hx:KA x=ae d)(hd:d.depth<=100):te k mu .NotEq (bZ x) (bZ x) aH:=⟨λ{A E Z s fr v u T} hA r hp hq q=>by
 exact dU (rI (s:=s) r.zin x hp hx) λz h2=>(KB (k:=k) (mu:=mu) hx hx (aw (Nat.min_le_left _ _) hd)).c hA r hp hq (by refine aj (SeqAt.eqv_refl d h2 ..) ?_;exact q)⟩
theorem R.frzL(r:R Z (bq L lay bB::bl D xs::mu) s)(hv:bB[j]? =ae (ae (.ref D))):∃Z',Z.le Z'/\R Z' (bq L lay (bB.set j (ae (.list xs)))::mu) s:=by
 have r1:=r.perm (jh _ _ _);refine eD (r1.sat _ aa) λvs n h1 h2=>dU (R.freezeHd r1 h1 aa) λr' z'=>⟨_,z',?_⟩
 exact mI (r'.sat _ aa) λhnd m hn hs=>r'.upd' (i:=0) (h':=s.heap) (tk:=s.toks) rfl rfl (λz z z e=>e) ⟨hnd,m,hn,hs.weak hv λx c q=>q.as λv q=>by
  cases q;exact .list (bI.put_self ..) (h2.mono z')⟩
theorem R.frzD{es:List (bb×V)}(r:R Z (bq L lay bB::cD D es::mu) s)(hv:bB[j]? =ae (ae (.ref D))):∃Z',Z.le Z'/\R Z' (bq L lay (bB.set j (ae (.dict es)))::mu) s:=by
 have r1:=r.perm (jh _ _ _);refine qr (r1.sat _ aa) λq0 kvs zm h1 h2=>oH zm λo NI ep ho hd=>?_;clear zm;refine dU (R.freezeHd r1 ho aa) λr' z'=>⟨_,z',?_⟩
 exact mI (r'.sat _ aa) λhnd m hn hs=>r'.upd' (i:=0) (h':=s.heap) (tk:=s.toks) rfl rfl (λz z z e=>e) ⟨hnd,m,hn,hs.weak hv λx c q=>q.as λv q=>by
  cases q;exact .dict q0 (bI.put_self ..) ⟨hd.1,NI,ep,hd.2⟩ h1 (h2.mono z')⟩
theorem Wf.frzL{t:mF uk}(hv:bB[j]? =ae (ae (.ref D)))(h:Wf k (bq L lay (bB.set j (ae (.list xs)))::mu) env t Θ):Wf k (bq L lay bB::bl D xs::mu) env t Θ:=⟨λ{A E Z s fr outer Q} hA hf iD r q=>by
 exact aK (R.frzL (mu:=mu++fr) r hv) λZ1 z1 r1=>h.c (fr:=fr) hA hf iD r1 λ{z z z z z} z'=>q (z1.trans z')⟩
theorem WF.frzL{t:mF uk}(hv:bB[j]? =ae (ae (.ref D)))(h:WF k (bq L lay (bB.set j (ae (.list xs)))::mu) t Θ):WF k (bq L lay bB::bl D xs::mu) t Θ:=⟨λ{A E Z s fr Q} hA r q=>by
 exact aK (R.frzL (mu:=mu++fr) r hv) λZ1 z1 r1=>h.c (fr:=fr) hA r1 λ{z z z z z} z'=>q (z1.trans z')⟩
theorem WF.frzD{es:List (bb×V)}{t:mF uk}(hv:bB[j]? =ae (ae (.ref D)))(h:WF k (bq L lay (bB.set j (ae (.dict es)))::mu) t Θ):WF k (bq L lay bB::cD D es::mu) t Θ:=⟨λ{A E Z s fr Q} hA r q=>by
 exact aK (R.frzD (mu:=mu++fr) r hv) λZ1 z1 r1=>h.c (fr:=fr) hA r1 λ{z z z z z} z'=>q (z1.trans z')⟩
structure QF(k:Nat)(mu:Mu)(env:gV)(t:mF Bool)(Ξ:Bool->Mu->Prop):Prop where
 c:∀{A:bh} {E:ai->aq->Prop} {Z:bI} {s:aq} {fr:Mu} {outer:List gV} {Q:Bool->aq->Prop},Rm k A->A.frames=ae (env::outer)->ia outer fr->R Z (mu++fr) s->
  (∀{b s' Z' nu},Z.le Z'->R Z' (nu++fr) s'->Ξ b nu->Q b s')->aS (aX G.prog G.w) A t Q E s
theorem Sk{body orelse:List d6}(h:QF k mu env (isTrue e env (dW e env)) λc nu=>brP c (ym k nu env body Θ) (ym k nu env orelse Θ)):WXf k mu env (.If e body orelse pos) Θ:=⟨λ{z z z z z z z} hA hf iD r q=>by
 with_reducible refine wpAny_If ?_
 refine h.c hA hf iD r λ{c s1 Z1 nu} z1 r1 w=>?_;cases c with
 |true=>exact Wf.c (show ym k nu env body Θ from w) hA hf iD r1 λ{z z z z z} z2=>q (z1.trans z2)
 |false=>exact Wf.c (show ym k nu env orelse Θ from w) hA hf iD r1 λ{z z z z z} z2=>q (z1.trans z2)⟩
theorem Sm(h:QF k mu env (allTrue .Or es env) Ξ):QF k mu env (isTrue (.BoolOp .Or es p) env (dW (.BoolOp .Or es p) env)) Ξ:=⟨λ{z z z z z z z} hA hf iD R q=>by
 with_reducible refine wpAny_isTrue_BoolOp ?_
 exact h.c hA hf iD R q⟩
theorem Cp(h:PT k mu env e aH)(hr:QF k mu env (allTrue .Or es env) Ξ):QF k mu env (allTrue .Or (e::es) env) Ξ:=⟨λ{z z z z z z z} hA hf iD R q=>by
 with_reducible refine Ai ?_
 exact h.c hA R λ{z z} z1 r1=>hr.c hA hf iD r1 λ{z z z z} z2=>q (z1.trans z2)⟩
theorem O9(h:QF k mu env (isTrue e env (dW e env)) Ξ):QF k mu env (allTrue .Or [e] env) Ξ:=⟨λ{z z z z z z z} hA hf iD R q=>by
 with_reducible refine Ai ?_
 refine h.c hA hf iD R λ{d s1 Z1 nu} z1 r1 w=>?_;cases d with
 |true=>exact q z1 r1 w
 |false=>refine aj (if_neg cF ..) ?_;(with_reducible refine wpAny_allTrue_Or_nil ?_);exact q z1 r1 w⟩
theorem Mt(h:WVf k mu env (dW l env) λy nu=>∃(Q:Vw) (b:Bool),EV k nu env r Q/\te k nu CU (bZ y) Q b/\Ξ b nu)(hm:wA CU r=aH:=by with_unfolding_all rfl):QF k mu env (isTrue (.Compare l [CU] [r] p) env (dW (.Compare l [CU] [r] p) env)) Ξ:=⟨λ{z z z z z z z} hA hf iD R q=>by
 with_reducible refine Ah ?_ hm
 exact h.c hA hf iD R λz1 q1 r1 ⟨Q,b,hr,ho,w⟩=>hr.c hA r1 λ{z z z} z2 p2 r2=>ho.c hA r2 (q1.mono z2) p2 λ{z z z} z3 p3 r3=>(aZ.boolE p3)▸eU (q (z1.trans (z2.trans z3)) r3 w)⟩
end
noncomputable def k8(S:Nat)(v:Nat->ai):Array (Int×ai):=((eY S).map λ(k:Nat)=>((k:Int),v k)).toArray
noncomputable def I9(S T:Nat)(led:Bool):SetTable:={mask:=if 5<=(eY T).length then 31 else 7,place:=(eY S).toArray,dummies:=#[],finger:=0,led:=led,moves:=if 5<=(eY T).length then 1 else 0,plain:=aI}
noncomputable abbrev Ex(S:Nat)(led:Bool):SetTable:=I9 S S led
theorem Pa:∀S,S < 64->∀k:Nat,k < 6->S.testBit k=aH->∀led,((Ex S led).freeSlot (fB k) == ae (k,aH))=aI:=by decide+kernel
theorem Sn:∀S,S < 64->∀k:Nat,k < 6->S.testBit k=aH->∀led,(Ex S led).put k=(I9 (S+2 ^ k) S led,((eY S).filter (· < k)).length):=by decide+kernel
theorem Gn:∀S,S < 64->∀k:Nat,k < 6->S.testBit k=aH->(eY S).take ((eY S).filter (· < k)).length++k::(eY S).drop ((eY S).filter (· < k)).length=eY (S+2 ^ k)/\S+2 ^ k < 64:=by decide+kernel
theorem Pb:∀S,S < 64->∀k:Nat,k < 6->S.testBit k=aH->∀led,(I9 (S+2 ^ k) S led).tooFull=decide ((eY S).length=4):=by decide+kernel
theorem Pc:∀S,S < 64->∀k:Nat,k < 6->S.testBit k=aH->(eY S).length≠4->∀led,I9 (S+2 ^ k) S led=Ex (S+2 ^ k) led:=by decide+kernel
theorem Ja:∀S,S < 64->∀k:Nat,k < 6->S.testBit k=aH->(eY S).length=4->∀led,((I9 (S+2 ^ k) S led).relaid ((eY (S+2 ^ k)).map λ(j:Nat)=>(j:Int)).toArray 20 == ae (Ex (S+2 ^ k) led,#[0,1,2,3,4]))=aI:=by decide+kernel
theorem Ey:∀S,S < 64->∀i,i < (eY S).length+1->SetTable.below (eY S).toArray (if i=0 then 0 else (eY S).getD (i - 1) 0+1)=i:=by decide+kernel
noncomputable def HI(v:Nat->ai)(k:Nat)(x:ai):Nat->ai:=λj=>if j=k then x else v j
theorem jF(S:Nat)(v:Nat->ai):(k8 S v).size=(eY S).length:=by exact ak ..
theorem So{S k:Nat}{v:Nat->ai}{x:ai}(hS:S < 64)(hk:k < 6)(hn:S.testBit k=aH):SetTable.insertAt (k8 S v) ((eY S).filter (· < k)).length ((k:Int),x)=k8 (S+2 ^ k) (HI v k x):=by
 have h1:=(Gn S hS k hk hn).1;have hkb:k∉eY S:=λh=>by have:=(bo.mp h).2;rw [hn] at this;exact vL this
 have hm:∀l:List Nat,k∉l->l.map (λ(j:Nat)=>((j:Int),v j))=l.map λ(j:Nat)=>((j:Int),HI v k x j):=λl hl=>
  b5 λj hj=>by delta HI;(refine aj (if_neg (λe:j=k=>hl (e▸hj)) ..) ?_;rfl)
 generalize ((eY S).filter (· < k)).length=p at h1;delta SetTable.insertAt;apply Array.ext';have hx:HI v k x k=x:=by delta HI;(refine aj (if_pos rfl ..) ?_;rfl)
 simp only [k8,lB,CE,xw,List.extract_eq_take_drop,sV,fy,Nat.sub_zero];refine fZ (h1 ..) ?_;simp only [bj,bA,List.map_take,Nx,bU,List.singleton_append,hx];refine aj (hm (eY S) hkb ..) ?_;congr 3;refine aj (d7 (by simp) ..) ?_;rfl
theorem u6(S T:Nat)(led:Bool):(I9 S T led).fits (eY S).length=aI:=by
 have h:(eY S).length<=6:=by have:=bu S.testBit (aN 6);exact this
 delta SetTable.fits SetTable.fill I9;simp only [sV,beq_self_eq_true,Ny]
 split <;> simp <;> lia
theorem Sp{S k:Nat}{v:Nat->ai}{x:ai}{led:Bool}(hS:S < 64)(hk:k < 6)(hn:S.testBit k=aH):layNew (Ex S led) (k8 S v) k x=(k8 (S+2 ^ k) (HI v k x),I9 (S+2 ^ k) S led,aH,aH):=by have h1:=jD (Pa S hS k hk hn led);have h2:=Sn S hS k hk hn led;delta layNew;refine aj (show (k:Int)=fB k from rfl) ?_;refine aj (h1 ..) ?_;simp only;refine aj (h2 ..) ?_;simp only;refine aj (show fB k=(k:Int) from rfl) ?_;refine aj (So hS hk hn ..) ?_;refine aj (jF ..) ?_;delta SetTable.orStandIn;refine aj (if_pos (u6 _ _ _) ..) ?_;refine aj (u6 ..) ?_;rfl
theorem xg{α:Type}(a:Array α):(Array.range a.size).filterMap (a[·]?)=a:=by
 apply Array.ext';simp only [Array.toList_filterMap,Array.toList_range];have:∀l:List α,(aN l.length).filterMap (l[·]?)=l:=by
  intro l;induction l with
  |nil=>rfl
  |cons x l ih=>refine aj (bK ..) ?_;refine aj (List.range_succ_eq_map ..) ?_;refine aj (qp ..) ?_;simp only [List.getElem?_cons_zero,List.filterMap_map];congr 1
 have h:=this a.toList;simpa using h
theorem Mv{S k:Nat}{v:Nat->ai}{led:Bool}(hS:S < 64)(hk:k < 6)(hn:S.testBit k=aH)(h4:(eY S).length=4):relayAll (I9 (S+2 ^ k) S led) (k8 (S+2 ^ k) v) (SetTable.grown (k8 (S+2 ^ k) v).size)=(k8 (S+2 ^ k) v,Ex (S+2 ^ k) led,aH):=by
 have h1:=(Gn S hS k hk hn).1;have hl:(eY (S+2 ^ k)).length=5:=by refine fZ (h1 ..) ?_;simp only [ba,bK,dR,fY];have:=bu (λj=>decide (j < k)) (eY S);lia
 have h2:=jD (Ja S hS k hk hn h4 led);have hz:(k8 (S+2 ^ k) v).size=5:=by (refine aj (jF ..) ?_;refine aj (hl ..) ?_;rfl)
 have hh:(k8 (S+2 ^ k) v).map (·.1)=((eY (S+2 ^ k)).map λ(j:Nat)=>(j:Int)).toArray:=by apply Array.ext';simp [k8]
 delta relayAll;refine aj (hz ..) ?_;refine aj (hh ..) ?_;refine aj (show SetTable.grown 5=20 from rfl) ?_;refine aj (h2 ..) ?_;simp only;have he:(#[0,1,2,3,4]:Array Nat).filterMap (λi=>(k8 (S+2 ^ k) v)[i]?)=k8 (S+2 ^ k) v:=by have:=xg (k8 (S+2 ^ k) v);rw [hz] at this;exact this
 refine aj (he ..) ?_;refine aj (hz ..) ?_;have hf:=u6 (S+2 ^ k) (S+2 ^ k) led;rw [hl] at hf;refine aj (if_pos (by rw [hf];decide) ..) ?_;rfl
structure zZ(h:dH)(a:ay)(S:Nat)(led:Bool):Prop where
 go:∃v ep,h.get? a=ae {cls:= .type "set",dict:=av,data:= .set (k8 S v) ep (Ex S led)}/\(∀k:Nat,∃t,v k= .int k t)/\S < 64
section
variable {A:bh}
theorem Mw:∀k:Nat,k < 6->hashInt (k:Int)=(k:Int):=by decide
theorem Mx{S:Nat}{v:Nat->ai}(hv:∀k:Nat,∃t,v k= .int k t):ElemsOf (lu prog w) (k8 S v).toList:=λe he=>by
 simp only [k8,aG] at he;refine aK he λk hk dO=>?_;clear he;subst dO;refine cJ (hv k) λt ht=>?_;have h6:k < 6:=aY.mp (bo.mp hk).1;simp only [ht];exact ⟨⟨k,GV _ _ _ _,(Mw k h6).symm⟩,rfl⟩
theorem Sq(a b:Int)(t:HX):(lu prog w).is a (.int b t)=decide (a=b):=by
 by_cases h:a=b
 ·subst h;refine aj (GV ..) ?_;simp
 ·refine aj (decide_eq_false h ..) ?_;cases hq:(lu prog w).is a (.int b t)
  ·rfl
  ·exact absurd ((lu prog w).inj _ _ _ (GV prog w b t) hq) (λe=>h (by first|exact e|exact e.symm))
theorem Pd{S k:Nat}{v:Nat->ai}(hv:∀k:Nat,∃t,v k= .int k t)(hk:k < 6):((k8 S v).toList.findIdx? λe=>(lu prog w).is (k:Int) e.2).isSome=S.testBit k:=by
 refine gj (cj ..) ?_;refine aj (List.findIdx?_isSome ..) ?_;refine gj (cS ..) ?_;have qm:∀j:Nat,(lu prog w).is (k:Int) (v j)=decide (k=j):=λj=>by
  refine cJ (hv j) λt ht=>?_;refine aj (ht ..) ?_;refine aj (Sq ..) ?_;refine gj (cj ..) ?_;simp only [decide_eq_true_eq];lia
 constructor
 ·intro eT;refine aK eT λe he h=>?_;clear eT;simp only [k8,aG] at he;refine aK he λj hj gi=>?_;clear he;subst gi;rw [qm] at h;have:=of_decide_eq_true h;subst this;exact (bo.mp hj).2
 ·intro h;refine ⟨((k:Int),v k),?_,by refine aj (qm ..) ?_;simp⟩;simp only [k8,aG];exact ⟨k,bo.mpr ⟨aY.mpr hk,h⟩,rfl⟩
theorem Gp(a:ay)(v:ai)(k:Int){m n:Nat}(h:m=n+1):∃F:Array (Int×ai)×Nat×SetTable->mF Bool,setAddHashedIn a v k m=setState a >>=F/\∀e p t,byScan v e=aI->F (e,p,t)=(setAddByScan a v k e t >>=λr=>match r with|some b=>dg b|none=>setAddHashedIn a v k n):=by subst h;exact ⟨_,rfl,λe p t h=>if_pos h⟩
def nS.S0(prog:dB)(w:d9)(A:bh)(E:ai->aq->Prop)(s:aq)(a:ay)(S k:Nat)(led:Bool)(t:HX)(Q:Bool->aq->Prop)(_:Nat):Prop:=∀(hS:zZ s.heap a S led) (hk:k < 6) (h:∀h' tk,ji a s.heap h'->zZ h' a (S ||| 2 ^ k) led->∀b,Q b {s with heap:=h',toks:=tk}),aS (aX prog w) A (setAdd a (.int k t)) Q E s
namespace nS
@[irreducible] def e0:=HY sY Fb Fv ta zM cL eN eN inferInstance inferInstance ta eN S0
def cT:=e0.1
def w_:=e0.2.1
def A_:=e0.2.2.1
def E_:=e0.2.2.2.1
def s_:=e0.2.2.2.2.1
def a_:=e0.2.2.2.2.2.1
def S_:=e0.2.2.2.2.2.2.1
def k_:=e0.2.2.2.2.2.2.2.1
def xh:=e0.2.2.2.2.2.2.2.2.1
def t_:=e0.2.2.2.2.2.2.2.2.2.1
def Q_:=e0.2.2.2.2.2.2.2.2.2.2.1
theorem T0:S0 cT w_ A_ E_ s_ a_ S_ k_ xh t_ Q_ e0.2.2.2.2.2.2.2.2.2.2.2:=by
 intro hS hk h;obtain ⟨v,ep,ho,hv,uh⟩:=hS;have hel:=Mx (prog:=cT) (w:=w_) (S:=S_) hv;have hf:(Ex S_ xh).fits (k8 S_ v).size=aI:=by refine aj (jF ..) ?_;exact u6 S_ S_ xh
 have JX:(k8 S_ v).size<=6:=by refine aj (jF ..) ?_;have:=bu S_.testBit (aN 6);exact this
 have hz:(k8 S_ v).size < scanBound:=by show _ < 4096;exact b7 (by assumption) (by decide)
 have hkey:(lu cT w_).is (k_:Int) (.int k_ t_)=aI:=GV _ _ _ _;have hgw:∀(b:Bool) {s₁:aq} {Q':Unit->aq->Prop},Q' () s₁->aS (aX cT w_) A_ (match b with|true=>rule "set.scan.the-table-gave-way"|false=>dg ()) Q' E_ s₁:=
  λb s₁ Q' hq=>by cases b <;> first|exact ar hq|exact oj hq
 delta setAdd;refine bE (ag ((lu cT w_).pyHash hkey ?_));refine aj (show (lu cT w_).hash (k_:Int)=(k_:Int) from Mw k_ hk) ?_;delta setAddHashed;refine aK (Gp a_ (.int k_ t_) k_ (m:=100000) (n:=99999) rfl) λF e1 e2=>bE ?_;rw [e1];refine ag (ly (o:={cls:= .type "set",dict:=av,data:= .set (k8 S_ v) ep (Ex S_ xh)}) ho rfl hf ?_);rw [e2 _ _ _ (byScan_of rfl hz hel)];delta setAddByScan;refine ag (ag (oj ?_));have sc:∀(Q':ScanMet->aq->Prop),Q' (match (k8 S_ v).toList.findIdx? (λe=>(lu cT w_).is (k_:Int) e.2) with|some j=> .found (0+j)|none=> .absent) {s_ with toks:=s_.toks+1}->aS (aX cT w_) A_ (setScan a_ (.int k_ t_) (k_:Int) aI (k8 S_ v)) Q' E_ {s_ with toks:=s_.toks+1}:=λQ' hq=>by
  have:=wpAny_setScan_of (A:=A_) (E:=E_) (s:={s_ with toks:=s_.toks+1}) (adding:=aI) (k:=(k_:Int)) hkey (o:={cls:= .type "set",dict:=av,data:= .set (k8 S_ v) ep (Ex S_ xh)}) ho rfl hf hel hq;rw [show (lu cT w_).hash (k_:Int)=(k_:Int) from Mw k_ hk] at this;exact this
 refine ag (sc _ ?_);have hfi:=Pd (prog:=cT) (w:=w_) (S:=S_) hv hk;cases hr:(k8 S_ v).toList.findIdx? (λe=>(lu cT w_).is (k_:Int) e.2) with
 |some j=>
  rw [hr] at hfi;have hb:S_.testBit k_=aI:=hfi.symm;dsimp only;refine ar (ar ?_);have hor:∀S_,S_ < 64->∀k_:Nat,k_ < 6->S_.testBit k_=aI->S_ ||| 2 ^ k_=S_:=by decide+kernel
  refine h s_.heap _ (JQ a_ s_.heap) ?_ _;exact aj (hor S_ uh k_ hk hb ..) (⟨v,ep,ho,hv,uh⟩)
 |none=>
  rw [hr] at hfi;have hb:S_.testBit k_=aH:=hfi.symm;have hor:∀S_,S_ < 64->∀k_:Nat,k_ < 6->S_.testBit k_=aH->S_ ||| 2 ^ k_=S_+2 ^ k_:=by decide+kernel
  dsimp only;refine aj (Sp uh hk hb ..) ?_;dsimp only;have S3:=(Gn S_ uh k_ hk hb).2;have hv':∀j:Nat,∃t',HI v k_ (.int k_ t_) j= .int j t':=λj=>by
   delta HI;by_cases e:j=k_
   ·subst e;exact ⟨t_,by (refine aj (if_pos rfl ..) ?_;rfl)⟩
   ·refine aj (if_neg e ..) ?_;exact hv j
  have hz1:(k8 (S_+2 ^ k_) (HI v k_ (.int k_ t_))).size<=er:=by refine aj (jF ..) ?_;have:=bu (S_+2 ^ k_).testBit (aN 6);simp [eY] at this ⊢;show _<=2 ^ 24;exact aw (by assumption) (by decide)
  refine ag (ar ?_);simp only [show (I9 (S_+2 ^ k_) S_ xh).plain=aI from rfl,↓reduceIte,Bool.not_false,Ny];refine aj (hashByValue_scannable 8 (show (jS (k_:Int) t_).scannable=aI from rfl)) (ag (ar ?_));simp only [show plainKind (jS (k_:Int) t_)=aI from rfl,↓reduceIte];refine aj (Pb S_ uh k_ hk hb ..) (ag (wpAny_storeSet_of (o:={cls:= .type "set",dict:=av,data:= .set (k8 S_ v) ep (Ex S_ xh)}) ho rfl ?_ hz1));have fin:∀h',ji a_ s_.heap h'->(∃ep',h'.get? a_=ae {cls:= .type "set",dict:=av,data:= .set (k8 (S_+2 ^ k_) (HI v k_ (.int k_ t_))) ep' (Ex (S_+2 ^ k_) xh)})->Q_ aI {s_ with heap:=h',toks:=s_.toks+1}:=λh' hs ⟨ep',e⟩=>by
   refine h h' _ hs ?_ _;exact aj (hor S_ uh k_ hk hb ..) (⟨_,ep',e,hv',S3⟩)
  have hg1:(s_.heap.update a_ (Obj.putSet (k8 (S_+2 ^ k_) (HI v k_ (.int k_ t_))) (I9 (S_+2 ^ k_) S_ xh))).get? a_=ae {cls:= .type "set",dict:=av,data:= .set (k8 (S_+2 ^ k_) (HI v k_ (.int k_ t_))) (ep+1) (I9 (S_+2 ^ k_) S_ xh)}:=
   bS (Obj.putSet (k8 (S_+2 ^ k_) (HI v k_ (.int k_ t_))) (I9 (S_+2 ^ k_) S_ xh)) ho rfl
  by_cases h4:(eY S_).length=4
  ·(refine aj (decide_eq_true h4 ..) ?_;refine aj (if_pos rfl ..) ?_;refine aj (Mv uh hk hb h4 ..) ?_)
   refine ag (ar ?_);refine ag (wpAny_storeSet_of hg1 rfl ?_ hz1);refine ar (ar (fin _ ((bY _ a_ _).trans (bY _ a_ _)) ⟨ep+1+1,?_⟩));exact bS (Obj.putSet (k8 (S_+2 ^ k_) (HI v k_ (.int k_ t_))) (Ex (S_+2 ^ k_) xh)) hg1 rfl
  ·(refine aj (decide_eq_false h4 ..) ?_;refine aj (if_neg (by decide) ..) ?_)
   refine ar (ar (fin _ (bY _ a_ _) ⟨ep+1,?_⟩));exact fZ (Pc S_ uh k_ hk hb h4 ..) (hg1)
end nS
theorem nS{a:ay}{S k:Nat}{led:Bool}{t:HX}{Q:Bool->aq->Prop}:nS.S0 prog w A E s a S k led t Q 0:=by with_unfolding_all exact C6 _ _ _ _ _ _ _ _ _ _ _ _ nS.S0 @nS.T0 prog w A E s a S k led t Q 0
end
noncomputable def nT(ns:List Nat):Nat:=ns.foldl (λS k=>S ||| 2 ^ k) 0
theorem zZ.at{h h':dH}{a:ay}{S:Nat}{led:Bool}(x:zZ h a S led)(hk:∀o,h.get? a=ae o->h'.get? a=ae o):zZ h' a S led:=let ⟨v,ep,e,r⟩:=x;⟨v,ep,hk _ e,r⟩
section
variable {A:bh}
theorem My{a I l:ay}{items:Array ai}{ns:List Nat}{led:Bool}{Rr:wF->aq->Prop}(hh:A.handled=av)(iP:l≠I)(ha:a≠I/\a≠l)(hi:∀(j:Nat) (v:ai),items[j]? =ae v->∃(k:Nat) (t:HX),ns[j]? =ae k/\k < 6/\v=jS (k:Int) t)(hlen:ns.length=items.size)
 (base:dH) (hR:∀h' tk,zZ h' a (nT ns) led->(∀b o,b≠a->b≠I->base.get? b=ae o->h'.get? b=ae o)->Rr (.ok (.ret .none)) {s with heap:=h',toks:=tk}):
 ∀(n i:Nat) (h:dH) (tk:Nat),items.size - i=n->i<=items.size->h.IsListIter I l i->h.IsList l items->zZ h a (nT (ns.take i)) led->(∀b o,b≠a->b≠I->base.get? b=ae o->h.get? b=ae o)->
  iV (aX prog w) A (.builtin "set.update.loop" ⟨[.ref a,.ref I],[]⟩) Rr {s with heap:=h,toks:=tk}:=by
 have W:Walks prog w A.in1 I [I,l] [I] items.size (λi v=>items[i]? =ae v) (λi h=>h.IsListIter I l i/\h.IsList l items):=Walks.list (by simp [hh]) I l iP items;intro n;induction n with
 |zero=>
  intro i h tk hn hi' hit hl hS hk;have qm:i=items.size:=by lia
  subst qm;refine kO zA (aj (gQ lD _ ..) ?_);show aS _ A.in1 (l0 (.ref I) >>=_) _ _ _;refine ag (W.done _ _ _ ⟨hit,hl⟩ λh' ny Tj=>?_);show aS _ A.in1 (vn eG) _ _ _;rw [d7 (by exact ll (by assumption))] at hS;exact ar (hR h' ny (hS.at λo e=>Tj _ _ (by simp [ha.1]) e) λb o h1 h2 e=>Tj b o (by simp [h2]) (hk b o h1 h2 e))
 |succ n ih=>
  intro i h tk hn hi' hit hl hS hk;have hlt:i < items.size:=by lia
  refine kO zA (aj (gQ lD _ ..) ?_);show aS _ A.in1 (l0 (.ref I) >>=_) _ _ _;refine ag (W.item i _ _ _ hlt ⟨hit,hl⟩ λv h' ny hv ⟨Te,hl'⟩ Tj=>?_);refine cC (hi i v hv) λk t hnk hk6 iC=>?_;subst iC;show aS _ A.in1 (eV [jS (k:Int) t] (setAdd a (.int (k:Int) t)) >>=_) _ _ _;refine ag (bE (nS (s:={s with heap:=h',toks:=ny}) (hS.at λo e=>Tj _ _ (by simp [ha.1]) e) hk6 λh2 tk2 hsb hS2 b=>?_));refine ar ⟨rp lD _,ih (i+1) h2 tk2 (by lia) hlt ?_ ?_ ?_ ?_⟩
  ·exact Te.at λo e=>(hsb.2 I (gf ha.1)).trans e
  ·obtain ⟨o,ho,q⟩:=hl';exact ⟨o,(hsb.2 l (gf ha.2)).trans ho,q⟩
  ·have:nT (ns.take (i+1))=nT (ns.take i) ||| 2 ^ k:=by
    (refine aj (dF ..) ?_;refine aj (hnk ..) ?_);delta nT;simp
   refine aj (this ..) ?_;exact hS2
  ·exact λb o h1 h2 e=>(hsb.2 b h1).trans (Tj b o (by simp [h2]) (hk b o h1 h2 e))
theorem yS{h:dH}{l:ay}:(h.push {cls:= .type "list_iterator",data:= .fields #[.ref l,.int 0 0]}).IsListIter h.objs.size l 0:=⟨_,aW _ rfl,rfl,rfl⟩
def qQ.S0(prog:dB)(w:d9)(A:bh)(a l:ay)(Rr:wF->aq->Prop):Prop:=∀{s:aq} {items:Array ai} {ns:List Nat} {led:Bool} (hh:A.handled=av) (ha:a≠l) (hS:zZ s.heap a 0 led) (hl:s.heap.IsList l items) (hi:∀(j:Nat) (v:ai),items[j]? =ae v->∃(k:Nat) (t:HX),ns[j]? =ae k/\k < 6/\v=jS (k:Int) t) (hlen:ns.length=items.size) (hR:∀h' tk,zZ h' a (nT ns) led->(∀b o,b≠a->s.heap.get? b=ae o->h'.get? b=ae o)->Rr (.ok (.ret .none)) {s with heap:=h',toks:=tk}),iV (aX prog w) A (.call (.builtin "set.__init__") ⟨[.ref a,.ref l],[]⟩) Rr s
namespace qQ
@[irreducible] def e0:=Fq sY Fb Fv cL cL ta S0
def cT:=e0.1
def w_:=e0.2.1
def A_:=e0.2.2.1
def a_:=e0.2.2.2.1
def l_:=e0.2.2.2.2.1
def Rr_:=e0.2.2.2.2.2
theorem T0:S0 cT w_ A_ a_ l_ Rr_:=by
 intro s items ns led hh ha hS hl hi hlen hR;obtain ⟨v,ep,ho,hv,uh⟩:=id hS;have hT:s.TypeIs (.ref a_) "set":=⟨_,ho,rfl⟩;refine jj mC.init.plain F.entry_set_init (check_set_init_1 hT ?_);obtain ⟨ol,M7,hcl,nl,Fg⟩:=id hl;obtain ⟨ocls,odict,odata,oslots⟩:=ol;simp only at hcl Fg;subst hcl;subst Fg;have hsls:=F.sub_list_set;have hslf:=F.sub_list_frozenset;have iP:(lX "list" == lX "dict")=aH:=by decide
 obtain ⟨hp,g,d,tk,os⟩:=s;have Ug:hp.get? a_=ae {cls:= .type "set",dict:=av,data:= .set #[] ep (.fresh 0 0 led),slots:=#[]}:=ho;unfold Builtin.«set.__init__» noKeywords Builtin.Frozenset.updateFrom;generalize hPI:rb=PI
 wp_walk
 subst hPI;have hl1:hp.IsList l_ items:=hl;have ha1:a_ < hp.objs.size:=bN ho;have QV:l_ < hp.objs.size:=bN M7;refine lr hl1 (ag (wpAny_runValue ?_));refine My (s:=⟨hp,g,d,tk,os⟩) (a:=a_) (I:=hp.objs.size) (l:=l_) (items:=items) (ns:=ns) (led:=led) (by simp [hh]) (c8 QV) ⟨c8 ha1,ha⟩ hi hlen hp (λh' ny h1 h2=>?_) items.size 0 _ tk rfl (gp _) yS (hl1.push _) ?_ (λb o h1 h2 e=>az _ e)
 ·show aS _ _ _ _ _ _;refine ar (ar ?_);exact hR h' ny h1 λb o hb e=>h2 b o hb (c8 (bN e)) e
 ·exact hS.at λo e=>az _ e
end qQ
theorem qQ{a l:ay}{Rr:wF->aq->Prop}:qQ.S0 prog w A a l Rr:=by with_unfolding_all exact uE _ _ _ _ _ _ qQ.S0 @qQ.T0 prog w A a l Rr
def lQ.S0(prog:dB)(w:d9)(A:bh)(E:ai->aq->Prop)(a:ai)(Q₁:ai->aq->Prop):Prop:=∀{s:aq} (h:Q₁ (.ref s.heap.objs.size) {s with heap:=s.heap.push {cls:= .type "set",dict:=av,data:= .set #[] 0 (.fresh 0 0 (!(w.params.followText "set-order")))}}),iV (aX prog w) A (.call (.builtin "set.__new__") ⟨[.type "set",a],[]⟩) (wants Q₁ E) s
namespace lQ
@[irreducible] def e0:=Fq sY Fb Fv ta gL ta S0
def cT:=e0.1
def w_:=e0.2.1
def A_:=e0.2.2.1
def E_:=e0.2.2.2.1
def a_:=e0.2.2.2.2.1
def Q₁_:=e0.2.2.2.2.2
theorem T0:S0 cT w_ A_ E_ a_ Q₁_:=by
 intro s h;refine kK ?_;show aS _ A_.in1 (do iI "set.__new__" ⟨[.type "set",a_],[]⟩;NP (.builtin "set.__new__" ⟨[.type "set",a_],[]⟩)) _ _ s;refine ag (cN (F.newCall_set_1 a_) (ar ⟨rp F.plain_set_new _,kO F.entry_set_new ?_⟩));refine aj (gQ F.plain_set_new _ ..) ?_;unfold Builtin.«set.__new__» Builtin.Frozenset.newClass;have q9:=sub_set_self;obtain ⟨hp,g,d,tk,os⟩:=s;dsimp only
 wp_walk
 refine gC (ar ?_);dsimp only;delta newObj;refine ag (vr (ar ?_));exact ar h
end lQ
theorem lQ(a:ai){Q₁:ai->aq->Prop}:lQ.S0 prog w A E a Q₁:=by with_unfolding_all exact uE _ _ _ _ _ _ lQ.S0 @lQ.T0 prog w A E a Q₁
def lR.S0(prog:dB)(w:d9)(A:bh)(E:ai->aq->Prop)(s:aq)(l:ay)(Q:ai->aq->Prop)(_:Nat):Prop:=∀{items:Array ai} {ns:List Nat} (hh:A.handled=av) (hl:s.heap.IsList l items) (hi:∀(j:Nat) (v:ai),items[j]? =ae v->∃(k:Nat) (t:HX),ns[j]? =ae k/\k < 6/\v=jS (k:Int) t) (hlen:ns.length=items.size) (h:∀(h':dH) (tk:Nat) (led:Bool),led= !(w.params.followText "set-order")->zZ h' s.heap.objs.size (nT ns) led->(∀b o,s.heap.get? b=ae o->h'.get? b=ae o)->Q (.ref s.heap.objs.size) {s with heap:=h',toks:=tk}),aS (aX prog w) A (ku (.type "set") [.ref l]) Q E s
namespace lR
@[irreducible] def e0:=NB sY Fb Fv ta zM cL ta eN S0
def cT:=e0.1
def w_:=e0.2.1
def A_:=e0.2.2.1
def E_:=e0.2.2.2.1
def s_:=e0.2.2.2.2.1
def l_:=e0.2.2.2.2.2.1
def Q_:=e0.2.2.2.2.2.2.1
theorem T0:S0 cT w_ A_ E_ s_ l_ Q_ e0.2.2.2.2.2.2.2:=by
 intro items ns hh hl hi hlen h;have hmade:=mC.made;have q9:=mC.sub;refine oz (mC.mro) λc tl hmro=>?_;have h1:=mC.notType;have h2:=mC.canCreate;have hct:=F.typeCall_set_1 (.ref l_);refine eF (kK ?_);show aS _ _ (callAny (.type "set") _) _ _ _;refine ar ⟨Code.quiet_builtin _ (by decide+kernel),kO F.entry_type_call ?_⟩;refine aj (Around.under_plain (weight_type_call_type "set" [.ref l_] []) rfl ..) ?_
 repeat (any_goals (first|assumption|wp_step))
 refine codeAny_mono (lQ (.ref l_) (E:=E_) (Q₁:=λobj s₁=>obj= .ref s_.heap.objs.size/\s₁={s_ with heap:=s_.heap.push {cls:= .type "set",dict:=av,data:= .set #[] 0 (.fresh 0 0 (!(w_.params.followText "set-order")))}}) ⟨rfl,rfl⟩) λr s₁ hr=>?_;rcases r with e|(_|_|_|obj)
 ·exact hr
 ·exact hr.elim
 ·exact hr.elim
 ·exact hr.elim
 refine dU hr λkG ma=>?_;clear hr;subst kG;subst ma;have hS:(s_.heap.push {cls:= .type "set",dict:=av,data:= .set #[] 0 (.fresh 0 0 (!(w_.params.followText "set-order")))}).get? s_.heap.objs.size=ae {cls:= .type "set",dict:=av,data:= .set #[] 0 (.fresh 0 0 (!(w_.params.followText "set-order")))}:=aW _ rfl;have hT:Shared.TypeIs {s_ with heap:=s_.heap.push {cls:= .type "set",dict:=av,data:= .set #[] 0 (.fresh 0 0 (!(w_.params.followText "set-order")))}} (.ref s_.heap.objs.size) "set":=⟨_,hS,rfl⟩;have Uh:=mC.init.lookup;have hbi:=mC.init.bind (.ref s_.heap.objs.size)
 repeat (any_goals (first|assumption|wp_step))
 have hl':(s_.heap.push {cls:= .type "set",dict:=av,data:= .set #[] 0 (.fresh 0 0 (!(w_.params.followText "set-order")))}).IsList l_ items:=hl.push _;refine aK (id hl) λol M7 z=>qQ (a:=s_.heap.objs.size) (l:=l_) (items:=items) (ns:=ns) (led:= !(w_.params.followText "set-order")) (by simp [hh]) (jI (bN M7)) ⟨λk=> .int k 0,0,hS,λk=>⟨0,rfl⟩,by decide⟩ hl' hi hlen λh' tk h3 h4=>ar (ar ?_);exact h h' tk _ rfl h3 λb o e=>h4 b o (c8 (bN e)) (az _ e)
end lR
theorem lR{l:ay}{Q:ai->aq->Prop}:lR.S0 prog w A E s l Q 0:=by with_unfolding_all exact BB _ _ _ _ _ _ _ _ lR.S0 @lR.T0 prog w A E s l Q 0
end
end
section
variable {prog:dB}{w:d9}{A:bh}{E:ai->aq->Prop}{s:aq}{it a:ay}{S ep i:Nat}{v:Nat->ai}
theorem yT{α:Type}:∀{l:List α} {i:Nat} {x:α},l[i]? =ae x->(x::l.eraseIdx i).Perm l
 |a::l,0,x,h=>by simp at h;subst h;exact ic _
 |a::l,i+1,x,h=>by
  rw [uj] at h;exact aj (List.eraseIdx_cons_succ ..) ((jh _ _ _).trans ((yT h).cons a))
theorem Bd{α:Type}(next:Nat->Nat):∀(fuel k:Nat) (l:List α) (out:Array α),l.length<=fuel->(pickOrder.go next fuel k l out).toList.Perm (out.toList++l)
 |0,k,l,out,h=>by
  have:l=[]:=pD (by lia);subst this;exact G0 (cy _).symm
 |fuel+1,k,l,out,h=>by
  show (match l[next k % l.length]? with|some x=>pickOrder.go next fuel (k+1) (l.eraseIdx (next k % l.length)) (out.push x)|none=>out).toList.Perm _;cases hx:l[next k % l.length]? with
  |none=>
   cases l with
   |nil=>exact G0 (cy _).symm
   |cons a l=>exact absurd (sv.mp hx) (Nat.not_le.mpr (ee _ (Nat.succ_pos _)))
  |some x=>
   have hi:next k % l.length < l.length:=(aB.mp hx).1
   have hl:(l.eraseIdx (next k % l.length)).length<=fuel:=by refine aj (List.length_eraseIdx_of_lt hi ..) ?_;lia
   refine (Bd next fuel (k+1) _ _ hl).trans ?_;refine aj (CE ..) ?_;refine aj (bU ..) ?_;exact List.Perm.append_left _ (yT hx)
noncomputable def tY(w:d9)(a:ay)(ep:Nat)(es:Array (Int×ai)):Array (Int×ai):=if w.params.followText "set-order" then pickOrder (w.params.setOrder a ep) es else es
theorem sb(w:d9)(a:ay)(ep:Nat)(es:Array (Int×ai)):(tY w a ep es).toList.Perm es.toList:=by
 unfold tY
 split
 ·have:=Bd (w.params.setOrder a ep) es.size 0 es.toList #[] (by exact bp _);exact this
 ·exact ic _
theorem i8:Slot "set_iterator" "__next__" "set_iterator.__next__":=
 .of (owner:="set_iterator") (n:="__next__") (by (refine aj (fg ..) ?_;refine aj (dC ..) ?_);kernel_rfl) (by decide+kernel) (by decide+kernel) (by decide+kernel) (by first|exact .inl (by decide+kernel)|exact .inr (by decide+kernel)) (by refine aj (iR ..) ?_;kernel_rfl)
theorem se:uq TL "set_iterator.__next__"=ae Builtin.«set_iterator.__next__»:=Nv (by kernel_rfl)
theorem yU:uq TL "set.__iter__"=ae Builtin.«frozenset.__iter__»:=uR (j:="frozenset.__iter__") (by kernel_rfl) rfl (by kernel_rfl) (by kernel_rfl)
theorem tr(a:ai):ri "set_iterator.__next__" ⟨[a],[]⟩:=by unfold ri;kernel_rfl
noncomputable def sf(w:d9)(S i:Nat):Nat:=if w.params.followText "set-order" then 0 else if i=0 then 0 else (eY S).getD (i - 1) 0+1
noncomputable abbrev yV(w:d9)(S:Nat)(v:Nat->ai)(ep:Nat):o6:={cls:= .type "set",dict:=av,data:= .set (k8 S v) ep (Ex S (!(w.params.followText "set-order")))}
structure Ub(w:d9)(it a:ay)(S:Nat)(v:Nat->ai)(ep i:Nat)(h:dH):Prop where
 it:∃o,h.get? it=ae o/\o.cls= .type "set_iterator"/\o.data= .fields #[.int (sf w S i) 0,.int i 0,.ref a,.int (eY S).length 0,.int ep 0]
 at':h.get? a=ae (yV w S v ep)
theorem k9(b:Bool):(Ex S b).fits (k8 S v).size=aI:=by refine aj (jF ..) ?_;exact u6 S S b
theorem nU{Q:Bool->aq->Prop}(h:Q (w.params.followText "set-order") s):aS (aX prog w) A setsByText Q E s:=by unfold setsByText;exact ag (gC (ar h))
def lS.S0(prog:dB)(w:d9)(A:bh)(E:ai->aq->Prop)(a:ay)(S ep i:Nat)(v:Nat->ai)(_:Nat):Prop:=∀{s:aq} {Q:Option (ai×Nat)->aq->Prop} (uh:S < 64) (hs:s.heap.get? a=ae (yV w S v ep)) (hi:i < (eY S).length) (h:∀x,(∃hh,(tY w a ep (k8 S v))[i]? =ae (hh,x))->Q (ae (x,sf w S (i+1))) s),aS (aX prog w) A (setNext a (sf w S i) i ep) Q E s
namespace lS
@[irreducible] def e0:=zL sY Fb Fv ta cL eN eN eN inferInstance eN S0
def cT:=e0.1
def w_:=e0.2.1
def A_:=e0.2.2.1
def E_:=e0.2.2.2.1
def a_:=e0.2.2.2.2.1
def S_:=e0.2.2.2.2.2.1
def Ez:=e0.2.2.2.2.2.2.1
def i_:=e0.2.2.2.2.2.2.2.1
def v_:=e0.2.2.2.2.2.2.2.2.1
theorem T0:S0 cT w_ A_ E_ a_ S_ Ez i_ v_ e0.2.2.2.2.2.2.2.2.2:=by
 intro s Q uh hs hi h;have hz:(tY w_ a_ Ez (k8 S_ v_)).size=(eY S_).length:=by have:=(sb w_ a_ Ez (k8 S_ v_)).length_eq;simp at this;(refine aj (this ..) ?_;refine aj (jF ..) ?_;rfl)
 obtain ⟨⟨hh,x⟩,hx⟩:∃e,(tY w_ a_ Ez (k8 S_ v_))[i_]? =ae e:=⟨_,dY (by lia)⟩;have:=h x ⟨hh,hx⟩;unfold setNext;refine ag (ly hs rfl (k9 _) ?_);dsimp only;refine ag (nU ?_);cases hb:w_.params.followText "set-order" with
 |true=>refine aj (if_pos rfl ..) ?_;refine aj (if_neg (by simp) ..) (ag ?_);unfold setWalk;refine ag (ly hs rfl (k9 _) ?_);dsimp only;refine ag (nU ?_);refine aj (hb ..) ?_;refine aj (if_pos rfl ..) ?_;refine ag (gC (ar ?_));refine ar ?_;unfold tY at hx;rw [hb,if_pos rfl] at hx;unfold sf at this ⊢;rw [hb,if_pos rfl] at this ⊢;show Q ((pickOrder (w_.params.setOrder a_ Ez) (k8 S_ v_))[i_]?.map λe=>(e.2,0)) s;refine aj (hx ..) ?_;exact this
 |false=>
  simp only [dj,if_false];unfold tY at hx;rw [hb,if_neg (by decide)] at hx;simp only [sf,hb,dj,if_false] at this ⊢;refine f5 (λhd=>EZ (show aH=aI from hd)) λz=>ag (ar (ar ?_));have hp:(Ex S_ (!aH)).place=(eY S_).toArray:=rfl;refine aj (hp ..) ?_;refine aj (Ey S_ uh i_ (by exact cI (by assumption)) ..) ?_;refine aj (hx ..) ?_;refine aj (show (eY S_).toArray[i_]? =ae ((eY S_)[i_]) by simp [hi]) ?_;have e:(eY S_).getD (i_+1 - 1) 0=(eY S_)[i_]:=by (refine aj (Nat.add_sub_cancel ..) ?_;refine aj (bR ..) ?_;refine aj (bJ hi ..) ?_);rfl
  rw [if_neg (by lia),e] at this;exact this
end lS
theorem lS:lS.S0 prog w A E a S ep i v 0:=by with_unfolding_all exact uF _ _ _ _ _ _ _ _ _ _ lS.S0 @lS.T0 prog w A E a S ep i v 0
theorem Ub.typeIs(x:Ub w it a S v ep i s.heap):s.TypeIs (.ref it) "set_iterator":=let ⟨o,h1,h2,_⟩:=x.it;⟨o,h1,h2⟩
def jA.S0(prog:dB)(w:d9)(A:bh)(E:ai->aq->Prop)(s:aq)(it a:ay)(S ep i:Nat)(Q:Option ai->aq->Prop)(_:Nat):Prop:=∀{v:Nat->ai} (uh:S < 64) (iP:it≠a) (x:Ub w it a S v ep i s.heap) (hi:i < (eY S).length) (hQ:∀u h',(∃hh,(tY w a ep (k8 S v))[i]? =ae (hh,u))->Ub w it a S v ep (i+1) h'->ji it s.heap h'->Q (ae u) {s with heap:=h'}),aS (aX prog w) A (l0 (.ref it)) Q E s
namespace jA
@[irreducible] def e0:=HY sY Fb Fv ta zM cL cL eN eN eN ta eN S0
def cT:=e0.1
def w_:=e0.2.1
def A_:=e0.2.2.1
def E_:=e0.2.2.2.1
def s_:=e0.2.2.2.2.1
def sC:=e0.2.2.2.2.2.1
def a_:=e0.2.2.2.2.2.2.1
def S_:=e0.2.2.2.2.2.2.2.1
def Ez:=e0.2.2.2.2.2.2.2.2.1
def i_:=e0.2.2.2.2.2.2.2.2.2.1
def Q_:=e0.2.2.2.2.2.2.2.2.2.2.1
theorem T0:S0 cT w_ A_ E_ s_ sC a_ S_ Ez i_ Q_ e0.2.2.2.2.2.2.2.2.2.2.2:=by
 intro v uh iP x hi hQ;refine ef (x.it) λo ho hc hd=>?_;unfold l0;refine ag (kT (dX (name:=fc "__next__") x.typeIs i8 (dp i8 x.typeIs se ?_ (tr _))));unfold Builtin.«set_iterator.__next__»;refine ag (ar ?_);refine ag (wpAny_fieldsOf ho hd ?_);dsimp only;refine ag (E8 x.at' rfl (k9 _) ?_);refine aj (if_neg (by rw [jF];simp) ..) ?_;refine ag (lS uh x.at' hi λu hu=>?_);show aS _ _ (setField (.ref sC) 0 (pE (sf w_ S_ (i_+1))) >>=λz=>setField (.ref sC) 1 (pE ((i_:Int)+1)) >>=λz=>vn u) _ _ _;refine ag (eH ho hd (by decide) ?_);have ho1:=bS (Fl (·.setIfInBounds 0 (pE (sf w_ S_ (i_+1))))) ho (iW (dP hd _));have hd1:=dP hd (·.setIfInBounds 0 (pE (sf w_ S_ (i_+1))));refine ag (eH ho1 hd1 (by decide) ?_);refine ar ⟨_,rfl,ar (hQ u _ hu ⟨⟨_,bS _ ho1 (iW (dP hd1 _)),?_,?_⟩,?_⟩ ((bY ..).trans (bY ..)))⟩
 ·(refine aj (pL ..) ?_;refine aj (pL ..) ?_);exact hc
 ·refine aj (dP hd1 ..) ?_;simp [pE]
 ·refine aj (((bY ..).trans (bY ..)).2 a_ (gf iP)) ?_;exact x.at'
end jA
theorem jA{Q:Option ai->aq->Prop}:jA.S0 prog w A E s it a S ep i Q 0:=by with_unfolding_all exact C6 _ _ _ _ _ _ _ _ _ _ _ _ jA.S0 @jA.T0 prog w A E s it a S ep i Q 0
def hV.S0(prog:dB)(w:d9)(A:bh)(a:ay)(S ep:Nat)(v:Nat->ai)(_:Nat):Prop:=∀{E:ai->aq->Prop} {s:aq} {Q:Option (ai×Nat)->aq->Prop} (uh:S < 64) (hs:s.heap.get? a=ae (yV w S v ep)) (h:Q av s),aS (aX prog w) A (setNext a (sf w S (eY S).length) (eY S).length ep) Q E s
namespace hV
@[irreducible] def e0:=NB sY Fb Fv cL eN eN inferInstance eN S0
def cT:=e0.1
def w_:=e0.2.1
def A_:=e0.2.2.1
def a_:=e0.2.2.2.1
def S_:=e0.2.2.2.2.1
def Ez:=e0.2.2.2.2.2.1
def v_:=e0.2.2.2.2.2.2.1
theorem T0:S0 cT w_ A_ a_ S_ Ez v_ e0.2.2.2.2.2.2.2:=by
 intro E s Q uh hs h;have hz:(tY w_ a_ Ez (k8 S_ v_)).size=(eY S_).length:=by have:=(sb w_ a_ Ez (k8 S_ v_)).length_eq;simp at this;(refine aj (this ..) ?_;refine aj (jF ..) ?_;rfl)
 have hx:(tY w_ a_ Ez (k8 S_ v_))[(eY S_).length]? =av:=by simp [hz]
 unfold setNext;refine ag (ly hs rfl (k9 _) ?_);dsimp only;refine ag (nU ?_);cases hb:w_.params.followText "set-order" with
 |true=>refine aj (if_pos rfl ..) ?_;refine aj (if_neg (by simp) ..) (ag ?_);unfold setWalk;refine ag (ly hs rfl (k9 _) ?_);dsimp only;refine ag (nU ?_);refine aj (hb ..) ?_;refine aj (if_pos rfl ..) ?_;refine ag (gC (ar ?_));refine ar ?_;unfold tY at hx;rw [hb,if_pos rfl] at hx;show Q ((pickOrder (w_.params.setOrder a_ Ez) (k8 S_ v_))[(eY S_).length]?.map λe=>(e.2,_)) s;refine aj (hx ..) ?_;exact h
 |false=>simp only [dj,if_false,sf,hb];refine f5 (λhd=>EZ (show aH=aI from hd)) λz=>ag (ar (ar ?_));have hp:(Ex S_ (!aH)).place=(eY S_).toArray:=rfl;refine aj (hp ..) ?_;refine aj (Ey S_ uh (eY S_).length (by exact jf _) ..) ?_;refine aj (show (k8 S_ v_)[(eY S_).length]? =av by simp [jF]) ?_;exact h
end hV
theorem hV:hV.S0 prog w A a S ep v 0:=by with_unfolding_all exact BB _ _ _ _ _ _ _ _ hV.S0 @hV.T0 prog w A a S ep v 0
def km.S0(prog:dB)(w:d9)(A:bh)(E:ai->aq->Prop)(s:aq)(it a:ay)(S ep:Nat)(Q:Option ai->aq->Prop):Prop:=∀{v:Nat->ai} (hh:A.handled=av) (uh:S < 64) (x:Ub w it a S v ep (eY S).length s.heap) (hQ:∀h',ry it s.heap h'->Q av {s with heap:=h'}),aS (aX prog w) A (l0 (.ref it)) Q E s
namespace km
@[irreducible] def e0:=zL sY Fb Fv ta zM cL cL eN eN ta S0
def cT:=e0.1
def w_:=e0.2.1
def A_:=e0.2.2.1
def E_:=e0.2.2.2.1
def s_:=e0.2.2.2.2.1
def sC:=e0.2.2.2.2.2.1
def a_:=e0.2.2.2.2.2.2.1
def S_:=e0.2.2.2.2.2.2.2.1
def Ez:=e0.2.2.2.2.2.2.2.2.1
def Q_:=e0.2.2.2.2.2.2.2.2.2
theorem T0:S0 cT w_ A_ E_ s_ sC a_ S_ Ez Q_:=by intro v hh uh x hQ;refine ef (x.it) λo ho hc hd=>?_;unfold l0;refine ag (kT (dX (name:=fc "__next__") x.typeIs i8 (dp i8 x.typeIs se ?_ (tr _))));unfold Builtin.«set_iterator.__next__»;refine ag (ar ?_);refine ag (wpAny_fieldsOf ho hd ?_);dsimp only;refine ag (E8 x.at' rfl (k9 _) ?_);refine aj (if_neg (by rw [jF];simp) ..) ?_;refine ag (hV uh x.at' ?_);show aS _ _ (setField (.ref sC) 2 .none >>=_) _ _ _;refine ag (eH ho hd (by decide) ?_);show aS _ _ (TM (.type "StopIteration") [] >>=_) _ _ _;refine nI hh ?_;refine ag (xy (T:="StopIteration") (b:=aI) ⟨_,aW _ rfl,rfl⟩ TR ?_);exact ar (hQ _ (((bY ..).extBut.push _).push _))
end km
theorem km{Q:Option ai->aq->Prop}:km.S0 prog w A E s it a S ep Q:=by with_unfolding_all exact uF _ _ _ _ _ _ _ _ _ _ km.S0 @km.T0 prog w A E s it a S ep Q
def tZ.S0(prog:dB)(w:d9)(A:bh)(s:aq)(a:ay)(S ep:Nat)(v:Nat->ai)(Q:ai->aq->Prop)(_:Nat):Prop:=∀{E:ai->aq->Prop} (hs:s.heap.get? a=ae (yV w S v ep)) (hQ:Q (.ref s.heap.objs.size) {s with heap:=s.heap.push {cls:= .type "set_iterator",data:= .fields #[.int 0 0,.int 0 0,.ref a,.int (eY S).length 0,.int ep 0]}}),aS (aX prog w) A (rb (.ref a)) Q E s
namespace tZ
@[irreducible] def e0:=zL sY Fb Fv zM cL eN eN inferInstance ta eN S0
def cT:=e0.1
def w_:=e0.2.1
def A_:=e0.2.2.1
def s_:=e0.2.2.2.1
def a_:=e0.2.2.2.2.1
def S_:=e0.2.2.2.2.2.1
def Ez:=e0.2.2.2.2.2.2.1
def v_:=e0.2.2.2.2.2.2.2.1
def Q_:=e0.2.2.2.2.2.2.2.2.1
theorem T0:S0 cT w_ A_ s_ a_ S_ Ez v_ Q_ e0.2.2.2.2.2.2.2.2.2:=by
 intro E hs hQ;have hT:s_.TypeIs (.ref a_) "set":=⟨_,hs,rfl⟩;refine vz hT F.slot_set_iter (dp F.slot_set_iter hT yU ?_ (F.args_set_iter_1 _));unfold Builtin.«frozenset.__iter__»;refine ag (ar ?_);unfold Builtin.Frozenset.sizeOf;refine ag (ag (E8 hs rfl (k9 _) (ar ?_)));refine ag ?_;unfold setDrawn;refine ag (ly hs rfl (k9 _) ?_);dsimp only;refine ag (nU (ar ?_));refine f5 (λhd=>?_) λz=>?_
 ·have hd':(!(w_.params.followText "set-order") && aH)=aI:=hd;rw [kN] at hd';exact vL hd'
 refine ag (ar ?_);refine ag (wpAny_setEpoch_of hs rfl (k9 _) ?_);refine ag (jg (ar ⟨_,rfl,"set_iterator",_,⟨_,aW _ rfl,rfl⟩,i8.lookup,?_⟩));exact aj (jF ..) (hQ)
end tZ
theorem tZ{Q:ai->aq->Prop}:tZ.S0 prog w A s a S ep v Q 0:=by with_unfolding_all exact uF _ _ _ _ _ _ _ _ _ _ tZ.S0 @tZ.T0 prog w A s a S ep v Q 0
def t4.S0(r:ay)(_:Nat):Prop:=∀{prog:dB} {w:d9} {A:bh} {E:ai->aq->Prop} {s:aq} {Q:Bool->aq->Prop} (hT:s.TypeIs (.ref r) "set") (h:Q aH s),aS (aX prog w) A (Q6 (.ref r)) Q E s
namespace t4
@[irreducible] def e0:=Qi cL eN S0
def r_:=e0.1
theorem T0:S0 r_ e0.2:=by
 intro prog w A E s Q hT h;unfold Q6;refine ag (h8 hT F.slot_set_len.lookup ?_);generalize hid:("set.__len__":String)=id0
 wp_delta
 refine aj (show Q3 id0=ae ("set","__len__") from by subst hid;decide+kernel) ?_;subst hid;refine ag (xy (T:="set") (b:=aI) hT (by refine aj (iR ..) ?_;kernel_rfl) ?_);refine f5 (λxb=>absurd xb (by decide)) (λz=>?_);refine f5 (λz=>?_) (λxb=>absurd (by decide+kernel) xb);refine ag (wpAny_typeOf hT ?_);exact ar h
end t4
theorem t4{r:ay}:t4.S0 r 0:=by with_unfolding_all exact Fp _ _ t4.S0 @t4.T0 r 0
variable {k:Nat}{mu nu:Mu}{env:gV}{e:bH}{p pos:jX}{xs:List V}
theorem tu:Slot "set_iterator" "__iter__" "set_iterator.__iter__":=
 .of (owner:="set_iterator") (n:="__iter__") (by (refine aj (fg ..) ?_;refine aj (dC ..) ?_);kernel_rfl) (by decide+kernel) (by decide+kernel) (by decide+kernel) (by first|exact .inl (by decide+kernel)|exact .inr (by decide+kernel)) (by refine aj (iR ..) ?_;kernel_rfl)
theorem yW:uq TL "set_iterator.__iter__"=ae Builtin.«dict_keyiterator.__iter__»:=uR (j:="dict_keyiterator.__iter__") (by kernel_rfl) rfl (by kernel_rfl) (by kernel_rfl)
theorem z8(a:ai):ri "set_iterator.__iter__" ⟨[a],[]⟩:=by unfold ri;kernel_rfl
theorem Pe(uh:S < 64):KdlSrc prog w "set" a a (eY S).length (λi u=>∃hh,(tY w a ep (k8 S v))[i]? =ae (hh,u)) (λh=>h.get? a=ae (yV w S v ep)) where
 type:=λs h=>⟨_,h,rfl⟩
 there:=λh e=>⟨bN e,bN e⟩
 keep:=λh h' e hk=>hk a (.inl rfl) _ e
 notList:=by decide
 notTuple:=by decide
 hint:=λA E s Q e hq=>t4 ⟨_,e,rfl⟩ hq
 iter:=λA s hh e=>by
  have hlt:=bN e;refine ⟨_,λi h=>Ub w s.heap.objs.size a S v ep i h,λE Q hq=>tZ e hq,⟨λb hb=>by simp at hb;simp [hb],λi h h' st hk=>⟨?_,hk a (by exact ab _ aa) _ st.at'⟩,λi s Q E hi st hQ=>jA uh (jI hlt) st hi λu h' hu st' hs=>hQ u h' s.toks hu st' λb o hb e=>hs.extBut b o (λq=>hb (by simp [q])) e,λs Q E st hQ=>km hh uh st λh' he=>hQ h' s.toks λb o hb e=>he b o (λq=>hb (by simp [q])) e,λi s Q E st hQ=>?_⟩,?_⟩
  ·exact ef (st.it) λo h1 h2 h3=>⟨o,hk _ (by exact aa) _ h1,h2,h3⟩
  ·have hT:=st.typeIs;refine vz hT tu (dp tu hT yW ?_ (z8 _));show aS _ _ (vn _) _ _ s;exact ar ⟨_,rfl,"set_iterator",_,hT,i8.lookup,hQ⟩
  ·refine ⟨⟨_,aW _ rfl,rfl,?_⟩,az _ e⟩;simp [sf]
theorem uo.of_vals:∀{vs:List ai} {ns:List Int},vs.length=ns.length->(∀(j:Nat) (u:ai) (n:Int),vs[j]? =ae u->ns[j]? =ae n->∃t,u= .int n t)->uo vs ns
 |[],[],_,_=> .nil
 |u::vs,n::ns,hl,h=>by
  refine cJ (h 0 u n rfl rfl) λt dO=>?_;subst dO;exact .cons n t (uo.of_vals (by simpa using hl) λj u n hu hn=>h (j+1) u n hu hn)
 |[],_::_,hl,_=>by simp at hl
 |_::_,[],hl,_=>by simp at hl
theorem Gq{Q:ai->aq->Prop}(hh:A.handled=av)(uh:S < 64)(hv:∀k:Nat,∃t,v k= .int k t)(hs:s.heap.get? a=ae (yV w S v ep))
 (h:∀(D:ay) (h':dH) (tk:Nat) (out:Array ai) (n:Nat),(∀b o,s.heap.get? b=ae o->h'.get? b=ae o)->s.heap.get? D=av->h'.get? D=ae (oK out n)->uo out.toList ((eY S).map fB)->Q (.ref D) {s with heap:=h',toks:=tk}):
 aS (aX prog w) A (ku (.builtin "sorted") [.ref a]) Q E s:=by
 have hz:(tY w a ep (k8 S v)).size=(eY S).length:=by have:=(sb w a ep (k8 S v)).length_eq;simp at this;(refine aj (this ..) ?_;refine aj (jF ..) ?_;rfl)
 have Ae:(eY S).length<=6:=by have:=bu S.testBit (aN 6);exact this
 refine gv kind_sorted plain_sorted entry_sorted (args_sorted1 _) ?_;unfold Builtin.«sorted»;refine ag (m:=checkCount "sorted" 1 1 _) (ar ?_);refine ag (kdu_collect (A:=A.in1) (Pe uh) hh hs (by show _<=2 ^ 24;exact aw (by assumption) (by decide)) λh' tk acc hk EP=>?_);have hl:acc.toList.length=(eY S).length:=by refine aj (eK ..) ?_;exact EP.1
 refine ag (wpAny_newList ?_ (by refine aj (hl ..) ?_;show _<=2 ^ 24;exact aw (by assumption) (by decide)));have hoL:(h'.push {cls:= .type "list",data:= .seq acc.toList.toArray}).get? h'.objs.size=ae (seqObj "list" acc.toList.toArray 0):=aW _ rfl;have hI:uo acc.toList ((tY w a ep (k8 S v)).toList.map (·.1)):=by refine uo.of_vals (by (refine aj (hl ..) ?_;refine aj (ak ..) ?_;refine aj (eK ..) ?_);exact hz.symm) λj u n hu hn=>?_;refine cJ (EP.2 j u (by refine fZ (bV ..) ?_;exact hu)) λhh' hj=>?_;rw [aJ,bV,hj] at hn;have hm:(hh',u)∈(k8 S v).toList:=(sb w a ep (k8 S v)).mem_iff.mp (by refine gj (pI ..) ?_;exact Array.mem_of_getElem? hj);simp only [k8,aG] at hm;refine aK hm λk z e=>?_;clear hm;refine cJ (hv k) λt ht=>?_;have e1:hh'=(k:Int):=(sO e).1.symm;have e2:u= .int k t:=(sO e).2.symm.trans ht;have e3:n=hh':=(aO hn).symm;exact ⟨t,by (refine aj (e2 ..) ?_;refine aj (e3 ..) ?_;refine aj (e1 ..) ?_;rfl)⟩
 have hp:((tY w a ep (k8 S v)).toList.map (·.1)).Perm ((eY S).map fB):=by have:=(sb w a ep (k8 S v)).map (·.1);refine this.trans (G0 ?_);simp only [k8,a0];rfl
 have hR:(eY S).map fB=((eY S).map fB):=rfl;have hsrt:((eY S).map fB).Pairwise (·<=·):=by
  have:∀S,S < 64->(eY S).Pairwise (·<=·):=by decide+kernel
  exact List.pairwise_map.mpr ((this S uh).imp λ{a b} h=>Int.ofNat_le.mpr h)
 show aS _ _ _ _ _ {s with heap:=h'.push (seqObj "list" acc.toList.toArray 0),toks:=tk};refine ag (bE (dp slot_list_sort ⟨_,hoL,rfl⟩ entry_list_sort (list_sort_tree hoL hI (by lia) λout ns' a1 a2 a3=>⟨_,rfl,?_⟩) (args_list_sort _)));have wz:ns'=(eY S).map fB:=List.Perm.eq_of_pairwise (λa b z z h1 h2=>Int.le_antisymm h1 h2) a3 hsrt (a2.trans hp);subst wz;exact cJ (sortedHeap_at (out:=out) hoL) λe he=>ar ⟨_,rfl,h _ _ _ out e (λb o eb=>by
  have hbl:=bN (hk b o eb);refine aj (sortedHeap_old (c8 hbl) (by rw [fO];exact cI hbl) ..) ?_;exact az _ (hk b o eb)) (by
   cases hq:s.heap.get? h'.objs.size with
   |none=>rfl
   |some o=>exact absurd (bN (hk _ _ hq)) (zJ _)) he a1⟩
noncomputable def Mz(S:Nat):Vw:=⟨λZ v=>∃a u ep,v= .ref a/\Z a=ae (yV G.w S u ep)/\(∀k:Nat,∃t,u k= .int k t)/\S < 64,λZ Z' v h ⟨a,u,ep,e,z,r⟩=>⟨a,u,ep,e,h _ _ z,r⟩⟩
theorem Pf{ns:List Nat}(h6:∀n∈ns,n < 6):Fn k mu (.type "set") [me mu (ns.map nV)] (Mz (nT ns)):=⟨λ{A E Z s fr vs Q} hA r hq q=>by
 refine aK (hq.one) λv eT p=>?_;subst eT;refine cE (me.at p r) λa ws n gi h1 h2=>?_;subst gi;have hl:ns.length=ws.size:=by (refine fZ (b9 h2 ..) ?_;refine aj (ak ..) ?_;rfl)
 refine lR (ns:=ns) hA.hh ⟨_,h1,rfl,n,rfl⟩ (λj u hu=>?_) hl λh' tk led hled hS hk=>?_
 ·refine aK (h2.get' (bV.trans hu)) λx hx hr=>?_;rw [aJ] at hx;refine aK (aL.mp hx) λm hm iC=>?_;subst iC;refine cJ (gF hr) λt kG=>?_;subst kG;exact ⟨m,t,hm,h6 m (ao hm),rfl⟩
 ·obtain ⟨u,ep,ho,hu,uh⟩:=hS;subst hled;have hz:=r.fresh (bp _);exact q (bI.le_put hz) ⟨_,u,ep,rfl,bI.put_self ..,hu,uh⟩ (R.freeze (r.keep (tk:=tk) hk) ho hz (r.notOwn (bp _)))⟩
theorem yX{Z:bI}:∀{vs:List ai} {ns:List Nat},uo vs (ns.map fB)->bW G Z vs (ns.map nV)
 |[],[],_=> .nil
 |v::vs,n::ns,h=>by cases h with|cons _ t hr=>exact .cons (.int _ _) (yX hr)
 |[],_::_,h=>by cases h
 |_::_,[],h=>by cases h
theorem Gs{S:Nat}:Fn k mu (.builtin "sorted") [Mz S] (bZ (.list ((eY S).map nV))):=⟨λ{A E Z s fr vs Q} hA r hq q=>by
 obtain ⟨v,rfl,a,u,ep,rfl,hz,hu,uh⟩:=hq.one;refine Gq hA.hh uh hu (r.zin _ _ hz) λD h' tk out n hk hD hl hI=>?_;have hzD:Z D=av:=by
  cases e:Z D with
  |none=>rfl
  |some o=>have:=r.zin _ _ e;rw [hD] at this;exact gK this
 exact q (bI.le_put hzD) (aZ.list (bI.put_self ..) (yX hI)) (R.freeze (r.keep (tk:=tk) hk) hl hzD λhb=>by obtain ⟨o,ho⟩:=r.liveAll hb;rw [hD] at ho;exact gK ho)⟩
theorem Gu(ns:List Nat)(b:Nat):(nT ns).testBit b=decide (b∈ns):=by
 have:∀(ns:List Nat) (S:Nat),(ns.foldl (λS k=>S ||| 2 ^ k) S).testBit b=(S.testBit b || decide (b∈ns)):=by
  intro ns;induction ns with
  |nil=>intro S;simp
  |cons n ns ih=>
   intro S;refine aj (fF ..) ?_;refine aj (ih ..) ?_;refine aj (Nat.testBit_or ..) ?_;refine aj (lC ..) ?_;refine gj (cj ..) ?_;simp only [jU,decide_eq_true_eq,aP];constructor
   ·rintro ((h|h)|h)
    ·exact .inl h
    ·exact .inr (.inl h.symm)
    ·exact .inr (.inr h)
   ·rintro (h|h|h)
    ·exact .inl (.inl h)
    ·exact .inl (.inr h.symm)
    ·exact .inr h
 unfold nT;refine aj (this ..) ?_;simp
variable {vs:el}{Θ:AF->Mu->Prop}{L Bk:ay}{ds:List Nat}{ns:List Int}{n6:Nat}{K:fH}
section
variable {A Du Oc Sg:ay}
noncomputable def rT(ds:List Nat)(p:Nat):List V:=[nV (2*cc ds (sP ds p)),nV (2*cc ds (eP ds p)),nV (2*cc ds (tP ds p)),nV (lP ds p / 2),.bool (decide (lP ds p % 2=1))]
theorem Sr(p:Nat):D3 (QD ds p)= .ent (rT ds p):=by
 have h:cc ds (sP ds p)<=cc ds (eP ds p):=nQ (by unfold eP;lia);have e1:((cc ds (sP ds p):Nat):Int)*2=((2*cc ds (sP ds p):Nat):Int):=by lia
 have e2:((2*cc ds (sP ds p):Nat):Int)+((cc ds (eP ds p) - cc ds (sP ds p):Nat):Int)*2=((2*cc ds (eP ds p):Nat):Int):=by lia
 have e3:((cc ds (tP ds p):Nat):Int)*2=((2*cc ds (tP ds p):Nat):Int):=by lia
 have e4:((lP ds p:Nat):Int) / 2=((lP ds p / 2:Nat):Int):=by lia
 simp only [D3,QD,rT,e1,e2,e3,e4];rfl
theorem Pg:Mk ds= .list ([10,14].map λp=>V.ent (rT ds p)):=by unfold Mk;simp only [bA,vg,Sr]
theorem Ph(p:Nat):∃dd,ph (rT ds p)=ae dd/\zK dd=0:=⟨[.int _,.int _,.int _,.int _,.bool _],rfl,rfl⟩
noncomputable abbrev S16(ds:List Nat)(ns:List Int)(n6:Nat)(A Du Oc Sg lx Bk:ay):List (Nat×V):=(27,.list ([10,14].map λp=>V.tup (rT ds p)))::(26,.list ([10,14].map λp=>V.ent (rT ds p)))::QC ds ns n6 A Du Oc Sg lx Bk
theorem Ss(H:Hy G)(EH:gN G K)(TH:sa G K){pm doc:ai}(he:du (bT pm doc L)){P:ib}{N:Int}{cs:List Nat}{B:Rw}(hS:Sv vs (S15 ds ns n6 A Du Oc Sg P.lx Bk))
 (next:∀vs,Sv vs (S16 ds ns n6 A Du Oc Sg P.lx Bk)->ym (k+8) (cw L vs::mu) (bT pm doc L) (je 17) Θ):
 ym (k+8) (cw L vs::mu) (bT pm doc L) (je 16) Θ:=by
 have hf:∀{vs},bq L (aM (L+1) (bk (cM 23)).names) vs∈cw L vs::mu:=aa;refine cJ (TH.g0) λg0 P0=>cJ (TH.g1) λg1 hg1=>cJ (TH.g2) λg2 hg2=>cJ (TH.g3) λg3 hg3=>cJ (TH.g4) λg4 hg4=>?_;have S3:Sv vs ((26,.list ([10,14].map λp=>V.ent (rT ds p)))::QC ds ns n6 A Du Oc Sg P.lx Bk):=by refine fZ (Pg ..) ?_;exact hS
 have Jt:∀p:Nat,(rT ds p).length<=1000:=λp=>by show 5<=1000;decide
 refine nJ (WF.f (bX (y:= .list ([10,14].map λp=>V.tup (rT ds p))) (jO [10,14] (λp=>V.ent (rT ds p)) (λp=>V.tup (rT ds p)) ⟨rfl,rfl,by decide+kernel,by decide+kernel⟩ (dA (ah (j:=26) he .loc hf (S3.get rfl))) (by lia) (by decide) (λC1 a ha=>iu 1 he.comp .loc dk (λhb=>(f9 (xs:=rT ds a)
  (au (nR (k:=k+5) (i:=0) H EH TH P0 (ah (j:=1) he.comp .loc aa rfl) rfl (Jt a) (λn e=>by cases e))
  (au (nR (k:=k+5) (i:=1) H EH TH hg1 (ah (j:=1) he.comp .loc aa rfl) rfl (Jt a) (λn e=>by cases e))
  (au (nR (k:=k+5) (i:=2) H EH TH hg2 (ah (j:=1) he.comp .loc aa rfl) rfl (Jt a) (λn e=>by cases e))
  (au (nR (k:=k+5) (i:=3) H EH TH hg3 (ah (j:=1) he.comp .loc aa rfl) rfl (Jt a) (λn e=>by cases e))
  (au (nR (k:=k+5) (i:=4) H EH TH hg4 (ah (j:=1) he.comp .loc aa rfl) rfl (Jt a) (λn e=>by cases e)) aT))))) (by show 5<=2 ^ 20;decide))))) (aQ (i:=0) (j:=27) he (.cell (L+13) "told") rfl ?_) rfl rfl))
 exact next _ (S3.set (j:=27))
noncomputable abbrev lb(P:ib)(N:Int)(cs:List Nat)(A:ay)(arms:List (Nat×Nat))(mu:Mu):Mu:=j6 P [] N cs++(bl A (arms.map kH)::gG 304 []::mu)
noncomputable abbrev Su(ds:List Nat)(n6:Nat)(A lx Bk:ay):List (Nat×V):=[(26,.list ([10,14].map λp=>V.ent (rT ds p))),(41,.ref Bk),(23,.dict (L9 (aF ds))),(21,.ref lx),(20,.str (g9 ds n6)),(11,.list ((aN 7).map λb=>nV (cc ds b))),(10,.ref A),(42,.dict (qE (aF ds))),(7,rZ (aF ds)),(4,.list (ds.map nV))]
def t5.S0(k:Nat)(mu:Mu)(vs:el)(Θ:AF->Mu->Prop)(L A Bk:ay)(ds:List Nat)(pm doc:ai)(P:ib)(N:Int)(cs:List Nat)(B:Rw):Prop:=∀{Du Oc Sg:ay} {ns:List Int} {n6:Nat} {K:fH} (H:Hy G) (EH:gN G K) (QH:QE K) (GH:Lv G) (he:du (bT pm doc L)) (hk:vZ (bT pm doc L)) (hS:Sv vs (S16 ds ns n6 A Du Oc Sg P.lx Bk)) (next:∀vs,Sv vs (Su ds n6 A P.lx Bk)->ym (k+8) (cw L vs::cD Bk (fT (aF ds) B)::lb P N cs A (dm ds) mu) (bT pm doc L) (je 18) Θ),ym (k+8) (cw L vs::cD Bk (fT (aF ds) B)::pq P N cs A (dm ds) ds Du mu) (bT pm doc L) (je 17) Θ
namespace t5
@[irreducible] def e0:=N3 eN gD gD ta cL cL cL gD gL gL IV Ra gD RQ S0
def k_:=e0.1
def e9:=e0.2.1
def kR:=e0.2.2.1
def Θ_:=e0.2.2.2.1
def L_:=e0.2.2.2.2.1
def A_:=e0.2.2.2.2.2.1
def wk:=e0.2.2.2.2.2.2.1
def aV:=e0.2.2.2.2.2.2.2.1
def pj:=e0.2.2.2.2.2.2.2.2.1
def g8:=e0.2.2.2.2.2.2.2.2.2.1
def P_:=e0.2.2.2.2.2.2.2.2.2.2.1
def N_:=e0.2.2.2.2.2.2.2.2.2.2.2.1
def qP:=e0.2.2.2.2.2.2.2.2.2.2.2.2.1
def B_:=e0.2.2.2.2.2.2.2.2.2.2.2.2.2
theorem T0:S0 k_ e9 kR Θ_ L_ A_ wk aV pj g8 P_ N_ qP B_:=by
 intro Du Oc Sg ns n6 K H EH QH GH he hk hS next
 refine Wf.to [0,9] (Wf.frzL (j:=12) (hS.get rfl) ?_);have hS1:Sv (kR.set 12 (ae (.list ([10,14].map (u3 aV))))) ((12,.list ([10,14].map λp=>V.tup (rT aV p)))::S16 aV ns n6 A_ Du Oc Sg P_.lx wk):=hS.set (j:=12);generalize kR.set 12 (ae (.list ([10,14].map (u3 aV))))=kR at hS1;show ym (k_+8) (cw L_ kR::cD wk (fT (aF aV) B_)::lb P_ N_ qP A_ (dm aV) e9) (bT pj g8 L_) (je 17) Θ_;refine cE (GH.f275.go) λob2 z z g0 gd0 z=>cq (H.f179.go) λob3 z z z t0 td z=>?_;have hf:∀{l:Mu},bq L_ (aM (L_+1) (bk (cM 23)).names) kR∈cw L_ kR::l:=aa;have Jt:∀p:Nat,∃a b c d,rT aV p=[a,b,c,d,.bool (decide (lP aV p % 2=1))]:=λp=>⟨_,_,_,_,rfl⟩
 refine nJ (Sk (Sm ?_));refine Cp (c9 (ah (j:=26) he .loc hf (hS1.get rfl)) (ah (j:=12) he .loc hf (hS1.get rfl)) (I8 (rows:=[10,14].map (rT aV)) EH QH ?_)) ?_
 ·intro row Nc;refine aK (aG.mp Nc) λp z dO=>?_;subst dO;exact Ph p
 refine Cp (c9 (ah (j:=27) he (.cell (L_+13) "told") hf (hS1.get rfl)) (ah (j:=12) he .loc hf (hS1.get rfl)) (Bc (d:= .list ([10,14].map λp=> .tuple [.int (2*cc aV (sP aV p):Nat),.int (2*cc aV (eP aV p):Nat),.int (2*cc aV (tP aV p):Nat),.int (lP aV p / 2:Nat),.bool (decide (lP aV p % 2=1))])) rfl (by decide))) (Cp (oV (c9 (nF [10,14] (λp=>V.tup (rT aV p)) (λz=>aH) (λz=>V.int 1) ⟨rfl,rfl,by decide+kernel,by decide+kernel⟩ (dA (ah (j:=27) he (.cell (L_+13) "told") hf (hS1.get rfl))) (by lia) (by decide) (λC2 a ha=>iu 1 he.comp .loc (fS (Fz (b:=aI) (kU (ej (j4 H he.comp H.b_isinstance rfl) (au (bF (ah (j:=1) he.comp .loc aa rfl) aU (tL (e:= .bool (decide (lP aV a % 2=1))))) (au (iN H he.comp H.b_bool rfl) aT)) BZ) qw))) (λhb=>aU))) (ij (xs:=[]) aT (bg rfl)) (BQ (nk _ _))) rfl) ?_);refine O9 (Mt (AR hk (mn H he H.m_table rfl) t0 td (cA (ml (mn H he H.m_given rfl) g0 gd0 (cA (cf cO (e8 (FW.mono (m9 (k:=k_+6) (i:=8) (text:="") (o:=ae (P_.a,P_.b)) H GH rfl (λc hc=>eo hc) (by decide)) λy nu hy=>?_))))))));obtain ⟨f,dx,lam,it,L1,gd,ld,a,b,e1,xb,hRd,e2⟩:=hy;cases xb _ rfl;subst e1 e2;refine e8 ⟨[_,_,_,_],_,ic _,⟨_,_,aa⟩,JS.mono (Hw (k:=k_+4) (qs:=[]) H EH (.tail _ (.head _)) (by show (["read","co_exceptiontable"]:List bb).Nodup;decide) (.tail _ (.head _)) (D2.stop rfl (by decide)) (by decide)) λy nu e=>?_⟩;refine dU e λe1 e2=>?_;clear e;subst e1 e2;refine ⟨_,ic _,bZ (.list []),aH,ij (xs:=[]) aT (bg rfl),BQ (xs:=[]) rfl,?_⟩;exact OC (Wf.drop1 (Wf.drop1 (Wf.drop1 (Wf.drop1 (next _ (hS1.sub ⟨rfl,rfl,rfl,rfl,rfl,rfl,rfl,rfl,rfl,rfl,trivial⟩))))))
end t5
theorem t5{pm doc:ai}{P:ib}{N:Int}{cs:List Nat}{B:Rw}:t5.S0 k mu vs Θ L A Bk ds pm doc P N cs B:=by with_unfolding_all exact J2 _ _ _ _ _ _ _ _ _ _ _ _ _ _ t5.S0 @t5.T0 k mu vs Θ L A Bk ds pm doc P N cs B
end
variable {l m r:bH}{P Q:Vw}{b c:Bool}{o1 o2:CmpOp}
def yY(h:dH)(t:ay)(items:Array ai):Prop:=∃o n,h.get? t=ae o/\o.data= .seq items n
theorem yY.at{h h':dH}{t:ay}{items:Array ai}(x:yY h t items)(hk:∀o,h.get? t=ae o->h'.get? t=ae o):yY h' t items:=let ⟨o,n,e,d⟩:=x;⟨o,n,hk o e,d⟩
theorem MA:CO "tuple.__iter__"=ae .slot:=by kernel_rfl
theorem Jb:Q3 "tuple.__iter__"=ae ("tuple","__iter__"):=by kernel_rfl
section
variable {t:ay}{items:Array ai}{x:ai}
theorem xi{Q:Option ai->aq->Prop}(hit:s.heap.IsTupleIter it t i)(ht:yY s.heap t items)(hx:items[i]? =ae x)
 (hQ:∀h',h'.IsTupleIter it t (i+1)->ji it s.heap h'->Q (ae x) {s with heap:=h'}):aS (aX prog w) A (l0 (.ref it)) Q E s:=by
 refine ef (id hit) λo ho hc hd=>eD ht λol nl M7 Fg=>?_;clear ht;delta l0;refine ag (kT (dX (name:=fc "__next__") hit.typeIs fA (dp fA hit.typeIs Bz ?_ (Aq _))));show aS _ _ (vH (.ref it) 0 >>=_) _ _ s;refine ag (dS ho hd (x:= .ref t) rfl ?_);show aS _ _ (if (cY t == eG)=aI then _ else _) _ _ s;refine aj (if_neg (show ¬((cY t == eG)=aI) from cF)) ?_;show aS _ _ (vH (.ref it) 1 >>=_) _ _ s;refine ag (dS ho hd (x:= .int i 0) rfl ?_);show aS _ _ (seqItems? (.ref t) >>=_) _ _ s;refine ag (CP M7 Fg ?_);simp only [b8,hx];refine ag (eH ho hd (by exact bp _) (ar ⟨x,rfl,ar (hQ _ ?_ (bY ..))⟩));exact ⟨_,bS _ ho (iW (dP hd _)),(pL ..).trans hc,by refine aj (dP hd ..) ?_;simp [pE]⟩
def gy.S0(prog:dB)(w:d9)(A:bh)(E:ai->aq->Prop)(s:aq)(it t:ay)(i:Nat)(Q:Option ai->aq->Prop)(_:Nat):Prop:=∀{items:Array ai} (hh:A.handled=av) (hit:s.heap.IsTupleIter it t i) (ht:yY s.heap t items) (hx:items[i]? =av) (hQ:∀h',ry it s.heap h'->Q av {s with heap:=h'}),aS (aX prog w) A (l0 (.ref it)) Q E s
namespace gy
@[irreducible] def e0:=zL sY Fb Fv ta zM cL cL eN ta eN S0
def cT:=e0.1
def w_:=e0.2.1
def A_:=e0.2.2.1
def E_:=e0.2.2.2.1
def s_:=e0.2.2.2.2.1
def sC:=e0.2.2.2.2.2.1
def t_:=e0.2.2.2.2.2.2.1
def i_:=e0.2.2.2.2.2.2.2.1
def Q_:=e0.2.2.2.2.2.2.2.2.1
theorem T0:S0 cT w_ A_ E_ s_ sC t_ i_ Q_ e0.2.2.2.2.2.2.2.2.2:=by intro items hh hit ht hx hQ;refine ef (id hit) λo ho hc hd=>eD ht λol nl M7 Fg=>?_;clear ht;delta l0;refine ag (kT (dX (name:=fc "__next__") hit.typeIs fA (dp fA hit.typeIs Bz ?_ (Aq _))));show aS _ _ (vH (.ref sC) 0 >>=_) _ _ s_;refine ag (dS ho hd (x:= .ref t_) rfl ?_);show aS _ _ (if (cY t_ == eG)=aI then _ else _) _ _ s_;refine aj (if_neg (show ¬((cY t_ == eG)=aI) from cF)) ?_;show aS _ _ (vH (.ref sC) 1 >>=_) _ _ s_;refine ag (dS ho hd (x:= .int i_ 0) rfl ?_);show aS _ _ (seqItems? (.ref t_) >>=_) _ _ s_;refine ag (CP M7 Fg ?_);simp only [b8,hx];refine ag (oj (ag (eH ho hd (by decide) ?_)));show aS _ _ (TM (.type "StopIteration") [] >>=_) _ _ _;refine nI hh ?_;refine ag (xy (T:="StopIteration") (b:=aI) ⟨_,aW _ rfl,rfl⟩ TR ?_);exact ar (hQ _ (((bY ..).extBut.push _).push _))
end gy
theorem gy{Q:Option ai->aq->Prop}:gy.S0 prog w A E s it t i Q 0:=by with_unfolding_all exact uF _ _ _ _ _ _ _ _ _ _ gy.S0 @gy.T0 prog w A E s it t i Q 0
theorem EA(iP:t≠it):∀(n i:Nat) (s:aq) (Q:List ai->aq->Prop),s.heap.IsTupleIter it t i->yY s.heap t items->i+n<=items.size->
 (∀h',h'.IsTupleIter it t (i+n)->ji it s.heap h'->Q ((items.toList.drop i).take n) {s with heap:=h'})->aS (aX prog w) A (draw (.ref it) n) Q E s
 |0,i,s,Q,hit,_,_,hQ=>by
  show aS _ _ (dg []) Q E s;exact ar (by exact hQ s.heap hit (JQ ..))
 |n+1,i,s,Q,hit,ht,hle,hQ=>by
  have hlt:i < items.size:=by lia
  show aS _ _ (l0 (.ref it) >>=_) Q E s;refine ag (xi hit ht (x:=items[i]) (by simp [hlt]) λh₁ GM Na=>?_);refine ag (bE (EA iP n (i+1) _ _ GM (ht.at λo e=>Na.extBut t o iP e) (by lia) λh₂ Th hs₂=>ar ?_));have hd:items.toList.drop i=items[i]::items.toList.drop (i+1):=by simp [dZ,hlt]
  have:=hQ h₂ (by refine aj (show i+(n+1)=i+1+n by lia) ?_;exact Th) (Na.trans hs₂);rw [hd,jb] at this;exact this
def nW.S0(prog:dB)(w:d9)(A:bh)(E:ai->aq->Prop)(t:ay)(Q:ai->aq->Prop):Prop:=∀{s:aq} {K:fH} {o:o6} (X:K.In s.heap) (QH:QE K) (hI:fJ K (.ref 162) "__iter__"=ae (ae (.builtin "tuple.__iter__"))) (ho:s.heap.get? t=ae o) (hc:o.cls= .ref 162) (hQ:Q (.ref s.heap.objs.size) {s with heap:=s.heap.push {cls:= .type "tuple_iterator",data:= .fields #[.ref t,.int 0 0]}}),aS (aX prog w) A (rb (.ref t)) Q E s
namespace nW
@[irreducible] def e0:=Fq sY Fb Fv ta cL ta S0
def cT:=e0.1
def w_:=e0.2.1
def A_:=e0.2.2.1
def E_:=e0.2.2.2.1
def t_:=e0.2.2.2.2.1
def Q_:=e0.2.2.2.2.2
theorem T0:S0 cT w_ A_ E_ t_ Q_:=by
 intro s K o X QH hI ho hc hQ;obtain ⟨hp,g,d,tk,os⟩:=s;have L1:iL (aX cT w_) hp (jT (.ref t_)) (.ref 162):=sL ho hc;have L2:=mT (M:=aX cT w_) X hI;have L5:iL (aX cT w_) hp (ui (.ref t_) (.type "tuple")) aI:=L1.andThen (looks_subIn X QH.up);have fin:∀E':ai->aq->Prop,aS (aX cT w_) A_ (ku (.builtin "tuple.__iter__") [.ref t_]) (λv s'=>v= .ref hp.objs.size/\s'=⟨hp.push {cls:= .type "tuple_iterator",data:= .fields #[.ref t_,.int 0 0]},g,d,tk,os⟩) E' ⟨hp,g,d,tk,os⟩:=λE'=>by
  refine eF (jj uB.plain PySem.F.entry_tuple_iter (@rz (aX cT w_) _ _ ⟨hp,g,d,tk,os⟩ "tuple.__iter__" "tuple" "__iter__" (.ref t_) [] [] _ MA Jb L5 (PySem.F.args_tuple_iter_1 _) ?_));show aS _ _ (do vn (<- newFields "tuple_iterator" [.ref t_,pE 0])) _ _ _;exact ag (jg (ar ⟨rfl,rfl⟩))
 have tail:aS (aX cT w_) A_ (do
  match <- mA (.ref hp.objs.size) "__next__" with
  |none=>rule "iter.non-iterator";raiseError "TypeError" s!"iter() returned non-iterator of type '{<- PySem.typeNameOf (.ref hp.objs.size)}'"
  |some _=>dg (.ref hp.objs.size)) Q_ E_ ⟨hp.push {cls:= .type "tuple_iterator",data:= .fields #[.ref t_,.int 0 0]},g,d,tk,os⟩:=
  ag (h8 (T:="tuple_iterator") ⟨_,aW _ rfl,rfl⟩ fA.lookup (ar hQ))
 delta rb mA;refine ag (ag (L1.at (L2.at ?_)));dsimp only;refine ag ?_;unfold callSpecialIfBoundUnlessNone? bindSpecialIfBound? mA;refine bE (ag (ag (ag (L1.at (L2.at ?_)))));refine ag (gC (wpAny_ite ?_))
 split
 ·refine ag (cN (uB.bind _) (ar ?_));dsimp only;refine aj (if_neg (by decide) ..) (ag (eR (fin _) (λv s' ⟨e1,e2⟩=>?_) λy y z=>z));subst e1 e2;exact ar tail
 ·refine wpAny_tryCatch (ag (cN (uB.bind _) (ar ?_)));dsimp only;refine aj (if_neg (by decide) ..) (ag (eR (fin _) (λv s' ⟨e1,e2⟩=>?_) λy y z=>z));subst e1 e2;exact ar tail
end nW
theorem nW{Q:ai->aq->Prop}:nW.S0 prog w A E t Q:=by with_unfolding_all exact uE _ _ _ _ _ _ nW.S0 @nW.T0 prog w A E t Q
def kp.S0(prog:dB)(w:d9)(A:bh)(s:aq)(t:ay)(items:Array ai):Prop:=∀{E:ai->aq->Prop} {K:fH} {Q:List ai->aq->Prop} {o:o6} {n:Nat} (hh:A.handled=av) (X:K.In s.heap) (QH:QE K) (hI:fJ K (.ref 162) "__iter__"=ae (ae (.builtin "tuple.__iter__"))) (ho:s.heap.get? t=ae o) (hc:o.cls= .ref 162) (hd:o.data= .seq items n) (hQ:∀h',ry s.heap.objs.size s.heap h'->Q items.toList {s with heap:=h'}),aS (aX prog w) A (N0 (.ref t) items.size av) Q E s
namespace kp
@[irreducible] def e0:=Fq sY Fb Fv zM cL inferInstance S0
def cT:=e0.1
def w_:=e0.2.1
def A_:=e0.2.2.1
def s_:=e0.2.2.2.1
def t_:=e0.2.2.2.2.1
def k6:=e0.2.2.2.2.2
theorem T0:S0 cT w_ A_ s_ t_ k6:=by
 intro E K Q o n hh X QH hI ho hc hd hQ;have hlt:t_≠s_.heap.objs.size:=c8 (bN ho);have ht:yY s_.heap t_ k6:=⟨o,n,ho,hd⟩;have L1:iL (aX cT w_) s_.heap (jT (.ref t_)) (.ref 162):=sL ho hc;have L2:=mT (M:=aX cT w_) X hI;delta N0;refine ag ?_;delta notIterableAtAll mA;refine ag (ag (L1.here (L2.here ?_)));refine ar ?_;simp only [dj,if_false];refine ag (bE (nW X QH hI ho hc ?_));have P5:=ht.at (h':=s_.heap.push {cls:= .type "tuple_iterator",data:= .fields #[.ref t_,.int 0 0]}) λo e=>az _ e;refine ag (bE (EA hlt k6.size 0 _ _ ⟨_,aW _ rfl,rfl,rfl⟩ P5 (by lia) λh₁ GM Na=>?_));have zt:List.take k6.size (List.drop 0 k6.toList)=k6.toList:=by refine aj (fy ..) ?_;exact d7 (by exact bp _)
 refine aj (zt ..) ?_;refine aj (if_neg (by simp) ..) ?_;refine ag (bE (gy hh GM (P5.at λo e=>Na.extBut t_ o hlt e) (by simp) λh₂ he₂=>?_));simp only [Ak,dj,if_false];exact ar (hQ h₂ λb o hb e=>he₂ b o hb (Na.extBut b o hb (az _ e)))
end kp
theorem kp:kp.S0 prog w A s t items:=by with_unfolding_all exact uE _ _ _ _ _ _ kp.S0 @kp.T0 prog w A s t items
end
section
variable {Ψ:Mu->Prop}{S:Vw}
theorem Gv(EH:gN G K)(QH:QE K)(hI:fJ K (.ref 162) "__iter__"=ae (ae (.builtin "tuple.__iter__"))){ts:List bH}{kk:Nat}(h:H1 k mu env ts xs Ψ):mK k mu env (.Tuple ts kk p) (.ent xs) Ψ:=⟨λ{A E Z s fr v Q} hA r hv q=>by
 refine dK (wm EH r hv) λa o vs n dO h1 h2 h3 h4=>?_;subst dO;have hn:(jB ts env).length=vs.toList.length:=(nB ts).trans (h.len.trans h4.length.symm);refine aj (arm_assign_Tuple ..) ?_;refine ag (iH ?_);delta unpack;refine aj (hn ..) ?_;refine aj (o9 h.plain ..) ?_;refine ag (bE ?_);refine aj (eK ..) ?_;exact kp hA.hh (EH.KO.inn _ r.z0in) QH hI h1 h2 h3 λh' hx=>h.c hA (r.keep (tk:=s.toks) λb o e=>hx b o (c8 (bN e)) e) h4 q⟩
end
section
variable {A:ay}{S:Vw}
theorem MB(hl:EV k mu env l P)(hm:EV k mu env m Q)(hr:EV k mu env r S)(h1:te k mu o1 P Q b)(h2:te k mu o2 Q S c)(hk:lastMarks [o1,o2] [m,r]=aH:=by with_unfolding_all rfl):PT k mu env (.Compare l [o1,o2] [m,r] p) (b && c):=⟨λ{z z z z z z} hA R q=>by
 with_reducible refine isTrue_chain ?_ hk
 refine hl.c hA R λ{v s1 Z1} z1 p1 r1=>test_link (hm.c hA r1 λ{u s2 Z2} z2 p2 r2=>h1.c hA r2 (P.mono _ _ _ z2 p1) p2 λ{w s3 Z3} z3 p3 r3=>?_);refine aj (aZ.boolE p3 ..) ?_;refine eU ?_;cases b with
 |false=>exact q (z1.trans (z2.trans z3)) r3
 |true=>refine aj (if_pos rfl ..) ?_;exact test_last (hr.c hA r3 λ{w s4 Z4} z4 p4 r4=>h2.c hA r4 (Q.mono _ _ _ (z3.trans z4) p2) p4 λ{z z z} z5 p5 r5=>(aZ.boolE p5)▸eU (q (z1.trans (z2.trans (z3.trans (z4.trans z5)))) r5))⟩
structure ItH(K:fH):Prop where
 iter:fJ K (.ref 162) "__iter__"=ae (ae (.builtin "tuple.__iter__"))
noncomputable def mW(ds:List Nat)(p j:Nat):List (Nat×Nat):=((aN j).filter λb=>decide (sP ds p<=b) && decide (b < eP ds p)).map λb=>(b,tP ds p)
noncomputable def qR(ds:List Nat)(p:Nat):List (Nat×Nat):=mW ds p 6
noncomputable def gz(ds:List Nat)(i:Nat):List (Nat×Nat):=dm ds++([10,14].take i).flatMap (qR ds)
noncomputable abbrev cW(ds:List Nat):List (Nat×Nat):=gz ds 2
theorem yZ{a b:Nat}(h:a < b):cc ds a < cc ds b:=by
 have:=nQ (ds:=ds) (show a<=b by exact eB (by assumption));have h2:∀(l:List Nat) (a b:Nat),a<=b->(l.take a).sum<=(l.take b).sum:=by
  intro l;induction l with
  |nil=>intro a b z;simp
  |cons x l ih=>
   intro a b h;cases a with
   |zero=>simp
   |succ a=>
    cases b with
    |zero=>with_reducible exact absurd (by assumption) (TU _)
    |succ b=>simp only [jb,da];have:=ih a b (by exact Qf (by assumption));lia
 unfold cc at*;have:=h2 (ds.drop 18) a b (by exact eB (by assumption));lia
theorem Cq{a b:Nat}:cc ds a<=cc ds b↔a<=b:=by
 constructor
 ·intro h;rcases gX b a with q|q
  ·have:=yZ (ds:=ds) q;lia
  ·exact q
 ·exact nQ
theorem Cr{a b:Nat}:cc ds a < cc ds b↔a < b:=by
 constructor
 ·intro h;rcases gX a b with q|q
  ·exact q
  ·have:=nQ (ds:=ds) q;lia
 ·exact yZ
theorem qS(p j:Nat):mW ds p (j+1)=mW ds p j++(if (decide (sP ds p<=j) && decide (j < eP ds p))=aI then [(j,tP ds p)] else []):=by
 unfold mW;refine aj (qh ..) ?_;refine aj (fX ..) ?_;refine aj (bj ..) ?_;congr 1;refine aj (hZ ..) ?_;refine aj (qg ..) ?_
 split <;> rfl
theorem wo(p j:Nat):(mW ds p j).length<=j:=by unfold mW;exact aj (ak ..) (aw (bu _ _) (by simp))
theorem lT(i:Nat):(gz ds i).length<=20:=by
 unfold gz;refine aj (ba ..) ?_;refine aj (L7 ..) ?_;have h10:=wo (ds:=ds) 10 6;have h14:=wo (ds:=ds) 14 6;have:(([10,14].take i).flatMap (qR ds)).length<=12:=by
  rcases i with _|_|i
  ·simp
  ·show (List.flatMap (qR ds) [10]).length<=12;simp only [dG,List.flatMap_nil,cy];unfold qR;exact aw (by assumption) (by decide)
  ·refine aj (show ([10,14]:List Nat).take (i+1+1)=[10,14] by simp) ?_;simp only [dG,List.flatMap_nil,cy,ba];unfold qR;lia
 lia
theorem w9{i p:Nat}(h:[10,14][i]? =ae p):gz ds (i+1)=gz ds i++qR ds p:=by unfold gz;refine aj (dF ..) ?_;refine aj (h ..) ?_;simp
def t7.S0(k:Nat)(mu:Mu)(Θ:AF->Mu->Prop)(L A Bk:ay)(ds:List Nat)(n6:Nat)(pm doc:ai)(P:ib)(N:Int)(cs:List Nat)(_:Nat):Prop:=∀{vs:el} {ns:List Int} {K:fH} (H:Hy G) (EH:gN G K) (QH:QE K) (IH:ItH K) (he:du (bT pm doc L)) (hD:Dr ds ns n6) (hS:Sv vs (Su ds n6 A P.lx Bk)) (hB:Fe (fG B0 0 (dm ds)) 8) (next:∀vs,Sv vs (Su ds n6 A P.lx Bk)->Fe (fG B0 0 (cW ds)) 20->ym (k+8) (cw L vs::cD Bk (fT (aF ds) (fG B0 0 (cW ds)))::lb P N cs A (cW ds) mu) (bT pm doc L) (je 19) Θ),ym (k+8) (cw L vs::cD Bk (fT (aF ds) (fG B0 0 (dm ds)))::lb P N cs A (dm ds) mu) (bT pm doc L) (je 18) Θ
namespace t7
@[irreducible] def e0:=N3 eN gD ta cL cL cL gD eN gL gL IV Ra gD eN S0
def k_:=e0.1
def e9:=e0.2.1
def Θ_:=e0.2.2.1
def L_:=e0.2.2.2.1
def A_:=e0.2.2.2.2.1
def wk:=e0.2.2.2.2.2.1
def aV:=e0.2.2.2.2.2.2.1
def gO:=e0.2.2.2.2.2.2.2.1
def pj:=e0.2.2.2.2.2.2.2.2.1
def g8:=e0.2.2.2.2.2.2.2.2.2.1
def P_:=e0.2.2.2.2.2.2.2.2.2.2.1
def N_:=e0.2.2.2.2.2.2.2.2.2.2.2.1
def qP:=e0.2.2.2.2.2.2.2.2.2.2.2.2.1
theorem T0:S0 k_ e9 Θ_ L_ A_ wk aV gO pj g8 P_ N_ qP e0.2.2.2.2.2.2.2.2.2.2.2.2.2:=by
 intro vs ns K H EH QH IH he hD hS hB next
 have d8:=eI aV;refine nJ (WF.f (jN (ctx:=[]) (xs:=[10,14].map λp=>V.ent (rT aV p)) (λi nu=>∃vs n,nu=cw L_ vs::cD wk (fT (aF aV) (fG B0 0 (gz aV i)))::lb P_ N_ qP A_ (gz aV i) e9/\Sv vs (Su aV gO A_ P_.lx wk)/\Fe (fG B0 0 (gz aV i)) n/\n<=8+6*i)
  (dA (ah (j:=26) he .loc aa (hS.get rfl))) (by lia) ⟨vs,8,by rfl,hS,by exact hB,by exact bp _⟩ (λi nu h o ho=>(eo ho)) ?_ ?_))
 ·intro i x nu hx dO;refine ir dO λvs n eT hS hB hn=>?_;clear dO;subst eT;rw [aJ] at hx;refine aK (aL.mp hx) λp hp gi=>?_;subst gi;have Uo:i < 2:=by have:=(aB.mp hp).1;exact this
  refine Gv EH QH IH.iter (cv rfl rfl ?_);refine aQ (i:=0) (j:=14) he .loc rfl (cv rfl rfl ?_);refine aQ (i:=0) (j:=17) he .loc rfl (cv rfl rfl ?_);refine aQ (i:=0) (j:=29) he .loc rfl (cv rfl rfl ?_);refine aQ (i:=0) (j:=30) he .loc rfl (cv rfl rfl ?_);refine aQ (i:=0) (j:=31) he .loc rfl (iX ?_);have hS1:=((((hS.set (j:=14) (y:=nV (2*cc aV (sP aV p)))).set (j:=17) (y:=nV (2*cc aV (eP aV p)))).set (j:=29) (y:=nV (2*cc aV (tP aV p)))).set (j:=30) (y:=nV (lP aV p / 2))).set (j:=31) (y:= .bool (decide (lP aV p % 2=1)));have hf:∀{vs} {l:Mu},bq L_ (aM (L_+1) (bk (cM 23)).names) vs∈cw L_ vs::l:=aa;have P5:=HE (ds:=aV) p;have hsp:=HD (ds:=aV) p;have hep:=LZ (ds:=aV) p;have b6:∀b,b<=6->cc aV b<=366:=λb hb=>Ee hD b hb;generalize ((((vs.set 14 (ae (nV (2*cc aV (sP aV p))))).set 17 (ae (nV (2*cc aV (eP aV p))))).set 29 (ae (nV (2*cc aV (tP aV p))))).set 30 (ae (nV (lP aV p / 2)))).set 31 (ae (.bool (decide (lP aV p % 2=1))))=NN at hS1 ⊢;show WS (k_+8) (cw L_ NN::cD wk (fT (aF aV) (fG B0 0 (gz aV i)))::lb P_ N_ qP A_ (gz aV i) e9) _ _ _;refine aC (bX (y:=nV (tP aV p)) (f7 (dE (ah (j:=11) he .loc hf (hS1.get rfl))) G8 (au (bM (y:=nV (cc aV (tP aV p))) (br (ah (j:=29) he .loc hf (hS1.get rfl)) aU (l9 (by decide))) (congrArg V.int (by lia))) aT) ?idx uC PySem.F.slot_list_index PySem.F.type_list_index rfl) (aQ (i:=0) (j:=15) he .loc rfl ?_) rfl rfl)
  case idx=>
   have:=Dt (k:=k_+8) (mu:=cw L_ NN::cD wk (fT (aF aV) (fG B0 0 (gz aV i)))::lb P_ N_ qP A_ (gz aV i) e9) (x:=(cc aV (tP aV p):Nat)) (ns:=(aN 7).map λb=>((cc aV b:Nat):Int)) (j:=tP aV p) (by (refine aj (aJ ..) ?_;refine aj (bz (by lia) ..) ?_);rfl) (λm hm h=>by
    rw [aJ,bz (by lia)] at h;have h1:=Nq (aO h);have:=yZ (ds:=aV) hm;lia) (by decide)
   rw [a0] at this;exact this
  have hS2:=hS1.set (j:=15) (y:=nV (tP aV p));generalize NN.set 15 (ae (nV (tP aV p)))=vs2 at hS2;have hns2:=hS2.sub (S':=(15,nV (tP aV p))::(17,nV (2*cc aV (eP aV p)))::(14,nV (2*cc aV (sP aV p)))::Su aV gO A_ P_.lx wk) ⟨rfl,rfl,rfl,rfl,rfl,rfl,rfl,rfl,rfl,rfl,rfl,rfl,rfl,trivial⟩;show WS (k_+8) (cw L_ vs2::cD wk (fT (aF aV) (fG B0 0 (gz aV i)))::lb P_ N_ qP A_ (gz aV i) e9) _ _ _;refine cq (H.f256.go) λob2 z z z Ut GN z=>?_;have Nd:=lT (ds:=aV) i;refine aC (jN (ctx:=[]) (xs:=(aN 6).map nV) (λj nu=>∃vs n,nu=cw L_ vs::cD wk (fT (aF aV) (fG B0 0 (gz aV i++mW aV p j)))::lb P_ N_ qP A_ (gz aV i++mW aV p j) e9/\Sv vs ((15,nV (tP aV p))::(17,nV (2*cc aV (eP aV p)))::(14,nV (2*cc aV (sP aV p)))::Su aV gO A_ P_.lx wk)/\Fe (fG B0 0 (gz aV i++mW aV p j)) n/\n<=8+6*i+j)
   (fL (n:=6) (iN H he H.b_range rfl) aU rfl (by decide)) (by lia) ⟨vs2,n,by simp [mW],hns2,by simpa [mW] using hB,by lia⟩ (λi nu h o ho=>(eo ho)) ?_ ?_)
  ·intro j x nu hx iC;refine ir iC λvs n kG hS hB hn=>?_;clear iC;subst kG;rw [aJ] at hx;refine aK (aL.mp hx) λj' hj' ma=>?_;subst ma;have HT:j < 6:=by have:=(aB.mp hj').1;exact this
   have:j'=j:=by rw [bz HT] at hj';exact (aO hj').symm
   subst this;refine aQ (i:=0) (j:=9) he (.cell (L_+8) "block") rfl ?_;have hS3:=hS.set (j:=9) (y:=nV j');generalize vs.set 9 (ae (nV j'))=Uu at hS3 ⊢;show WS (k_+8) (cw L_ Uu::cD wk (fT (aF aV) (fG B0 0 (gz aV i++mW aV p j')))::lb P_ N_ qP A_ (gz aV i++mW aV p j') e9) _ _ _;have hlen:(gz aV i++mW aV p j').length<=100:=by refine aj (ba ..) ?_;have:=wo (ds:=aV) p j';lia
   have hT:(decide ((2*cc aV (sP aV p):Nat)<=(2*(cc aV j':Int))) && decide (2*(cc aV j':Int) < (2*cc aV (eP aV p):Nat)))=(decide (sP aV p<=j') && decide (j' < eP aV p)):=by have h1:=Cq (ds:=aV) (a:=sP aV p) (b:=j');have h2:=Cr (ds:=aV) (a:=j') (b:=eP aV p);refine gj (cj ..) ?_;simp only [dQ,decide_eq_true_eq];lia
   have hb7:((aN 7).map λb=>nV (cc aV b))[j']? =ae (nV (cc aV j')):=by (refine aj (aJ ..) ?_;refine aj (bz (by exact cI (by assumption)) ..) ?_);rfl
   refine aC (iY (oV (MB (ah (j:=14) he .loc hf (hS3.get rfl)) (br aU (bF (dE (ah (j:=11) he .loc hf (hS3.get rfl))) (ah (j:=9) he (.cell (L_+8) "block") hf (hS3.get rfl)) (ew (inj:=λb=>nV (cc aV b)) (bz (show j' < 7 by exact cI (by assumption))) (by decide))) (mY (by decide))) (ah (j:=17) he .loc hf (hS3.get rfl)) cm_le Dc) hT) (λh=>?_) λh=>?_)
   ·have hq:∀b:Nat,b < 6->(aN 6)[b]? =ae b:=λb hb=>bz hb;have hq5:tP aV p∈[1,2,3,4,5]:=by
     rcases (by lia:tP aV p=1\/tP aV p=2\/tP aV p=3\/tP aV p=4\/tP aV p=5) with h|h|h|h|h <;> refine aj (h ..) ?_ <;> decide
    generalize hLa:gz aV i++mW aV p j'=La at hlen hB ⊢;have hA:bl A_ (La.map kH)∈cw L_ Uu::cD wk (fT (aF aV) (fG B0 0 La))::lb P_ N_ qP A_ La e9:=ao (i:=9) rfl;have GF:=Ba (k:=k_+5) (mu:=cw L_ Uu::cD wk (fT (aF aV) (fG B0 0 La))::lb P_ N_ qP A_ La e9) (pl:=La.length) (q:=(j',tP aV p)) H d8 hB (by lia) HT;refine aC (qC (i:=1) (D:=wk) (x:=cB (aF aV+tP aV p)) (y:=rr (aF aV) (kl (fG B0 0 La) La.length (j',tP aV p)) (tP aV p)) (ju (ys:=[rr (aF aV) (fG B0 0 La) (tP aV p),.tup [.int (if j'=tP aV p then 0 else 1),.int 1,.int La.length,.int ((La.length:Int)*La.length),cV [(cB (aF aV+j'),1)]]]) (mn H he H.m_stats rfl) Ut GN (au (bF (wK (ah (j:=41) he (.cell (L_+15) "book") hf (hS3.get rfl)) (ab _ aa)) (bF (dE (ah (j:=7) he (.cell (L_+6) "names") hf (hS3.get rfl))) (ah (j:=15) he .loc hf (hS3.get rfl)) (ew (inj:=λb=>V.str (cB (aF aV+b))) (hq (tP aV p) P5.2) (by decide))) (mh (gb d8 (by decide) hq5))) (au (f9 (xs:=[.int (if j'=tP aV p then 0 else 1),.int 1,.int La.length,.int ((La.length:Int)*La.length),cV [(cB (aF aV+j'),1)]]) (au (bM (iZ (iN H he H.b_int rfl) (au (mJ (ah (j:=9) he (.cell (L_+8) "block") hf (hS3.get rfl)) (ah (j:=15) he .loc hf (hS3.get rfl)) FB) aT) rH) ?c1) (au aU (au (bM (ej (j4 H he H.b_len rfl) (au (uH (ah (j:=10) he (.cell (L_+9) "arms") hf (hS3.get rfl)) hA) aT) (mi (by refine aj (ak ..) ?_;exact aw (by assumption) (by decide)))) ?c2) (au (bM (br (ej (j4 H he H.b_len rfl) (au (uH (ah (j:=10) he (.cell (L_+9) "arms") hf (hS3.get rfl)) hA) aT) (mi (by refine aj (ak ..) ?_;exact aw (by assumption) (by decide)))) aU (BU ?c3 (by decide))) ?c4) (au (bF (pN (ah (j:=23) he .loc hf (hS3.get rfl))) (bF (dE (ah (j:=7) he (.cell (L_+6) "names") hf (hS3.get rfl))) (ah (j:=9) he (.cell (L_+8) "block") hf (hS3.get rfl)) (ew (inj:=λb=>V.str (cB (aF aV+b))) (hq j' HT) (by decide))) (mh (gb d8 (by decide) (aY.mpr HT)))) aT))))) (by show 5<=2 ^ 20;decide)) aT)) (FW.mono GF λy nu h=>h)) (ah (j:=41) he (.cell (L_+15) "book") hf (hS3.get rfl)) (bF (dE (ah (j:=7) he (.cell (L_+6) "names") hf (hS3.get rfl))) (ah (j:=15) he .loc hf (hS3.get rfl)) (ew (inj:=λb=>V.str (cB (aF aV+b))) (hq (tP aV p) P5.2) (by decide))) rfl (by show 5<=2 ^ 24;decide) ?_)
    case c1=>
     refine congrArg V.int ?_;by_cases e:j'=tP aV p
     ·refine aj (e ..) ?_;simp
     ·(refine aj (if_neg e ..) ?_;refine aj (if_pos (by simp;lia) ..) ?_;rfl)
    case c2=>(refine aj (ak ..) ?_;rfl)
    case c3=>refine aj (ak ..) ?_;lia
    case c4=>refine aj (ak ..) ?_;show V.int ((La.length:Int) ^ 2)=_;refine aj (Int.pow_succ ..) ?_;refine aj (Int.pow_succ ..) ?_;refine aj (Int.pow_zero ..) ?_;refine aj (sT ..) ?_;rfl
    rw [show (j',tP aV p).2=tP aV p from rfl] at*;have S5:=Er (low:=aF aV) (B:=fG B0 0 La) (pl:=La.length) (q:=(j',tP aV p)) d8 hq5;show WS (k_+8) (cw L_ Uu::cD wk (jE (fT (aF aV) (fG B0 0 La)) (cB (aF aV+tP aV p)) (rr (aF aV) (kl (fG B0 0 La) La.length (j',tP aV p)) (tP aV p)))::lb P_ N_ qP A_ La e9) _ _ _;refine aj (S5 ..) (aC (ig (mZ (ah (j:=10) he (.cell (L_+9) "arms") hf (hS3.get rfl)) (j5 (xs:=La.map kH) (ao (i:=9) rfl)) (au (f9 (xs:=[nV j',nV (tP aV p)]) (au (ah (j:=9) he (.cell (L_+8) "block") hf (hS3.get rfl)) (au (ah (j:=15) he .loc hf (hS3.get rfl)) aT)) (by show 2<=2 ^ 20;decide)) aT) (kA (i:=9) rfl (by refine aj (ak ..) ?_;exact b7 (by assumption) (by decide)) ?_) uC PySem.F.slot_list_append PySem.F.type_list_append rfl)));have hgo:fG B0 0 (La++[(j',tP aV p)])=kl (fG B0 0 La) La.length (j',tP aV p):=by (refine aj (kF ..) ?_;refine aj (eC ..) ?_;rfl)
    refine bC (bC ⟨Uu,n+1,?_,hS3.sub ⟨rfl,rfl,rfl,rfl,rfl,rfl,rfl,rfl,rfl,rfl,rfl,rfl,rfl,trivial⟩,?_,by lia⟩)
    ·(refine aj (qS ..) ?_;refine aj (h ..) ?_;refine aj (if_pos rfl ..) ?_;refine fZ (bU ..) ?_;refine aj (hLa ..) ?_;refine aj (hgo ..) ?_)
     show _::_::(j6 P_ [] N_ qP++(bl A_ (La.map kH++[kH (j',tP aV p)])::gG 304 []::e9))=_;refine aj (show La.map kH++[kH (j',tP aV p)]=(La++[(j',tP aV p)]).map kH by simp) ?_;rfl
    ·(refine aj (qS ..) ?_;refine aj (h ..) ?_;refine aj (if_pos rfl ..) ?_;refine fZ (bU ..) ?_;refine aj (hLa ..) ?_;refine aj (hgo ..) ?_)
     exact hB.step HT
   ·refine bC (bC ⟨Uu,n,?_,hS3.sub ⟨rfl,rfl,rfl,rfl,rfl,rfl,rfl,rfl,rfl,rfl,rfl,rfl,rfl,trivial⟩,?_,by lia⟩)
    ·(refine aj (qS ..) ?_;refine aj (h ..) ?_);simp
    ·(refine aj (qS ..) ?_;refine aj (h ..) ?_);simpa using hB
  ·intro nu mE;refine ir mE λvs n q8 hS hB hn=>?_;clear mE;subst q8;refine bC (bC ⟨vs,n,?_,hS.sub ⟨rfl,rfl,rfl,rfl,rfl,rfl,rfl,rfl,rfl,rfl,trivial⟩,?_,?_⟩)
   ·(refine aj (w9 hp ..) ?_;refine aj (ak ..) ?_;refine aj (fq ..) ?_);rfl
   ·refine aj (w9 hp ..) ?_;rw [ak,fq] at hB;exact hB
   ·rw [ak,fq] at hn;lia
 ·intro nu uf;refine ir uf λvs n mP hS hB hn=>?_;clear uf;subst mP;exact bC (next vs hS ⟨hB.lt,hB.nd,λb=>aw (hB.len b) hn⟩)
end t7
theorem t7{pm doc:ai}{P:ib}{N:Int}{cs:List Nat}:t7.S0 k mu Θ L A Bk ds n6 pm doc P N cs 0:=by with_unfolding_all exact J2 _ _ _ _ _ _ _ _ _ _ _ _ _ _ t7.S0 @t7.T0 k mu Θ L A Bk ds n6 pm doc P N cs 0
end
section
variable {A:ay}{es:List (bb×V)}
theorem MC{is:List Int}(he:es.map (·.2)=is.map .int):Fn k mu (.builtin "sum") [Io "dict_values" es] (bZ (.int is.sum)):=⟨λ{A E Z s fr vs Q} hA r hq q=>by
 obtain ⟨v,rfl,a,d,o,rfl,hz,hc,hd,p⟩:=hq.one;refine jZ (m7 r p) λd' kvs ep e1 hs hD hO hk hr hzd PU=>?_;cases e1;have KS:=kdl_values (prog:=G.prog) (w:=G.w) (knd:=strKind G.prog G.w) (r:=a) (d:=d) (kvs:=kvs) (ep:=ep);have hok:s.heap.IsValuesView a d/\s.heap.DictAt (strKind G.prog G.w) d kvs ep:=⟨⟨o,r.zin _ _ hz,hc,hd⟩,hD⟩;have SR:kvs.length=is.length:=by (refine fZ (ak (f:=(·.1)) ..) ?_;refine aj (hk ..) ?_;refine aj (ak ..) ?_;refine fZ (ak (f:=(·.2)) ..) ?_;refine aj (he ..) ?_;refine aj (ak ..) ?_;rfl)
 refine PySem.call_sum_walkAnyS (cC (KS.iter A.in1 s hA.hh hok) λoI St hit W st=>?_);refine hit _ _ ⟨s.heap.objs.size,_,_,_,kvs.length,_,_,(λi=>is.getD i 0),rfl,W.toS,st,λb hb=>?_,λi u hu=>?_,λs' t' hm=>?_⟩
 ·show b < (s.heap.push oI).objs.size;refine aj (fO ..) ?_;rcases aP.mp hb with e|hb
  ·refine aj (e ..) ?_;exact jf _
  ·refine aj (aA.mp hb ..) ?_;exact cI (KS.there _ hok).2
 ·refine cJ hu λkey hx=>?_;clear hu;have h2:(kvs.map (·.2))[i]? =ae u:=by (refine aj (aJ ..) ?_;refine aj (hx ..) ?_);rfl
  refine aK (hr.get' h2) λx' h3 h4=>?_;rw [he,aJ] at h3;refine aK (aL.mp h3) λn hn gi=>?_;subst gi;refine cJ (gF h4) λt iC=>?_;subst iC;exact ⟨t,by show jS n t=jS (is.getD i 0) t;(refine aj (bR ..) ?_;refine aj (hn ..) ?_);rfl⟩
 ·have hk2:∀b o,s.heap.get? b=ae o->s'.heap.get? b=ae o:=λb o e=>
   hm.heap b o (λhI=>absurd (bN e) (by refine aj (aA.mp hI ..) ?_;exact zJ _)) (az _ e)
  refine aj (Moved.eq_with hm ..) ?_;refine aj (SR ..) ?_;refine aj (AJ is is.length (bp _) ..) ?_;refine aj (cK ..) ?_;exact q .rfl (aZ.int _ _) (r.keep (tk:=s'.toks) hk2)⟩
noncomputable def gS(arms:List (Nat×Nat))(b:Nat):List Nat:=(arms.filter λq=>q.2 == b).map (·.1)
noncomputable def sM(arms:List (Nat×Nat))(b:Nat):List Nat:=eY (nT (gS arms b))
noncomputable abbrev dh(ds:List Nat):List (List Nat):=(aN 6).map (sM (cW ds))
noncomputable abbrev lU(ds:List Nat):Rw:=fG B0 0 (cW ds)
theorem qT:∀q∈cW ds,q.1 < 6/\1<=q.2/\q.2 < 6:=λq hq=>by
 unfold cW gz at hq;rcases bc.mp hq with h|h
 ·exact kf ds q h
 ·refine aK (bG.mp h) λp z hp=>?_;unfold qR mW at hp;refine aK (aG.mp hp) λb hb kG=>?_;subst kG;have h1:=HE (ds:=ds) p;exact ⟨aY.mp (bo.mp hb).1,h1.1,h1.2⟩
noncomputable abbrev Gw(P:ib)(N:Int)(cs:List Nat)(mu:Mu):Mu:=j6 P [] N cs++(gG 304 []::mu)
noncomputable abbrev S19(ds:List Nat)(n6:Nat)(lx:ay):List (Nat×V):=[(32,.list ((dh ds).map wV)),(41,.dict (fT (aF ds) (lU ds))),(10,.list ((cW ds).map kH)),(21,.ref lx),(20,.str (g9 ds n6)),(42,.dict (qE (aF ds))),(7,rZ (aF ds)),(4,.list (ds.map nV))]
theorem Sw(H:Hy G){pm doc:ai}(he:du (bT pm doc L)){P:ib}{N:Int}{cs:List Nat}(hS:Sv vs (Su ds n6 A P.lx Bk))
 (next:∀vs,Sv vs (S19 ds n6 P.lx)->WS (k+8) (cw L vs::Gw P N cs mu) (bT pm doc L) (je 20) Θ):
 WS (k+8) (cw L vs::cD Bk (fT (aF ds) (lU ds))::lb P N cs A (cW ds) mu) (bT pm doc L) (je 19) Θ:=by
 refine WF.frzD (j:=41) (hS.get rfl) (WF.to [0,7] (WF.frzL (j:=10) ((hS.set (j:=41) (y:= .dict (fT (aF ds) (lU ds)))).get rfl) ?_));have hS1:=(hS.set (j:=41) (y:= .dict (fT (aF ds) (lU ds)))).set (j:=10) (y:= .list ((cW ds).map kH));generalize (vs.set 41 (ae (.dict (fT (aF ds) (lU ds))))).set 10 (ae (.list ((cW ds).map kH)))=NN at hS1 ⊢;show WS (k+8) (cw L NN::Gw P N cs mu) (bT pm doc L) (je 19) Θ;have hf:∀{vs} {l:Mu},bq L (aM (L+1) (bk (cM 23)).names) vs∈cw L vs::l:=aa;have Nd:=lT (ds:=ds) 2;refine aC (FN (aN 6) nV (λb=>wV (sM (cW ds) b)) ⟨rfl,rfl,by decide+kernel,by decide+kernel⟩ (fL (n:=6) (iN H he H.b_range rfl) aU rfl (by decide)) (by lia) (by decide) (λC3 b hb=>iu 1 he.comp (.cell (C3+1) "block") dk (λz=>(ej (j4 H he.comp H.b_sorted rfl) (au (iZ (iN H he.comp H.b_set rfl) (au (dE (bM (nF (cW ds) kH (λq=>((q.2:Int) == (b:Int))) (λq=>nV q.1) ⟨rfl,rfl,by decide+kernel,by decide+kernel⟩ (dA (ah (j:=10) he.comp (.cell (L+9) "arms") (ab _ hf) (hS1.get rfl))) (by lia) (aw Nd (by decide)) (λC4 q hq=>tJ 1 2 he.comp.comp .loc .loc (fS (c9 (ah (j:=2) he.comp.comp .loc aa rfl) (ah (j:=1) he.comp.comp (.cell (C3+1) "block") (ab _ aa) rfl) qv)) (λhb=>(ah (j:=1) he.comp.comp .loc aa rfl)))) ?c1)) aT) (Pf (ns:=gS (cW ds) b) ?c2)) aT) Gs))) rfl (λD=>fM.list (aQ (i:=0) (j:=32) he .loc rfl ?_)))
 case c1=>
  delta gS;refine aj (a0 ..) (congrArg V.list ?_);have:(cW ds).filter (λq=>((q.2:Int) == (b:Int)))=(cW ds).filter λq=>q.2 == b:=fz λq z=>by
   refine gj (cj ..) ?_;simp only [beq_iff_eq];lia
  refine aj (this ..) ?_;rfl
 case c2=>intro n hn;refine aK (aG.mp hn) λq hq ma=>?_;subst ma;exact (qT q (bo.mp hq).1).1
 have e:V.list ((aN 6).map λb=>wV (sM (cW ds) b))= .list ((dh ds).map wV):=by refine aj (a0 ..) ?_;rfl
 exact next _ ((hS1.set (j:=32)).sub ⟨congrArg ae e,rfl,rfl,rfl,rfl,rfl,rfl,rfl,trivial⟩)
noncomputable def T0(b:Nat):Nat:=if b=0 then 1 else 63
noncomputable abbrev S20(ds:List Nat)(n6:Nat)(lx T:ay):List (Nat×V):=(46,.ref T)::S19 ds n6 lx
theorem Sx(H:Hy G){pm doc:ai}(he:du (bT pm doc L))(hS:Sv vs (S19 ds n6 A))
 (next:∀vs T,Sv vs (S20 ds n6 A T)->WS (k+8) (cD T (ot (aF ds) T0)::cw L vs::mu) (bT pm doc L) (je 21) Θ):
 WS (k+8) (cw L vs::mu) (bT pm doc L) (je 20) Θ:=by
 have d8:=eI ds;have hf:∀{vs} {l:Mu},bq L (aM (L+1) (bk (cM 23)).names) vs∈cw L vs::l:=aa;refine cq (H.f72.go) λob Uk cd' Jq h0 hd z=>aC (b4 (yD H.B (aN 6) (λb=>V.str (cB (aF ds+b))) (λb=>(cB (aF ds+b),V.str (iy (aF ds) (T0 b)))) ⟨rfl,rfl,by decide+kernel,by decide+kernel⟩ (dA (ah (j:=7) he (.cell (L+6) "names") hf (hS.get rfl))) (by lia) (by decide) (λC5 b hb=>BS 1 he.comp .loc dk (λz=>(ah (j:=1) he.comp .loc aa rfl)) (λz=>(ju (ys:=[nV (T0 b*2 ^ aF ds)]) (mn H he.comp H.m_flags rfl) h0 hd (au (uI (b:=decide (b=0)) (oV (c9 (ah (j:=1) he.comp .loc aa rfl) (bF (dE (ah (j:=7) he.comp (.cell (L+6) "names") (ab _ hf) (hS.get rfl))) aU (ew (j:=0) (a:=0) (inj:=λb=>V.str (cB (aF ds+b))) rfl (by decide))) rC) ?c1) (λh=>bM (bF (pN (ah (j:=42) he.comp (.cell (L+16) "flags") (ab _ hf) (hS.get rfl))) (ah (j:=1) he.comp .loc aa rfl) (mh (gb d8 (λc hc=>aY.mp hc) hb))) ?c2) (λh=>bM (ej (j4 H he.comp H.b_sum rfl) (au (f7 (ah (j:=42) he.comp (.cell (L+16) "flags") (ab _ hf) (hS.get rfl)) rO aT AL N1 PySem.F.slot_dict_values PySem.F.type_dict_values rfl) aT) (MC (is:=(aN 6).map λb=>((2 ^ (aF ds+b):Nat):Int)) ?c3)) ?c4)) aT) ?c5))) ?c6 (λT=>fM.ref (aQ (i:=1) (j:=46) he (.cell (L+20) "table") rfl ?_))) rfl rfl)
 case c1=>exact (rU d8 (aY.mp hb) (show 0 < 6 by decide)).trans (by cases b <;> rfl)
 case c2=>have:=of_decide_eq_true h;subst this;show nV (2 ^ (aF ds+0))=_;simp [T0]
 case c3=>delta qE bD;rw [a0,a0];rfl
 case c4=>
  have zp:=of_decide_eq_false h;have e:((aN 6).map λb=>((2 ^ (aF ds+b):Nat):Int)).sum=((63*2 ^ aF ds:Nat):Int):=by simp only [Nat.pow_add];show ((2 ^ aF ds*2 ^ 0:Nat):Int)+(((2 ^ aF ds*2 ^ 1:Nat):Int)+(((2 ^ aF ds*2 ^ 2:Nat):Int)+(((2 ^ aF ds*2 ^ 3:Nat):Int)+(((2 ^ aF ds*2 ^ 4:Nat):Int)+(((2 ^ aF ds*2 ^ 5:Nat):Int)+0)))))=_;generalize 2 ^ aF ds=X;lia
  refine aj (e ..) ?_;delta T0;refine aj (if_neg zp ..) ?_;rfl
 case c5=>
  have hT:T0 b < 64/\T0 b≠0:=by delta T0;split <;> decide
  have M3:=qi (aF ds);have h33:T0 b*2 ^ aF ds < 2 ^ 33:=by
   have h1:2 ^ aF ds<=2 ^ 27:=e7 (by decide) (by exact CJ (by assumption));have h2:T0 b*2 ^ aF ds<=63*2 ^ 27:=JL (by lia) h1
   with_reducible exact b7 (by assumption) (by decide)
  have M4:∀nu:Mu,FW (k+8) nu (.ref 72) [nV (T0 b*2 ^ aF ds)] λy nu'=>y= .str (iy (aF ds) (T0 b))/\nu'=nu:=λnu=>by
   have:=oQ (k:=k+6) (mu:=nu) H (Nat.mul_ne_zero hT.2 (by exact jI (by assumption))) h33
   rwa [rS hT.1 d8] at this
  exact M4 _
 case c6=>exact jx d8 (aN 6) (λb hb=>aY.mp hb) lp
 exact next _ T (hS.set (j:=46))
end
section
variable {o i:bH}{Φ:V->Mu->Prop}{S:Vw}{Θ:Bool->Mu->Prop}
structure GiE(k:Nat)(mu:Mu)(P Q:Vw)(Φ:V->Mu->Prop):Prop where
 c:∀{A:bh} {E:ai->aq->Prop} {Z:bI} {s:aq} {fr:Mu} {v u:ai} {T:ai->aq->Prop},Rm k A->R Z (mu++fr) s->P.p Z v->Q.p Z u->(∀{w s' Z' y nu},Z.le Z'->aZ G Z' w y->R Z' (nu++fr) s'->Φ y nu->T w s')->
  (∃U id,iQ (.type U) "__getitem__"=dg (ae (.builtin id))/\s.TypeIs v U)/\aS (aX G.prog G.w) A (JC v u) T E s
theorem Pi(ho:EV k mu env o P)(hi:EV k mu env i Q)(g:GiE k mu P Q Φ)(hs:∀a b,∃ops,NR i aH a b=operate ops (JC a b):=by intro a b;exact ⟨_,rfl⟩):
 WE k mu env (.Subscript o i p) Φ:=⟨λ{z z z z z z} hA r q=>Kw hs (ho.c hA r λ{z z z} z1 q1 r1=>hi.c hA r1 λ{z z z} z2 q2 r2 T' t=>g.c hA r2 (P.mono _ _ _ z2 q1) q2 λ{z z z z z} z3 q3 r3 w=>t (q (z1.trans (z2.trans z3)) q3 r3 w))⟩
theorem Pj{lo hi st:Option Int}(h0:st≠ae 0)(hn:xs.length<=2 ^ 23)(hΦ:∀D,fM D (bl D (jq xs lo hi st)::mu) Φ):GiE k mu (me mu xs) (Ry lo hi st) Φ:=⟨λ{A E Z s fr v u T} hA r hp hq q=>by
 refine cE (me.at hp r) λa vs n dO h1 h2=>?_;subst dO;obtain ⟨b,vl,vu,vst,o,rfl,hz,hc,hd,p1,p2,p3⟩:=hq;have hL:s.heap.IsList a vs:=⟨_,h1,rfl,n,rfl⟩;refine ⟨⟨"list",_,E3,hL.typeIs⟩,?_⟩;refine wpAny_getItem_list_slice hL ⟨o,r.zin _ _ hz,hc,hd⟩ p1 p2 p3 h0 ?_ (b9 h2▸aw hn (show 2 ^ 23<=2 ^ 24 by decide));exact (hΦ s.heap.objs.size).c (fr:=fr) (r.addNew (tk:=s.toks) (h':=s.heap.push {cls:= .type "list",data:= .seq (xt vs lo hi st)}) (bl s.heap.objs.size (jq xs lo hi st)) (λb o e=>az _ e) ⟨xt vs lo hi st,0,aW _ rfl,AI h2⟩ eg λz h=>kX h) q⟩
theorem MD{ps:jX}(h:WT k mu env e λb nu=>Θ (!b) nu):WT k mu env (.UnaryOp .Not e ps) Θ:=⟨λ{z z z z z z} hA R q=>wpAny_isTrue_Not (h.c hA R q)⟩
theorem HK(h:WE k mu env e λy nu=>∃b,y= .bool b/\Θ b nu)(he:autoParam (isTrue e env (dW e env)=(do let v <- dW e env;iE e.pos;eV [v] (truthy v))) aR):WT k mu env e Θ:=⟨λ{z z z z z z} hA R q=>by
 with_reducible refine wpAny_isTrue_value ?_ he
 exact h.c hA R λz1 q1 r1 ⟨b,e1,w⟩=>(aZ.boolE (e1▸q1))▸eU (q z1 r1 w)⟩
theorem Jc:jq (aN 6) av (ae 0) (ae (-1))=[5,4,3,2,1]:=by decide
end
theorem EB{a a':Nat}:∀{w:List Nat},a∈w->∃p x q,w=p++x::q/\(x=a\/x=a')/\a∉p/\a'∉p
 |c::w,h=>by
  by_cases hc:c=a\/c=a'
  ·exact ⟨[],c,w,rfl,hc,by simp,by simp⟩
  ·have hca:c≠a:=λe=>hc (.inl e);have hca':c≠a':=λe=>hc (.inr e);refine lG (EB (a':=a') (w:=w) (by rcases aP.mp h with e|e;exact absurd e.symm hca;exact e)) λp x q e hx h1 h2=>?_;exact ⟨c::p,x,q,by rw [e];rfl,hx,by simp [h1,gf hca],by simp [h2,gf hca']⟩
theorem ei.join{hs:List (List Nat)}{b x:Nat}{p q u:List Nat}(h:ei hs b (p++x::q))(hu:ei hs x u):ei hs b (p++x::u):=by
 have h1:ei hs b ((p++[x])++q):=by simpa using h
 rw [ei.append] at h1;have e:(b::(p++[x])).getLast (by simp)=x:=by rw [kg (by simp)];simp
 have h2:ei hs b ((p++[x])++u):=by rw [ei.append,e];exact ⟨h1.1,hu⟩
 simpa using h2
theorem gI.through{hs:List (List Nat)}{b a x:Nat}{p q:List Nat}(hw:ei hs b (p++x::q))(hp:a∉p)(xb:a≠b)(hd:gI hs b a):gI hs x a:=by
 by_cases hax:a=x
 ·exact .inl hax
 ·have hd':∀v,wc hs b [0] v->a∈v:=by
   rcases hd with e|⟨_,e⟩
   ·exact absurd e xb
   ·exact e
  refine .inr ⟨λe0=>?_,λu hu=>?_⟩
  ·subst e0;have hb:=hw.join (u:=[]) trivial;obtain ⟨v,hv,M9,q9⟩:=k0 hb ⟨0,by rw [dn _ (List.cons_ne_nil 0 [])];rfl,aA.mpr rfl⟩;rcases bc.mp (q9 a (hd' v ⟨hv,M9⟩)) with h|h
   ·exact hp h
   ·exact hax (by simpa using h)
  refine aK (hu.2) λc hc hm=>?_;have iP:u≠[]:=by rintro rfl;simp at hc
  have hb:=hw.join hu.1.back;have hl:∃d,(p++x::u).getLast? =ae d/\d∈[0]:=⟨c,by rw [dn _ (by simp),show x::u=[x]++u from rfl,dn _ iP];exact hc,hm⟩;refine ef (k0 hb hl) λv hv M9 q9=>?_;rcases bc.mp (q9 a (hd' v ⟨hv,M9⟩)) with h|h
  ·exact absurd h hp
  ·rcases aP.mp h with h|h
   ·exact absurd h hax
   ·exact h
theorem Jd{hs:List (List Nat)}{b a a':Nat}(hr:∃w,wc hs b [0] w)(h:gI hs b a)(h':gI hs b a')(hn:a≠b)(SQ:a'≠b):gI hs a a'\/gI hs a' a:=by
 refine cJ hr λw hw=>?_;clear hr;have ha:a∈w:=by
  rcases h with e|⟨_,e⟩
  ·exact absurd e hn
  ·exact e w hw
 refine lG (EB (a':=a') ha) λp x q e hx h1 h2=>?_;have hb:=hw.1.back;rw [e] at hb;rcases hx with rfl|rfl
 ·exact .inl (gI.through hb h2 SQ h')
 ·exact .inr (gI.through hb h1 hn h)
theorem gI.trans{hs:List (List Nat)}{a b c:Nat}(h:gI hs b a)(h':gI hs c b):gI hs c a:=by
 by_cases QR:b=c
 ·subst QR;exact h
 by_cases xb:a=b
 ·subst xb;exact h'
 rcases h' with e|⟨zE,e⟩
 ·exact absurd e QR
 rcases h with e1|⟨zp,e1⟩
 ·exact absurd e1 xb
 refine .inr ⟨zE,λw hw=>?_⟩;have M8:=e w hw;refine oz (eX M8) λp q P4=>?_;have hb:=hw.1.back;rw [P4] at hb;refine aK (hw.2) λd hd hm=>?_;by_cases hq:q=[]
 ·subst hq;have:d=b:=by rw [P4,dn _ (by simp)] at hd;simpa using hd.symm
  have Ju:d=0:=by simpa using hm
  exact absurd (this.symm.trans Ju) zp
 ·have ER:ei hs b q:=by
   have h1:ei hs c ((p++[b])++q):=by simpa using hb
   rw [ei.append] at h1;have e:(c::(p++[b])).getLast (by simp)=b:=by rw [kg (by simp)];simp
   rw [e] at h1;exact h1.2
  have hl:∃d,q.getLast? =ae d/\d∈[0]:=by refine ⟨d,?_,hm⟩;rw [P4,dn _ (by simp),show b::q=[b]++q from rfl,dn _ hq] at hd;exact hd
  refine ef (k0 ER hl) λv hv M9 q9=>?_;rw [P4];exact bL _ (ab _ (q9 a (e1 v ⟨hv,M9⟩)))
noncomputable abbrev Ed:=List (Nat×Nat)
noncomputable def sg(E:Ed):List Nat->Prop
 |a::b::p=>(a,b)∈E/\sg E (b::p)
 |_=>True
structure s7(E:Ed)(A B:Nat->Prop)(p:List Nat):Prop where
 ch:sg E p
 st:∃a,p.head? =ae a/\A a
 en:∃b,p.getLast? =ae b/\B b
theorem sg.mono{E E':Ed}(h:∀x∈E,x∈E'):∀{p:List Nat},sg E p->sg E' p
 |[],_=>trivial
 |[_],_=>trivial
 |_::_::_,hc=>⟨h _ hc.1,hc.2.mono h⟩
theorem s7.mono{E E':Ed}{A B:Nat->Prop}{p:List Nat}(h:∀x∈E,x∈E')(hp:s7 E A B p):s7 E' A B p:=⟨hp.ch.mono h,hp.st,hp.en⟩
theorem sg.left{E:Ed}:∀{u v:List Nat},sg E (u++v)->sg E u
 |[],_,_=>trivial
 |[_],_,_=>trivial
 |_::_::_,_,h=>⟨h.1,sg.left (u:=_::_) h.2⟩
theorem sg.right{E:Ed}:∀{u v:List Nat},sg E (u++v)->sg E v
 |[],_,h=>h
 |[_],[],_=>trivial
 |[_],_::_,h=>h.2
 |_::b::u,v,h=>sg.right (u:=b::u) h.2
theorem sg.glue{E:Ed}:∀{u v:List Nat} {z:Nat},sg E (u++[z])->sg E (z::v)->sg E (u++z::v)
 |[],_,_,_,h=>h
 |[a],_,_,h,h'=>⟨h.1,h'⟩
 |a::b::u,v,z,h,h'=>⟨h.1,sg.glue (u:=b::u) h.2 h'⟩
theorem sg.uses{x y:Nat}{E:Ed}:∀{p:List Nat},sg ((x,y)::E) p->sg E p\/∃u v,p=u++x::y::v/\sg E (u++[x])
 |[],_=> .inl trivial
 |[_],_=> .inl trivial
 |a::b::p,h=>by
  rcases aP.mp h.1 with e|e
  ·injection e with e1 e2
   subst e1;subst e2;exact .inr ⟨[],p,rfl,trivial⟩
  ·rcases sg.uses h.2 with h'|⟨u,v,e',h'⟩
   ·exact .inl ⟨e,h'⟩
   ·refine .inr ⟨a::u,v,by refine aj (e' ..) ?_;rfl,?_⟩;cases u with
    |nil=>
     have:b=x:=by injection e'
     subst this;exact ⟨e,trivial⟩
    |cons c u=>
     have:b=c:=by injection e'
     subst this;exact ⟨e,h'⟩
theorem sg.uses'{x y:Nat}{E:Ed}:∀{p:List Nat},sg ((x,y)::E) p->sg E p\/∃u v,p=u++x::y::v/\sg E (y::v)
 |[],_=> .inl trivial
 |[_],_=> .inl trivial
 |a::b::p,h=>by
  rcases sg.uses' h.2 with h'|⟨u,v,e',h'⟩
  ·rcases aP.mp h.1 with e|e
   ·injection e with e1 e2
    subst e1;subst e2;exact .inr ⟨[],p,rfl,h'⟩
   ·exact .inl ⟨e,h'⟩
  ·exact .inr ⟨a::u,v,by refine aj (e' ..) ?_;rfl,h'⟩
theorem qa{s:Nat}:∀{p:List Nat},s∈p->∃u v,p=u++s::v/\s∉u
 |a::p,h=>by
  by_cases e:a=s
  ·exact ⟨[],p,by refine aj (e ..) ?_;rfl,by simp⟩
  ·refine eD (qa (p:=p) (by rcases aP.mp h with h|h;exact absurd h.symm e;exact h)) λu v h1 h2=>?_;exact ⟨a::u,v,by refine aj (h1 ..) ?_;rfl,by simp [h2,gf e]⟩
theorem Ct{s:Nat}:∀{p:List Nat},s∈p->∃u v,p=u++s::v/\s∉v
 |a::p,h=>by
  by_cases e:s∈p
  ·exact eD (Ct e) λu v h1 h2=>⟨a::u,v,by refine aj (h1 ..) ?_;rfl,h2⟩
  ·rcases aP.mp h with h|h
   ·exact ⟨[],p,by refine aj (h ..) ?_;rfl,e⟩
   ·exact absurd h e
theorem sh{α:Type _}(u:List α){v:List α}(h:v≠[]):(u++v).getLast? =v.getLast? :=by (refine aj (TT ..) ?_;refine aj (gu h ..) ?_);rfl
theorem u7{u v:List Nat}{z:Nat}:(u++z::v).head? =(u++[z]).head? :=by cases u <;> rfl
theorem s7.pre{E:Ed}{A B C:Nat->Prop}{u v:List Nat}{z:Nat}(h:s7 E A B (u++z::v))(hz:C z):s7 E A C (u++[z]):=
 ⟨sg.left (v:=v) (by simpa using h.ch),by refine fZ (u7 (v:=v) ..) ?_;exact h.st,z,by simp,hz⟩
theorem s7.suf{E:Ed}{A B C:Nat->Prop}{u v:List Nat}{z:Nat}(h:s7 E A B (u++z::v))(hz:C z):s7 E C B (z::v):=
 ⟨h.ch.right,⟨z,rfl,hz⟩,by refine fZ (sh u (by simp) ..) ?_;exact h.en⟩
theorem s7.join{E:Ed}{A B C D:Nat->Prop}{u v p q:List Nat}{z:Nat}(h:s7 E A B (u++z::p))(h':s7 E C D (v++z::q)):s7 E A D (u++z::q):=
 ⟨sg.glue (sg.left (v:=p) (by simpa using h.ch)) h'.ch.right,by (refine aj (u7 ..) ?_;refine fZ (u7 (v:=p) ..) ?_);exact h.st,by (refine aj (sh _ (by simp) ..) ?_;refine fZ (sh v (by simp) ..) ?_);exact h'.en⟩
theorem HL{u v:List Nat}{z c:Nat}(h:c∈u++[z]):c∈u++z::v:=by
 rcases bc.mp h with h|h
 ·exact aE _ h
 ·exact bL _ (by refine aj (aA.mp h ..) ?_;exact aa)
def Sy(p q:List Nat):Prop:=∀z∈p,z∉q
theorem xK:∀(E:Ed) (A B:Nat->Prop),(∀c,∃p,s7 E A B p/\c∉p)->∃p q,s7 E A B p/\s7 E A B q/\Sy p q
 |[],A,B,H=>by
  have one:∀{p:List Nat},s7 [] A B p->∃a,p=[a]/\A a/\B a:=by
   intro p hp;obtain ⟨ch,⟨a,ha,hA⟩,b,hb,hB⟩:=hp
   match p,ch,ha,hb with
   |[c],_,ha,hb=>simp at ha hb;subst ha;subst hb;exact ⟨_,rfl,hA,hB⟩
   |_::_::_,ch,_,_=>exact absurd ch.1 (by simp)
  refine aK (H 0) λp hp w=>aK (one hp) λa eT w=>?_;subst eT;exact aK (H a) λq hq hn=>⟨[a],q,hp,hq,λz hz=>by refine aj (aA.mp hz ..) ?_;exact hn⟩
 |(x,y)::E,A,B,H=>by
  have up:∀z∈E,z∈(x,y)::E:=λz hz=>ab _ hz;by_cases h1:∀c,∃p,s7 E A B p/\c∉p
  ·exact cC (xK E A B h1) λp q hp hq hs=>⟨p,q,hp.mono up,hq.mono up,hs⟩
  ·refine cJ (Classical.not_forall.mp h1) λs hs=>?_;have cut:∀p,s7 E A B p->s∈p:=λp hp=>bO λhn=>hs ⟨p,hp,hn⟩;have HA:∀c,∃p,s7 E A (λz=>z=s\/z=x) p/\c∉p:=by
    intro c;refine aK (H c) λp hp hc=>?_;rcases hp.ch.uses with h|⟨u,v,e,h⟩
    ·refine eD (qa (cut p ⟨h,hp.st,hp.en⟩)) λu v e w=>?_;have hp':s7 E A B (u++s::v):=e▸⟨h,hp.st,hp.en⟩;exact ⟨u++[s],hp'.pre (.inl rfl),λhm=>hc (by refine aj (e ..) ?_;exact HL hm)⟩
    ·refine ⟨u++[x],⟨h,?_,x,by simp,.inr rfl⟩,λhm=>hc (by refine aj (e ..) ?_;exact HL hm)⟩;have:=hp.st;rw [e,u7] at this;exact this
   have HB:∀c,∃p,s7 E (λz=>z=s\/z=y) B p/\c∉p:=by
    intro c;refine aK (H c) λp hp hc=>?_;rcases hp.ch.uses' with h|⟨u,v,e,h⟩
    ·refine eD (qa (cut p ⟨h,hp.st,hp.en⟩)) λu v e w=>?_;have hp':s7 E A B (u++s::v):=e▸⟨h,hp.st,hp.en⟩;exact ⟨s::v,hp'.suf (.inl rfl),λhm=>hc (by refine aj (e ..) ?_;exact bL _ hm)⟩
    ·refine ⟨y::v,⟨h,⟨y,rfl,.inr rfl⟩,?_⟩,λhm=>hc (by refine aj (e ..) ?_;exact bL _ (ab _ hm))⟩;have:=hp.en;rw [e,show u++x::y::v=(u++[x])++y::v by simp,sh _ (by simp)] at this;exact this
   refine cC (xK E A _ HA) λp1 p2 hp1 hp2 hps=>cC (xK E _ B HB) λq1 q2 Td PZ hqs=>?_;obtain ⟨ps,px,Tn,HW,hpd⟩:∃ps px,s7 E A (·=s) ps/\s7 E A (·=x) px/\Sy ps px:=by
    refine aK (hp1.en) λb1 e1 o1=>aK (hp2.en) λb2 e2 o2=>?_;have m1:=df e1;have m2:=df e2;have iP:b1≠b2:=λe=>hps b1 m1 (e▸m2);rcases o1 with rfl|rfl <;> rcases o2 with rfl|rfl
    ·exact absurd rfl iP
    ·exact ⟨p1,p2,⟨hp1.ch,hp1.st,_,e1,rfl⟩,⟨hp2.ch,hp2.st,_,e2,rfl⟩,hps⟩
    ·exact ⟨p2,p1,⟨hp2.ch,hp2.st,_,e2,rfl⟩,⟨hp1.ch,hp1.st,_,e1,rfl⟩,λz h h'=>hps z h' h⟩
    ·exact absurd rfl iP
   obtain ⟨qs,qy,To,hqy,hqd⟩:∃qs qy,s7 E (·=s) B qs/\s7 E (·=y) B qy/\Sy qs qy:=by
    refine aK (Td.st) λb1 e1 o1=>aK (PZ.st) λb2 e2 o2=>?_;have m1:=sW e1;have m2:=sW e2;have iP:b1≠b2:=λe=>hqs b1 m1 (e▸m2);rcases o1 with rfl|rfl <;> rcases o2 with rfl|rfl
    ·exact absurd rfl iP
    ·exact ⟨q1,q2,⟨Td.ch,⟨_,e1,rfl⟩,Td.en⟩,⟨PZ.ch,⟨_,e2,rfl⟩,PZ.en⟩,hqs⟩
    ·exact ⟨q2,q1,⟨PZ.ch,⟨_,e2,rfl⟩,PZ.en⟩,⟨Td.ch,⟨_,e1,rfl⟩,Td.en⟩,λz h h'=>hqs z h' h⟩
    ·exact absurd rfl iP
   have ms:s∈ps:=by obtain ⟨b,e,rfl⟩:=Tn.en;exact df e
   have mq:s∈qs:=by obtain ⟨b,e,rfl⟩:=To.st;exact sW e
   refine eD (qa ms) λu u' eu hu=>eD (Ct mq) λv' v ev hv=>?_;have spx:s∉px:=hpd s ms;have sqy:s∉qy:=hqd s mq;subst eu;subst ev;have mx:x∈px:=by obtain ⟨b,e,rfl⟩:=HW.en;exact df e
   have my:y∈qy:=by obtain ⟨b,e,rfl⟩:=hqy.st;exact sW e
   have noc:∀{C D:Nat->Prop} {l1 r1 l2 r2:List Nat} {z:Nat},s7 E A C (l1++z::r1)->s7 E D B (l2++z::r2)->s∉l1->z≠s->s∉r2->False:=by
    intro C D l1 r1 l2 r2 z ha hb n1 n2 n3;have:=cut _ (ha.join hb);simp at this;rcases this with h|h|h
    ·exact n1 h
    ·exact n2 h.symm
    ·exact n3 h
   refine ⟨u++s::v,px++qy,(Tn.join To).mono up,?_,?_⟩
   ·refine aK (HW.en) λb e hb=>aK (hqy.st) λa e' ha=>?_;have hb':b=x:=hb;have ha':a=y:=ha;subst hb';subst ha';obtain ⟨p0,rfl⟩:∃p0,px=p0++[b]:=by
     have iP:px≠[]:=by rintro rfl;exact gK e
     refine ⟨px.dropLast,?_⟩;have h1:=GZ iP;rw [gu iP] at e;rw [aO e] at h1;exact h1.symm
    obtain ⟨q0,rfl⟩:∃q0,qy=a::q0:=by
     cases qy with
     |nil=>exact gK e'
     |cons c l=>exact ⟨l,by (refine aj (aO e' ..) ?_;rfl)⟩
    refine ⟨?_,?_,?_⟩
    ·have h1:sg ((b,a)::E) (p0++b::(a::q0)):=sg.glue (HW.ch.mono up) ⟨aa,hqy.ch.mono up⟩;simpa using h1
    ·refine aK (HW.st) λc hc hA=>⟨c,?_,hA⟩
     refine fZ (hc ..) ?_;cases p0 <;> rfl
    ·exact aK (hqy.en) λc hc hB=>⟨c,by refine aj (sh _ (by simp) ..) ?_;exact hc,hB⟩
   ·intro z hz MX;rcases bc.mp hz with h|h
    ·rcases bc.mp MX with h'|h'
     ·exact hpd z (aE _ h) h'
     ·refine oz (eX h) λl1 r1 e1=>oz (eX h') λl2 r2 e2=>?_;subst e1;subst e2;have ha:s7 E A (·=s) (l1++z::(r1++s::u')):=by simpa using Tn
      exact noc ha hqy (λhm=>hu (aE _ hm)) (λe=>hu (by refine fZ (e ..) ?_;simp)) λhm=>sqy (by simp [hm])
    ·rcases aP.mp h with h|h
     ·subst h;rcases bc.mp MX with h'|h'
      ·exact spx h'
      ·exact sqy h'
     ·rcases bc.mp MX with h'|h'
      ·refine oz (eX h') λl1 r1 e1=>oz (eX h) λl2 r2 e2=>?_;subst e1;subst e2;have hb:s7 E (·=s) B ((v'++s::l2)++z::r2):=by simpa using To
       exact noc HW hb (λhm=>spx (by simp [hm])) (λe=>hv (by refine fZ (e ..) ?_;simp)) λhm=>hv (by simp [hm])
      ·exact hqd z (by simp [h]) h'
def wq(hs:List (List Nat))(b o:Nat):Prop:=gI hs b o/\o≠b
def Gx(hs:List (List Nat))(x z:Nat):Prop:=∃p∈hs.getD z [],gI hs p x/\¬wq hs z x
inductive iB(hs:List (List Nat))(S:List Nat):Nat->Prop
 |set {x z:_}:x∈S->Gx hs x z->iB hs S z
 |next {x z:_}:iB hs S x->Gx hs x z->iB hs S z
def zC(hs:List (List Nat))(S:List Nat)(x:Nat):Prop:=x∈S\/iB hs S x
theorem iB.of{hs:List (List Nat)}{S:List Nat}{x z:Nat}(h:zC hs S x)(hf:Gx hs x z):iB hs S z:=by
 rcases h with h|h
 ·exact .set h hf
 ·exact .next h hf
structure Gr(hs:List (List Nat)):Prop where
 reach:∀b,b≠0->(∃c,b∈hs.getD c []\/c∈hs.getD b [])->∃w,wc hs b [0] w
 entry:hs.getD 0 []=[]
theorem gI.zero{hs:List (List Nat)}{o:Nat}(h:gI hs 0 o):o=0:=by
 rcases h with h|⟨h,_⟩
 ·exact h
 ·exact absurd rfl h
theorem Be{hs:List (List Nat)}{S:List Nat}{x p z:Nat}(hx:zC hs S x)(hp:p∈hs.getD z [])(hd:gI hs p x)(hn:¬iB hs S z):wq hs z x:=
 bO λh=>hn (iB.of hx ⟨p,hp,hd,h⟩)
theorem Bf{hs:List (List Nat)}{S:List Nat}{x:Nat}(hx:zC hs S x):∀{w:List Nat} {z:Nat},ei hs z (w++[x])->(∀c∈w,¬zC hs S c)->¬iB hs S z->wq hs z x
 |[],z,hb,_,hn=>Be hx hb.1 gI.self hn
 |c::w,z,hb,hw,hn=>by
  have hc:=hw c aa;have:=Bf hx hb.2 (λd hd=>hw d (ab _ hd)) (λh=>hc (.inr h));exact Be hx hb.1 this.1 hn
def Cut(hs:List (List Nat))(S:List Nat)(c y:Nat):Prop:=y=c\/(y∉S/\∀w,ei hs y w->(∃d,w.getLast? =ae d/\d∈S)->c∈w)
theorem Cut.head{hs:List (List Nat)}{S:List Nat}{c y p:Nat}(h:∀w,ei hs y w->(∃d,w.getLast? =ae d/\d∈S)->c∈w)(hp:p∈hs.getD y []):Cut hs S c p:=by
 by_cases e:p=c
 ·exact .inl e
 ·refine .inr ⟨λud=>?_,λw hw hl=>?_⟩
  ·have:=h [p] ⟨hp,trivial⟩ ⟨p,rfl,ud⟩;exact e (aA.mp this).symm
  ·have iP:w≠[]:=by
    rintro rfl;refine aK hl λd hd z=>?_;clear hl;simp at hd
   refine aK hl λd hd hm=>?_;clear hl;have:=h (p::w) ⟨hp,hw⟩ ⟨d,by (refine aj (show p::w=[p]++w from rfl) ?_;refine aj (dn _ iP ..) ?_);exact hd,hm⟩;rcases aP.mp this with e'|e'
   ·exact absurd e'.symm e
   ·exact e'
theorem gI.walk{hs:List (List Nat)}{b a:Nat}(h:gI hs b a)(hn:a≠b){w:List Nat}(hw:ei hs b w)(hl:w.getLast? =ae 0):a∈w:=by
 refine ef (k0 (marks:=[0]) hw ⟨0,hl,by decide⟩) λv hv M9 q9=>?_;rcases h with e|⟨_,e⟩
 ·exact absurd e hn
 ·exact q9 a (e v ⟨hv,M9⟩)
theorem y5{hs:List (List Nat)}{b a:Nat}{p q:List Nat}(h:ei hs b (p++a::q)):ei hs a q:=by
 have h1:ei hs b ((p++[a])++q):=by simpa using h
 rw [ei.append] at h1;have e:(b::(p++[a])).getLast (by simp)=a:=by refine aj (kg (by simp) ..) ?_;simp
 rw [e] at h1;exact h1.2
theorem y6{p q:List Nat}{a:Nat}(ha:a≠0)(h:(p++a::q).getLast? =ae 0):q.getLast? =ae 0:=by
 rw [dn _ (by simp)] at h;cases q with
 |nil=>exact absurd (aO h) ha
 |cons c q=>refine fZ (h ..) ?_;rfl
theorem gI.anti{hs:List (List Nat)}{a b:Nat}(hr:b≠0->∃w,wc hs b [0] w)(h:gI hs b a)(h':gI hs a b):a=b:=by
 by_cases hb:b=0
 ·subst hb;exact h.zero
 by_cases ha:a=0
 ·subst ha;exact h'.zero.symm
 apply bO;intro hn;have key:∀n,∀w,w.length=n->ei hs b w->w.getLast? =ae 0->False:=by
  intro n;induction n using vI with
  |ind n ih=>intro w hlen hw hl;refine oz (eX (h.walk hn hw hl)) λp q e=>?_;subst e;have hq:=y5 hw;have hql:=y6 ha hl;refine oz (eX (h'.walk (gf hn) hq hql)) λp' q' e'=>?_;subst e';refine ih q'.length ?_ q' rfl (y5 hq) (y6 hb hql);refine fZ (hlen ..) ?_;simp only [ba,bK];lia
 obtain ⟨w,hw,c,hc,hm⟩:=hr hb;have:c=0:=by simpa using hm
 subst this;exact key _ w rfl hw.back hc
theorem ei.lt{hs:List (List Nat)}(lt:∀b,∀c∈hs.getD b [],c < 6):∀{w:List Nat} {b:Nat},ei hs b w->∀c∈w,c < 6
 |[],_,_,_,h=>eo h
 |d::w,b,hw,c,h=>by
  rcases aP.mp h with e|e
  ·refine aj (e ..) ?_;exact lt b d hw.1
  ·exact ei.lt lt hw.2 c e
theorem u9{hs:List (List Nat)}{S:List Nat}{c x z:Nat}(h0:0∈S)(he:hs.getD 0 []=[])(lt:∀b,∀c∈hs.getD b [],c < 6)(hr:∀y,y≠0->y < 6->∃w,wc hs y [0] w)(ih:Cut hs S c x->x=c)(hf:Gx hs x z)(zt:∀w,ei hs z w->(∃d,w.getLast? =ae d/\d∈S)->c∈w):z=c:=by
 apply bO;intro hn;refine ef hf λp hp HW wz=>?_;clear hf;have Nf:z≠0:=by rintro rfl;rw [he] at hp;exact eo hp
 have hdc:gI hs z c:= .inr ⟨Nf,λw hw=>zt w hw.1.back (by
  refine aK (hw.2) λd hd hm=>?_;exact ⟨d,hd,by
   have:d=0:=by simpa using hm
   refine aj (this ..) ?_;exact h0⟩)⟩
 have ug:c < 6:=by
  by_cases JW:p=0
  ·subst JW;have:=zt [0] ⟨hp,trivial⟩ ⟨0,rfl,h0⟩;refine aj (aA.mp this ..) ?_;decide
  ·obtain ⟨w,hw,d,hd,hm⟩:=hr p JW (lt z p hp);have Ju:d=0:=by simpa using hm
   have iP:w≠[]:=by rintro rfl;simp at hd
   have hb:ei hs z (p::w):=⟨hp,hw.back⟩;exact hb.lt lt c (zt _ hb ⟨d,by (refine aj (show p::w=[p]++w from rfl) ?_;refine aj (dn _ iP ..) ?_);exact hd,Ju▸h0⟩)
 have P2:x≠c:=λe=>wz (e▸⟨hdc,gf hn⟩);have bad:gI hs c x->False:=λh=>by
  by_cases hxz:x=z
  ·subst hxz;exact hn (gI.anti (λhc=>hr c hc ug) h hdc)
  ·exact wz ⟨h.trans hdc,hxz⟩
 have hcp:=Cut.head zt hp;rcases hcp with e|⟨hpS,hpw⟩
 ·exact bad (e▸HW)
 by_cases QX:x=p
 ·exact P2 (ih (QX▸.inr ⟨hpS,hpw⟩))
 have JW:p≠0:=λe=>hpS (e▸h0);obtain ⟨w,hw,d,hd,hm⟩:=hr p JW (lt z p hp);have Ju:d=0:=by simpa using hm
 subst Ju;refine eD (qa (HW.walk QX hw.back hd)) λu v e hu=>?_;have hb:=hw.back;rw [e] at hb;have hcu:c∉u:=λhm=>by
  refine oz (eX hm) λu1 u2 e1=>?_;rw [e1] at hb hu;exact bad (gI.through (p:=u1) (q:=u2++x::v) (by simpa using hb) (λh=>hu (by simp [h])) QX HW)
 refine P2 (ih (.inr ⟨λhxS=>?_,λw' hw' hl=>?_⟩))
 ·have:=hpw (u++[x]) (hb.join (u:=[]) trivial) ⟨x,by simp,hxS⟩;rcases bc.mp this with h|h
  ·exact hcu h
  ·exact P2 (aA.mp h).symm
 ·refine aK hl λd hd hm=>?_;clear hl;have iP:w'≠[]:=by rintro rfl;simp at hd
  have:=hpw (u++x::w') (hb.join hw') ⟨d,by (refine aj (dn _ (by simp) ..) ?_;refine aj (show x::w'=[x]++w' from rfl) ?_;refine aj (dn _ iP ..) ?_);exact hd,hm⟩;rcases bc.mp this with h|h
  ·exact absurd h hcu
  ·rcases aP.mp h with h|h
   ·exact absurd h.symm P2
   ·exact h
theorem Pk{hs:List (List Nat)}{S:List Nat}{c x:Nat}(h0:0∈S)(he:hs.getD 0 []=[])(lt:∀b,∀c∈hs.getD b [],c < 6)(hr:∀y,y≠0->y < 6->∃w,wc hs y [0] w)(hx:iB hs S x):Cut hs S c x->x=c:=by
 induction hx with
 |set ud hf=>exact λh=>h.elim id λh=>u9 h0 he lt hr (λh=>h.elim id λh=>absurd ud h.1) hf h.2
 |next _ hf ih=>exact λh=>h.elim id λh=>u9 h0 he lt hr ih hf h.2
theorem ME{hs:List (List Nat)}{S:List Nat}{c x:Nat}(h0:0∈S)(he:hs.getD 0 []=[])(lt:∀b,∀c∈hs.getD b [],c < 6)(hr:∀y,y≠0->y < 6->∃w,wc hs y [0] w)(hx:iB hs S x)(zt:∀w,ei hs x w->(∃d,w.getLast? =ae d/\d∈S)->c∈w):x=c:=by
 cases hx with
 |set ud hf=>exact u9 h0 he lt hr (λh=>h.elim id λh=>absurd ud h.1) hf zt
 |next h hf=>exact u9 h0 he lt hr (Pk h0 he lt hr h) hf zt
def kq.S0(hs:List (List Nat))(S:List Nat)(z _:Nat):Prop:=∀(h0:0∈S) (lt:∀b,∀c∈hs.getD b [],c < 6) (hr:∀y,y≠0->y < 6->∃w,wc hs y [0] w) (hz:iB hs S z),∃w y,ei hs z (w++[y])/\zC hs S y/\¬wq hs z y/\∀c∈w,¬zC hs S c
namespace kq
@[irreducible] def e0:=G2 gD gD eN eN S0
def kE:=e0.1
def S_:=e0.2.1
def z_:=e0.2.2.1
theorem T0:S0 kE S_ z_ e0.2.2.2:=by
 intro h0 lt hr hz;obtain ⟨x,hx,p,hp,HW,wz⟩:∃x,zC kE S_ x/\Gx kE x z_:=by
  cases hz with
  |set h hf=>exact ⟨_,.inl h,hf⟩
  |next h hf=>exact ⟨_,.inr h,hf⟩
 obtain ⟨u,hu,hxu⟩:∃u,ei kE z_ (u++[x])/\∀u1 y u2,u=u1++y::u2->gI kE y x:=by
  by_cases QX:x=p
  ·exact ⟨[],⟨QX▸hp,trivial⟩,λu1 y u2 e=>by simp at e⟩
  ·have JW:p≠0:=λe=>by subst e;exact QX HW.zero
   obtain ⟨w,hw,d,hd,hm⟩:=hr p JW (lt z_ p hp);have Ju:d=0:=by simpa using hm
   subst Ju;refine eD (qa (HW.walk QX hw.back hd)) λu v e hxu=>?_;have hb:=hw.back;rw [e] at hb;refine ⟨p::u,⟨hp,hb.join (u:=[]) trivial⟩,λu1 y u2 e'=>?_⟩;cases u1 with
   |nil=>injection e' with e1 e2;refine fZ (e1 ..) ?_;exact HW
   |cons a u1=>
    injection e' with e1 e2
    rw [e2] at hb hxu;exact gI.through (p:=u1) (q:=u2++x::v) (by simpa using hb) (λh=>hxu (by simp [h])) QX HW
 by_cases hM:∃c∈u,zC kE S_ c
 ·
  have first:∀{l:List Nat},(∃c∈l,zC kE S_ c)->∃u1 y u2,l=u1++y::u2/\zC kE S_ y/\∀c∈u1,¬zC kE S_ c:=by
   intro l;induction l with
   |nil=>rintro ⟨c,hc,_⟩;exact eo hc
   |cons a l ih=>
    intro h;by_cases ha:zC kE S_ a
    ·exact ⟨[],a,l,rfl,ha,λc hc=>eo hc⟩
    ·obtain ⟨u1,y,u2,e,h1,h2⟩:=ih (by
      refine aK h λc hc hm=>?_;clear h;rcases aP.mp hc with e|e
      ·exact absurd (e▸hm) ha
      ·exact ⟨c,e,hm⟩)
     exact ⟨a::u1,y,u2,by refine aj (e ..) ?_;rfl,h1,λc hc=>by
      rcases aP.mp hc with e|e
      ·exact e▸ha
      ·exact h2 c e⟩
  refine cE (first hM) λu1 y u2 e hy h1=>?_;have hd:=hxu u1 y u2 e;refine ⟨u1,y,?_,hy,λud=>?_,h1⟩
  ·rw [e] at hu;exact ei.join (q:=u2++[x]) (u:=[]) (by simpa using hu) trivial
  ·by_cases hxz:x=z_
   ·subst hxz;have Uv:y < 6:=by rw [e] at hu;exact hu.lt lt y (by simp)
    exact ud.2 (gI.anti (λhy0=>hr y hy0 Uv) hd ud.1).symm
   ·exact wz ⟨hd.trans ud.1,hxz⟩
 ·exact ⟨u,x,hu,hx,wz,λc hc hm=>hM ⟨c,hc,hm⟩⟩
end kq
theorem kq{hs:List (List Nat)}{S:List Nat}{z:Nat}:kq.S0 hs S z 0:=by with_unfolding_all exact vK _ _ _ _ kq.S0 @kq.T0 hs S z 0
noncomputable def Bg(hs:List (List Nat)):Ed:=(aN hs.length).flatMap λb=>(hs.getD b []).map λc=>(b,c)
theorem Pm{hs:List (List Nat)}{b c:Nat}:(b,c)∈Bg hs↔c∈hs.getD b []:=by
 unfold Bg;refine gj (bG ..) ?_;constructor
 ·intro dO;refine aK dO λd z h=>?_;clear dO;refine aK (aG.mp h) λe h1 h2=>?_;injection h2 with h3 h4
  subst h3;subst h4;exact h1
 ·intro h;refine ⟨b,?_,aG.mpr ⟨c,h,rfl⟩⟩;refine gj (aY ..) ?_;rcases gX b hs.length with h'|h'
  ·exact h'
  ·rw [bR,il h'] at h;exact eo h
theorem y7{hs:List (List Nat)}:∀{w:List Nat} {b:Nat},sg (Bg hs) (b::w)↔ei hs b w
 |[],_=>⟨λz=>trivial,λz=>trivial⟩
 |c::w,b=>by
  show (_/\sg (Bg hs) (c::w))↔(_/\ei hs c w);refine gj (Pm ..) ?_;refine gj (y7 ..) ?_;rfl
def nX.S0(hs:List (List Nat))(S:List Nat)(z _:Nat):Prop:=∀(h0:0∈S) (he:hs.getD 0 []=[]) (lt:∀b,∀c∈hs.getD b [],c < 6) (hr:∀y,y≠0->y < 6->∃w,wc hs y [0] w) (hz:iB hs S z) (Nf:z≠0) (JX:z < 6),∃w1 w2,wc hs z S w1/\wc hs z S w2/\Sy w1 w2
namespace nX
@[irreducible] def e0:=G2 gD gD eN eN S0
def kE:=e0.1
def S_:=e0.2.1
def z_:=e0.2.2.1
theorem T0:S0 kE S_ z_ e0.2.2.2:=by
 intro h0 he lt hr hz Nf JX;have H:∀c,∃p,s7 (Bg kE) (λa=>a∈kE.getD z_ []) (λa=>a∈S_) p/\c∉p:=by
  intro c;obtain ⟨w,hw,hl,hc⟩:∃w,ei kE z_ w/\(∃d,w.getLast? =ae d/\d∈S_)/\c∉w:=by
   by_cases P6:z_=c
   ·obtain ⟨w,hw,d,hd,hm⟩:=hr z_ Nf JX;have Ju:d=0:=by simpa using hm
    subst Ju;by_cases hzw:z_∈w
    ·refine eD (Ct hzw) λu v e hv=>?_;have hb:=hw.back;rw [e] at hb hd;exact ⟨v,y5 hb,⟨0,y6 Nf hd,h0⟩,P6▸hv⟩
    ·exact ⟨w,hw.back,⟨0,hd,h0⟩,P6▸hzw⟩
   ·apply bO;intro Bv;have all:∀w,ei kE z_ w->(∃d,w.getLast? =ae d/\d∈S_)->c∈w:=λw h1 h2=>bO λh3=>Bv ⟨w,h1,h2,h3⟩;exact P6 (ME h0 he lt hr hz all)
  refine aK hl λd hd hm=>?_;clear hl;cases w with
  |nil=>simp at hd
  |cons a w=>exact ⟨a::w,⟨y7.mpr hw.2,⟨a,rfl,hw.1⟩,d,hd,hm⟩,hc⟩
 refine cC (xK _ _ _ H) λp q hp hq ud=>?_;have mk:∀{p:List Nat},s7 (Bg kE) (λa=>a∈kE.getD z_ []) (λa=>a∈S_) p->∃v,wc kE z_ S_ v/\∀c∈v,c∈p:=by
  intro p hp;obtain ⟨ch,⟨a,ha,hA⟩,d,hd,hm⟩:=hp;cases p with
  |nil=>exact gK ha
  |cons b p=>have:b=a:=aO ha;subst this;exact ef (k0 (b:=z_) (marks:=S_) (w:=b::p) ⟨hA,y7.mp ch⟩ ⟨d,hd,hm⟩) λv hv M9 q9=>⟨v,⟨hv,M9⟩,q9⟩
 exact aK (mk hp) λv1 h1 s1=>aK (mk hq) λv2 h2 s2=>⟨v1,v2,h1,h2,λz_ hz MX=>ud z_ (s1 z_ hz) (s2 z_ MX)⟩
end nX
theorem nX{hs:List (List Nat)}{S:List Nat}{z:Nat}:nX.S0 hs S z 0:=by with_unfolding_all exact vK _ _ _ _ nX.S0 @nX.T0 hs S z 0
structure Je(hs:List (List Nat))(S:List Nat)(z v:Nat):Prop where
 mem:zC hs S v
 sd:wq hs z v
 near:∀y,zC hs S y->wq hs z y->gI hs v y
theorem Cu{hs:List (List Nat)}{y v:Nat}(h:¬gI hs y v)(hy:y≠0):∃u,ei hs y u/\u.getLast? =ae 0/\v∉u:=by
 apply bO;intro Bv;refine h (.inr ⟨hy,λw hw=>bO λhv=>Bv ⟨w,hw.1.back,?_,hv⟩⟩);refine aK (hw.2) λd hd hm=>?_;have Ju:d=0:=by simpa using hm
 exact Ju▸hd
theorem tv{hs:List (List Nat)}{S:List Nat}{z v y:Nat}{w:List Nat}(hr:∀y,y≠0->y < 6->∃w,wc hs y [0] w)(lt:∀b,∀c∈hs.getD b [],c < 6)(hn:¬iB hs S z)(nv:Je hs S z v)
 (hw:ei hs z (w++[y])) (hy:zC hs S y) (hu:∀c∈w,¬zC hs S c):y=v:=by
 have GN:=Bf hy hw hu hn;have hd:=nv.near y hy GN;have Uv:y < 6:=hw.lt lt y (by exact bL _ aa);apply bO;intro iP;by_cases hy0:y=0
 ·subst hy0;have h1:=nv.sd.1.walk nv.sd.2 hw (by simp);rcases bc.mp h1 with h|h
  ·exact hu v h nv.mem
  ·exact iP (aA.mp h).symm
 ·have hnd:¬gI hs y v:=λh=>iP (by
   by_cases GJ:v=0
   ·subst GJ;exact hd.zero
   ·exact (gI.anti (λx=>hr y hy0 Uv) h hd).symm)
  refine ef (Cu hnd hy0) λu hu1 hu2 hu3=>?_;have hne':u≠[]:=by rintro rfl;simp at hu2
  have h1:=nv.sd.1.walk nv.sd.2 (w:=w++y::u) (ei.join (q:=[]) hw hu1) (by (refine aj (dn _ (by simp) ..) ?_;refine aj (show y::u=[y]++u from rfl) ?_;refine aj (dn _ hne' ..) ?_);exact hu2);rcases bc.mp h1 with h|h
  ·exact hu v h nv.mem
  ·rcases aP.mp h with h|h
   ·exact iP h.symm
   ·exact hu3 h
section
variable {hs:List (List Nat)}{cs:Nat->Cs}{S S':Nat->Nat}{m j w:Nat}{ws:List Nat}
theorem QG{S o:Nat}(h:S < 64)(hb:S.testBit o=aI):o < 6:=by
 rcases gX o 6 with q|q
 ·exact q
 ·have:S.testBit o=aH:=vh (cb h (by refine aj (show (64:Nat)=2 ^ 6 from rfl) ?_;exact e7 (by decide) q));rw [this] at hb;exact vL hb
theorem xM:cU S cs j < 64:=DF _
theorem y8{o:Nat}(ho:o < 6):(cU S cs j).testBit o=(o == j || (cs j).all λc=>(S c.1).testBit o):=kB _ ho
theorem Jf(h:∀b o,(S' b).testBit o=aI->(S b).testBit o=aI){o:Nat}(hb:(cU S' cs j).testBit o=aI):(cU S cs j).testBit o=aI:=by
 have ho:=QG xM hb;rw [y8 ho] at hb ⊢;rw [jU] at hb ⊢;rcases hb with hb|hb
 ·exact .inl hb
 ·rw [fW] at hb ⊢;exact .inr λc hc=>h _ _ (hb c hc)
theorem Gy(h:∀c∈cs j,S' c.1=S c.1):cU S' cs j=cU S cs j:=by unfold cU;congr 1;funext o;congr 1;refine gj (cj ..) ?_;refine gj (fW ..) ?_;refine gj (fW ..) ?_;exact ⟨λq c hc=>by refine fZ (h c hc ..) ?_;exact q c hc,λq c hc=>by refine aj (h c hc ..) ?_;exact q c hc⟩
theorem Sz:∀S,S < 64->∀S',S' < 64->(∀o,o < 6->S'.testBit o=aI->S.testBit o=aI)->S'≠S->(eY S').length < (eY S).length:=by decide+kernel
noncomputable def Cv(S:Nat->Nat):Nat:=(eY (S 1)).length+(eY (S 2)).length+(eY (S 3)).length+(eY (S 4)).length+(eY (S 5)).length
theorem Pn(hw:w∈[1,2,3,4,5])(h0:∀b,b≠w->S' b=S b)(h:(eY (S' w)).length < (eY (S w)).length):Cv S' < Cv S:=by
 unfold Cv;simp only [aP,eZ,or_false] at hw;rcases hw with rfl|rfl|rfl|rfl|rfl
 ·(refine aj (h0 2 (by decide) ..) ?_;refine aj (h0 3 (by decide) ..) ?_;refine aj (h0 4 (by decide) ..) ?_;refine aj (h0 5 (by decide) ..) ?_);lia
 ·(refine aj (h0 1 (by decide) ..) ?_;refine aj (h0 3 (by decide) ..) ?_;refine aj (h0 4 (by decide) ..) ?_;refine aj (h0 5 (by decide) ..) ?_);lia
 ·(refine aj (h0 2 (by decide) ..) ?_;refine aj (h0 1 (by decide) ..) ?_;refine aj (h0 4 (by decide) ..) ?_;refine aj (h0 5 (by decide) ..) ?_);lia
 ·(refine aj (h0 2 (by decide) ..) ?_;refine aj (h0 3 (by decide) ..) ?_;refine aj (h0 1 (by decide) ..) ?_;refine aj (h0 5 (by decide) ..) ?_);lia
 ·(refine aj (h0 2 (by decide) ..) ?_;refine aj (h0 3 (by decide) ..) ?_;refine aj (h0 4 (by decide) ..) ?_;refine aj (h0 1 (by decide) ..) ?_);lia
noncomputable def oZ(cs:Nat->Cs)(S:Nat->Nat)(w:Nat):Nat->Nat:=λb=>if b=w then cU S cs w else S b
noncomputable def qb(cs:Nat->Cs)(w:Nat):List Nat:=[1,2,3,4,5].filter λo=>(cs o).any λc=>c.1 == w
noncomputable def qU(cs:Nat->Cs)(S:Nat->Nat)(ws:List Nat)(w:Nat):(Nat->Nat)×List Nat:=(oZ cs S w,if cU S cs w=S w then [] else qb cs w)
structure SA(hs:List (List Nat))(cs:Nat->Cs):Prop where
 lt:∀j,∀c∈cs j,c.1 < 6
 mem:∀j,j∈[1,2,3,4,5]->∀c,c∈hs.getD j []↔c∈(cs j).map (·.1)
structure HJ(hs:List (List Nat))(cs:Nat->Cs)(m i:Nat)(ws:List Nat)(S:Nat->Nat):Prop where
 in5:∀w∈ws,w∈[1,2,3,4,5]
 ok:∀b,S b < 64/\S b≠0
 z:S 0=1
 dec:∀j∈[1,2,3,4,5],∀o,(cU S cs j).testBit o=aI->(S j).testBit o=aI
 don:∀j∈[1,2,3,4,5],cU S cs j=S j\/j∈ws.drop i
 dom:∀j∈[1,2,3,4,5],∀o,o < 6->gI hs j o->(S j).testBit o=aI
 le:i<=ws.length
 len:ws.length+5*Cv S<=200
 ms:m=6*Cv S+(ws.length - i)
theorem HJ.start:HJ hs cs 185 0 [5,4,3,2,1] T0 where
 in5:=by decide
 ok:=λb=>by unfold T0;split <;> decide
 z:=rfl
 dec:=λj hj o ho=>by
  have h6:=QG xM ho;have:T0 j=63:=by unfold T0;rw [if_neg];rintro rfl;revert hj;decide
  refine aj (this ..) ?_;have:∀o,o < 6->(63:Nat).testBit o=aI:=by decide
  exact this o h6
 don:=λj hj=> .inr (by revert hj;simp only [fy,aP,eZ,or_false];lia)
 dom:=λj hj o ho y=>by
  have:T0 j=63:=by unfold T0;rw [if_neg];rintro rfl;revert hj;decide
  refine aj (this ..) ?_;have:∀o,o < 6->(63:Nat).testBit o=aI:=by decide
  exact this o ho
 le:=gp _
 len:=by decide
 ms:=by decide
def HJ.step.S0(hs:List (List Nat))(cs:Nat->Cs)(S:Nat->Nat)(m i:Nat)(ws:List Nat):Prop:=∀{w:Nat} (C:SA hs cs) (h:HJ hs cs m i ws S) (hw:ws[i]? =ae w),∃m',m' < m/\HJ hs cs m' (i+1) (ws++(qU cs S ws w).2) (qU cs S ws w).1
namespace HJ.step
@[irreducible] def e0:=Fq gD inferInstance inferInstance eN eN gD S0
def kE:=e0.1
def qP:=e0.2.1
def S_:=e0.2.2.1
def m_:=e0.2.2.2.1
def i_:=e0.2.2.2.2.1
def qK:=e0.2.2.2.2.2
theorem T0:S0 kE qP S_ m_ i_ qK:=by
 intro w C h hw;have hlt:i_ < qK.length:=(aB.mp hw).1;have QY:=h.in5 w (ao hw);have hw0:w≠0:=by rintro rfl;revert QY;decide
 have HV:qK.drop i_=w::qK.drop (i_+1):=by refine aj (dZ hlt ..) ?_;congr 1;exact (aB.mp hw).2
 unfold qU;by_cases he:cU S_ qP w=S_ w
 ·have hT:oZ qP S_ w=S_:=by
   funext b;unfold oZ;by_cases hb:b=w
   ·(refine aj (if_pos hb ..) ?_;refine aj (he ..) ?_;refine aj (hb ..) ?_;rfl)
   ·(refine aj (if_neg hb ..) ?_;rfl)
  refine aj (if_pos he ..) ?_;refine aj (hT ..) ?_;simp only [cy];refine ⟨6*Cv S_+(qK.length - (i_+1)),by refine aj (h.ms ..) ?_;lia,h.in5,h.ok,h.z,h.dec,λj hj=>?_,h.dom,hlt,h.len,rfl⟩;rcases h.don j hj with q|q
  ·exact .inl q
  ·rw [HV] at q;rcases aP.mp q with rfl|q
   ·exact .inl he
   ·exact .inr q
 ·refine aj (if_neg he ..) ?_;simp only;have h0:∀b,b≠w->oZ qP S_ w b=S_ b:=λb hb=>if_neg hb;have Uw:oZ qP S_ w w=cU S_ qP w:=if_pos rfl;have q9:∀b o,(oZ qP S_ w b).testBit o=aI->(S_ b).testBit o=aI:=λb o hb=>by
   by_cases e:b=w
   ·rw [e,Uw] at hb;refine aj (e ..) ?_;exact h.dec w QY o hb
   ·rw [h0 b e] at hb;exact hb
  have hpop:Cv (oZ qP S_ w) < Cv S_:=Pn QY h0 (by refine aj (Uw ..) ?_;exact Sz _ (h.ok w).1 _ xM (λo y q=>h.dec w QY o q) he);have hcl:(qb qP w).length<=5:=bu _ _;refine ⟨6*Cv (oZ qP S_ w)+((qK++qb qP w).length - (i_+1)),by (refine aj (h.ms ..) ?_;refine aj (ba ..) ?_);lia,λx hx=>?_,λb=>?_,by refine aj (h0 0 (gf hw0) ..) ?_;exact h.z,λj hj o ho=>?_,λj hj=>?_,λj hj o ho hd=>?_,by refine aj (ba ..) ?_;lia,by refine aj (ba ..) ?_;have:=h.len;lia,rfl⟩
  ·rcases bc.mp hx with q|q
   ·exact h.in5 x q
   ·exact (bo.mp q).1
  ·by_cases e:b=w
   ·(refine aj (e ..) ?_;refine aj (Uw ..) ?_);exact ⟨xM,DI S_ qP (by revert QY;simp only [aP,eZ,or_false];lia)⟩
   ·refine aj (h0 b e ..) ?_;exact h.ok b
  ·have h1:=Jf q9 ho;by_cases e:j=w
   ·(refine aj (e ..) ?_;refine aj (Uw ..) ?_);rw [e] at h1;exact h1
   ·refine aj (h0 j e ..) ?_;exact h.dec j hj o h1
  ·by_cases hc:∃c∈qP j,c.1=w
   ·right
    refine aj (gq (by lia) ..) (bL _ (bo.mpr ⟨hj,?_⟩));refine aK hc λc Ux hc2=>?_;clear hc;exact gj (cS ..) (⟨c,Ux,by refine aj (hc2 ..) ?_;exact beq_self_eq_true w⟩)
   ·have hcg:cU (oZ qP S_ w) qP j=cU S_ qP j:=Gy λc Ux=>h0 _ λe=>hc ⟨c,Ux,e⟩;refine aj (hcg ..) ?_;by_cases e:j=w
    ·left;(refine aj (e ..) ?_;refine aj (Uw ..) ?_;rfl)
    ·rcases h.don j hj with q|q
     ·left;(refine aj (q ..) ?_;refine aj (h0 j e ..) ?_;rfl)
     ·right
      rw [HV] at q;rcases aP.mp q with q|q
      ·exact absurd q e
      ·exact aj (gq (by lia) ..) (aE _ q)
  ·by_cases e:j=w
   ·(refine aj (e ..) ?_;refine aj (Uw ..) ?_;refine aj (y8 ho ..) ?_)
    rw [e] at hd;rcases hd.step with q|q
    ·refine aj (q ..) ?_;simp
    ·refine aj (jU ..) ?_
     right
     refine gj (fW ..) ?_;intro c hc;have hcd:=q c.1 ((C.mem w QY c.1).mpr (aG.mpr ⟨c,hc,rfl⟩));have ug:=C.lt w c hc;by_cases zE:c.1=0
     ·rw [zE] at hcd ⊢;(refine aj (h.z ..) ?_;refine aj (hcd.zero ..) ?_);rfl
     ·exact h.dom c.1 (by simp only [aP,eZ,or_false];lia) o ho hcd
   ·refine aj (h0 j e ..) ?_;exact h.dom j hj o ho hd
end HJ.step
theorem HJ.step:HJ.step.S0 hs cs S m i ws:=by with_unfolding_all exact uE _ _ _ _ _ _ HJ.step.S0 @HJ.step.T0 hs cs S m i ws
theorem HJ.fin(C:SA hs cs)(h:HJ hs cs m ws.length ws S):∀j∈[1,2,3,4,5],∀o,o < 6->((S j).testBit o=aI↔gI hs j o):=by
 have fixd:∀j∈[1,2,3,4,5],cU S cs j=S j:=λj hj=>(h.don j hj).elim id λq=>by rw [ox] at q;exact eo q
 have in5:∀b,b≠0->b < 6->b∈[1,2,3,4,5]:=λb h0 h6=>by simp only [aP,eZ,or_false];lia
 intro j hj o ho;have hj0:j≠0:=by rintro rfl;revert hj;decide
 have HT:j < 6:=by revert hj;simp only [aP,eZ,or_false];lia
 have key:=LW (hs:=hs) (D:=λb o=>gI hs b o\/(b < 6/\o < 6/\(S b).testBit o=aI)) (λo q=>by
  rcases q with q|⟨_,h6,q⟩
  ·exact q.zero
  ·rw [h.z] at q;have:∀o,o < 6->(1:Nat).testBit o=aI->o=0:=by decide
   exact this o h6 q) (λb o hb q=>by
  rcases q with q|⟨q6,h6,q⟩
  ·rcases q.step with e|e
   ·exact .inl e
   ·exact .inr λc hc=> .inl (e c hc)
  ·have zF:=in5 b hb q6;rw [<- fixd b zF,y8 h6,jU] at q;rcases q with q|q
   ·exact .inl (by simpa using q)
   ·refine .inr λc hc=>aK (aG.mp ((C.mem b zF c).mp hc)) λc' zr dO=>?_;subst dO;rw [fW] at q;exact .inr ⟨C.lt b c' zr,h6,q c' zr⟩) (λb o y hd=> .inl hd) (b:=j) (o:=o) hj0
 exact ⟨λq=>key.mp (.inr ⟨HT,ho,q⟩),h.dom j hj o ho⟩
end
end
section
variable {ds:List Nat}{k n6:Nat}{mu nu:Mu}{env:gV}{p pos:jX}{vs:el}{Θ:AF->Mu->Prop}{L A Bk T W fd:ay}{ns:List Int}{K:fH}
theorem jG{α:Type}{p:List α->Prop}(h0:p [])(h1:∀l a,p l->p (l++[a])):∀l,p l:=λl=>by
 have:∀r:List α,p r.reverse:=λr=>by
  induction r with
  |nil=>exact h0
  |cons a r ih=>refine aj (CR ..) ?_;exact h1 _ _ ih
 have:=this l.reverse
 rwa [List.reverse_reverse] at this
noncomputable def cR(l:List Nat):Cs:=l.foldl k7 []
theorem qW(arms:List (Nat×Nat))(q:Nat×Nat)(b:Nat):gS (arms++[q]) b=gS arms b++(if q.2=b then [q.1] else []):=by
 delta gS;refine aj (fX ..) ?_;refine aj (bj ..) ?_;refine aj (hZ ..) ?_;refine aj (qg ..) ?_;by_cases h:q.2=b
 ·simp [h]
 ·simp [h]
theorem Bh(arms:List (Nat×Nat))(b:Nat):(fG B0 0 arms).cs b=cR (gS arms b):=by
 induction arms using jG with
 |h0=>rfl
 |h1 l q ih=>
  refine aj (kF ..) ?_;refine aj (qW ..) ?_;show (if b=q.2 then k7 ((fG B0 0 l).cs b) q.1 else (fG B0 0 l).cs b)=_;unfold cR at*;refine aj (fu ..) ?_;refine fZ (ih ..) ?_;by_cases h:b=q.2
  ·(refine aj (if_pos h ..) ?_;refine aj (if_pos h.symm ..) ?_);rfl
  ·(refine aj (if_neg h ..) ?_;refine aj (if_neg (gf h) ..) ?_);rfl
set_option tactic.hygienic true in
theorem qc(l:List Nat)(c:Nat):c∈(cR l).map (·.1)↔c∈l:=by
 induction l using jG with
 |h0=>simp [cR]
 |h1 l a ih=>
  unfold cR at*;refine aj (fu ..) ?_;show c∈(k7 _ a).map (·.1)↔_;refine aj (oY ..) ?_;refine gj (bc ..) ?_;refine gj (aA ..) ?_
  split
  ·rename_i h;refine gj (ih ..) (⟨.inl,λq=>q.elim id λe=>?_⟩);subst e;exact ih.mp h
  ·(refine gj (bc ..) ?_;refine gj (ih ..) ?_;refine gj (aA ..) ?_;rfl)
theorem nt(arms:List (Nat×Nat))(b c:Nat):c∈sM arms b↔c < 6/\c∈gS arms b:=by delta sM eY;refine gj (bo ..) ?_;refine gj (aY ..) ?_;refine aj (Gu ..) ?_;refine aj (decide_eq_true_eq ..) ?_;rfl
theorem kr{b c:Nat}(h:c∈gS (cW ds) b):c < 6:=by refine aK (aG.mp h) λq hq dO=>?_;subst dO;exact (qT q (bo.mp hq).1).1
theorem t8{b:Nat}(h:b < 6):(dh ds).getD b []=sM (cW ds) b:=by (refine aj (bR ..) ?_;refine aj (aJ ..) ?_;refine aj (bz h ..) ?_);rfl
theorem MF{b:Nat}(h:6<=b):(dh ds).getD b []=[]:=by (refine aj (bR ..) ?_;refine aj (il (by exact h) ..) ?_);rfl
theorem Po(hB:Fe (lU ds) 20):SA (dh ds) (lU ds).cs where
 lt:=λj c hc=>hB.lt j c hc
 mem:=λj hj c=>by
  have h6:j < 6:=by revert hj;simp only [aP,eZ,or_false];lia
  refine aj (t8 h6 ..) ?_;refine gj (nt ..) ?_;refine aj (Bh ..) ?_;refine gj (qc ..) ?_;exact ⟨λq=>q.2,λq=>⟨kr q,q⟩⟩
theorem si:zX (dh ds) where
 len:=by rfl
 lt:=λb c hc=>by
  rcases gX b 6 with h|h
  ·rw [t8 h,nt] at hc;exact hc.1
  ·rw [MF h] at hc;exact eo hc
 nd:=λb=>by
  rcases gX b 6 with h|h
  ·refine aj (t8 h ..) ?_;exact lp.filter _
  ·refine aj (MF h ..) ?_;exact kQ
noncomputable def exA:bH->CX| .Lambda a _ _ _=>a|_=>Ft
noncomputable def exB:bH->bH| .Lambda _ b _ _=>b|_=> .Constant .none 0 ⟨0,0,0,0⟩
noncomputable def exS:bH->fh| .Lambda _ _ s _=>s|_=>BC
noncomputable def QI:d6->bH| .If (.UnaryOp _ (.Call _ args _ _) _) _ _ _=>args.getD 3 (.Constant .none 0 ⟨0,0,0,0⟩)|_=> .Constant .none 0 ⟨0,0,0,0⟩
noncomputable def lz:bb:=md (cM 23)++".<locals>."++"<lambda>"
noncomputable def HM:bH:=QI ((fR (cM 23)).getD 21 (.Pass ⟨0,0,0,0⟩))
noncomputable abbrev pz(L c:ay)(ct:ai):cm:=yt lz (exA HM) (exB HM) (exS HM) [("table",L+20),("flags",L+16),("book",L+15)] c ct
structure SD(G:Gd):Prop where
 la:DW G 306 304
def lV.S0(mu:Mu)(L T:ay)(ds:List Nat)(c':ay)(ct:ai)(ws:List Nat)(S:Nat->Nat)(w i4:Nat):Prop:=∀{k:Nat} {vs:el} {fd:ay} {n6 m i:Nat} {lx:ay} (H:Hy G) (hB:Fe (lU ds) 20) (hS:Sv vs (S20 ds n6 lx T)) (hJ:HJ (dh ds) (lU ds).cs m i ws S) (hw:ws[i]? =ae w) (h1:cw L vs∈mu) (h2:mj fd (eh (pz L c' ct) av)∈mu) (h3:gG 304 [(273,49,c',lz)]∈mu) (h4:mu[i4]? =ae (cD T (ot (aF ds) S))),FW (k+5) mu (.ref fd) [.str (cB (aF ds+w))] λy nu=>y= .list ((qU (lU ds).cs S ws w).2.map λw=>V.str (cB (aF ds+w)))/\nu=mu.set i4 (cD T (ot (aF ds) (qU (lU ds).cs S ws w).1))
namespace lV
@[irreducible] def e0:=zL gD cL cL gD cL gL gD inferInstance eN eN S0
def e9:=e0.1
def L_:=e0.2.1
def T_:=e0.2.2.1
def aV:=e0.2.2.2.1
def c'_:=e0.2.2.2.2.1
def NG:=e0.2.2.2.2.2.1
def qK:=e0.2.2.2.2.2.2.1
def S_:=e0.2.2.2.2.2.2.2.1
def w_:=e0.2.2.2.2.2.2.2.2.1
def i4_:=e0.2.2.2.2.2.2.2.2.2
theorem T0:S0 e9 L_ T_ aV c'_ NG qK S_ w_ i4_:=by
 intro k vs fd n6 m i lx H hB hS hJ hw h1 h2 h3 h4;have d8:=eI aV;refine FM H.B (names:=["name"]) (vals':=λz=>[ae (.str (cB (aF aV+w_)))]) (Kn.obj h2) rfl (Kn.code h3 (q:=(273,49,c'_,lz)) aa) rfl (λvs h=>?_) (by show (aM 0 (exS HM).names).nd;decide+kernel) (λL_=>⟨rfl,rfl,rfl⟩) (λL2=>?_) (λL2=>?_)
 ·exact uQ h λa=>rfl
 ·exact .cons (j:=0) .loc rfl .nil
 have he:du (dT (pz L_ c'_ NG) fd L2):=⟨rfl,rfl,rfl⟩;refine cq (H.f302.go) λob Uk cd' Jq h0 hd z=>?_;have QY:=hJ.in5 w_ (ao hw);refine ml (mn H he H.m_hear rfl) h0 hd (cA (cf (ah (j:=41) (L:=L_) (lay:=aM (L_+1) (bk (cM 23)).names) he (.free (L_+15) "book" rfl rfl rfl rfl rfl) (ab _ h1) (hS.get rfl)) (cA (cf (ah (j:=46) (L:=L_) (lay:=aM (L_+1) (bk (cM 23)).names) he (.free (L_+20) "table" rfl rfl rfl rfl rfl) (ab _ h1) (hS.get rfl)) (cA (cf (ah (j:=42) (L:=L_) (lay:=aM (L_+1) (bk (cM 23)).names) he (.free (L_+16) "flags" rfl rfl rfl rfl rfl) (ab _ h1) (hS.get rfl)) (cA (cf (ah (j:=0) he .loc aa rfl) (e8 ?_)))))))));refine (tM (k:=k) (i:=i4_+1) (T:=T_) (S:=S_) (B:=lU aV) (j:=w_) H d8 h4 hJ.ok (λb c hc=>hB.lt b c hc) (λb=>aw (hB.len b) (by decide)) QY).mono λy nu hy=>?_;delta qU;have key:nu=vS (pz L_ c'_ NG) L2 [ae (.str (cB (aF aV+w_)))]::e9.set i4_ (cD T_ (ot (aF aV) (oZ (lU aV).cs S_ w_)))->y= .list ((if cU S_ (lU aV).cs w_=S_ w_ then [] else qb (lU aV).cs w_).map λw_=>V.str (cB (aF aV+w_)))->jJ y nu (λy nu=>y= .list ((oZ (lU aV).cs S_ w_,if cU S_ (lU aV).cs w_=S_ w_ then [] else qb (lU aV).cs w_).2.map λw_=>V.str (cB (aF aV+w_)))/\nu=e9.set i4_ (cD T_ (ot (aF aV) (oZ (lU aV).cs S_ w_,if cU S_ (lU aV).cs w_=S_ w_ then [] else qb (lU aV).cs w_).1))):=λe1 e2=>by
  refine aj (e1 ..) ?_;exact jJ.tail (jJ.keep ⟨e2,rfl⟩)
 rcases hy with ⟨q1,q2,q3⟩|⟨q1,q2,q3⟩
 ·have hT:oZ (lU aV).cs S_ w_=S_:=by
   funext b;delta oZ;by_cases hb:b=w_
   ·(refine aj (if_pos hb ..) ?_;refine aj (q1 ..) ?_;refine aj (hb ..) ?_;rfl)
   ·(refine aj (if_neg hb ..) ?_;rfl)
  refine key ?_ (by (refine aj (q2 ..) ?_;refine aj (if_pos q1 ..) ?_);rfl);refine aj (q3 ..) ?_;refine aj (hT ..) ?_;refine aj (j0 _ h4 ..) ?_;refine fZ (gh h4 ..) ?_;rfl
 ·refine key ?_ (by (refine aj (q2 ..) ?_;refine aj (if_neg q1 ..) ?_);rfl);refine aj (q3 ..) ?_;rfl
end lV
theorem lV{c':ay}{ct:ai}{ws:List Nat}{S:Nat->Nat}{w i4:Nat}:lV.S0 mu L T ds c' ct ws S w i4:=by with_unfolding_all exact uF _ _ _ _ _ _ _ _ _ _ lV.S0 @lV.T0 mu L T ds c' ct ws S w i4
noncomputable abbrev S21(ds:List Nat)(n6:Nat)(lx:ay)(S:Nat->Nat):List (Nat×V):=(46,.dict (ot (aF ds) S))::S19 ds n6 lx
structure sj(hs:List (List Nat))(S:Nat->Nat):Prop where
 fin:∀j∈[1,2,3,4,5],∀o,o < 6->((S j).testBit o=aI↔gI hs j o)
 ok:∀b,S b < 64/\S b≠0
 z:S 0=1
noncomputable abbrev QJ(P:ib)(N:Int)(cs:List Nat)(L fd T c':ay)(ct:ai)(vs:el)(low:Nat)(mu:Mu)(S:Nat->Nat):Mu:=mj fd (eh (pz L c' ct) av)::cD T (ot low S)::cw L vs::((j6 P [] N cs).drop 1++(gG 304 [(273,49,c',lz)]::mu))
theorem SE(H:Hy G)(LH:fN G K)(BH:yz K)(LL:SD G){pm doc:ai}(he:du (bT pm doc L)){P:ib}(PO:mV P){N:Int}{cs:List Nat}(hS:Sv vs (S20 ds n6 P.lx T))(hR:pn ds n6 17 cs)(hB:Fe (lU ds) 20)
 (next:∀vs cs' S c',Sv vs (S21 ds n6 P.lx S)->pn ds n6 18 cs'->sj (dh ds) S->WS (k+8) (cw L vs::(j6 P [] N cs'++(gG 304 [(273,49,c',lz)]::mu))) (bT pm doc L) (je 22) Θ):
 WS (k+8) (cD T (ot (aF ds) T0)::cw L vs::Gw P N cs mu) (bT pm doc L) (je 21) Θ:=by
 have hf:∀{vs} {l:Mu} {a:cX},bq L (aM (L+1) (bk (cM 23)).names) vs∈a::cw L vs::l:=ab _ aa;have hf2:∀{vs} {l:Mu} {a b:cX},bq L (aM (L+1) (bk (cM 23)).names) vs∈a::b::cw L vs::l:=ab _ (ab _ aa);refine cq (H.f297.go) λob2 x x x r0 rd x=>aK (hR.tok O3) λcs' ht Ti=>aC (xU (MD (HK (ml (mn H he H.m_run rfl) r0 rd (cA (cf (ah (j:=21) he (.cell (L+11) "lexer") hf (hS.get rfl)) (cA (Pi (dE (ah (j:=7) he (.cell (L+6) "names") hf (hS.get rfl))) (jo dM (eO aU) (eO (o8 aU))) (Pj (by decide) (by simp) λW=>?_)))))))));refine aj (jr ..) ?_;refine aj (show jq (aN 6) av (ae 0) (ae (-1))=[5,4,3,2,1] from Jc) ?_;refine fM.ref (cA (cf cO (cA (Ce (i:=10) he rfl LL.la H.B rfl rfl rfl rfl λfd c' ct=>e8 ?_))));have CK:=Po hB;show FW (k+8) (mj fd (eh (pz L c' ct) av)::bl W ([5,4,3,2,1].map λb=>V.str (cB (aF ds+b)))::cD T (ot (aF ds) T0)::cw L vs::(j6 P [] N cs++(gG 304 [(273,49,c',lz)]::mu))) (.ref 297) [.ref P.lx,.ref W,.str "done",.ref fd] _;refine FW.to [1,3] ?_;show FW (k+8) (bl W ([5,4,3,2,1].map λb=>V.str (cB (aF ds+b)))::bl P.pb []::QJ P N cs L fd T c' ct vs (aF ds) mu T0) (.ref 297) [.ref P.lx,.ref W,.str "done",.ref fd] _;have RH:rW (k+4) (λb=>cB (aF ds+b)) P.lx P.dx P.pb W fd (tm (N - (cs.count 10:Nat)) (.ref P.f) P.pb) (eh (pz L c' ct) av) (pz L c' ct) (QJ P N cs L fd T c' ct vs (aF ds) mu) (qU (lU ds).cs) (HJ (dh ds) (lU ds).cs) (λc nu ws S=>c="done"/\nu=j6 P [] N cs'++(bl W (ws.map λb=>V.str (cB (aF ds+b)))::mj fd (eh (pz L c' ct) av)::cD T (ot (aF ds) S)::cw L vs::gG 304 [(273,49,c',lz)]::mu)):=⟨
  λS=>ao (i:=3) rfl,
  nN _ _ _,
  ab _ (ab _ (ab _ aa)),
  yP _ _ _,
  by show ("push_token":bb)∉(["lineno","instream","whitespace","pushback"]:List bb);decide,
  rfl,
  λS ws q=>Kn.obj (ao (i:=2) rfl),
  λm i ws S h=>⟨by have:=h.len;lia,h.le⟩,
  λm i ws S w h hw=>((lV (k:=k+2) (i4:=3) H hB hS h hw (ao (i:=4) rfl) (ao (i:=2) rfl) (ao (i:=11) rfl) rfl).mono λy nu e=>⟨e.1,by refine aj (e.2 ..) ?_;rfl⟩),
  λm i ws S w h hw=>h.step CK hw,
  λm ws S h=>by
   refine FW.to [1,4,4,4,4,4,4] (FW.mono (FW.app (bl W (ws.map λb=>V.str (cB (aF ds+b)))::mj fd (eh (pz L c' ct) av)::cD T (ot (aF ds) S)::cw L vs::gG 304 [(273,49,c',lz)]::mu) (xI (k:=k+2) H LH BH PO ht hR.len)) λy nu he=>?_);refine ef he λnu' e1 e2 e3=>?_;clear he;subst e1 e3;exact ⟨"done",by (refine aj (e2 ..) ?_;refine aj (Cn ..) ?_;rfl),rfl,rfl⟩⟩
 refine Qv (k:=k+4) H LH RH HJ.start λm ws S c nu hJ hf=>dU hf λe2 e3=>?_;clear hf;subst e2 e3;refine ⟨aI,by rfl,?_⟩;show WS (k+8) _ (bT pm doc L) [] _;refine bC ?_;show WS (k+8) (j6 P [] N cs'++(bl W (ws.map λb=>V.str (cB (aF ds+b)))::mj fd (eh (pz L c' ct) av)::cD T (ot (aF ds) S)::cw L vs::gG 304 [(273,49,c',lz)]::mu)) (bT pm doc L) (je 22) Θ;refine WF.to [7,7] (WF.drop1 (WF.drop1 (WF.to [8,7] (WF.frzD (j:=46) (hS.get rfl) ?_))));exact next _ cs' S c' (((hS.set (j:=46) (y:= .dict (ot (aF ds) S))).sub ⟨rfl,rfl,rfl,rfl,rfl,rfl,rfl,rfl,rfl,trivial⟩)) Ti ⟨hJ.fin CK,hJ.ok,hJ.z⟩
variable {Hm Nt cx dc lx:ay}{S:Nat->Nat}
noncomputable abbrev Gz(low:Nat)(l:List Nat):V:= .list (l.map λo=>V.str (cB (low+o)))
noncomputable def qX(low:Nat)(F:Nat->List Nat):List (bb×V):=bD low (aN 6) λb=>Gz low (F b)
noncomputable def qd(low n:Nat)(h:Nat->Nat):List (bb×V):=bD low ((aN n).map (·+1)) λb=> .str (cB (low+h b))
noncomputable abbrev Jg(ds:List Nat)(n6:Nat)(lx:ay)(S:Nat->Nat)(Hm Nt cx:ay):List (Nat×V):=(34,.ref cx)::(44,.ref Nt)::(33,.ref Hm)::S21 ds n6 lx S
theorem SG(H:Hy G)(LH:fN G K)(NH:uT K){pm doc:ai}(he:du (bT pm doc L))(hS:Sv vs (S21 ds n6 lx S))
 (next:∀vs Hm Nt cx dc,Sv vs (Jg ds n6 lx S Hm Nt cx)->WS (k+8) (cw L vs::cD Hm (qd (aF ds) 0 λz=>0)::cD Nt (qX (aF ds) λz=>[])::gH cx 245 dc [("comp_select_list",DL)]::mu) (bT pm doc L) (je 23) Θ):
 WS (k+8) (cw L vs::mu) (bT pm doc L) (je 22) Θ:=by
 have d8:=eI ds;refine aC (b4 (Cg (cA (ya H.B λHm=>fM.ref (cA (yD H.B (aN 6) (λb=> .str (cB (aF ds+b))) (λb=>(cB (aF ds+b),Gz (aF ds) [])) ⟨rfl,rfl,by decide+kernel,by decide+kernel⟩ (dA (ah (j:=7) he (.cell (L+6) "names") (ao (i:=1) rfl) (hS.get rfl))) (by lia) (by decide) (λC4 a ha=>BS 1 he.comp .loc dk (λhb=>(ah (j:=1) he.comp .loc aa rfl)) (λhb=>ij (xs:=[]) aT (bg rfl))) (jx d8 (aN 6) (λb hb=>aY.mp hb) lp) (λNt=>fM.ref (cA (B8 LH.KO NH.k245 (mn H he H.m_comp rfl) (cA (cf (y:=DL) (ij (au (f9 (xs:=[.int 0,.int (-1)]) (au aU (au (o8 aU) aT)) (by show 2<=2 ^ 20;decide)) (au (f9 (xs:=[.int 1,.int (-2)]) (au aU (au (o8 aU) aT)) (by show 2<=2 ^ 20;decide)) (au (f9 (xs:=[.int 2,.int (-3)]) (au aU (au (o8 aU) aT)) (by show 2<=2 ^ 20;decide)) aT))) (by show 3<=2 ^ 20;decide)) (e8 (FW.mono (Iz H LH NH) λy2 ue hy=>?_)))))))))))) rfl rfl);refine eD hy λcx dc e3 e4=>?_;clear hy;subst e3 e4;refine e8 ⟨by show 3<=2 ^ 20;decide,i7 (cv rfl rfl ?_)⟩;refine aQ (i:=3) (j:=33) he .loc rfl (cv rfl rfl ?_);refine aQ (i:=3) (j:=44) he (.cell (L+18) "noted") rfl (cv rfl rfl ?_);refine aQ (i:=3) (j:=34) he .loc rfl (iX ?_);exact WF.from [3,2,1,0] rfl (next _ Hm Nt cx dc (((hS.set (j:=33) (y:= .ref Hm)).set (j:=44) (y:= .ref Nt)).set (j:=34) (y:= .ref cx)))
variable {x y:bH}{xs:List V}{scope:fh}{C:ay}
section
variable {e:bH}{es:List (bb×V)}{b c:Bool}{v1 v2 v3 z:V}
theorem Pp(h1:PE k mu env x (.bool b))(h2:b=aI->PE k mu env y (.bool c)):PE k mu env (.BoolOp .And [x,y] pos) (.bool (b && c)):=⟨λ{z z z z z z} hA r q=>by
 refine wpAny_And2 (h1.c hA r λ{v s1 Z1} z1 q1 r1=>?_);refine aj (aZ.boolE q1 ..) (eU ?_);cases b with
 |false=>exact q z1 (.bool _) r1
 |true=>exact (h2 rfl).c hA r1 λ{z z z} z2=>q (z1.trans z2)⟩
theorem Bi(hl:es.length<=1000):Fn k mu (.type "list") [bZ (.dict es)] (bZ (.list (es.map λq=> .str q.1))):=⟨λ{A E Z s fr vs Q} hA r hq q=>by
 refine aK (hq.one) λv dO p=>?_;subst dO;refine jZ (m7 r p) λd kvs ep eT hs hD hO hk hr hzd PU=>?_;subst eT;have hlen:kvs.length=es.length:=by (refine fZ (ak (f:=(·.1)) ..) ?_;refine aj (hk ..) ?_;refine aj (ak ..) ?_;rfl)
 refine kdl_call (kdl_dict (prog:=G.prog) (w:=G.w) (knd:=strKind G.prog G.w) (kvs:=kvs) (ep:=ep) hs) hA.hh hD (by show _<=2 ^ 24;lia) λh' tk SW c' Tj hg hi=>?_;have hz:=r.fresh (bp s.heap.objs.size);refine q (bI.le_put hz) (aZ.list (vs:=SW) (n:=c') (bI.put_self ..) (bW.ofGets ?_ λi v y hv hy=>?_)) (R.freeze (r.keep (tk:=tk) Tj) hg hz (r.notOwn (bp _)))
 ·have:=hi.1;simp;lia
 ·refine eD (hi.2 i v (bV.symm.trans hv)) λkey x h1 h2=>?_;have h3:(es.map (·.1))[i]? =ae key:=by (refine fZ (hk ..) ?_;refine aj (aJ ..) ?_;refine aj (h1 ..) ?_);rfl
  rw [aJ] at h3 hy;refine aK (aL.mp h3) λq h4 gi=>?_;subst gi;rw [h4] at hy
  (have lA:=aO hy;clear hy;subst lA)
  refine cJ (E1 (show Value.isStrOf q.1 v=aI from h2)) λt iC=>?_;subst iC;exact .str _ _⟩
theorem Pq{x:bb}{d:V}:Fn k mu (.builtin "dict.get") [bZ (.dict es),bZ (.str x),bZ d] (bZ ((mf es x).getD d)):=⟨λ{A E Z s fr vs Q} hA r hq q=>by
 refine lG (hq.three) λv u w kG q1 q2 q3=>?_;subst kG;refine jZ (m7 r q1) λdd kvs ep ma hs hD hO hk hr hzd PU=>?_;subst ma;refine cJ (gU q2) λtk mE=>?_;subst mE;refine JH Q7 hO.typeIs PySem.F.entry_dict_get (PySem.F.args_dict_get_3 _ _ _) (meets_dict_get_default (knd:=strKind G.prog G.w) (d:=dd) (hkey:=zw G.prog G.w _ tk) (hd:=hs) (dflt:=_)) ⟨_,hO.mapOf,?_⟩;cases hg:mf es x with
 |none=>rw [hg] at q;refine aj (th hk hg ..) ?_;exact q .rfl q3 r.toks
 |some y=>rw [hg] at q;refine aK (uM hk hr hg) λv' h1 h2=>aj (h1 ..) ?_;exact q .rfl h2 r.toks⟩
theorem SH{di:gV}{t u m:bb}{ifs:List bH}{elt:bH}{kk kk2:Nat}{p1 p2 p3 p4:jX}(i j l:Nat)(he:du di)(s1:Sl di C (aM (C+1) scope.names) t i)(s2:Sl di C (aM (C+1) scope.names) u j)(s3:Sl di C (aM (C+1) scope.names) m l)
 (hi:xd k (nE scope C ((((nones (aM (C+1) scope.names)).set i (ae v1)).set j (ae v2)).set l (ae v3))::mu) di ifs b) (h:b=aI->PE k (nE scope C ((((nones (aM (C+1) scope.names)).set i (ae v1)).set j (ae v2)).set l (ae v3))::mu) di elt z)
 (hf1:autoParam ((di.kindOf t == ae .free)=aH) aR) (hf2:autoParam ((di.kindOf u == ae .free)=aH) aR) (hf3:autoParam ((di.kindOf m == ae .free)=aH) aR):
 zQ k mu scope C di (.Tuple [.Name t p1,.Tuple [.Name u p2,.Name m p3] kk2 p4] kk p) ifs elt (.tup [v1,.tup [v2,v3]]) b z:=
 ⟨_,i7 (cv rfl rfl (aQ (i:=0) he s1 rfl (cv rfl rfl (xE he s2 s3 hf2 hf3 |>.mono λnu e=>by subst e;exact iX rfl)) hf1)),hi,h⟩
theorem Bj{α:Type}{as:List α}:jq as av av (ae 1)=as/\(as.length=6->jq as av av (ae (-1))=as.reverse):=by
 constructor
 ·have e:c7 av av (ae 1) as.length=(((0:Nat):Int),((0+as.length:Nat):Int),1):=by
   unfold c7;simp
  unfold jq;refine aj (e ..) ?_;simp only;refine aj (pU ..) ?_;refine aj (pV ..) ?_;refine aj (fy ..) ?_;refine aj (cK ..) ?_;rfl
 ·intro h;unfold jq;refine aj (h ..) ?_;refine aj (show zx (c7 av av (ae (-1)) 6).1 (c7 av av (ae (-1)) 6).2.1 (c7 av av (ae (-1)) 6).2.2=[5,4,3,2,1,0] from by decide) ?_;exact len6 h λa b c d e f=>rfl
theorem HN{A:bh}{s:aq}{Z:bI}{kb:List (bb×ai)}{es:List (bb×Int)}(hkb:kb.map (·.1)=(es.map λq=>(q.1,V.int q.2)).map (·.1))(hrb:bW G Z (kb.map (·.2)) ((es.map λq=>(q.1,V.int q.2)).map (·.2)))(hnd:(es.map (·.1)).Nodup):
 ∀{fs:List (bb×Int)} {ka:List (bb×ai)},(∀q∈fs,q∈es)->ka.map (·.1)=fs.map (·.1)->bW G Z (ka.map (·.2)) (fs.map λq=>V.int q.2)->KeqHits A s kb ka aI
 |[],[],_,_,_=> .nil
 |[],_::_,_,h,_=>by exact J4 h
 |_::_,[],_,h,_=>by exact Rb h
 |q::fs,(key,v)::ka,qm,h1,h2=>by
  simp only [bA,GQ] at h1;refine dU h1 λh1a h1b=>?_;clear h1;have h1a:key=q.1:=h1a;subst h1a;cases h2 with
  |cons hv hr=>
  have hg:mf (es.map λq=>(q.1,V.int q.2)) q.1=ae (.int q.2):=by
   have hq:=qm q aa;clear qm h1b hkb hrb hr;induction es with
   |nil=>exact eo hq
   |cons a es ih=>
    rw [bA,cg] at hnd;unfold mf at ih ⊢;refine aj (bA ..) ?_;refine aj (jV ..) ?_;rcases aP.mp hq with e|e
    ·subst e;simp
    ·have iP:a.1≠q.1:=λe2=>hnd.1 (e2▸aG.mpr ⟨q,e,rfl⟩);simp only [iP,decide_false];exact ih hnd.2 e
  refine aK (uM hkb hrb hg) λy h3 h4=>cJ (gF hv) λt1 q8=>?_;subst q8;refine cJ (gF h4) λt2 uf=>?_;subst uf;have he:=SeqAt.EqAt.int_int (A:=A) (s:=s) q.2 t1 q.2 t2;rw [beq_self_eq_true] at he;exact .hit h3 he (HN hkb hrb hnd (λr hr=>qm r (ab _ hr)) h1b hr)
theorem EC{A:bh}{E:ai->aq->Prop}{s:aq}{Z:bI}{v u:ai}{es:List (bb×Int)}{Q:Bool->aq->Prop}(r:R Z mu s)(hu:A.units < 9900)(hnd:(es.map (·.1)).Nodup)(h1:aZ G Z v (.dict (es.map λq=>(q.1,V.int q.2))))(h2:aZ G Z u (.dict (es.map λq=>(q.1,V.int q.2))))(h:Q aI s):
 aS (aX G.prog G.w) A (eqBool v u) Q E s:=by
 refine qt (m7 r h1) λd1 k1 ep1 mP zk z hO1 Tc hr1 z=>?_;subst mP;refine qt (m7 r h2) λd2 k2 ep2 sq GG z hO2 hk2 hr2 z=>?_;subst sq;by_cases hd:d1=d2
 ·subst hd;exact SeqAt.EqAt.same _ G.prog G.w E Q h
 ·unfold eqBool;refine bE (f5 (λxb=>absurd (by have:=jD xb;injection this) hd) (λz=>?_));have hl:k1.length=k2.length:=by have a:=congrArg kM Tc;have b:=congrArg kM hk2;simp at a b;lia
  refine ag (keq_eq zk GG hO1 hO2 hu (λz=>HN hk2 hr2 hnd (λq hq=>hq) (Tc.trans (by refine aj (a0 ..) ?_;rfl)) (by rw [a0] at hr1;exact hr1)) ?_);refine aj (hl ..) ?_;refine aj (beq_self_eq_true ..) ?_;refine aj (Ny ..) ?_;exact eU h
theorem MG{A:bh}{E:ai->aq->Prop}{s:aq}{l b:ay}{items items2:Array ai}{Q:ai->aq->Prop}(hl:s.heap.IsTuple l items)(hb:s.heap.IsTuple b items2)(hs:items.size=items2.size)(hu:A.units < 9900)
 (he:∀j (h1:j < items.size) (h2:j < items2.size) (E:ai->aq->Prop) (Q:Bool->aq->Prop),Q aI s->aS (aX G.prog G.w) A.in1 (eqBool items[j] items2[j]) Q E s) (h:Q (.bool aH) s):aS (aX G.prog G.w) A (compareOp .NotEq (.ref l) (.ref b)) Q E s:=by
 obtain ⟨⟨cls,dd,data,sl⟩,ho,hc,n,hd⟩:=id hl;obtain ⟨⟨cls2,dd2,data2,sl2⟩,NM,hc2,n2,hd2⟩:=id hb;simp only at hc hd hc2 hd2;subst hc hd hc2 hd2;refine wpAny_richCompare_same_room (op:= .NotEq) hl.typeIs hb.typeIs Q8 (dp Q8 hl.typeIs PySem.F.entry_tuple_ne ?_ (PySem.F.args_tuple_ne_2 _ _)) hu;obtain ⟨hp,g,d,tk,os⟩:=s;have f2:=AutoSeq1.sub_tuple_tuple
 wp_walk using AutoSeq1.wpAny_loadPart' ho,AutoSeq1.wpAny_loadPart' NM,wpAny_forIn_list _ (λrest acc s'=>acc.1=av/\s'=⟨hp,g,d,tk,os⟩/\∃i,rest=(items.toList.zip items2.toList).drop i) _
 case turn=>
  rintro ⟨u,v⟩ rest acc s' ⟨ha,rfl,i,hz⟩;have hlt:i < (items.toList.zip items2.toList).length:=uA λq=>by rw [Qg q] at hz;exact J4 hz
  have Nb:i < items.size/\i < items2.size:=by simp at hlt;omega
  rw [dZ hlt] at hz;refine dU (s8 hz) λe1 e2=>?_;have hu:u=items[i]:=by have:=congrArg uz e1;simpa using this
  have hv:v=items2[i]:=by have:=congrArg Prod.snd e1;simpa using this
  subst hu hv;refine ag (he i Nb.1 Nb.2 _ _ ?_)
  wp_walk
  exact ⟨rfl,rfl,i+1,e2⟩
 case fin=>
  rintro ⟨acc1,acc2⟩ s' ⟨ha,rfl,i,hz⟩;simp only at ha;subst ha
  wp_walk
  refine ⟨_,rfl,?_,?_⟩
  ·simp [qk]
  ·simpa [qk,hs] using h
 case h=>exact ⟨rfl,rfl,0,rfl⟩
end
def okEq(x:V):Prop:=(∃i,x= .int i)\/∃es:List (bb×Int),(es.map (·.1)).Nodup/\x= .dict (es.map λq=>(q.1,V.int q.2))
theorem MH(h:∀x∈xs,okEq x):te k mu .NotEq (bZ (.tup xs)) (bZ (.tup xs)) aH:=⟨λ{A E Z s fr v u T} hA r hp hq q=>by
 have hu:=hA.uni;refine dK (aZ.tup_inv hp) λa o vs n dO z1 z2 z3 z4=>?_;subst dO;refine dK (aZ.tup_inv hq) λa' o' rt n' eT y1 y2 y3 y4=>?_;subst eT;refine MG ⟨o,r.zin _ _ z1,z2,n,z3⟩ ⟨o',r.zin _ _ y1,y2,n',y3⟩ ((b9 z4).symm.trans (b9 y4)) (by lia) (λj h1 h2 E Q hQ=>?_) (q .rfl (.bool _) r);refine aK (z4.get' (bV.trans (dY h1))) λx hx hr1=>?_;have hr2:=nC y4 hx (dY h2);rcases h x (ao hx) with ⟨i,rfl⟩|⟨es,hnd,rfl⟩
 ·refine cJ (gF hr1) λt1 e1=>cJ (gF hr2) λt2 e2=>?_;have he:=SeqAt.EqAt.int_int (A:=A.in1) (s:=s) i t1 i t2;rw [beq_self_eq_true] at he;refine aj (e1 ..) ?_;refine aj (e2 ..) ?_;exact he G.prog G.w E Q hQ
 ·exact EC r (by have:A.in1.units=A.units+1:=rfl;lia) hnd hr1 hr2 hQ⟩
noncomputable def ja(arms:List (Nat×Nat))(b:Nat):List ((Nat×Nat)×Nat):=arms.zipIdx.filter λq=>q.1.2 == b
theorem qe(arms:List (Nat×Nat))(q:Nat×Nat)(b:Nat):ja (arms++[q]) b=ja arms b++(if q.2=b then [(q,arms.length)] else []):=by unfold ja;refine aj (List.zipIdx_append ..) ?_;refine aj (fX ..) ?_;congr 1;simp only [oy,List.zipIdx_nil,eC,hZ,qg];by_cases h:q.2=b <;> simp [h]
theorem jH(arms:List (Nat×Nat))(b:Nat):(ja arms b).map (·.1.1)=gS arms b:=by
 induction arms using jG with
 |h0=>rfl
 |h1 l q ih=>
  refine aj (qe ..) ?_;refine aj (qW ..) ?_;refine aj (bj ..) ?_;refine aj (ih ..) ?_
  split <;> rfl
theorem ED(arms:List (Nat×Nat))(b:Nat):(ja arms b).length<=arms.length:=by unfold ja;exact aw (bu _ _) (by simp)
theorem Pr(arms:List (Nat×Nat))(b:Nat):∀q∈ja arms b,q.2 < arms.length:=λq hq=>by
 have:=List.mem_zipIdx (bo.mp hq).1;omega
theorem bk_b(arms:List (Nat×Nat))(b:Nat):(fG B0 0 arms).b b=((ja arms b).length:Nat):=by
 induction arms using jG with
 |h0=>rfl
 |h1 l q ih=>
  refine aj (kF ..) ?_;refine aj (qe ..) ?_;refine aj (ba ..) ?_;show (if b=q.2 then 1+(fG B0 0 l).b b else (fG B0 0 l).b b)=_;refine aj (ih ..) ?_;by_cases h:b=q.2
  ·(refine aj (if_pos h ..) ?_;refine aj (if_pos h.symm ..) ?_);simp;lia
  ·(refine aj (if_neg h ..) ?_;refine aj (if_neg (gf h) ..) ?_);simp
theorem bk_c(arms:List (Nat×Nat))(b:Nat):(fG B0 0 arms).c b=((ja arms b).map λq=>((q.2:Nat):Int)).sum:=by
 induction arms using jG with
 |h0=>rfl
 |h1 l q ih=>
  refine aj (kF ..) ?_;refine aj (qe ..) ?_;refine aj (bj ..) ?_;refine aj (vx ..) ?_;show (if b=q.2 then ((0+l.length:Nat):Int)+(fG B0 0 l).c b else (fG B0 0 l).c b)=_;refine aj (ih ..) ?_;by_cases h:b=q.2
  ·(refine aj (if_pos h ..) ?_;refine aj (if_pos h.symm ..) ?_);simp;lia
  ·(refine aj (if_neg h ..) ?_;refine aj (if_neg (gf h) ..) ?_);simp
theorem bk_d(arms:List (Nat×Nat))(b:Nat):(fG B0 0 arms).d b=((ja arms b).map λq=>((q.2:Nat):Int)*q.2).sum:=by
 induction arms using jG with
 |h0=>rfl
 |h1 l q ih=>
  refine aj (kF ..) ?_;refine aj (qe ..) ?_;refine aj (bj ..) ?_;refine aj (vx ..) ?_;show (if b=q.2 then ((0+l.length:Nat):Int)*((0+l.length:Nat):Int)+(fG B0 0 l).d b else (fG B0 0 l).d b)=_;refine aj (ih ..) ?_;refine aj (eC ..) ?_;by_cases h:b=q.2
  ·(refine aj (if_pos h ..) ?_;refine aj (if_pos h.symm ..) ?_);simp;lia
  ·(refine aj (if_neg h ..) ?_;refine aj (if_neg (gf h) ..) ?_);simp
theorem bk_a(arms:List (Nat×Nat))(b:Nat):(fG B0 0 arms).a b=((ja arms b).length:Nat) - ((gS arms b).count b:Nat):=by
 induction arms using jG with
 |h0=>rfl
 |h1 l q ih=>
  refine aj (kF ..) ?_;refine aj (qe ..) ?_;refine aj (qW ..) ?_;refine aj (ba ..) ?_;refine aj (sX ..) ?_;show (if b=q.2 then (if q.1=q.2 then (0:Int) else 1)+(fG B0 0 l).a b else (fG B0 0 l).a b)=_;refine aj (ih ..) ?_;by_cases h:b=q.2
  ·(refine aj (if_pos h ..) ?_;refine aj (if_pos h.symm ..) ?_;refine aj (if_pos h.symm ..) ?_)
   by_cases e:q.1=q.2
   ·(refine aj (if_pos e ..) ?_;refine aj (h ..) ?_;refine aj (e ..) ?_);simp;lia
   ·refine aj (if_neg e ..) ?_;have:Ap b [q.1]=0:=by refine gj (mD ..) ?_;intro hm;rw [aA] at hm;exact e (by refine fZ (hm ..) ?_;exact h)
    refine aj (this ..) ?_;simp;lia
  ·(refine aj (if_neg h ..) ?_;refine aj (if_neg (gf h) ..) ?_;refine aj (if_neg (gf h) ..) ?_);simp
noncomputable def fE(l:List Nat):List Nat:=l.foldl (λacc c=>if c∈acc then acc else acc++[c]) []
theorem nY(l:List Nat)(a:Nat):fE (l++[a])=if a∈fE l then fE l else fE l++[a]:=by unfold fE;refine aj (fu ..) ?_;rfl
set_option tactic.hygienic true in
theorem nx(l:List Nat)(c:Nat):c∈fE l↔c∈l:=by
 induction l using jG with
 |h0=>simp [fE]
 |h1 l a ih=>
  refine aj (nY ..) ?_;refine gj (bc ..) ?_;refine gj (aA ..) ?_
  split
  ·rename_i h;refine gj (ih ..) (⟨.inl,λq=>q.elim id λe=>?_⟩);subst e;exact ih.mp h
  ·(refine gj (bc ..) ?_;refine gj (ih ..) ?_;refine gj (aA ..) ?_;rfl)
set_option tactic.hygienic true in
theorem xa(l:List Nat):(fE l).Nodup:=by
 induction l using jG with
 |h0=>exact kQ
 |h1 l a ih=>
  refine aj (nY ..) ?_
  split
  ·exact ih
  ·rename_i h;exact gj (bP ..) (⟨ih,by simp,λx hx y hy e=>by rw [aA] at hy;subst hy;subst e;exact h hx⟩)
theorem sk(l:List Nat):cR l=(fE l).map λc=>(c,((l.count c:Nat):Int)):=by
 induction l using jG with
 |h0=>rfl
 |h1 l a ih=>
  have e1:cR (l++[a])=k7 (cR l) a:=by unfold cR;refine aj (fu ..) ?_;rfl
  refine aj (e1 ..) ?_;refine aj (ih ..) ?_;refine aj (nY ..) ?_;unfold k7;have GK:((fE l).map λc=>(c,((l.count c:Nat):Int))).any (λp=>p.1=a)=decide (a∈fE l):=by
   refine gj (cj ..) ?_;refine gj (cS ..) ?_;refine aj (decide_eq_true_eq ..) ?_;constructor
   ·intro gi;refine aK gi λq hq h=>?_;clear gi;refine aK (aG.mp hq) λc hc iC=>?_;subst iC;have:c=a:=by simpa using h
    exact this▸hc
   ·intro h;exact ⟨_,aG.mpr ⟨a,h,rfl⟩,by simp⟩
  refine aj (GK ..) ?_;by_cases h:a∈fE l
  ·(refine aj (decide_eq_true h ..) ?_;refine aj (if_pos rfl ..) ?_;refine aj (if_pos h ..) ?_;refine aj (a0 ..) ?_)
   refine b5 λc hc=>?_;simp only [l7];by_cases e:c=a
   ·subst e;simp
   ·(refine aj (if_neg e ..) ?_;refine aj (sX ..) ?_;refine aj (show Ap c [a]=0 from mD.mpr (by simp [e])) ?_);simp
  ·(refine aj (decide_eq_false h ..) ?_;refine aj (if_neg (by decide) ..) ?_;refine aj (if_neg h ..) ?_;refine aj (bj ..) ?_)
   have h0:a∉l:=λq=>h ((nx l a).mpr q);congr 1
   ·refine b5 λc hc=>?_;have e:c≠a:=λe=>h (e▸hc);(refine aj (sX ..) ?_;refine aj (show Ap c [a]=0 from mD.mpr (by simp [e])) ?_);simp
   ·(refine aj (List.map_singleton ..) ?_;refine aj (sX ..) ?_;refine aj (mD.mpr h0 ..) ?_);simp
theorem MI{nm:Nat->bb}{g:Nat->V}:∀l:List Nat,(∀a∈l,∀b∈l,nm a=nm b->a=b)->rG (l.map λc=>(nm c,g c))=(fE l).map λc=>(nm c,g c):=by
 intro l;induction l using jG with
 |h0=>intro z;rfl
 |h1 l a ih=>
  intro Tp;have hi:∀x∈l,∀y∈l,nm x=nm y->x=y:=λx hx y hy=>Tp x (aE _ hx) y (aE _ hy);refine aj (bj ..) ?_;refine aj (List.map_singleton ..) ?_;refine aj (xY ..) ?_;refine aj (ih hi ..) ?_;refine aj (nY ..) ?_;have GK:((fE l).map λc=>(nm c,g c)).any (λkv=>kv.1=nm a)=decide (a∈fE l):=by
   refine gj (cj ..) ?_;refine gj (cS ..) ?_;refine aj (decide_eq_true_eq ..) ?_;constructor
   ·intro kG;refine aK kG λq hq h=>?_;clear kG;refine aK (aG.mp hq) λc hc ma=>?_;subst ma;have zr:=(nx l c).mp hc;have:c=a:=Tp c (aE _ zr) a (by exact bL _ aa) (by simpa using h);exact this▸hc
   ·intro h;exact ⟨_,aG.mpr ⟨a,h,rfl⟩,by simp⟩
  unfold jE;refine aj (GK ..) ?_;by_cases h:a∈fE l
  ·(refine aj (decide_eq_true h ..) ?_;refine aj (if_pos rfl ..) ?_;refine aj (if_pos h ..) ?_;refine aj (a0 ..) ?_)
   refine b5 λc hc=>?_;simp only [l7];have zr:=(nx l c).mp hc;by_cases e:nm c=nm a
   ·have:c=a:=Tp c (aE _ zr) a (by exact bL _ aa) e;subst this;simp
   ·(refine aj (if_neg e ..) ?_;rfl)
  ·(refine aj (decide_eq_false h ..) ?_;refine aj (if_neg (by decide) ..) ?_;refine aj (if_neg h ..) ?_;refine aj (bj ..) ?_);rfl
theorem EE:∀i,i < 33->cnt 44 (cB i).cps.toList=0:=by decide+kernel
theorem Cw(c:Nat):∀l m:List Nat,cnt c (l++m)=cnt c l+cnt c m
 |[],m=>by simp [cnt_nil]
 |a::l,m=>by (refine aj (fU ..) ?_;refine aj (cnt_cons ..) ?_;refine aj (cnt_cons ..) ?_;refine aj (Cw c l m ..) ?_);lia
theorem EF:∀ts:List (List Nat),(∀t∈ts,cnt 44 t=0)->ts≠[]->cnt 44 (glue ts)=(ts.length:Int) - 1
 |[],_,h=>absurd rfl h
 |[t],h,_=>by (rewrite [glue];refine aj (h t aa ..) ?_);simp
 |t::u::r,h,_=>by
  (rewrite [glue];refine aj (Cw ..) ?_;refine aj (Cw ..) ?_;refine aj (h t aa ..) ?_;refine aj (EF (u::r) (λx hx=>h x (ab _ hx)) (by simp) ..) ?_;refine aj (cnt_cons ..) ?_;refine aj (cnt_cons ..) ?_;refine aj (cnt_nil ..) ?_;refine aj (if_pos rfl ..) ?_;refine aj (if_neg (show ¬(32:Nat)=44 by decide) ..) ?_)
  simp only [bK];lia
theorem vb{low S:Nat}(hl:low < 28)(hS:S < 64/\S≠0):Np (iy low S) ","=((eY S).length - 1:Nat):=by
 have iP:=B6 hS.1 hS.2;show Np (iy low S) ⟨#[44]⟩=_;rw [count_cnt];unfold iy;cases hb:eY S with
 |nil=>exact absurd hb iP
 |cons a l=>
  rw [bA,yi,EF _ (λt ht=>?_) (by simp)]
  ·simp
  ·rw [<- bA (f:=λb=>cB (low+b)),<- hb,a0] at ht;refine aK (aG.mp ht) λb hbm mE=>?_;subst mE;exact EE _ (by have:=vU hbm;lia)
variable {b:Nat}
noncomputable def HO:d6->List d6| .For _ _ b _ _=>b|_=>[]
noncomputable def y9(n:Nat):List d6:=(HO ((fR (cM 23)).getD 23 (.Pass ⟨0,0,0,0⟩))).drop n
noncomputable abbrev QK(q:(Nat×Nat)×Nat):V:= .tup [nV q.2,nV q.1.1]
noncomputable abbrev zD(ds:List Nat)(b:Nat):List ((Nat×Nat)×Nat):=ja (cW ds) b
noncomputable abbrev cls(ds:List Nat)(b:Nat):List Nat:=gS (cW ds) b
noncomputable abbrev S23(ds:List Nat)(n6:Nat)(lx:ay)(S:Nat->Nat)(Hm Nt cx:ay)(b:Nat):List (Nat×V):=(9,nV b)::Jg ds n6 lx S Hm Nt cx
noncomputable abbrev Pu(ds:List Nat)(n6:Nat)(lx:ay)(S:Nat->Nat)(Hm Nt cx:ay)(b:Nat)(W:List (List Nat)):List (Nat×V):=(36,.list (W.map wV))::(35,FV (aF ds) (cR (cls ds b)))::(27,.list ((zD ds b).map QK))::S23 ds n6 lx S Hm Nt cx b
theorem Pv:(cls ds b).length<=20:=by refine aj (show cls ds b=(ja (cW ds) b).map (·.1.1) from (jH _ _).symm) ?_;refine aj (ak ..) ?_;exact aw (ED _ _) (lT 2)
theorem qY:(zD ds b).length<=20:=aw (ED _ _) (lT 2)
theorem EG(l:List Nat)(c:Nat):(l.map fB).countP (· == (c:Int))=l.count c:=by refine aj (List.countP_map ..) ?_;delta Ap;congr 1;funext x;refine gj (cj ..) ?_;simp only [l7,beq_iff_eq];exact Nz
def za.S0(k:Nat)(mu:Mu)(vs:el)(Θ:AF->Mu->Prop)(L Hm Nt:ay)(ds:List Nat)(b:Nat)(pm doc:ai)(_:Nat):Prop:=∀{cx lx:ay} {n6:Nat} {S:Nat->Nat} (H:Hy G) (he:du (bT pm doc L)) (hb:b < 6) (hS:Sv vs (S23 ds n6 lx S Hm Nt cx b)) (next:∀vs W,Sv vs (Pu ds n6 lx S Hm Nt cx b W)->W.length<=2000->(∀w,w∈W↔wc (dh ds) b [0] w)->WS (k+8) (cw L vs::mu) (bT pm doc L) (y9 3) Θ),WS (k+8) (cw L vs::mu) (bT pm doc L) (y9 0) Θ
namespace za
@[irreducible] def e0:=HY eN gD gD ta cL cL cL gD eN gL gL eN S0
def k_:=e0.1
def e9:=e0.2.1
def kR:=e0.2.2.1
def Θ_:=e0.2.2.2.1
def L_:=e0.2.2.2.2.1
def xN:=e0.2.2.2.2.2.1
def xj:=e0.2.2.2.2.2.2.1
def aV:=e0.2.2.2.2.2.2.2.1
def b_:=e0.2.2.2.2.2.2.2.2.1
def pj:=e0.2.2.2.2.2.2.2.2.2.1
def g8:=e0.2.2.2.2.2.2.2.2.2.2.1
theorem T0:S0 k_ e9 kR Θ_ L_ xN xj aV b_ pj g8 e0.2.2.2.2.2.2.2.2.2.2.2:=by
 intro cx lx n6 S H he hb hS next
 have d8:=eI aV;have hf:∀{kR} {l:Mu},bq L_ (aM (L_+1) (bk (cM 23)).names) kR∈cw L_ kR::l:=aa;have Nd:=lT (ds:=aV) 2;refine aC (bX (y:= .list ((zD aV b_).map QK)) (bM (nF (cW aV).zipIdx (λq=>V.tup [.int (q.2:Nat),kH q.1]) (λq=>((q.1.2:Int) == (b_:Int))) QK ⟨rfl,rfl,by decide+kernel,by decide+kernel⟩ (sD (iN H he H.b_enumerate rfl) (ah (j:=10) he (.cell (L_+9) "arms") hf (hS.get rfl))) (by lia) (by refine aj (eW ..) ?_;exact aw Nd (by decide)) (λC1 q hq=>SH 1 2 3 he.comp .loc .loc .loc (fS (c9 (ah (j:=3) he.comp .loc aa rfl) (ah (j:=9) he.comp (.cell (L_+8) "block") (ab _ hf) (hS.get rfl)) qv)) (λz=>f9 (xs:=[nV q.2,nV q.1.1]) (au (ah (j:=1) he.comp .loc aa rfl) (au (ah (j:=2) he.comp .loc aa rfl) aT)) (by show 2<=2 ^ 20;decide)))) ?c1) (aQ (i:=0) (j:=27) he (.cell (L_+13) "told") rfl ?_) rfl rfl)
 case c1=>refine congrArg V.list ?_;congr 1;delta zD ja;refine fz λq z=>?_;refine gj (cj ..) ?_;simp only [beq_iff_eq];exact Nz
 have hS1:=hS.set (j:=27) (y:= .list ((zD aV b_).map QK));have ug:∀q∈zD aV b_,q.1.1 < 6:=λq hq=>by
  have:q.1.1∈cls aV b_:=by refine aj (show cls aV b_=(ja (cW aV) b_).map (·.1.1) from (jH _ _).symm) ?_;exact aG.mpr ⟨q,hq,rfl⟩
  exact kr this
 refine aC (WX_dc H.B (zD aV b_) QK (λz=>aI) (λq=>(cB (aF aV+q.1.1),V.int ((cls aV b_).count q.1.1:Nat))) ⟨rfl,rfl,by decide+kernel,by decide+kernel⟩ (dA (ah (j:=27) he (.cell (L_+13) "told") hf (hS1.get rfl))) (by lia) (aw qY (by decide)) (λC1 q hq=>KH 1 2 he.comp .loc .loc dk (λz=>(bF (dE (ah (j:=7) he.comp (.cell (L_+6) "names") (ab _ hf) (hS1.get rfl))) (ah (j:=2) he.comp .loc aa rfl) (ew (j:=q.1.1) (inj:=λb_=>V.str (cB (aF aV+b_))) (bz (ug q hq)) (by decide)))) (λz=>bM (f7 (dE (bM (jO (zD aV b_) QK (λq=>nV q.1.1) ⟨rfl,rfl,by decide+kernel,by decide+kernel⟩ (dA (ah (j:=27) he.comp (.cell (L_+13) "told") (ab _ hf) (hS1.get rfl))) (by lia) (aw qY (by decide)) (λC2 r hr=>tJ 1 2 he.comp.comp .loc .loc dk (λz=>(ah (j:=2) he.comp.comp .loc aa rfl)))) (y:= .list (((cls aV b_).map fB).map .int)) ?c1)) G8 (au (ah (j:=2) he.comp .loc aa rfl) aT) Ds uC PySem.F.slot_list_count PySem.F.type_list_count rfl) ?c2)) rfl (λD=>?_))
 case c1=>refine congrArg V.list ?_;refine aj (show cls aV b_=(ja (cW aV) b_).map (·.1.1) from (jH _ _).symm) ?_;refine aj (a0 ..) ?_;refine aj (a0 ..) ?_;rfl
 case c2=>(refine aj (EG ..) ?_;rfl)
 rw [kz,show ((zD aV b_).map λq=>(cB (aF aV+q.1.1),V.int ((cls aV b_).count q.1.1:Nat)))=(cls aV b_).map (λc=>(cB (aF aV+c),V.int ((cls aV b_).count c:Nat))) by
  conv=>rhs;rw [show cls aV b_=(ja (cW aV) b_).map (·.1.1) from (jH _ _).symm,a0]
  rw [jH];rfl,MI (nm:=λc=>cB (aF aV+c)) (g:=λc=>V.int ((cls aV b_).count c:Nat)) (cls aV b_) (λx hx y hy e=>(wZ d8 (kr hx) (kr hy)).mp e),show ((fE (cls aV b_)).map λc=>(cB (aF aV+c),V.int ((cls aV b_).count c:Nat)))=(cR (cls aV b_)).map (λq=>(cB (aF aV+q.1),V.int q.2)) by rw [sk,a0];rfl]
 refine fM.dict (aQ (i:=0) (j:=35) he .loc rfl ?_);have hS2:=hS1.set (j:=35) (y:=FV (aF aV) (cR (cls aV b_)));refine cq (H.f290.go) λob z z z h0 hd z=>aC (b4 (ml (mn H he H.m_back rfl) h0 hd (cA (cf (ah (j:=32) he .loc hf (hS2.get rfl)) (cA (cf (ah (j:=9) he (.cell (L_+8) "block") hf (hS2.get rfl)) (cA (cf (ij (xs:=[.int 0]) (au aU aT) (by show 1<=2 ^ 20;decide)) (e8 (FW.mono (Sd (k:=k_+6) (hs:=dh aV) (block:=b_) (marks:=[0]) H si hb (by decide)) λy nu ⟨e1,W,e2,hl,hw⟩=>?_))))))))) rfl rfl);subst e1 e2;exact aQ (i:=0) (j:=36) he (.cell (L_+14) "ways") rfl (next _ W (hS2.set (j:=36) (y:= .list (W.map wV))) hl hw)
end za
theorem za{pm doc:ai}:za.S0 k mu vs Θ L Hm Nt ds b pm doc 0:=by with_unfolding_all exact C6 _ _ _ _ _ _ _ _ _ _ _ _ za.S0 @za.T0 k mu vs Θ L Hm Nt ds b pm doc 0
theorem GA{low:Nat}(hl:low < 28)(l:List Nat)(h6:∀c∈l,c < 6)(hb:b < 6):(mf ((cR l).map λq=>(cB (low+q.1),V.int q.2)) (cB (low+b))).getD (.int 0)= .int (l.count b:Nat):=by
 refine aj (sk ..) ?_;refine aj (a0 ..) ?_;by_cases h:b∈l
 ·have:=gb (low:=low) (l:=fE l) (f:=λc=>V.int (l.count c:Nat)) hl (λc hc=>h6 c ((nx l c).mp hc)) ((nx l b).mpr h);unfold bD at this;refine aj (show ((fE l).map ((λq:Nat×Int=>(cB (low+q.1),V.int q.2))∘λc=>(c,((l.count c:Nat):Int))))=(fE l).map λb=>(cB (low+b),V.int (l.count b:Nat)) from rfl) ?_;refine aj (this ..) ?_;rfl
 ·have hc:l.count b=0:=mD.mpr h;refine aj (hc ..) ?_;have:mf ((fE l).map ((λq:Nat×Int=>(cB (low+q.1),V.int q.2))∘λc=>(c,((l.count c:Nat):Int)))) (cB (low+b))=av:=by
   delta mf;refine gj (Qd ..) ?_;refine gj (Al ..) ?_;intro q hq;refine aK (aG.mp hq) λc hc dO=>?_;subst dO;intro e;have zr:=(nx l c).mp hc;have:c=b:=(wZ hl (h6 c zr) hb).mp (by simpa using e);exact h (this▸zr)
  refine aj (this ..) ?_;rfl
theorem SI(b:Nat):rr (aF ds) (lU ds) b= .tup [.int (((zD ds b).length:Nat) - ((cls ds b).count b:Nat)),.int ((zD ds b).length:Nat),.int ((zD ds b).map λq=>((q.2:Nat):Int)).sum,.int ((zD ds b).map λq=>((q.2:Nat):Int)*q.2).sum,FV (aF ds) (cR (cls ds b))]:=by show V.tup [.int ((fG B0 0 (cW ds)).a b),.int ((fG B0 0 (cW ds)).b b),.int ((fG B0 0 (cW ds)).c b),.int ((fG B0 0 (cW ds)).d b),FV (aF ds) ((fG B0 0 (cW ds)).cs b)]=_;refine aj (bk_a ..) ?_;refine aj (bk_b ..) ?_;refine aj (bk_c ..) ?_;refine aj (bk_d ..) ?_;refine aj (Bh ..) ?_;rfl
theorem MJ:∀i,i < 33->pH (cB i)=aI:=by decide+kernel
theorem Bl:∀{l:List bb},(∀x∈l,pH x=aI)->ph (l.map .str)=ae (l.map .str)/\zK (l.map PyData.str)=0
 |[],_=>⟨rfl,rfl⟩
 |x::l,h=>by
  refine dU (Bl λy hy=>h y (ab _ hy)) λh1 h2=>⟨?_,?_⟩
  ·show (if pH x then ae (PyData.str x) else av).bind (λd=>(ph (l.map .str)).map (d::·))=_;rw [h1,if_pos (h x aa)];rfl
  ·simp [zK,PyData.depth] at h2 ⊢;exact h2
theorem Jh{l:List bb}(h:∀x∈l,pH x=aI):te k mu .NotEq (bZ (.list (l.map .str))) (bZ (.list (l.map .str))) aH:=by exact dU (Bl h) λh1 h2=>Bc (d:= .list (l.map .str)) (congrArg (Option.map PyData.list) h1) (by simp [PyData.depth,h2])
theorem Ji(l:List Nat):(fE l).length<=l.length:=by
 induction l using jG with
 |h0=>exact bp _
 |h1 l a ih=>
  refine aj (nY ..) ?_;refine aj (ba ..) ?_
  split
  ·exact aw ih (dD _ _)
  ·refine aj (ba ..) ?_;simpa using ih
theorem EI:∀q∈cR (cls ds b),q.1 < 6:=λq hq=>kr ((qc _ _).mp (aG.mpr ⟨q,hq,rfl⟩))
theorem MK:((cR (cls ds b)).map (·.1)).Nodup:=by refine aj (sk ..) ?_;refine aj (a0 ..) ?_;exact aj (show ((fE (cls ds b)).map ((λx:Nat×Int=>x.1)∘λc=>(c,(((cls ds b).count c:Nat):Int))))=fE (cls ds b) from xA _) (xa _)
def zb.S0(k:Nat)(mu:Mu)(vs:el)(L:ay)(ds:List Nat)(b:Nat)(pm doc:ai):Prop:=∀{Θ:AF->Mu->Prop} {Hm Nt cx lx:ay} {n6:Nat} {S:Nat->Nat} {W:List (List Nat)} (H:Hy G) (he:du (bT pm doc L)) (hb:b < 6) (zF:b∈[1,2,3,4,5]) (hS:Sv vs (Pu ds n6 lx S Hm Nt cx b W)) (next:WS (k+8) (cw L vs::mu) (bT pm doc L) (y9 4) Θ),WS (k+8) (cw L vs::mu) (bT pm doc L) (y9 3) Θ
namespace zb
@[irreducible] def e0:=NB eN gD gD cL gD eN gL gL S0
def k_:=e0.1
def e9:=e0.2.1
def kR:=e0.2.2.1
def L_:=e0.2.2.2.1
def aV:=e0.2.2.2.2.1
def b_:=e0.2.2.2.2.2.1
def pj:=e0.2.2.2.2.2.2.1
def g8:=e0.2.2.2.2.2.2.2
theorem T0:S0 k_ e9 kR L_ aV b_ pj g8:=by
 intro Θ Hm Nt cx lx n6 S W H he hb zF hS next
 have d8:=eI aV;have hf:∀{kR} {l:Mu},bq L_ (aM (L_+1) (bk (cM 23)).names) kR∈cw L_ kR::l:=aa;have Nd:(cW aV).length<=20:=lT (ds:=aV) 2;have hnd:=Eu d8 (c:=cR (cls aV b_)) EI MK;refine aC (iY (b:=aH || (aH || false)) (oM (iM ?t1 λz=>iM ?t2 λz=>jn)) (λh=>by exact vL h) λz=>bC next)
 case t1=>
  refine c9 (bM (bF (pN (ah (j:=41) he (.cell (L_+15) "book") hf (hS.get rfl))) (bF (dE (ah (j:=7) he (.cell (L_+6) "names") hf (hS.get rfl))) (ah (j:=9) he (.cell (L_+8) "block") hf (hS.get rfl)) (ew (j:=b_) (inj:=λb_=>V.str (cB (aF aV+b_))) (bz hb) (by decide))) (mh (gb d8 (by decide) zF))) (SI b_)) (f9 (xs:=[.int (((zD aV b_).length:Nat) - ((cls aV b_).count b_:Nat)),.int ((zD aV b_).length:Nat),.int ((zD aV b_).map λq=>((q.2:Nat):Int)).sum,.int ((zD aV b_).map λq=>((q.2:Nat):Int)*q.2).sum,FV (aF aV) (cR (cls aV b_))]) (au (br (bM (ej (j4 H he H.b_len rfl) (au (dE (ah (j:=27) he (.cell (L_+13) "told") hf (hS.get rfl))) aT) (mi (by refine aj (ak ..) ?_;exact aw qY (by decide)))) (congrArg (λn:Nat=>V.int n) (ak _))) (bM (f7 (ah (j:=35) he .loc hf (hS.get rfl)) rO (au (bF (dE (ah (j:=7) he (.cell (L_+6) "names") hf (hS.get rfl))) (ah (j:=9) he (.cell (L_+8) "block") hf (hS.get rfl)) (ew (j:=b_) (inj:=λb_=>V.str (cB (aF aV+b_))) (bz hb) (by decide))) (au aU aT)) Pq N1 Q7 PySem.F.type_dict_get rfl) (GA d8 (cls aV b_) (λc hc=>kr hc) hb)) vM) (au (bM (ej (j4 H he H.b_len rfl) (au (dE (ah (j:=27) he (.cell (L_+13) "told") hf (hS.get rfl))) aT) (mi (by refine aj (ak ..) ?_;exact aw qY (by decide)))) (congrArg (λn:Nat=>V.int n) (ak _))) (au (ej (j4 H he H.b_sum rfl) (au (dE (jO (zD aV b_) QK (λq=>nV q.2) ⟨rfl,rfl,by decide+kernel,by decide+kernel⟩ (dA (ah (j:=27) he (.cell (L_+13) "told") hf (hS.get rfl))) (by lia) (aw qY (by decide)) (λC2 r hr=>tJ 1 2 he.comp .loc .loc dk (λz=>(ah (j:=1) he.comp .loc aa rfl))))) aT) (uO (f:=λq:(Nat×Nat)×Nat=>((q.2:Nat):Int)))) (au (ej (j4 H he H.b_sum rfl) (au (dE (jO (zD aV b_) QK (λq=>V.int (((q.2:Nat):Int)*q.2)) ⟨rfl,rfl,by decide+kernel,by decide+kernel⟩ (dA (ah (j:=27) he (.cell (L_+13) "told") hf (hS.get rfl))) (by lia) (aw qY (by decide)) (λC2 r hr=>tJ 1 2 he.comp .loc .loc dk (λz=>br (ah (j:=1) he.comp .loc aa rfl) (ah (j:=1) he.comp .loc aa rfl) (mY (by have:=Pr _ _ r hr;lia)))))) aT) (uO (f:=λq:(Nat×Nat)×Nat=>((q.2:Nat):Int)*q.2))) (au (ah (j:=35) he .loc hf (hS.get rfl)) aT))))) (by show 5<=2 ^ 20;decide)) ?cmp
  case cmp=>
   refine MH λx hx=>?_;simp only [aP,eZ,or_false] at hx;rcases hx with rfl|rfl|rfl|rfl|rfl
   ·exact .inl ⟨_,rfl⟩
   ·exact .inl ⟨_,rfl⟩
   ·exact .inl ⟨_,rfl⟩
   ·exact .inl ⟨_,rfl⟩
   ·refine .inr ⟨Ep (aF aV) (cR (cls aV b_)),hnd,?_⟩;delta FV Ep;refine aj (a0 ..) ?_;rfl
 case t2=>
  have QV:(cR (cls aV b_)).length<=1000:=by (refine aj (sk ..) ?_;refine aj (ak ..) ?_);exact aw (Ji _) (aw Pv (by decide))
  refine c9 (iZ (iN H he H.b_list rfl) (au (bM (bF (bF (pN (ah (j:=41) he (.cell (L_+15) "book") hf (hS.get rfl))) (bF (dE (ah (j:=7) he (.cell (L_+6) "names") hf (hS.get rfl))) (ah (j:=9) he (.cell (L_+8) "block") hf (hS.get rfl)) (ew (j:=b_) (inj:=λb_=>V.str (cB (aF aV+b_))) (bz hb) (by decide))) (mh (gb d8 (by decide) zF))) aU tL) (congrArg (FV (aF aV)) (Bh (cW aV) b_))) aT) (Bi ?len)) (iZ (iN H he H.b_list rfl) (au (ah (j:=35) he .loc hf (hS.get rfl)) aT) (Bi ?zS)) ?cmp2
  case len=>refine aj (ak ..) ?_;exact QV
  case zS=>refine aj (ak ..) ?_;exact QV
  case cmp2=>
   refine aj (a0 ..) ?_;have:=Jh (k:=k_+8) (mu:=cw L_ kR::e9) (l:=(cR (cls aV b_)).map λq=>cB (aF aV+q.1)) (λx hx=>by
    refine aK (aG.mp hx) λq hq eT=>?_;subst eT;exact MJ _ (by have:=EI q hq;lia))
   rw [a0] at this;exact this
end zb
theorem zb{pm doc:ai}:zb.S0 k mu vs L ds b pm doc:=by with_unfolding_all exact BB _ _ _ _ _ _ _ _ zb.S0 @zb.T0 k mu vs L ds b pm doc
theorem GB(c:Cs)(a:Nat):((k7 c a).map (·.2)).sum=(c.map (·.2)).sum+1\/¬(c.map (·.1)).Nodup:=by
 by_cases hnd:(c.map (·.1)).Nodup
 ·left
  unfold k7;by_cases h:c.any (λp=>p.1=a)
  ·refine aj (if_pos h ..) ?_;induction c with
   |nil=>simp at h
   |cons q c ih=>
    rw [bA,cg] at hnd;simp only [bA,da];by_cases e:q.1=a
    ·have Bv:∀p∈c,p.1≠a:=λp hp e2=>hnd.1 (by (refine aj (e ..) ?_;refine fZ (e2 ..) ?_);exact aG.mpr ⟨p,hp,rfl⟩);have:(c.map λp=>if p.1=a then (p.1,p.2+1) else p)=c:=by
      conv=>rhs;rw [<- xA c]
      exact b5 λp hp=>by simp [Bv p hp]
     rw [this];simp [e];lia
    ·have h':c.any (λp=>p.1=a)=aI:=by simpa [e] using h
     have:=ih hnd.2 h';rw [this];simp [e];lia
  ·rw [if_neg h];simp
 ·exact .inr hnd
theorem Bm(l:List Nat):((cR l).map (·.2)).sum=(l.length:Nat):=by
 have key:∀l:List Nat,((cR l).map (·.1)).Nodup:=λl=>by
  refine aj (sk ..) ?_;refine aj (a0 ..) ?_;exact aj (show ((fE l).map ((λx:Nat×Int=>x.1)∘λc=>(c,((l.count c:Nat):Int))))=fE l from xA _) (xa _)
 induction l using jG with
 |h0=>rfl
 |h1 l a ih=>
  have e1:cR (l++[a])=k7 (cR l) a:=by unfold cR;refine aj (fu ..) ?_;rfl
  refine aj (e1 ..) ?_;rcases GB (cR l) a with h|h
  ·(refine aj (h ..) ?_;refine aj (ih ..) ?_);simp
  ·exact absurd (key l) h
theorem Pw{hs W:List (List Nat)}(zF:b∈[1,2,3,4,5])(hT:sj hs S)(hW:∀w,w∈W↔wc hs b [0] w):(aN 6).filter (λo:Nat=>((o:Int) == (b:Int)) || (((W.filter λw=>!decide (o∈w)).map λz=>V.int 1).isEmpty || false))=eY (S b):=by
 unfold eY;refine fz λo ho=>?_;have ho6:=aY.mp ho;refine gj (cj ..) ?_;refine gj (hT.fin b zF o ho6 ..) ?_;have zp:b≠0:=by rintro rfl;revert zF;decide
 simp only [jU,beq_iff_eq,zH,uu,jc,gY];constructor
 ·rintro (h|h)
  ·exact .inl (Nz.mp h)
  ·exact .inr ⟨zp,λw hw=>by simpa using h w ((hW w).mpr hw)⟩
 ·rintro (h|⟨_,h⟩)
  ·exact .inl (by (refine aj (h ..) ?_;rfl))
  ·exact .inr λw hw=>by simpa using h w ((hW w).mp hw)
def zd.S0(k:Nat)(mu:Mu)(vs:el)(L Hm Nt cx lx:ay)(ds:List Nat)(n6 b:Nat)(S:Nat->Nat)(pm doc:ai)(W:List (List Nat))(_:Nat):Prop:=∀{Θ:AF->Mu->Prop} (H:Hy G) (he:du (bT pm doc L)) (hb:b < 6) (zF:b∈[1,2,3,4,5]) (hS:Sv vs (Pu ds n6 lx S Hm Nt cx b W)) (hT:sj (dh ds) S) (QZ:W.length<=2000) (hW:∀w,w∈W↔wc (dh ds) b [0] w) (next:WS (k+8) (cw L vs::mu) (bT pm doc L) (y9 5) Θ),WS (k+8) (cw L vs::mu) (bT pm doc L) (y9 4) Θ
namespace zd
@[irreducible] def e0:=Fs eN gD gD cL cL cL cL cL gD eN eN inferInstance gL gL gD eN S0
def k_:=e0.1
def e9:=e0.2.1
def kR:=e0.2.2.1
def L_:=e0.2.2.2.1
def xN:=e0.2.2.2.2.1
def xj:=e0.2.2.2.2.2.1
def vY:=e0.2.2.2.2.2.2.1
def zc:=e0.2.2.2.2.2.2.2.1
def aV:=e0.2.2.2.2.2.2.2.2.1
def gO:=e0.2.2.2.2.2.2.2.2.2.1
def b_:=e0.2.2.2.2.2.2.2.2.2.2.1
def S_:=e0.2.2.2.2.2.2.2.2.2.2.2.1
def pj:=e0.2.2.2.2.2.2.2.2.2.2.2.2.1
def g8:=e0.2.2.2.2.2.2.2.2.2.2.2.2.2.1
def W_:=e0.2.2.2.2.2.2.2.2.2.2.2.2.2.2.1
theorem T0:S0 k_ e9 kR L_ xN xj vY zc aV gO b_ S_ pj g8 W_ e0.2.2.2.2.2.2.2.2.2.2.2.2.2.2.2:=by
 intro Θ H he hb zF hS hT QZ hW next
 have d8:=eI aV;have hf:∀{kR} {l:Mu},bq L_ (aM (L_+1) (bk (cM 23)).names) kR∈cw L_ kR::l:=aa;have CV:∀c∈aN 6,c < 6:=λc hc=>aY.mp hc;refine cq (H.f270.go) λob z z z h0 hd z=>?_;have hsm:((Ep (aF aV) (cR (cls aV b_))).map (·.2)).sum=((zD aV b_).length:Nat):=by refine aj (a0 ..) ?_;refine aj (show ((cR (cls aV b_)).map ((λx:bb×Int=>x.2)∘λq=>(cB (aF aV+q.1),q.2)))=(cR (cls aV b_)).map (·.2) from rfl) ?_;refine aj (Bm ..) ?_;refine aj (show cls aV b_=(ja (cW aV) b_).map (·.1.1) from (jH _ _).symm) ?_;refine aj (ak ..) ?_;rfl
 refine aC (iY (b:=(((zD aV b_).length:Nat):Int) != ((zD aV b_).length:Nat) || ((iy (aF aV) (S_ b_) != iy (aF aV) (S_ b_)) || false)) (oM (iM ?t1 λz=>iM ?t2 λz=>jn)) (λh=>by simp at h) λz=>bC next)
 case t1=>exact c9 (ju (ys:=[FV (aF aV) (cR (cls aV b_))]) (mn H he H.m_count rfl) h0 hd (au (bM (bF (bF (pN (ah (j:=41) he (.cell (L_+15) "book") hf (hS.get rfl))) (bF (dE (ah (j:=7) he (.cell (L_+6) "names") hf (hS.get rfl))) (ah (j:=9) he (.cell (L_+8) "block") hf (hS.get rfl)) (ew (j:=b_) (inj:=λb_=>V.str (cB (aF aV+b_))) (bz hb) (by decide))) (mh (gb d8 (by decide) zF))) aU tL) (congrArg (FV (aF aV)) (Bh (cW aV) b_))) aT) (by refine aj (Cj ..) ?_;exact FW.mono (Ho (k:=k_+6) H) λy nu h=>⟨h.2.trans (congrArg V.int hsm),h.1⟩)) (bM (ej (j4 H he H.b_len rfl) (au (dE (ah (j:=27) he (.cell (L_+13) "told") hf (hS.get rfl))) aT) (mi (by refine aj (ak ..) ?_;exact aw qY (by decide)))) (congrArg (λn:Nat=>V.int n) (ak _))) FB
 case t2=>
  have hjn:iy (aF aV) (S_ b_)=fP ", " (((aN 6).filter (λo:Nat=>((o:Int) == (b_:Int)) || (((W_.filter λw=>!decide (o∈w)).map λz=>V.int 1).isEmpty || false))).map λo=>cB (aF aV+o)):=by refine aj (Pw zF hT hW ..) ?_;rfl
  refine c9 (bF (pN (ah (j:=46) he (.cell (L_+20) "table") hf (hS.get rfl))) (bF (dE (ah (j:=7) he (.cell (L_+6) "names") hf (hS.get rfl))) (ah (j:=9) he (.cell (L_+8) "block") hf (hS.get rfl)) (ew (j:=b_) (inj:=λb_=>V.str (cB (aF aV+b_))) (bz hb) (by decide))) (mh (gb d8 CV (aY.mpr hb)))) (bM (f7 cO mL (au (dE (nF (aN 6) nV (λo:Nat=>((o:Int) == (b_:Int)) || (((W_.filter λw=>!decide (o∈w)).map λz=>V.int 1).isEmpty || false)) (λo=>V.str (cB (aF aV+o))) ⟨rfl,rfl,by decide+kernel,by decide+kernel⟩ (fL (n:=6) (iN H he H.b_range rfl) aU rfl (by decide)) (by lia) (by decide) (λC2 a ha=>iu 1 he.comp (.cell (C2+1) "other") (fS (oM (iM (c9 (ah (j:=1) he.comp (.cell (C2+1) "other") aa rfl) (ah (j:=9) he.comp (.cell (L_+8) "block") (ab _ hf) (hS.get rfl)) qv) (λz=>iM (c9 (nF W_ wV (λw=>!decide (a∈w)) (λz=>V.int 1) ⟨rfl,rfl,by decide+kernel,by decide+kernel⟩ (dA (ah (j:=36) he.comp (.cell (L_+14) "ways") (ab _ hf) (hS.get rfl))) (by lia) (aw QZ (by decide)) (λC3 w hw=>iu 1 he.comp.comp .loc (fS (c9 (ah (j:=1) he.comp.comp (.cell (C2+1) "other") (ab _ aa) rfl) (dE (ah (j:=1) he.comp.comp .loc aa rfl)) Hl)) (λhb=>aU))) (ij (xs:=[]) aT (bg rfl)) (FK (nk _ _))) (λz=>jn))))) (λz=>(bF (dE (ah (j:=7) he.comp (.cell (L_+6) "names") (ab _ hf) (hS.get rfl))) (ah (j:=1) he.comp (.cell (C2+1) "other") aa rfl) (ew (j:=a) (inj:=λb_=>V.str (cB (aF aV+b_))) (bz (CV a ha)) (by decide))))))) aT) (rM (f:=λo=>cB (aF aV+o)) ?hok) (by exact eM) (by exact nz) (by exact nA) rfl) (congrArg V.str hjn.symm)) tC
  case hok=>
   refine nf (B:=20) (λt ht=>?_) ?_
   ·refine aK (aG.mp ht) λo ho dO=>?_;subst dO;have h6:=CV o (bo.mp ho).1;exact B3 _ (by lia)
   ·refine aj (ak ..) ?_;have h1:=bu (λo:Nat=>((o:Int) == (b_:Int)) || (((W_.filter λw=>!decide (o∈w)).map λz=>V.int 1).isEmpty || false)) (aN 6);rw [fq] at h1;have h2:(", ":bb).length=2:=rfl;refine aj (h2 ..) ?_;lia
end zd
theorem zd{pm doc:ai}{W:List (List Nat)}:zd.S0 k mu vs L Hm Nt cx lx ds n6 b S pm doc W 0:=by with_unfolding_all exact Au _ _ _ _ _ _ _ _ _ _ _ _ _ _ _ _ zd.S0 @zd.T0 k mu vs L Hm Nt cx lx ds n6 b S pm doc W 0
noncomputable def z9(S:Nat->Nat)(o:Nat):Nat:=(eY (S o)).length - 1
noncomputable def jR(S:Nat->Nat)(b o:Nat):Nat->Int
 |0=>if (o != b && (S b).testBit o) then 1 else 0
 |1=>(z9 S o:Nat) / 2
 |_=>(z9 S o:Nat) % 2
theorem QL{S:Nat->Nat}{b o:Nat}:jR S b o 0=0\/jR S b o 0=1:=by
 show (if (o != b && (S b).testBit o) then (1:Int) else 0)=0\/(if (o != b && (S b).testBit o) then (1:Int) else 0)=1
 split
 ·exact .inr rfl
 ·exact .inl rfl
noncomputable abbrev xk(low:Nat)(S:Nat->Nat)(b o:Nat):V:= .tup [.int (jR S b o 0),.int (jR S b o 1),.int (jR S b o 2),.str (cB (low+o))]
noncomputable def ze(S:Nat->Nat)(b o:Nat):Int:=6*jR S b o 0+(z9 S o:Nat)
theorem Cy(S:Nat->Nat)(o:Nat):z9 S o < 6:=by
 delta z9;have:(eY (S o)).length<=6:=by delta eY;exact aw (bu _ _) (by decide)
 omega
def o5.S0(S:Nat->Nat)(b r x:Nat):Prop:=(vX (jR S b r) (jR S b x) < 0)↔ze S b x < ze S b r
namespace o5
@[irreducible] def e0:=G2 inferInstance eN eN eN S0
def S_:=e0.1
def b_:=e0.2.1
def r_:=e0.2.2.1
def x_:=e0.2.2.2
theorem T0:S0 S_ b_ r_ x_:=by
 delta S0;have h1:=Cy S_ r_;have h2:=Cy S_ x_;delta vX ze;have a1:jR S_ b_ r_ 1=(z9 S_ r_:Nat) / 2:=rfl;have a2:jR S_ b_ x_ 1=(z9 S_ x_:Nat) / 2:=rfl;have a3:jR S_ b_ r_ 2=(z9 S_ r_:Nat) % 2:=rfl;have a4:jR S_ b_ x_ 2=(z9 S_ x_:Nat) % 2:=rfl;have a5:jR S_ b_ r_ 0=0\/jR S_ b_ r_ 0=1:=QL;have a6:jR S_ b_ x_ 0=0\/jR S_ b_ x_ 0=1:=QL;generalize jR S_ b_ r_ 0=p at*;generalize jR S_ b_ x_ 0=q at*;generalize jR S_ b_ r_ 1=p1 at*;generalize jR S_ b_ x_ 1=q1 at*;generalize jR S_ b_ r_ 2=p2 at*;generalize jR S_ b_ x_ 2=q2 at*
 repeat' split
 all_goals lia
end o5
theorem o5(S:Nat->Nat)(b r x:Nat):o5.S0 S b r x:=by with_unfolding_all exact vK _ _ _ _ o5.S0 @o5.T0 S b r x
noncomputable def xl(b:Nat):List Nat:=if b % 2=1 then (aN 6).reverse else aN 6
set_option tactic.hygienic true in
theorem Jj(b:Nat):jq (aN 6) av av (ae (1 - 2*((b:Int) % 2)))=xl b:=by
 delta xl
 split
 ·rename_i h;exact aj (show (1:Int) - 2*((b:Int) % 2)= -1 by lia) (Bj.2 (by rfl))
 ·exact aj (show (1:Int) - 2*((b:Int) % 2)=1 by lia) (Bj.1)
theorem zf{b o:Nat}:o∈xl b↔o < 6:=by
 delta xl
 split <;> simp
theorem EJ(b:Nat):(xl b).length=6:=by
 delta xl
 split <;> simp
noncomputable abbrev EK(ds:List Nat)(n6:Nat)(lx:ay)(S:Nat->Nat)(Hm Nt cx:ay)(b x:Nat):List (Nat×V):=(38,xk (aF ds) S b x)::(37,.list ((xl b).map (xk (aF ds) S b)))::S23 ds n6 lx S Hm Nt cx b
theorem b23_d(H:Hy G){pm doc:ai}(he:du (bT pm doc L))(hb:b < 6){W:List (List Nat)}(hS:Sv vs (Pu ds n6 lx S Hm Nt cx b W))(hT:sj (dh ds) S)
 (next:∀vs x,x < 6->Sv vs (EK ds n6 lx S Hm Nt cx b x)->WS (k+8) (cw L vs::mu) (bT pm doc L) (y9 7) Θ):
 WS (k+8) (cw L vs::mu) (bT pm doc L) (y9 5) Θ:=by
 have d8:=eI ds;have hf:∀{vs} {l:Mu},bq L (aM (L+1) (bk (cM 23)).names) vs∈cw L vs::l:=aa;have CV:∀c∈aN 6,c < 6:=λc hc=>aY.mp hc;refine aC (bX (y:= .list ((xl b).map (xk (aF ds) S b))) (bM (bF (dE (jO (aN 6) (λo=>V.str (cB (aF ds+o))) (xk (aF ds) S b) ⟨rfl,rfl,by decide+kernel,by decide+kernel⟩ (dA (ah (j:=7) he (.cell (L+6) "names") hf (hS.get rfl))) (by lia) (by decide) (λC1 a ha=>?turn))) (jo dM dM (eO (br aU (br aU (br (ah (j:=9) he (.cell (L+8) "block") hf (hS.get rfl)) aU (fl (by decide))) (mY (by decide))) vM))) (pg (λh=>by have:=aO h;lia) (by refine aj (ak ..) ?_;decide))) (by (refine aj (jr ..) ?_;refine aj (Jj ..) ?_;rfl))) (aQ (i:=0) (j:=37) he .loc rfl ?_) rfl rfl)
 case turn=>
  have PY:=aY.mp ha;refine iu 1 he.comp .loc dk (λz=>f9 (xs:=[.int (jR S b a 0),.int (jR S b a 1),.int (jR S b a 2),.str (cB (aF ds+a))]) (au ?c0 (au (br (bM (f7 (bF (pN (ah (j:=46) he.comp (.cell (L+20) "table") (ab _ hf) (hS.get rfl))) (ah (j:=1) he.comp .loc aa rfl) (mh (gb d8 CV (aY.mpr PY)))) mL (au cO aT) rK (by exact eM) (by exact F.slot_str_count) (by exact F.type_str_count) rfl) (congrArg V.int (vb d8 (hT.ok a)))) aU (l9 (by decide))) (au (br (bM (f7 (bF (pN (ah (j:=46) he.comp (.cell (L+20) "table") (ab _ hf) (hS.get rfl))) (ah (j:=1) he.comp .loc aa rfl) (mh (gb d8 CV (aY.mpr PY)))) mL (au cO aT) rK (by exact eM) (by exact F.slot_str_count) (by exact F.type_str_count) rfl) (congrArg V.int (vb d8 (hT.ok a)))) aU (fl (by decide))) (au (ah (j:=1) he.comp .loc aa rfl) aT)))) (by show 4<=2 ^ 20;decide))
  case c0=>refine bM (iZ (iN H he.comp H.b_int rfl) (au (Pp (mJ (ah (j:=1) he.comp .loc aa rfl) (bF (dE (ah (j:=7) he.comp (.cell (L+6) "names") (ab _ hf) (hS.get rfl))) (ah (j:=9) he.comp (.cell (L+8) "block") (ab _ hf) (hS.get rfl)) (ew (j:=b) (inj:=λb=>V.str (cB (aF ds+b))) (bz hb) (by decide))) tC) (λz=>mJ (ah (j:=1) he.comp .loc aa rfl) (dE (bM (f7 (bF (pN (ah (j:=46) he.comp (.cell (L+20) "table") (ab _ hf) (hS.get rfl))) (bF (dE (ah (j:=7) he.comp (.cell (L+6) "names") (ab _ hf) (hS.get rfl))) (ah (j:=9) he.comp (.cell (L+8) "block") (ab _ hf) (hS.get rfl)) (ew (j:=b) (inj:=λb=>V.str (cB (aF ds+b))) (bz hb) (by decide))) (mh (gb d8 CV (aY.mpr hb)))) mL (au cO aT) (ky rfl (by have:=vV (S:=S b) d8;show _<=2 ^ 24;exact aw (by assumption) (by decide)) (yk d8)) (by exact eM) (by exact jW) (by exact Nr) rfl) (y:= .list (((eY (S b)).map λo=>cB (aF ds+o)).map .str)) (by (refine aj (oR (hT.ok b).1 (hT.ok b).2 d8 ..) ?_;rfl)))) FL)) aT) rH) ?_;refine aj (vW d8 PY ..) ?_;show V.int _=V.int (if (a != b && (S b).testBit a) then 1 else 0);refine aj (show (cB (aF ds+a) != cB (aF ds+b))=(a != b) from congrArg not (rU d8 PY hb)) ?_;rfl
 obtain ⟨x,hx⟩:∃x,(xl b)[0]? =ae x:=⟨_,bJ (by refine aj (EJ ..) ?_;decide)⟩;have hx6:x < 6:=zf.mp (ao hx);have hS1:=hS.set (j:=37) (y:= .list ((xl b).map (xk (aF ds) S b)));refine aC (bX (y:=xk (aF ds) S b x) (bF (dE (ah (j:=37) he .loc hf (hS1.get rfl))) aU (ew (j:=0) (inj:=xk (aF ds) S b) hx (by refine aj (EJ ..) ?_;decide))) (aQ (i:=0) (j:=38) he .loc rfl ?_) rfl rfl);exact next _ x hx6 ((hS1.set (j:=38) (y:=xk (aF ds) S b x)).sub ⟨rfl,rfl,rfl,rfl,rfl,rfl,rfl,rfl,rfl,rfl,rfl,rfl,rfl,rfl,rfl,trivial⟩)
def zg.S0(k:Nat)(mu:Mu)(L Hm Nt cx lx:ay)(ds:List Nat)(n6 b:Nat)(S:Nat->Nat)(pm doc:ai)(_:Nat):Prop:=∀{vs:el} {Θ:AF->Mu->Prop} {dc:ay} {K:fH} {x0:Nat} (H:Hy G) (LH:fN G K) (he:du (bT pm doc L)) (hx0:x0 < 6) (Af:Sv vs (EK ds n6 lx S Hm Nt cx b x0)) (hcx:gH cx 245 dc [("comp_select_list",DL)]∈mu) (next:∀vs x,x < 6->(∀o,o < 6->ze S b o<=ze S b x)->Sv vs (EK ds n6 lx S Hm Nt cx b x)->WS (k+8) (cw L vs::mu) (bT pm doc L) (y9 8) Θ),WS (k+8) (cw L vs::mu) (bT pm doc L) (y9 7) Θ
namespace zg
@[irreducible] def e0:=N3 eN gD cL cL cL cL cL gD eN eN inferInstance gL gL eN S0
def k_:=e0.1
def e9:=e0.2.1
def L_:=e0.2.2.1
def xN:=e0.2.2.2.1
def xj:=e0.2.2.2.2.1
def vY:=e0.2.2.2.2.2.1
def zc:=e0.2.2.2.2.2.2.1
def aV:=e0.2.2.2.2.2.2.2.1
def gO:=e0.2.2.2.2.2.2.2.2.1
def b_:=e0.2.2.2.2.2.2.2.2.2.1
def S_:=e0.2.2.2.2.2.2.2.2.2.2.1
def pj:=e0.2.2.2.2.2.2.2.2.2.2.2.1
def g8:=e0.2.2.2.2.2.2.2.2.2.2.2.2.1
theorem T0:S0 k_ e9 L_ xN xj vY zc aV gO b_ S_ pj g8 e0.2.2.2.2.2.2.2.2.2.2.2.2.2:=by
 intro vs Θ dc K x0 H LH he hx0 Af hcx next
 refine cq (LH.f242.go) λob z z z h0 hd z=>?_;have hf:∀{vs} {l:Mu},bq L_ (aM (L_+1) (bk (cM 23)).names) vs∈cw L_ vs::l:=aa;refine aC (jN (ctx:=[]) (xs:=(xl b_).map (xk (aF aV) S_ b_)) (λi nu=>∃vs x,nu=cw L_ vs::e9/\Sv vs (EK aV gO zc S_ xN xj vY b_ x)/\x < 6/\∀o∈(xl b_).take i,ze S_ b_ o<=ze S_ b_ x) (dA (ah (j:=37) he .loc hf (Af.get rfl))) (by lia) ⟨vs,x0,rfl,Af,hx0,by simp⟩ (λi nu h o ho=>(eo ho)) ?step ?fin)
 case step=>
  intro i y nu hy dO;refine ir dO λvs x eT hS hx hk=>?_;clear dO;subst eT;rw [aJ] at hy;refine aK (aL.mp hy) λr hr gi=>?_;subst gi;refine aQ (i:=0) (j:=28) he .loc rfl ?_;have hS1:=hS.set (j:=28) (y:=xk (aF aV) S_ b_ r);have Ux:=ab (cw L_ (vs.set 28 (ae (xk (aF aV) S_ b_ r)))) hcx;refine aC (xU (Hs (B7 LH.KO LH.m_comp (ah (j:=34) he .loc hf (hS1.get rfl)) Ux (by show ("compare":bb)∉(["comp_select_list"]:List bb);decide) h0 hd (cA (cf (ah (j:=28) he .loc hf (hS1.get rfl)) (cA (cf (ah (j:=38) he .loc hf (hS1.get rfl)) (e8 (FW.mono (lJ (k:=k_+6) (a:=jR S_ b_ r) (b:=jR S_ b_ x) H LH Ux (by decide) (by exact aa)) λy nu hy=>?_)))))))));refine dU hy λe1 e2=>?_;clear hy;subst e1 e2;refine ⟨bZ (.int 0),decide (vX (jR S_ b_ r) (jR S_ b_ x) < 0),aU,Dc,?_⟩;have q9:∀{vs x},Sv vs (EK aV gO zc S_ xN xj vY b_ x)->Sv vs (EK aV gO zc S_ xN xj vY b_ x):=λ{z z} h=>h;by_cases hc:vX (jR S_ b_ r) (jR S_ b_ x) < 0
  ·refine aj (decide_eq_true hc ..) ?_;have hkey:=(o5 S_ b_ r x).mp hc;refine aC (bX (ah (j:=28) he .loc hf (hS1.get rfl)) (aQ (i:=0) (j:=38) he .loc rfl ?_) rfl rfl);have hS2:=hS1.set (j:=38) (y:=xk (aF aV) S_ b_ r);refine bC (bC ⟨_,r,rfl,hS2.sub ⟨rfl,rfl,rfl,rfl,rfl,rfl,rfl,rfl,rfl,rfl,rfl,rfl,rfl,rfl,rfl,trivial⟩,zf.mp (ao hr),λo ho=>?_⟩);rw [lM hr] at ho;rcases bc.mp ho with h|h
   ·have:=hk o h;lia
   ·refine aj (aA.mp h ..) ?_;exact Int.le_refl _
  ·refine aj (decide_eq_false hc ..) (bC (bC ⟨_,x,rfl,hS1.sub ⟨rfl,rfl,rfl,rfl,rfl,rfl,rfl,rfl,rfl,rfl,rfl,rfl,rfl,rfl,rfl,trivial⟩,hx,λo ho=>?_⟩));rw [lM hr] at ho;rcases bc.mp ho with h|h
   ·exact hk o h
   ·refine aj (aA.mp h ..) ?_;have:=mt (o5 S_ b_ r x).mpr hc
    with_reducible exact Int.le_of_not_gt (by assumption)
 case fin=>intro nu iC;refine ir iC λvs x kG hS hx hk=>?_;clear iC;subst kG;refine bC (next _ x hx (λo ho=>hk o ?_) hS);refine aj (ak ..) ?_;refine aj (cK ..) ?_;exact zf.mpr ho
end zg
theorem zg{pm doc:ai}:zg.S0 k mu L Hm Nt cx lx ds n6 b S pm doc 0:=by with_unfolding_all exact J2 _ _ _ _ _ _ _ _ _ _ _ _ _ _ zg.S0 @zg.T0 k mu L Hm Nt cx lx ds n6 b S pm doc 0
def nZ.S0(low n x:Nat)(h:Nat->Nat):Prop:=∀(hl:low < 28) (hn:n+1 < 6),jE (qd low n h) (cB (low+(n+1))) (.str (cB (low+x)))=qd low (n+1) (λc=>if c=n+1 then x else h c)
namespace nZ
@[irreducible] def e0:=G2 eN eN eN inferInstance S0
def gc:=e0.1
def n_:=e0.2.1
def x_:=e0.2.2.1
def h_:=e0.2.2.2
theorem T0:S0 gc n_ x_ h_:=by
 intro hl hn;delta jE qd bD;rw [if_neg]
 ·(refine aj (qh ..) ?_;refine aj (bj ..) ?_;refine aj (bj ..) ?_)
  congr 1
  ·refine b5 λc hc=>aK (aG.mp hc) λd hd ma=>?_;subst ma;have:=aY.mp hd;show _=(_,V.str (cB (gc+if d+1=n_+1 then x_ else h_ (d+1))));refine aj (if_neg (by lia) ..) ?_;rfl
  ·simp
 ·intro h_;refine aK (cS.mp h_) λq hq e=>aK (aG.mp hq) λc hc mE=>?_;subst mE;refine aK (aG.mp hc) λd hd q8=>?_;subst q8;have h1:=aY.mp hd;have:=(wZ hl (show d+1 < 6 by lia) hn).mp (by simpa using e);lia
end nZ
theorem nZ{low n x:Nat}{h:Nat->Nat}:nZ.S0 low n x h:=by with_unfolding_all exact vK _ _ _ _ nZ.S0 @nZ.T0 low n x h
theorem Jk(low n:Nat)(h:Nat->Nat):(qd low n h).length=n:=by simp [qd,bD]
theorem b23_f(H:Hy G){pm doc:ai}(he:du (bT pm doc L)){n x:Nat}{h:Nat->Nat}(hn:n+1 < 6)(hS:Sv vs (EK ds n6 lx S Hm Nt cx (n+1) x))
 (next:Sv vs (EK ds n6 lx S Hm Nt cx (n+1) x)->WS (k+8) (cw L vs::cD Hm (qd (aF ds) (n+1) (λc=>if c=n+1 then x else h c))::mu) (bT pm doc L) [] Θ):
 WS (k+8) (cw L vs::cD Hm (qd (aF ds) n h)::mu) (bT pm doc L) (y9 8) Θ:=by
 have d8:=eI ds;have hf:∀{vs} {l:Mu},bq L (aM (L+1) (bk (cM 23)).names) vs∈cw L vs::l:=aa;refine aC (qC (i:=1) (D:=Hm) (x:=cB (aF ds+(n+1))) (y:= .str (cB (aF ds+x))) (bF (ah (j:=38) he .loc hf (hS.get rfl)) aU (Kx rfl (by show -((4:Nat):Int)<=3;decide) (by decide) (by show 4 < 2 ^ 62;decide))) (ah (j:=33) he .loc hf (hS.get rfl)) (bF (dE (ah (j:=7) he (.cell (L+6) "names") hf (hS.get rfl))) (ah (j:=9) he (.cell (L+8) "block") hf (hS.get rfl)) (ew (j:=(n+1)) (inj:=λb=>V.str (cB (aF ds+b))) (bz hn) (by decide))) rfl (by refine aj (Jk ..) ?_;show n<=2 ^ 24;lia) ?_);exact aj (nZ d8 hn ..) (next hS)
structure pA(hs:List (List Nat))(b h:Nat):Prop where
 lt:h < 6
 sd:wq hs b h
 near:∀o,o < 6->wq hs b o->gI hs h o
theorem HP{S S':Nat}(h:∀c,c < 6->S.testBit c=aI->S'.testBit c=aI)(hl:(eY S').length<=(eY S).length):∀c,c < 6->S'.testBit c=aI->S.testBit c=aI:=by
 have e:(eY S').filter S.testBit=eY S:=by unfold eY;refine aj (List.filter_filter ..) (fz λc hc=>?_);have:=h c (aY.mp hc);cases h1:S.testBit c <;> simp_all
 have hs:(eY S).Sublist (eY S'):=e▸List.filter_sublist;have heq:=hs.eq_of_length_le hl;intro c hc h2;have:c∈eY S':=bo.mpr ⟨aY.mpr hc,h2⟩;rw [<- heq] at this;exact (bo.mp this).2
theorem back6:∀n y,y=n->y≠0->y < 6->∃w,ei (dh ds) y w/\w.getLast? =ae 0:=by
 intro n;induction n using vI with
 |ind n ih=>
  rintro y rfl h0 h6;obtain ⟨c,hc,hm⟩:∃c,c < y/\(c,y)∈cW ds:=by
   by_cases h1:y=1
   ·subst h1;exact ⟨0,by decide,aE _ (aE _ (aE _ (by decide)))⟩
   ·refine ⟨dr ds (y - 2) % y,ee _ (by exact Nat.pos_of_ne_zero (by assumption)),aE _ (aE _ (bL _ (aG.mpr ⟨y,?_,rfl⟩)))⟩;rcases (by lia:y=2\/y=3\/y=4\/y=5) with h|h|h|h <;> refine aj (h ..) ?_ <;> decide
  have qm:c∈(dh ds).getD y []:=by refine aj (t8 h6 ..) ?_;refine gj (nt ..) ?_;exact ⟨by exact CQ (by assumption) (by assumption),aG.mpr ⟨(c,y),bo.mpr ⟨hm,by simp⟩,rfl⟩⟩
  by_cases zE:c=0
  ·subst zE;exact ⟨[0],⟨qm,trivial⟩,rfl⟩
  ·refine aK (ih c hc c rfl zE (by exact CQ (by assumption) (by assumption))) λw hw hl=>⟨c::w,⟨qm,hw⟩,?_⟩
   cases w with
   |nil=>simp at hl
   |cons d w=>refine fZ (hl ..) ?_;rfl
theorem qZ:∀y,y≠0->y < 6->∃w,wc (dh ds) y [0] w:=λy h0 h6=>by
 exact aK (back6 (ds:=ds) y y rfl h0 h6) λw hw hl=>ef (k0 (marks:=[0]) hw ⟨0,hl,by decide⟩) λv hv hl z=>⟨v,hv,hl⟩
theorem Aa{hs:List (List Nat)}(hT:sj hs S){j o:Nat}(hj:j < 6)(ho:o < 6):(S j).testBit o=aI↔gI hs j o:=by
 by_cases h:j=0
 ·subst h;have h1:∀o,o < 6->(Nat.testBit 1 o=aI↔o=0):=by decide
  refine aj (hT.z ..) ?_;refine gj (h1 o ho ..) ?_;exact ⟨λh=> .inl h,λh=>h.zero⟩
 ·exact hT.fin j (by rcases (by lia:j=1\/j=2\/j=3\/j=4\/j=5) with h|h|h|h|h <;> refine aj (h ..) ?_ <;> decide) o ho
theorem dom0{hs:List (List Nat)}{b:Nat}(hb:b≠0):gI hs b 0:= .inr ⟨hb,λw hw=>by
 refine aK (hw.2) λc hc hm=>?_;have:c=0:=by simpa using hm
 subst this;exact df hc⟩
theorem Px(Ae:b < 6)(zp:b≠0)(hT:sj (dh ds) S){x:Nat}(hx:x < 6)(P7:∀o,o < 6->ze S b o<=ze S b x):pA (dh ds) b x:=by
 have Tq:∀{o},o < 6->wq (dh ds) b o->jR S b o 0=1:=λ{z} ho h=>by
  refine if_pos ?_;exact aj (dQ ..) (⟨by simpa using h.2,(Aa hT Ae ho).mpr h.1⟩)
 have h0:=P7 0 (by decide);have c0:=Tq (o:=0) (by decide) ⟨dom0 zp,zp.symm⟩;have cx:=Cy S x;have GN:wq (dh ds) b x:=by
  apply bO;intro hn;have:jR S b x 0=0:=by refine if_neg λh=>?_;rw [dQ] at h;exact hn ⟨(Aa hT Ae hx).mp h.2,by simpa using h.1⟩
  unfold ze at h0;rw [c0,this] at h0;lia
 refine ⟨hx,GN,λo ho hso=>?_⟩;rcases Jd (qZ b zp Ae) GN.1 hso.1 GN.2 hso.2 with h|h
 ·exact h
 ·have hk:=P7 o ho;unfold ze at hk;rw [Tq ho hso,Tq hx GN] at hk;have e1:1<=(eY (S o)).length:=zy.mpr (B6 (hT.ok o).1 (hT.ok o).2);have e2:1<=(eY (S x)).length:=zy.mpr (B6 (hT.ok x).1 (hT.ok x).2);have hl:(eY (S o)).length<=(eY (S x)).length:=by unfold z9 at hk;lia
  refine (Aa hT hx ho).mp (HP (S:=S x) (S':=S o) (λc hc h1=>?_) hl o ho ((Aa hT ho ho).mpr gI.self));exact (Aa hT ho hc).mpr (gI.trans ((Aa hT hx hc).mp h1) h)
noncomputable abbrev Ab(L Hm Nt cx dc:ay)(vs:el)(low n:Nat)(h:Nat->Nat)(F:Nat->List Nat)(mu:Mu):Mu:=cw L vs::cD Hm (qd low n h)::cD Nt (qX low F)::gH cx 245 dc [("comp_select_list",DL)]::mu
def t9.S0(k:Nat)(L Hm Nt cx dc lx:ay)(ds:List Nat)(n6:Nat)(S:Nat->Nat)(pm doc:ai):Prop:=∀{mu:Mu} {vs:el} {Θ:AF->Mu->Prop} {K:fH} (H:Hy G) (LH:fN G K) (he:du (bT pm doc L)) (Af:Sv vs (Jg ds n6 lx S Hm Nt cx)) (hT:sj (dh ds) S) (next:∀vs h,Sv vs (Jg ds n6 lx S Hm Nt cx)->(∀b,b≠0->b < 6->pA (dh ds) b (h b))->WS (k+8) (Ab L Hm Nt cx dc vs (aF ds) 5 h (λz=>[]) mu) (bT pm doc L) (je 24) Θ),WS (k+8) (Ab L Hm Nt cx dc vs (aF ds) 0 (λz=>0) (λz=>[]) mu) (bT pm doc L) (je 23) Θ
namespace t9
@[irreducible] def e0:=HY eN cL cL cL cL cL cL gD eN inferInstance gL gL S0
def k_:=e0.1
def L_:=e0.2.1
def xN:=e0.2.2.1
def xj:=e0.2.2.2.1
def vY:=e0.2.2.2.2.1
def QM:=e0.2.2.2.2.2.1
def zc:=e0.2.2.2.2.2.2.1
def aV:=e0.2.2.2.2.2.2.2.1
def gO:=e0.2.2.2.2.2.2.2.2.1
def S_:=e0.2.2.2.2.2.2.2.2.2.1
def pj:=e0.2.2.2.2.2.2.2.2.2.2.1
def g8:=e0.2.2.2.2.2.2.2.2.2.2.2
theorem T0:S0 k_ L_ xN xj vY QM zc aV gO S_ pj g8:=by
 intro mu vs Θ K H LH he Af hT next
 refine aC (jN (ctx:=[]) (xs:=[1,2,3,4,5].map nV) (λi nu=>∃vs h,nu=Ab L_ xN xj vY QM vs (aF aV) i h (λz=>[]) mu/\Sv vs (Jg aV gO zc S_ xN xj vY)/\∀b,b≠0->b < i+1->pA (dh aV) b (h b)) (pT (qx (iN H he H.b_range rfl) aU aU (by decide) (by decide)) rfl) (by lia) ⟨vs,_,rfl,Af,λb h0 h1=>by lia⟩ (λi nu h o ho=>(eo ho)) ?step ?fin)
 case step=>
  intro i y nu hy dO;refine cC dO λvs h eT hS hh=>?_;clear dO;subst eT;have hi5:i < 5:=by have:=(aB.mp hy).1;exact this
  have hye:y=nV (i+1):=by
   match i,hi5 with
   |0,_=>(have lA:=aO hy;clear hy;subst lA);rfl
   |1,_=>(have lA:=aO hy;clear hy;subst lA);rfl
   |2,_=>(have lA:=aO hy;clear hy;subst lA);rfl
   |3,_=>(have lA:=aO hy;clear hy;subst lA);rfl
   |4,_=>(have lA:=aO hy;clear hy;subst lA);rfl
  subst hye;have zF:i+1∈[1,2,3,4,5]:=by rcases (by lia:i=0\/i=1\/i=2\/i=3\/i=4) with h|h|h|h|h <;> refine aj (h ..) ?_ <;> decide
  refine aQ (i:=0) (j:=9) he (.cell (L_+8) "block") rfl ?_;have hS1:Sv (vs.set 9 (ae (nV (i+1)))) (S23 aV gO zc S_ xN xj vY (i+1)):=hS.set (j:=9) (y:=nV (i+1));refine za H he (by exact jk (by assumption)) hS1 λvs W hS2 QZ hW=>zb H he (by exact jk (by assumption)) zF hS2 (zd H he (by exact jk (by assumption)) zF hS2 hT QZ hW ?_);refine b23_d H he (by exact jk (by assumption)) hS2 hT λvs x hx hS3=>zg H LH he hx hS3 (ao (i:=2) rfl) λvs x hx P7 Ad=>b23_f H he (by exact jk (by assumption)) Ad λhS5=>bC ⟨_,_,rfl,hS5.sub ⟨rfl,rfl,rfl,rfl,rfl,rfl,rfl,rfl,rfl,rfl,rfl,rfl,trivial⟩,λb h0 h1=>?_⟩;show pA _ b (if b=i+1 then x else h b);by_cases e:b=i+1
  ·subst e;refine aj (if_pos rfl ..) ?_;exact Px (by exact jk (by assumption)) (by assumption) hT hx P7
  ·refine aj (if_neg e ..) ?_;exact hh b h0 (by lia)
 case fin=>intro nu gi;refine cC gi λvs h iC hS hh=>?_;clear gi;subst iC;exact bC (next _ h hS hh)
end t9
theorem t9{pm doc:ai}:t9.S0 k L Hm Nt cx dc lx ds n6 S pm doc:=by with_unfolding_all exact C6 _ _ _ _ _ _ _ _ _ _ _ _ t9.S0 @t9.T0 k L Hm Nt cx dc lx ds n6 S pm doc
variable {F:Nat->List Nat}{h:Nat->Nat}{hs:List (List Nat)}
section
variable {P Q:Nat->Nat->Prop}
structure NF(F:Nat->List Nat)(P:Nat->Nat->Prop):Prop where
 nd:∀c,c < 6->(F c).Nodup
 iff:∀c,c < 6->∀y,y∈F c↔P c y
theorem NF.to(h:NF F P)(e:∀c,c < 6->∀y,P c y↔Q c y):NF F Q:=⟨h.nd,λc hc y=>(h.iff c hc y).trans (e c hc y)⟩
noncomputable def JU(F:Nat->List Nat)(c z:Nat):Nat->List Nat:=λc'=>if c'=c then (F c).filter (λy=>y != z)++[z] else F c'
set_option tactic.hygienic true in
theorem NF.up{c z:Nat}(h:NF F P):NF (JU F c z) λc' y=>P c' y\/(y=z/\c'=c):=⟨λc' hc=>by
 unfold JU
 split
 ·rename_i e;subst e;rw [bP];exact ⟨(h.nd c' hc).filter _,by simp,λa ha b hb e=>by
   rw [aA] at hb;have:=(bo.mp ha).2;rw [e,hb] at this;simp at this⟩
 ·exact h.nd c' hc,λc' hc y=>by
 unfold JU
 split
 ·rename_i e;subst e;rw [bc,bo,aA,h.iff c' hc y];by_cases e:y=z <;> simp [e]
 ·rename_i e;rw [h.iff c' hc y];simp [e]⟩
theorem gI.antiH(hr:∀y,y≠0->y < 6->∃w,wc hs y [0] w){a b:Nat}(hb:b < 6)(h:gI hs b a)(h':gI hs a b):a=b:=gI.anti (λh0=>hr b h0 hb) h h'
theorem GC(hr:∀y,y≠0->y < 6->∃w,wc hs y [0] w)(hh:∀b,b≠0->b < 6->pA hs b (h b)){p c t:Nat}(ug:c < 6)(ht:t < 6)(hpc:gI hs p c)(hct:gI hs c t)(iP:c≠t):
 c≠0/\h c < 6/\gI hs p (h c)/\gI hs (h c) t/\∀c',c' < 6->((gI hs p c'/\¬gI hs (h c) c')↔((gI hs p c'/\¬gI hs c c')\/c'=c)):=by
 have zE:c≠0:=by rintro rfl;exact iP hct.zero.symm
 have ho:=hh c zE ug;refine ⟨zE,ho.lt,gI.trans ho.sd.1 hpc,?_,λc' zr=>?_⟩
 ·exact ho.near t ht ⟨hct,iP.symm⟩
 ·constructor
  ·intro dO;refine dU dO λh1 h2=>?_;clear dO;by_cases hcc:gI hs c c'
   ·right
    exact bO λhn=>h2 (ho.near c' zr ⟨hcc,hn⟩)
   ·exact .inl ⟨h1,hcc⟩
  ·rintro (⟨h1,h2⟩|rfl)
   ·exact ⟨h1,λh3=>h2 (gI.trans h3 ho.sd.1)⟩
   ·exact ⟨hpc,λh3=>ho.sd.2 ((gI.antiH hr ho.lt h3 ho.sd.1).symm)⟩
theorem wu(hr:∀y,y≠0->y < 6->∃w,wc hs y [0] w)(hh:∀b,b≠0->b < 6->pA hs b (h b)){z p:Nat}(Nf:z≠0)(hz:z < 6)(hp:p∈hs.getD z []):gI hs p (h z)/\∀c',c' < 6->((gI hs p c'/\¬gI hs (h z) c')↔(gI hs p c'/\¬wq hs z c')):=by have ho:=hh z Nf hz;refine ⟨(ho.sd.1.step.resolve_left ho.sd.2) p hp,λc' zr=>?_⟩;refine and_congr_right λx=>not_congr ⟨λh1=>⟨gI.trans h1 ho.sd.1,λe=>?_⟩,λh1=>ho.near c' zr h1⟩;subst e;exact ho.sd.2 (gI.antiH hr ho.lt h1 ho.sd.1).symm
theorem Bn{b:Nat}(hb:∀q∈hs.getD b [],q=b):∀{w:List Nat},ei hs b w->∀x∈w,x=b
 |[],_,_,hx=>eo hx
 |c::w,hw,x,hx=>by
  have hc:c=b:=hb c hw.1;subst hc;rcases aP.mp hx with e|e
  ·exact e
  ·exact Bn hb hw.2 x e
theorem Py(hr:∀y,y≠0->y < 6->∃w,wc hs y [0] w){z p c':Nat}(Nf:z≠0)(hz:z < 6)(hp6:p < 6)(h1:∀q∈hs.getD z [],q=p):¬Gx hs c' z:=by
 intro eT;refine ef eT λq hq hd hn=>?_;clear eT;have:=h1 q hq;subst this;refine cJ (hr z Nf hz) λw hw=>?_;have hzq:q≠z:=by
  rintro rfl;refine aK (hw.2) λd hd hm=>?_;have Ju:d=0:=by simpa using hm
  have:=Bn h1 hw.1.back d (df hd);exact Nf (by rw [<- this,Ju])
 have hdq:gI hs z q:= .inr ⟨Nf,λv hv=>by
  have hb:=hv.1.back;refine aK (hv.2) λd hd x=>?_
  match v,hb,hd with
  |c::v,hb,_=>rw [h1 c hb.1];exact aa⟩
 refine hn ⟨gI.trans hd hdq,λe=>?_⟩;subst e;exact hzq (gI.antiH hr hz hdq hd)
end
theorem Bo(hT:sj (dh ds) S)(hh:∀b,b≠0->b < 6->pA (dh ds) b (h b)){c:Nat}(hc:c < 6)(zE:c≠0):(eY (S (h c))).length < (eY (S c)).length:=by have ho:=hh c zE hc;refine uA λhl=>?_;have:=HP (S:=S (h c)) (S':=S c) (λx hx h1=>(Aa hT hc hx).mpr (gI.trans ((Aa hT ho.lt hx).mp h1) ho.sd.1)) hl c hc ((Aa hT hc hc).mpr gI.self);exact ho.sd.2 (gI.antiH qZ ho.lt ((Aa hT ho.lt hc).mp this) ho.sd.1).symm
theorem Pz:∀z,z < 6->z≠0->z∈(aN 5).map (·+1):=by decide
theorem PA:∀c∈(aN 5).map (·+1),c < 6:=by decide
theorem Jl{low c z:Nat}{F:Nat->List Nat}(hl:low < 28)(hc:c < 6):jE (qX low F) (cB (low+c)) (Gz low (JU F c z c))=qX low (JU F c z):=by
 unfold qX;refine aj (FU hl (λc hc=>aY.mp hc) (aY.mpr hc) ..) ?_;unfold bD;refine b5 λb y=>?_;show (_,(if b=c then Gz low (JU F c z c) else Gz low (F b)))=(_,Gz low (JU F c z b));by_cases e:b=c
 ·subst e;(refine aj (if_pos rfl ..) ?_;rfl)
 ·refine aj (if_neg e ..) ?_;unfold JU;(refine aj (if_neg e ..) ?_;rfl)
def ua.S0(k:Nat)(mu:Mu)(Θ:AF->Mu->Prop)(L Hm Nt cx dc lx:ay)(ds:List Nat)(n6:Nat)(S h:Nat->Nat)(pm doc:ai)(_:Nat):Prop:=∀{vs:el} (H:Hy G) (he:du (bT pm doc L)) (Af:Sv vs (Jg ds n6 lx S Hm Nt cx)) (hT:sj (dh ds) S) (hh:∀b,b≠0->b < 6->pA (dh ds) b (h b)) (next:∀vs F,Sv vs (Jg ds n6 lx S Hm Nt cx)->NF F (λc z=>z≠0/\z < 6/\Gx (dh ds) c z)->WS (k+8) (Ab L Hm Nt cx dc vs (aF ds) 5 h F mu) (bT pm doc L) (je 25) Θ),WS (k+8) (Ab L Hm Nt cx dc vs (aF ds) 5 h (λy=>[]) mu) (bT pm doc L) (je 24) Θ
namespace ua
@[irreducible] def e0:=Fs eN gD ta cL cL cL cL cL cL gD eN inferInstance inferInstance gL gL eN S0
def k_:=e0.1
def e9:=e0.2.1
def Θ_:=e0.2.2.1
def L_:=e0.2.2.2.1
def xN:=e0.2.2.2.2.1
def xj:=e0.2.2.2.2.2.1
def vY:=e0.2.2.2.2.2.2.1
def QM:=e0.2.2.2.2.2.2.2.1
def zc:=e0.2.2.2.2.2.2.2.2.1
def aV:=e0.2.2.2.2.2.2.2.2.2.1
def gO:=e0.2.2.2.2.2.2.2.2.2.2.1
def S_:=e0.2.2.2.2.2.2.2.2.2.2.2.1
def h_:=e0.2.2.2.2.2.2.2.2.2.2.2.2.1
def pj:=e0.2.2.2.2.2.2.2.2.2.2.2.2.2.1
def g8:=e0.2.2.2.2.2.2.2.2.2.2.2.2.2.2.1
theorem T0:S0 k_ e9 Θ_ L_ xN xj vY QM zc aV gO S_ h_ pj g8 e0.2.2.2.2.2.2.2.2.2.2.2.2.2.2.2:=by
 intro vs H he Af hT hh next
 have d8:=eI aV;have CV:∀c∈aN 6,c < 6:=λc hc=>aY.mp hc;have hf:∀{vs} {l:Mu},bq L_ (aM (L_+1) (bk (cM 23)).names) vs∈cw L_ vs::l:=aa;refine cq (H.f270.go) λob w w w h0 hd w=>aC (jN (ctx:=[]) (xs:=[1,2,3,4,5].map λb=>V.str (cB (aF aV+b))) (λi nu=>∃vs F,nu=Ab L_ xN xj vY QM vs (aF aV) 5 h_ F e9/\Sv vs (Jg aV gO zc S_ xN xj vY)/\NF F (λc z=>z≠0/\z < i+1/\Gx (dh aV) c z)) (pQ (l:=[1,2,3,4,5]) (f:=λb=>(cB (aF aV+b),rr (aF aV) (lU aV) b)) (ah (j:=41) he (.cell (L_+15) "book") hf (Af.get rfl))) (by lia) ⟨vs,_,rfl,Af,⟨λw w=>kQ,λc w y=>⟨λh_=>absurd h_ eZ,λh_=>by lia⟩⟩⟩ (λi nu h_ o ho=>(eo ho)) ?step ?fin)
 case fin=>intro nu dO;refine cC dO λvs F eT hS hF=>?_;clear dO;subst eT;exact bC (next _ F hS hF)
 case step=>
  intro i y nu hy gi;refine cC gi λvs F iC hS hF=>?_;clear gi;subst iC;have hi5:i < 5:=by have:=(aB.mp hy).1;exact this
  have hye:y= .str (cB (aF aV+(i+1))):=by
   match i,hi5 with
   |0,_=>(have lA:=aO hy;clear hy;subst lA);rfl
   |1,_=>(have lA:=aO hy;clear hy;subst lA);rfl
   |2,_=>(have lA:=aO hy;clear hy;subst lA);rfl
   |3,_=>(have lA:=aO hy;clear hy;subst lA);rfl
   |4,_=>(have lA:=aO hy;clear hy;subst lA);rfl
  subst hye;have zF:i+1∈[1,2,3,4,5]:=by rcases (by lia:i=0\/i=1\/i=2\/i=3\/i=4) with h_|h_|h_|h_|h_ <;> refine aj (h_ ..) ?_ <;> decide
  have JX:i+1 < 6:=by exact jk (by assumption)
  refine aQ (i:=0) (j:=8) he (.cell (L_+7) "name") rfl ?_;have hS1:Sv (vs.set 8 (ae (.str (cB (aF aV+(i+1)))))) ((8,.str (cB (aF aV+(i+1))))::Jg aV gO zc S_ xN xj vY):=hS.set (j:=8) (y:= .str (cB (aF aV+(i+1))));have hsm:((Ep (aF aV) (cR (cls aV (i+1)))).map (·.2)).sum=((cls aV (i+1)).length:Nat):=by refine aj (a0 ..) ?_;refine aj (show ((cR (cls aV (i+1))).map ((λx:bb×Int=>x.2)∘λq=>(cB (aF aV+q.1),q.2)))=(cR (cls aV (i+1))).map (·.2) from rfl) ?_;refine aj (Bm ..) ?_;rfl
  have qm:∀q,q∈(dh aV).getD (i+1) []↔q∈cls aV (i+1):=λq=>by
   (refine aj (t8 JX ..) ?_;refine gj (nt ..) ?_);exact ⟨λh_=>h_.2,λh_=>⟨kr h_,h_⟩⟩
  refine aC (iY (b:=decide ((1:Int) < ((cls aV (i+1)).length:Nat))) (c9 (ju (ys:=[FV (aF aV) (cR (cls aV (i+1)))]) (mn H he H.m_count rfl) h0 hd (au (bM (bF (bF (pN (ah (j:=41) he (.cell (L_+15) "book") hf (hS1.get rfl))) (ah (j:=8) he (.cell (L_+7) "name") hf (hS1.get rfl)) (mh (gb d8 (by decide) zF))) aU tL) (congrArg (FV (aF aV)) (Bh (cW aV) (i+1)))) aT) (by refine aj (Cj ..) ?_;exact FW.mono (Ho (k:=k_+6) H) λy nu h_=>⟨h_.2.trans (congrArg V.int hsm),h_.1⟩)) aU G4) (λhc=>?many) λhc=>?few)
  case few=>
   have hc:=of_decide_eq_false hc;refine bC (bC ⟨_,F,rfl,hS1.sub ⟨rfl,rfl,rfl,rfl,rfl,rfl,rfl,rfl,rfl,rfl,rfl,rfl,trivial⟩,hF.to λc ug y=>⟨λh_=>⟨h_.1,by lia,h_.2.2⟩,λh_=>⟨h_.1,?_,h_.2.2⟩⟩⟩);refine Nat.lt_of_le_of_ne (by lia) λe=>?_;subst e;obtain ⟨p,hp⟩:∃p,∀q∈cls aV (i+1),q=p:=by
    match hcl:cls aV (i+1) with
    |[]=>exact ⟨0,λq hq=>eo hq⟩
    |[p]=>exact ⟨p,λq hq=>aA.mp hq⟩
    |a::b::l=>rw [hcl] at hc;simp at hc;lia
   have iP:=h_.2.2;refine aK iP λq hq w=>?_;clear iP;have hqp:=hp q ((qm q).mp hq);exact Py qZ h_.1 JX (p:=p) (by refine fZ (hqp ..) ?_;exact si.lt _ _ hq) (λr hr=>hp r ((qm r).mp hr)) h_.2.2
  case many=>
   refine aC (jN (ctx:=[]) (xs:=(cR (cls aV (i+1))).map λq=>V.str (cB (aF aV+q.1))) (λj nu=>∃vs F,nu=Ab L_ xN xj vY QM vs (aF aV) 5 h_ F e9/\Sv vs ((8,.str (cB (aF aV+(i+1))))::Jg aV gO zc S_ xN xj vY)/\NF F (λc' y=>(y≠0/\y < i+1/\Gx (dh aV) c' y)\/(y=i+1/\∃q∈(cR (cls aV (i+1))).take j,gI (dh aV) q.1 c'/\¬gI (dh aV) (h_ (i+1)) c'))) (pQ (l:=cR (cls aV (i+1))) (f:=λq=>(cB (aF aV+q.1),V.int q.2)) (bM (bF (bF (pN (ah (j:=41) he (.cell (L_+15) "book") hf (hS1.get rfl))) (ah (j:=8) he (.cell (L_+7) "name") hf (hS1.get rfl)) (mh (gb d8 (by decide) zF))) aU tL) (congrArg (FV (aF aV)) (Bh (cW aV) (i+1))))) (by lia) ⟨_,F,rfl,hS1,hF.to λc w y=>⟨λh_=> .inl h_,λh_=>h_.resolve_right λh_=>by simp at h_⟩⟩ (λi nu h_ o ho=>(eo ho)) ?step2 ?fin2)
   case fin2=>
    intro nu kG;refine cC kG λvs F ma hS hF=>?_;clear kG;subst ma;refine bC (bC (bC ⟨_,F,rfl,hS.sub ⟨rfl,rfl,rfl,rfl,rfl,rfl,rfl,rfl,rfl,rfl,rfl,rfl,trivial⟩,hF.to λc ug y=>?_⟩));refine aj (ak ..) ?_;refine aj (cK ..) ?_;constructor
    ·rintro (⟨h1,h2,h3⟩|⟨rfl,q,hq,h1⟩)
     ·exact ⟨h1,by exact cI (by assumption),h3⟩
     ·have ER:=(qm q.1).mpr ((qc _ _).mp (aG.mpr ⟨q,hq,rfl⟩));have h2:=((wu qZ hh (lq i) JX ER).2 c ug).mp h1;exact ⟨lq i,by exact jf _,q.1,ER,h2⟩
    ·intro mE;refine G1 mE λh1 h2 h3=>?_;clear mE;by_cases e:y=i+1
     ·subst e;refine aK h3 λp hp h4=>?_;clear h3;refine aK (aG.mp ((qc _ _).mpr ((qm p).mp hp))) λq hq q8=>?_;subst q8;exact .inr ⟨rfl,q,hq,((wu qZ hh (lq i) JX hp).2 c ug).mpr h4⟩
     ·exact .inl ⟨h1,by lia,h3⟩
   case step2=>
    intro j y nu hy uf;refine cC uf λvs F mP hS hF=>?_;clear uf;subst mP;rw [aJ] at hy;refine aK (aL.mp hy) λq hq sq=>?_;subst sq;have hqh:=(qm q.1).mpr ((qc _ _).mp (aG.mpr ⟨q,ao hq,rfl⟩));have Js:=si.lt _ _ hqh;have hzo:=hh (i+1) (lq i) JX;refine aQ (i:=0) (j:=24) he .loc rfl ?_;have hS2:Sv (vs.set 24 (ae (.str (cB (aF aV+q.1))))) ((24,.str (cB (aF aV+q.1)))::(8,.str (cB (aF aV+(i+1))))::Jg aV gO zc S_ xN xj vY):=hS.set (j:=24) (y:= .str (cB (aF aV+q.1)));refine aC (xV (λn nu=>∃vs F c,nu=Ab L_ xN xj vY QM vs (aF aV) 5 h_ F e9/\Sv vs ((24,.str (cB (aF aV+c)))::(8,.str (cB (aF aV+(i+1))))::Jg aV gO zc S_ xN xj vY)/\c < 6/\gI (dh aV) q.1 c/\gI (dh aV) c (h_ (i+1))/\n=(eY (S_ c)).length/\NF F (λc' y=>((y≠0/\y < i+1/\Gx (dh aV) c' y)\/(y=i+1/\∃q∈(cR (cls aV (i+1))).take j,gI (dh aV) q.1 c'/\¬gI (dh aV) (h_ (i+1)) c'))\/(y=i+1/\gI (dh aV) q.1 c'/\¬gI (dh aV) c c'))) (eY (S_ q.1)).length ⟨_,F,q.1,rfl,hS2,Js,gI.self,(wu qZ hh (lq i) JX hqh).1,rfl,hF.to λc' w y=>⟨λh_=> .inl h_,λh_=>h_.resolve_right λh_=>h_.2.2 h_.2.1⟩⟩ ?_);intro n nu zm;refine qt zm λvs F c ES hS3 ug hqc hct MZ hF=>?_;clear zm;subst ES;subst MZ;refine PT.wt (c9 (ah (j:=24) he .loc hf (hS3.get rfl)) (bF (wK (ah (j:=33) he .loc hf (hS3.get rfl)) (ao (i:=1) rfl)) (ah (j:=8) he (.cell (L_+7) "name") hf (hS3.get rfl)) (mh (gb d8 PA (Pz _ JX (lq i))))) tC) ?_;by_cases P6:c=h_ (i+1)
    ·refine aj (show (cB (aF aV+c) != cB (aF aV+h_ (i+1)))=aH by rw [P6];simp) ?_;refine bC (bC ⟨_,F,rfl,hS3.sub ⟨rfl,rfl,rfl,rfl,rfl,rfl,rfl,rfl,rfl,rfl,rfl,rfl,rfl,trivial⟩,hF.to λc' zr y=>?_⟩);refine aj (lM hq ..) ?_;constructor
     ·rintro ((h1|⟨h1,r,h2,h3⟩)|⟨h1,h2,h3⟩)
      ·exact .inl h1
      ·exact .inr ⟨h1,r,aE _ h2,h3⟩
      ·exact .inr ⟨h1,q,bL _ (aA.mpr rfl),h2,by refine fZ (P6 ..) ?_;exact h3⟩
     ·rintro (h1|⟨h1,r,h2,h3⟩)
      ·exact .inl (.inl h1)
      ·rcases bc.mp h2 with h4|h4
       ·exact .inl (.inr ⟨h1,r,h4,h3⟩)
       ·rw [aA] at h4;subst h4;exact .inr ⟨h1,h3.1,by refine aj (P6 ..) ?_;exact h3.2⟩
    ·have iP:(cB (aF aV+c) != cB (aF aV+h_ (i+1)))=aI:=by
      refine aj (show (cB (aF aV+c) != cB (aF aV+h_ (i+1)))=(c != h_ (i+1)) from congrArg not (rU d8 ug hzo.lt)) ?_;simpa using P6
     refine aj (iP ..) (N2 (GC qZ hh ug hzo.lt hqc hct P6) λzE hhc s1 s2 s3=>?_);have Uv:∀y∈F c,y < 6:=λy hy=>by
      rcases (hF.iff c ug y).mp hy with (h1|h1)|h1 <;> lia
     have hl6:(F c).length<=6:=ez (hF.nd c ug) Uv;refine aC (qC (i:=2) (D:=xj) (x:=cB (aF aV+c)) (y:=Gz (aF aV) (JU F c (i+1) c)) (bM (br (dE (nF (F c) (λo=>V.str (cB (aF aV+o))) (λo=>cB (aF aV+o) != cB (aF aV+(i+1))) (λo=>V.str (cB (aF aV+o))) ⟨rfl,rfl,by decide+kernel,by decide+kernel⟩ (dA (bF (wK (ah (j:=44) he (.cell (L_+18) "noted") hf (hS3.get rfl)) (ao (i:=2) rfl)) (ah (j:=24) he .loc hf (hS3.get rfl)) (mh (gb d8 CV (aY.mpr ug))))) (by lia) (by exact aw (by assumption) (by decide)) (λC1 a ha=>iu 1 he.comp .loc (fS (c9 (ah (j:=1) he.comp .loc aa rfl) (ah (j:=8) he.comp (.cell (L_+7) "name") (ab _ hf) (hS3.get rfl)) tC)) (λhb=>(ah (j:=1) he.comp .loc aa rfl))))) (dE (ij (xs:=[.str (cB (aF aV+(i+1)))]) (au (ah (j:=8) he (.cell (L_+7) "name") hf (hS3.get rfl)) aT) (by show 1<=2 ^ 20;decide))) (uN (by refine aj (ak ..) ?_;have:=bu (λo=>cB (aF aV+o) != cB (aF aV+(i+1))) (F c);show _+1<=_;lia))) ?ceq) (ah (j:=44) he (.cell (L_+18) "noted") hf (hS3.get rfl)) (ah (j:=24) he .loc hf (hS3.get rfl)) rfl (by show (bD (aF aV) (aN 6) _).length<=2 ^ 24;refine aj (KW ..) ?_;decide) ?_)
     case ceq=>refine congrArg V.list ?_;unfold JU;refine aj (if_pos rfl ..) ?_;refine aj (bj ..) ?_;congr 2;exact fz λo ho=>congrArg not (rU d8 (Uv o ho) JX)
     refine aj (Jl d8 ug ..) ?_;show WS (k_+8) (Ab L_ xN xj vY QM vs (aF aV) 5 h_ (JU F c (i+1)) e9) _ _ _;refine aC (bX (bF (wK (ah (j:=33) he .loc hf (hS3.get rfl)) (ao (i:=1) rfl)) (ah (j:=24) he .loc hf (hS3.get rfl)) (mh (gb d8 PA (Pz _ ug zE)))) (aQ (i:=0) (j:=24) he .loc rfl ?_) rfl rfl);refine bC ⟨_,Bo hT hh ug zE,_,JU F c (i+1),h_ c,rfl,(hS3.set (j:=24) (y:= .str (cB (aF aV+h_ c)))).sub ⟨rfl,rfl,rfl,rfl,rfl,rfl,rfl,rfl,rfl,rfl,rfl,rfl,rfl,rfl,trivial⟩,hhc,s1,s2,rfl,(hF.up (c:=c) (z:=i+1)).to λc' zr y=>?_⟩;have:=s3 c' zr;constructor
     ·rintro ((h1|⟨h1,h2⟩)|⟨h1,h2⟩)
      ·exact .inl h1
      ·exact .inr ⟨h1,this.mpr (.inl h2)⟩
      ·exact .inr ⟨h1,this.mpr (.inr h2)⟩
     ·rintro (h1|⟨h1,h2⟩)
      ·exact .inl (.inl h1)
      ·rcases this.mp h2 with h3|h3
       ·exact .inl (.inr ⟨h1,h3⟩)
       ·exact .inr ⟨h1,h3⟩
end ua
theorem ua{pm doc:ai}:ua.S0 k mu Θ L Hm Nt cx dc lx ds n6 S h pm doc 0:=by with_unfolding_all exact Au _ _ _ _ _ _ _ _ _ _ _ _ _ _ _ _ ua.S0 @ua.T0 k mu Θ L Hm Nt cx dc lx ds n6 S h pm doc 0
noncomputable def setP(d b:Nat):Bool:=((b:Int) == 0) || (lZ ((d:Int) / 2 ^ ((b:Int) - 1).toNat) 1 != 0 || false)
noncomputable def cz(d:Nat):List Nat:=(aN 6).filter (setP d)
theorem shz{a:Nat}(h:((a:Int) == 0)=aH):0<=(a:Int) - 1:=by
 have:(a:Int)≠0:=by simpa using h
 lia
theorem Cz{d:Nat}:∀c∈cz d,c < 6:=λc hc=>aY.mp (bo.mp hc).1
theorem PB(d:Nat):(cz d).Nodup:=lp.filter _
theorem GD(d:Nat):0∈cz d:=bo.mpr ⟨by decide,rfl⟩
theorem oa(d:Nat):(cz d).length<=6:=ez (PB d) Cz
noncomputable abbrev S25(ds:List Nat)(n6:Nat)(lx:ay)(S h:Nat->Nat)(F:Nat->List Nat)(d:Nat):List (Nat×V):=(45,wV (cz d))::(44,.dict (qX (aF ds) F))::(33,.dict (qd (aF ds) 5 h))::S21 ds n6 lx S
noncomputable abbrev PC(low:Nat)(l:List Nat):List V:=l.map λw=>V.str (cB (low+w))
theorem SJ(H:Hy G){pm doc:ai}(he:du (bT pm doc L)){d:Nat}(hlen:ds.length < 2 ^ 60)(h25:ds[25]? =ae d)(Af:Sv vs (Jg ds n6 lx S Hm Nt cx))
 (next:∀vs W,Sv vs ((43,.ref W)::S25 ds n6 lx S h F d)->WS (k+8) (bl W (PC (aF ds) (cz d))::cw L vs::mu) (bT pm doc L) (je 27) Θ):
 WS (k+8) (Ab L Hm Nt cx dc vs (aF ds) 5 h F mu) (bT pm doc L) (je 25) Θ:=by
 have d8:=eI ds;have hf:∀{vs} {l:Mu},bq L (aM (L+1) (bk (cM 23)).names) vs∈cw L vs::l:=aa;refine WF.frzD (j:=33) (Af.get rfl) ?_;have hSa:=Af.set (j:=33) (y:= .dict (qd (aF ds) 5 h));refine WF.frzD (j:=44) (hSa.get rfl) (WF.to [1] (WF.drop1 ?_));have hSb:Sv _ ((44,.dict (qX (aF ds) F))::(33,.dict (qd (aF ds) 5 h))::S21 ds n6 lx S):=(hSa.set (j:=44) (y:= .dict (qX (aF ds) F))).sub ⟨rfl,rfl,rfl,rfl,rfl,rfl,rfl,rfl,rfl,rfl,rfl,trivial⟩;generalize (vs.set 33 (ae (.dict (qd (aF ds) 5 h)))).set 44 (ae (.dict (qX (aF ds) F)))=NN at hSb ⊢;show WS (k+8) (cw L NN::mu) (bT pm doc L) (je 25) Θ;refine aC (bX (y:=wV (cz d)) (nF (aN 6) nV (setP d) nV ⟨rfl,rfl,by decide+kernel,by decide+kernel⟩ (fL (n:=6) (iN H he H.b_range rfl) aU rfl (by decide)) (by lia) (by decide) (λC1 a ha=>iu 1 he.comp .loc (fS (oM (iM (c9 (ah (j:=1) he.comp .loc aa rfl) aU qv) (λhz=>iM (kU (br (br (bF (dE (ah (j:=4) he.comp (.cell (L+3) "draws") (ab _ hf) (hSb.get rfl))) aU (ew (j:=25) (inj:=nV) h25 hlen)) (br (ah (j:=1) he.comp .loc aa rfl) aU vM) (Hi (shz hz))) aU qu) xS) (λz=>jn))))) (λz=>(ah (j:=1) he.comp .loc aa rfl)))) (aQ (i:=0) (j:=45) he (.cell (L+19) "settings") rfl ?_) rfl rfl);have hSc:=hSb.set (j:=45) (y:=wV (cz d));refine aC (b4 (RG (cz d) nV (λb=>V.str (cB (aF ds+b))) ⟨rfl,rfl,by decide+kernel,by decide+kernel⟩ (dA (ah (j:=45) he (.cell (L+19) "settings") hf (hSc.get rfl))) (by lia) (aw (oa d) (by decide)) (λC2 a ha=>iu 1 he.comp .loc dk (λz=>(bF (dE (ah (j:=7) he.comp (.cell (L+6) "names") (ab _ hf) (hSc.get rfl))) (ah (j:=1) he.comp .loc aa rfl) (ew (j:=a) (inj:=λb=>V.str (cB (aF ds+b))) (bz (Cz a ha)) (by decide))))) (λW=>fM.ref (aQ (i:=1) (j:=43) he (.cell (L+17) "line") rfl ?_))) rfl rfl);exact next _ W (hSc.set (j:=43) (y:= .ref W))
variable {ws:List Nat}
section
variable {sets:List Nat}{m i w:Nat}
noncomputable def Jm(n0:Nat)(F:Nat->List Nat)(s:Unit)(ws:List Nat)(w:Nat):Unit×List Nat:=(s,(F w).filter λz=>!decide (z∈ws.drop n0))
structure RJ(hs:List (List Nat))(sets:List Nat)(F:Nat->List Nat)(m i:Nat)(ws:List Nat)(_:Unit):Prop where
 pre:ws.take sets.length=sets
 nd:(ws.drop sets.length).Nodup
 lt:∀c∈ws,c < 6
 pl:∀c∈ws.drop sets.length,iB hs sets c
 clo:∀j x,j < i->ws[j]? =ae x->∀z∈F x,z∈ws.drop sets.length
 le:i<=ws.length
 ms:m=(6 - (ws.drop sets.length).length)+(ws.length - i)
theorem RJ.start(h6:∀c∈sets,c < 6):RJ hs sets F (6+sets.length) 0 sets () where
 pre:=cK
 nd:=by refine aj (ox ..) ?_;exact kQ
 lt:=h6
 pl:=by refine aj (ox ..) ?_;exact λc hc=>eo hc
 clo:=λj x hj=>absurd hj (GY _)
 le:=gp _
 ms:=by refine aj (ox ..) ?_;rfl
theorem RJ.hl(h:RJ hs sets F m i ws ()):sets.length<=ws.length:=by have:=congrArg kM h.pre;rw [dR] at this;lia
theorem RJ.dl(h:RJ hs sets F m i ws ()):(ws.drop sets.length).length<=6:=ez h.nd λc hc=>h.lt c (gn hc)
theorem RJ.mem(h:RJ hs sets F m i ws ()){x:Nat}(hx:x∈ws):zC hs sets x:=by rw [<- oq sets.length ws,bc,h.pre] at hx;exact hx.imp id (h.pl x)
def RJ.step.S0(hs:List (List Nat))(sets:List Nat)(F:Nat->List Nat)(w:Nat)(ws:List Nat)(_:Nat):Prop:=∀{m i:Nat} (hF:NF F (λc z=>z≠0/\z < 6/\Gx hs c z)) (h:RJ hs sets F m i ws ()) (hw:ws[i]? =ae w),∃m',m' < m/\RJ hs sets F m' (i+1) (ws++(Jm sets.length F () ws w).2) ()
namespace RJ.step
@[irreducible] def e0:=Fq gD gD inferInstance eN gD eN S0
def kE:=e0.1
def vc:=e0.2.1
def F_:=e0.2.2.1
def w_:=e0.2.2.2.1
def qK:=e0.2.2.2.2.1
theorem T0:S0 kE vc F_ w_ qK e0.2.2.2.2.2:=by
 intro m i hF h hw;have hi:i < qK.length:=(aB.mp hw).1;have hwm:=ao hw;have P3:=h.lt w_ hwm;have Uy:∀o:List Nat,(qK++o).drop vc.length=qK.drop vc.length++o:=λo=>gq h.hl;have ho:∀z∈(Jm vc.length F_ () qK w_).2,z∈F_ w_/\z∉qK.drop vc.length:=λz hz=>by
  have:=bo.mp hz;exact ⟨this.1,by simpa using this.2⟩
 have hnd:(qK.drop vc.length++(Jm vc.length F_ () qK w_).2).Nodup:=by exact gj (bP ..) (⟨h.nd,(hF.nd w_ P3).filter _,λa ha b hb e=>(ho b hb).2 (e▸ha)⟩)
 have hlt:∀c∈qK++(Jm vc.length F_ () qK w_).2,c < 6:=λc hc=>by
  rcases bc.mp hc with h1|h1
  ·exact h.lt c h1
  ·exact ((hF.iff w_ P3 c).mp (ho c h1).1).2.1
 have hd6:=ez hnd λc hc=>hlt c (by
  rcases bc.mp hc with h1|h1
  ·exact aE _ (gn h1)
  ·exact bL _ h1)
 rw [ba] at hd6;refine ⟨m - 1,?_,?_,?_,hlt,?_,?_,?_,?_⟩
 ·have:=h.ms;lia
 ·refine aj (Fo h.hl ..) ?_;exact h.pre
 ·refine aj (Uy ..) ?_;exact hnd
 ·refine aj (Uy ..) ?_;intro c hc;rcases bc.mp hc with h1|h1
  ·exact h.pl c h1
  ·exact iB.of (h.mem hwm) ((hF.iff w_ P3 c).mp (ho c h1).1).2.2
 ·refine aj (Uy ..) ?_;intro j x hj hx z hz;rcases gX j i with h1|h1
  ·rw [eE (by exact CQ (by assumption) (by assumption))] at hx;exact aE _ (h.clo j x h1 hx z hz)
  ·have:j=i:=by lia
   subst this;rw [eE hi,hw] at hx
   (have lA:=aO hx;clear hx;subst lA)
   by_cases hm:z∈qK.drop vc.length
   ·exact aE _ hm
   ·exact bL _ (bo.mpr ⟨hz,by simpa using hm⟩)
 ·refine aj (ba ..) ?_;lia
 ·(refine aj (Uy ..) ?_;refine aj (ba ..) ?_;refine aj (ba ..) ?_)
  have:=h.ms;lia
end RJ.step
theorem RJ.step:RJ.step.S0 hs sets F w ws 0:=by with_unfolding_all exact uE _ _ _ _ _ _ RJ.step.S0 @RJ.step.T0 hs sets F w ws 0
structure ub(hs:List (List Nat))(sets ws:List Nat):Prop where
 pre:ws.take sets.length=sets
 lt:∀c∈ws,c < 6
 len:ws.length<=12
 iff:∀z,z∈ws.drop sets.length↔iB hs sets z
theorem ub.mem(h:ub hs sets ws)(x:Nat):x∈ws↔zC hs sets x:=by
 conv=>lhs;rw [<- oq sets.length ws,bc,h.pre]
 exact or_congr Iff.rfl (h.iff x)
theorem RJ.fin(hF:NF F (λc z=>z≠0/\z < 6/\Gx hs c z))(H0:hs.getD 0 []=[])(H6:hs.length=6)(hs6:sets.length<=6)(h:RJ hs sets F m ws.length ws ()):ub hs sets ws where
 pre:=h.pre
 lt:=h.lt
 len:=by have h1:=h.dl;rw [fY] at h1;lia
 iff:=λz=>by
  have key:∀{x z},x∈ws->Gx hs x z->z∈ws.drop sets.length:=λ{x z} hx hf=>by
   refine cJ (iq.mp hx) λj hj=>h.clo j x (aB.mp hj).1 hj z ((hF.iff x (h.lt x hx) z).mpr ⟨?_,?_,hf⟩)
   ·rintro rfl;refine aK hf λp hp y=>?_;clear hf;rw [H0] at hp;exact eo hp
   ·refine aK hf λp hp y=>?_;clear hf;refine uA λhz=>?_;rw [bR,il (by lia)] at hp;exact eo hp
  refine ⟨h.pl z,λhp=>?_⟩;induction hp with
  |set hx hf=>refine key ?_ hf;rw [<- h.pre] at hx;exact pC hx
  |next _ hf ih=>exact key (gn ih) hf
end
theorem Bp{α:Type}{as:List α}{n:Nat}(hn:n<=as.length):jq as (ae (n:Int)) av av=as.drop n:=by
 have e:c7 (ae (n:Int)) av av as.length=(((n:Nat):Int),((n+(as.length - n):Nat):Int),1):=by unfold c7;simp;lia
 unfold jq;refine aj (e ..) ?_;simp only;refine aj (pU ..) ?_;refine aj (pV ..) ?_;refine aj (d7 (by rw [fY];exact bp _) ..) ?_;rfl
variable {d:Nat}{cs:List Nat}
noncomputable def HQ:bH:=QI ((fR (cM 23)).getD 27 (.Pass ⟨0,0,0,0⟩))
noncomputable abbrev tw(L c:ay)(ct:ai):cm:=yt lz (exA HQ) (exB HQ) (exS HQ) [("settings",L+19),("noted",L+18),("line",L+17)] c ct
theorem CA{low:Nat}(hl:low < 28){l:List Nat}(h6:∀c∈l,c < 6){o:Nat}(ho:o < 6):((l.map λw=>cB (low+w)).any (· == cB (low+o)))=decide (o∈l):=by
 refine gj (cj ..) ?_;refine gj (cS ..) ?_;refine aj (decide_eq_true_eq ..) ?_;constructor
 ·intro dO;refine aK dO λz h1 h2=>?_;clear dO;refine aK (aG.mp h1) λb hb eT=>?_;subst eT;have:=(wZ hl (h6 b hb) ho).mp (by simpa using h2);exact this▸hb
 ·intro h;exact ⟨_,aG.mpr ⟨o,h,rfl⟩,by simp⟩
theorem ML(H:Hy G){c':ay}{ct:ai}{m i:Nat}{ws:List Nat}{w c0:Nat}{tb:List zV}(hS:Sv vs ((43,.ref W)::S25 ds n6 lx S h F d))(hF:NF F (λc z=>z≠0/\z < 6/\Gx (dh ds) c z))(hJ:RJ (dh ds) (cz d) F m i ws ())(hw:ws[i]? =ae w)
 (h1:cw L vs∈mu) (h2:mj fd (eh (tw L c' ct) av)∈mu) (h3:gG 304 tb∈mu) (hq:(298,c0,c',lz)∈tb) (h4:bl W (PC (aF ds) ws)∈mu):
 FW (k+5) mu (.ref fd) [.str (cB (aF ds+w))] λy nu=>y= .list ((Jm (cz d).length F () ws w).2.map λw=>V.str (cB (aF ds+w)))/\nu=mu:=by
 have d8:=eI ds;have CV:∀c∈aN 6,c < 6:=λc hc=>aY.mp hc;refine FM H.B (names:=["name"]) (vals':=λx=>[ae (.str (cB (aF ds+w)))]) (Kn.obj h2) rfl (Kn.code h3 hq) rfl (λvs h=>?_) (by show (aM 0 (exS HQ).names).nd;decide+kernel) (λL=>⟨rfl,rfl,rfl⟩) (λL2=>?_) (λL2=>?_)
 ·exact uQ h λa=>rfl
 ·exact .cons (j:=0) .loc rfl .nil
 have he:du (dT (tw L c' ct) fd L2):=⟨rfl,rfl,rfl⟩;have P3:=hJ.lt w (ao hw);have hl6:(F w).length<=6:=ez (hF.nd w P3) λy hy=>((hF.iff w P3 y).mp hy).2.1;have hwl:ws.length<=12:=by have:=hJ.dl;have h2:=oa d;rw [fY] at this;lia
 have Fg:(PC (aF ds) ws).drop (cz d).length=((ws.drop (cz d).length).map λw=>cB (aF ds+w)).map .str:=by (refine aj (a0 ..) ?_;refine aj (Nx ..) ?_);rfl
 refine cf (bM (nF (F w) (λo=>V.str (cB (aF ds+o))) (λo=>!((ws.drop (cz d).length).map λw=>cB (aF ds+w)).any (· == cB (aF ds+o))) (λo=>V.str (cB (aF ds+o))) ⟨rfl,rfl,by decide+kernel,by decide+kernel⟩ (dA (bF (pN (ah (j:=44) (L:=L) (lay:=aM (L+1) (bk (cM 23)).names) he (.free (L+18) "noted" rfl rfl rfl rfl rfl) (ab _ h1) (hS.get rfl))) (ah (j:=0) he .loc aa rfl) (mh (gb d8 CV (aY.mpr P3))))) (by lia) (by exact aw (by assumption) (by decide)) (λC1 a ha=>iu 1 he.comp .loc (fS (c9 (ah (j:=1) he.comp .loc aa rfl) (dE (bM (bF (uH (ah (j:=43) (L:=L) (lay:=aM (L+1) (bk (cM 23)).names) he.comp (.free (L+17) "line" rfl rfl rfl rfl rfl) (ab _ (ab _ h1)) (hS.get rfl)) (ab _ (ab _ h4))) (jo (eO (ej (j4 H he.comp H.b_len rfl) (au (dE (ah (j:=45) (L:=L) (lay:=aM (L+1) (bk (cM 23)).names) he.comp (.free (L+19) "settings" rfl rfl rfl rfl rfl) (ab _ (ab _ h1)) (hS.get rfl))) aT) (mi (by refine aj (ak ..) ?_;exact aw (oa d) (by decide))))) dM dM) (pg (λh=>by exact gK h) (by refine aj (ak ..) ?_;exact aw (by assumption) (by decide)))) (by (refine aj (Bp (by rw [ak,ak];exact hJ.hl) ..) ?_;refine aj (ak ..) ?_;refine aj (Fg ..) ?_;rfl)))) BR)) (λx=>(ah (j:=1) he.comp .loc aa rfl)))) ?eq) (jJ.tail (jJ.keep ⟨rfl,rfl⟩))
 case eq=>refine congrArg V.list (congrArg _ (fz λo ho=>?_));have ho6:=((hF.iff w P3 o).mp ho).2.1;exact congrArg not (CA d8 (λc hc=>hJ.lt c (gn hc)) ho6)
noncomputable abbrev S27(ds:List Nat)(n6:Nat)(lx:ay)(S h:Nat->Nat)(F:Nat->List Nat)(d:Nat)(ws:List Nat):List (Nat×V):=(43,.list (PC (aF ds) ws))::S25 ds n6 lx S h F d
noncomputable abbrev QN(P:ib)(N:Int)(cs:List Nat)(L fd:ay)(NJ:cm)(tb:List zV)(vs:el)(mu:Mu)(_:Unit):Mu:=mj fd (eh NJ av)::cw L vs::((j6 P [] N cs).drop 1++(gG 304 tb::mu))
def uc.S0(k:Nat)(mu:Mu)(vs:el)(Θ:AF->Mu->Prop)(L W:ay)(ds:List Nat)(n6 d:Nat)(cs:List Nat)(pm doc:ai)(P:ib)(N:Int)(c0:ay)(_:Nat):Prop:=∀{K:fH} {S h:Nat->Nat} {F:Nat->List Nat} (H:Hy G) (LH:fN G K) (BH:yz K) (LL:SD G) (he:du (bT pm doc L)) (PO:mV P) (hS:Sv vs ((43,.ref W)::S25 ds n6 P.lx S h F d)) (hR:pn ds n6 18 cs) (hF:NF F (λc z=>z≠0/\z < 6/\Gx (dh ds) c z)) (next:∀vs cs' ws c',Sv vs (S27 ds n6 P.lx S h F d ws)->pn ds n6 19 cs'->ub (dh ds) (cz d) ws->WS (k+8) (cw L vs::(j6 P [] N cs'++(gG 304 [(273,49,c0,lz),(298,40,c',lz)]::mu))) (bT pm doc L) (je 28) Θ),WS (k+8) (bl W (PC (aF ds) (cz d))::cw L vs::(j6 P [] N cs++(gG 304 [(273,49,c0,lz)]::mu))) (bT pm doc L) (je 27) Θ
namespace uc
@[irreducible] def e0:=Fs eN gD gD ta cL cL gD eN eN gD gL gL IV Ra cL eN S0
def k_:=e0.1
def e9:=e0.2.1
def kR:=e0.2.2.1
def Θ_:=e0.2.2.2.1
def L_:=e0.2.2.2.2.1
def W_:=e0.2.2.2.2.2.1
def aV:=e0.2.2.2.2.2.2.1
def gO:=e0.2.2.2.2.2.2.2.1
def d_:=e0.2.2.2.2.2.2.2.2.1
def qP:=e0.2.2.2.2.2.2.2.2.2.1
def pj:=e0.2.2.2.2.2.2.2.2.2.2.1
def g8:=e0.2.2.2.2.2.2.2.2.2.2.2.1
def P_:=e0.2.2.2.2.2.2.2.2.2.2.2.2.1
def N_:=e0.2.2.2.2.2.2.2.2.2.2.2.2.2.1
def SK:=e0.2.2.2.2.2.2.2.2.2.2.2.2.2.2.1
theorem T0:S0 k_ e9 kR Θ_ L_ W_ aV gO d_ qP pj g8 P_ N_ SK e0.2.2.2.2.2.2.2.2.2.2.2.2.2.2.2:=by
 intro K S h F H LH BH LL he PO hS hR hF next
 have hf:∀{kR} {l:Mu} {a:cX},bq L_ (aM (L_+1) (bk (cM 23)).names) kR∈a::cw L_ kR::l:=ab _ aa;refine cq (H.f297.go) λob2 z z z r0 rd z=>aK (hR.tok O4) λcs' ht Ti=>aC (xU (MD (HK (ml (mn H he H.m_run rfl) r0 rd (cA (cf (ah (j:=21) he (.cell (L_+11) "lexer") hf (hS.get rfl)) (cA (cf (ah (j:=43) he (.cell (L_+17) "line") hf (hS.get rfl)) (cA (cf cO (cA (Ce (i:=9) he rfl LL.la H.B rfl rfl rfl rfl λfd c' ct=>e8 ?_))))))))))));have h00:(dh aV).getD 0 []=[]:=by
  refine aj (t8 (by decide) ..) (E9.mpr λc hc=>?_);refine aK (aG.mp ((nt _ _ _).mp hc).2) λq hq z=>?_;have h1:=bo.mp hq;have h2:=(qT q h1.1).2.1;have h3:q.2=0:=by simpa using h1.2
  lia
 show FW (k_+8) (mj fd (eh (tw L_ c' ct) av)::bl W_ (PC (aF aV) (cz d_))::cw L_ kR::(j6 P_ [] N_ qP++(gG 304 [(273,49,SK,lz),(298,40,c',lz)]::e9))) (.ref 297) [.ref P_.lx,.ref W_,.str "end",.ref fd] _;refine FW.to [1,2] ?_;show FW (k_+8) (bl W_ ((cz d_).map λb=>V.str (cB (aF aV+b)))::bl P_.pb []::QN P_ N_ qP L_ fd (tw L_ c' ct) [(273,49,SK,lz),(298,40,c',lz)] kR e9 ()) (.ref 297) [.ref P_.lx,.ref W_,.str "end",.ref fd] _;have RH:rW (k_+4) (λb=>cB (aF aV+b)) P_.lx P_.dx P_.pb W_ fd (tm (N_ - (qP.count 10:Nat)) (.ref P_.f) P_.pb) (eh (tw L_ c' ct) av) (tw L_ c' ct) (QN P_ N_ qP L_ fd (tw L_ c' ct) [(273,49,SK,lz),(298,40,c',lz)] kR e9) (Jm (cz d_).length F) (RJ (dh aV) (cz d_) F) (λc nu ws S=>c="end"/\nu=j6 P_ [] N_ cs'++(bl W_ (ws.map λb=>V.str (cB (aF aV+b)))::mj fd (eh (tw L_ c' ct) av)::cw L_ kR::gG 304 [(273,49,SK,lz),(298,40,c',lz)]::e9)):=⟨
  λS=>ao (i:=2) rfl,
  nN _ _ _,
  ab _ (ab _ (ab _ aa)),
  yP _ _ _,
  by show ("push_token":bb)∉(["lineno","instream","whitespace","pushback"]:List bb);decide,
  rfl,
  λS ws q=>Kn.obj (ao (i:=2) rfl),
  λm i ws S h=>⟨by have h1:=h.dl;have h2:=oa d_;rw [fY] at h1;lia,h.le⟩,
  λm i ws S w h hw=>((ML (k:=k_+2) H hS hF h hw (ao (i:=3) rfl) (ao (i:=2) rfl) (ao (i:=10) rfl) (ab _ aa) (ao (i:=0) rfl)).mono λy nu e=>⟨e.1,by (refine aj (e.2 ..) ?_;rfl)⟩),
  λm i ws S w h hw=>h.step hF hw,
  λm ws S h=>by
   refine FW.to [1,3,3,3,3,3,3] (FW.mono (FW.app (bl W_ (ws.map λb=>V.str (cB (aF aV+b)))::mj fd (eh (tw L_ c' ct) av)::cw L_ kR::gG 304 [(273,49,SK,lz),(298,40,c',lz)]::e9) (xI (k:=k_+2) H LH BH PO ht hR.len)) λy nu he=>?_);refine ef he λnu' e1 e2 e3=>?_;clear he;subst e1 e3;exact ⟨"end",by (refine aj (e2 ..) ?_;refine aj (Cn ..) ?_;rfl),rfl,rfl⟩⟩
 refine Qv (k:=k_+4) H LH RH (RJ.start Cz) λm ws S c nu hJ hf=>dU hf λe2 e3=>?_;clear hf;subst e2 e3;refine ⟨aI,by rfl,?_⟩;show WS (k_+8) _ (bT pj g8 L_) [] _;refine bC ?_;show WS (k_+8) (j6 P_ [] N_ cs'++(bl W_ (PC (aF aV) ws)::mj fd (eh (tw L_ c' ct) av)::cw L_ kR::gG 304 [(273,49,SK,lz),(298,40,c',lz)]::e9)) (bT pj g8 L_) (je 28) Θ_;refine WF.to [8] (WF.drop1 (WF.to [8,7] (WF.frzL (j:=43) (hS.get rfl) ?_)));exact next _ cs' ws c' ((hS.set (j:=43) (y:= .list (PC (aF aV) ws))).sub ⟨rfl,rfl,rfl,rfl,rfl,rfl,rfl,rfl,rfl,rfl,rfl,rfl,rfl,trivial⟩) Ti (hJ.fin hF h00 (by rfl) (oa d_))
end uc
theorem uc{pm doc:ai}{P:ib}{N:Int}{c0:ay}:uc.S0 k mu vs Θ L W ds n6 d cs pm doc P N c0 0:=by with_unfolding_all exact Au _ _ _ _ _ _ _ _ _ _ _ _ _ _ _ _ uc.S0 @uc.T0 k mu vs Θ L W ds n6 d cs pm doc P N c0 0
section
variable {S:List Nat}{W:List (List Nat)}{v:Nat}
noncomputable def HR(one other:List Nat):Bool:=((one.filter λhere=>decide (here∈other)).map λz=>V.int 1).isEmpty
noncomputable def rn(W:List (List Nat)):List V:=W.zipIdx.flatMap λq=>((W.take q.2).filter (HR q.1)).map λz=>V.int 1
theorem EL{u w:List Nat}:HR u w=aI↔Sy u w:=by delta HR Sy;refine gj (uu ..) ?_;refine gj (jc ..) ?_;refine gj (gY ..) ?_;simp
theorem PD:(!(rn W).isEmpty)=aI↔∃(i j:Nat) (u w:List Nat),j < i/\W[i]? =ae u/\W[j]? =ae w/\Sy u w:=by
 have e:(!(rn W).isEmpty)=aI↔∃x,x∈rn W:=by
  cases h:rn W with
  |nil=>simp
  |cons a l=>simp
 refine gj (e ..) ?_;delta rn;constructor
 ·intro dO;refine cJ dO λx hx=>?_;clear dO;refine aK (bG.mp hx) λq hq h=>aK (aG.mp h) λw hw z=>dU (bo.mp hw) λh1 h2=>cJ (iq.mp h1) λj hj=>?_;have PZ:=ql.mp hq;have Ur:j < q.2:=by
   have:=(aB.mp hj).1;rw [dR] at this;omega
  rw [NA Ur] at hj;exact ⟨q.2,j,q.1,w,Ur,PZ,hj,EL.mp h2⟩
 ·intro eT;refine tB eT λi j u w Ur hi hj hs=>?_;clear eT;exact ⟨V.int 1,bG.mpr ⟨(u,i),ql.mpr hi,aG.mpr ⟨w,bo.mpr ⟨iq.mpr ⟨j,by refine aj (NA Ur ..) ?_;exact hj⟩,EL.mpr hs⟩,rfl⟩⟩⟩
theorem Bq{P:Nat->Prop}:∀{w:List Nat},(∃c∈w,P c)->∃u y t,w=u++y::t/\P y/\∀c∈u,¬P c
 |[],h=>by obtain ⟨c,hc,_⟩:=h;exact eo hc
 |a::w,h=>by
  by_cases ha:P a
  ·exact ⟨[],a,w,rfl,ha,λc hc=>eo hc⟩
  ·obtain ⟨u,y,t,e,h1,h2⟩:=Bq (w:=w) (by
    refine aK h λc hc hp=>?_;rcases aP.mp hc with q|q
    ·exact absurd (q▸hp) ha
    ·exact ⟨c,q,hp⟩)
   exact ⟨a::u,y,t,by refine aj (e ..) ?_;rfl,h1,λc hc=>by
    rcases aP.mp hc with q|q
    ·refine aj (q ..) ?_;exact ha
    ·exact h2 c q⟩
structure Gr6(hs:List (List Nat)):Prop where
 ok:zX hs
 z:hs.getD 0 []=[]
 hr:∀y,y≠0->y < 6->∃w,wc hs y [0] w
theorem EM(g:Gr6 hs)(hn:¬iB hs S b)(nv:Je hs S b v){w:List Nat}(hw:wc hs b S w):v∈w:=by refine aK (hw.2) λd hd hdS=>cE (Bq (P:=zC hs S) ⟨d,df hd,.inl hdS⟩) λu y t e h1 h2=>?_;have hb:=hw.1.back;rw [e,show u++y::t=(u++[y])++t by simp,ei.append] at hb;have:=tv g.hr g.ok.lt hn nv hb.1 h1 h2;refine aj (e ..) ?_;refine fZ (this ..) ?_;exact bL _ aa
theorem MM(g:Gr6 hs)(h0:0∈S)(zp:b≠0)(Ae:b < 6)(nv:Je hs S b v)(hW:∀w,w∈W↔wc hs b S w):(!(rn W).isEmpty)=aI↔iB hs S b:=by
 refine gj (PD ..) ?_;constructor
 ·intro gi;refine tB gi λi j u w y hi hj hs=>?_;clear gi;exact bO λhn=>hs v (EM g hn nv ((hW u).mp (ao hi))) (EM g hn nv ((hW w).mp (ao hj)))
 ·intro hp;refine cC (nX h0 g.z g.ok.lt g.hr hp zp Ae) λu w hu hw hs=>cJ (iq.mp ((hW u).mpr hu)) λi hi=>cJ (iq.mp ((hW w).mpr hw)) λj hj=>?_;rcases sQ i j with h|h|h
  ·exact ⟨j,i,w,u,h,hj,hi,λz hz MX=>hs z MX hz⟩
  ·subst h;rw [hi] at hj
   (have lA:=aO hj;clear hj;subst lA)
   exact aK (hu.2) λd hd y=>absurd (df hd) (hs d (df hd))
  ·exact ⟨i,j,u,w,h,hi,hj,hs⟩
theorem PF{marks w:List Nat}(h:BW hs b marks w):∀u y,w=u++[y]->∀c∈u,c∉marks:=by
 induction h with
 |one _=>
  intro u y e c hc;cases u with
  |nil=>exact eo hc
  |cons a t=>simp at e
 |@ext w c d hw hl hm _ _ _ ih=>
  intro u y e a ha;have hu:u=w:=((List.append_inj' e rfl).1).symm;subst hu;refine cJ (J0.mp hl) λt ht=>?_;rw [ht] at ha;rcases bc.mp ha with h1|h1
  ·exact ih t c ht a h1
  ·refine aj (aA.mp h1 ..) ?_;exact hm
noncomputable def ks(w:List Nat):Nat:=w.getLast?.getD 0
theorem MN(g:Gr6 hs)(h0:0∈S)(nv:Je hs S b v){Ts:List Nat}(hm:∀x,x∈Ts↔zC hs S x)(hW:∀w,w∈W↔wc hs b Ts w):(!(W.filter λw=>ks w != v).isEmpty)=aI↔iB hs S b:=by
 have e:(!(W.filter λw=>ks w != v).isEmpty)=aI↔∃w∈W,ks w≠v:=by
  refine aj (CD ..) ?_;refine fZ (Bool.not_eq_true ..) ?_;refine gj (uu ..) ?_;refine gj (gY ..) ?_;constructor
  ·intro h;apply bO;intro hn;exact h λw hw=>by
    have:¬ks w≠v:=λq=>hn ⟨w,hw,q⟩;simpa using this
  ·intro iC h;refine aK iC λw hw h1=>?_;clear iC;exact h w hw (by simpa using h1)
 refine gj (e ..) ?_;constructor
 ·intro kG;refine aK kG λw hw hl=>?_;clear kG;refine mI ((hW w).mp hw) λM8 y hy hym=>cJ (J0.mp hy) λu ma=>?_;subst ma;refine bO λhn=>hl ?_;have:=tv g.hr g.ok.lt hn nv M8.back ((hm y).mp hym) λc hc h=>PF M8 u y rfl c hc ((hm c).mpr h);delta ks;(refine aj (hy ..) ?_;refine aj (this ..) ?_);rfl
 ·intro hp;refine ir (kq h0 g.ok.lt g.hr hp) λw y hw hy wz hu=>ef (k0 (marks:=Ts) hw ⟨y,by simp,(hm y).mpr hy⟩) λu M8 mE q9=>aK mE λc hc JV=>?_;clear mE;have hcy:c=y:=by
   rcases bc.mp (q9 c (df hc)) with h|h
   ·exact absurd ((hm c).mp JV) (hu c h)
   ·exact aA.mp h
  subst hcy;refine ⟨u,(hW u).mpr ⟨M8,c,hc,JV⟩,?_⟩;delta ks;refine aj (hc ..) ?_;rintro rfl;exact wz nv.sd
theorem Br{α β:Type}(W:List β):∀(l:List α) (s:Nat),2*((l.zipIdx s).flatMap λq=>W.take q.2).length<=l.length*(2*s+l.length)
 |[],s=>by exact gp _
 |a::l,s=>by
  have ih:=Br W l (s+1);refine aj (oy ..) ?_;refine aj (dG ..) ?_;refine aj (ba ..) ?_;refine aj (dR ..) ?_;refine aj (bK ..) ?_;have e:l.length*(2*(s+1)+l.length)=l.length*(2*s+(l.length+1))+l.length:=by refine aj (show 2*(s+1)+l.length=(2*s+(l.length+1))+1 by lia) ?_;refine aj (Nat.mul_succ ..) ?_;rfl
  rw [e] at ih;refine aj (iS ..) ?_;refine aj (xv ..) ?_;generalize l.length*(2*s+(l.length+1))=q at ih ⊢;lia
end
section
variable {v x:V}{p1 p2 p3:jX}
theorem SL{β:Type}{di:gV}{t u w:bb}{elt fb:bH}{oh:List bH}{bs:List β}{inj:β->V}{pp:β->Bool}{g:β->V}{kk:Nat}(i j l:Nat)(he:du di)(s1:Sl di C (aM (C+1) scope.names) t i)(s2:Sl di C (aM (C+1) scope.names) w j)(s3:Sl di C (aM (C+1) scope.names) u l)(hl:(((nones (aM (C+1) scope.names)).set i (ae v)).set j (ae x))[l]? =ae av)
 (src:pd k (RF scope C i j v x::mu) di fb (.Name u p2) [] (bs.map inj)) (h:∀b∈bs,xd k (nE scope C ((((nones (aM (C+1) scope.names)).set i (ae v)).set j (ae x)).set l (ae (inj b)))::mu) di oh (pp b)/\(pp b=aI->PE k (nE scope C ((((nones (aM (C+1) scope.names)).set i (ae v)).set j (ae x)).set l (ae (inj b)))::mu) di elt (g b)))
 (hf:autoParam ((di.kindOf t == ae .free)=aH) aR) (hf':autoParam ((di.kindOf u == ae .free)=aH) aR) (hf'':autoParam ((di.kindOf w == ae .free)=aH) aR):AD k mu scope C di (.Tuple [.Name t p1,.Name w p3] kk p) elt fb (.Name u p2) oh (.tup [v,x]) bs inj pp g:=
 ⟨_,[],xE he s1 s2 hf hf'',src,(λz h=>eo h),λb hb=>⟨_,qB he s3 hf',(h b hb).1,(h b hb).2,Le.unset hl⟩⟩
end
theorem Jn{α:Type}{as:List α}{n:Nat}(hn:n<=as.length):jq as av (ae (n:Int)) av=as.take n:=by
 have e:c7 av (ae (n:Int)) av as.length=(((0:Nat):Int),((0+n:Nat):Int),1):=by unfold c7;simp;lia
 unfold jq;refine aj (e ..) ?_;simp only;refine aj (pU ..) ?_;refine aj (pV ..) ?_;refine aj (fy ..) ?_;rfl
theorem Jo{xs:List V}(h:∀x∈xs,x=V.int 1):(ph xs).isSome=aI:=by
 have e:xs=xs.map λz=>V.int 1:=by
  conv=>lhs;rw [<- xA xs]
  exact b5 h
 rw [e];exact nk xs λz=>1
theorem Bs:∀l:List (List Nat),(ph (l.map wV)).isSome=aI
 |[]=>rfl
 |w::l=>by
  refine cJ (dI.mp (Bs l)) λa ha=>cJ (dI.mp (nk w λn=>(n:Int))) λb hb=>?_;have hb':ph (w.map nV)=ae b:=hb;simp [ph,KA,ha,hb']
noncomputable def lW(ws:List Nat):List Nat:=(aN 6).filter λb=>decide (b∈ws)
theorem MO(ws:List Nat):(lW ws).length<=6:=aw (bu _ _) (by decide)
noncomputable abbrev PG(ds:List Nat)(n6:Nat)(lx:ay)(S h:Nat->Nat)(F:Nat->List Nat)(d:Nat)(ws:List Nat):List (Nat×V):=(39,wV (lW ws))::S27 ds n6 lx S h F d ws
theorem SM(H:Hy G){pm doc:ai}(he:du (bT pm doc L))(hS:Sv vs (S27 ds n6 lx S h F d ws))(h6:∀c∈ws,c < 6)
 (next:∀vs,Sv vs (PG ds n6 lx S h F d ws)->WS (k+8) (cw L vs::mu) (bT pm doc L) (je 29) Θ):
 WS (k+8) (cw L vs::mu) (bT pm doc L) (je 28) Θ:=by
 have d8:=eI ds;have CV:∀c∈aN 6,c < 6:=λc hc=>aY.mp hc;have hf:∀{vs} {l:Mu},bq L (aM (L+1) (bk (cM 23)).names) vs∈cw L vs::l:=aa;refine aC (Qp (aN 6) nV (λb=>(ws.map λw=>cB (aF ds+w)).any (· == cB (aF ds+b))) nV ⟨rfl,rfl,by decide+kernel,by decide+kernel⟩ (fL (n:=6) (iN H he H.b_range rfl) aU rfl (by decide)) (by lia) (by decide) (λC1 a ha=>iu 1 he.comp .loc (fS (c9 (bF (dE (ah (j:=7) he.comp (.cell (L+6) "names") (ab _ hf) (hS.get rfl))) (ah (j:=1) he.comp .loc aa rfl) (ew (j:=a) (inj:=λb=>V.str (cB (aF ds+b))) (bz (CV a ha)) (by decide))) (dE (bM (ah (j:=43) he.comp (.cell (L+17) "line") (ab _ hf) (hS.get rfl)) (y:= .list ((ws.map λw=>cB (aF ds+w)).map .str)) (by refine aj (a0 ..) ?_;rfl))) FL)) (λz=>(ah (j:=1) he.comp .loc aa rfl))) rfl (λD=>?_));refine aj (show ((aN 6).filter λb=>(ws.map λw=>cB (aF ds+w)).any (· == cB (aF ds+b)))=lW ws from fz λb hb=>CA d8 h6 (CV b hb)) (fM.list (aQ (i:=0) (j:=39) he .loc rfl ?_));exact next _ (hS.set (j:=39) (y:=wV (lW ws)))
noncomputable abbrev S29(ds:List Nat)(n6:Nat)(lx:ay)(S h:Nat->Nat)(F:Nat->List Nat)(d:Nat)(ws:List Nat)(b c:Nat):List (Nat×V):=(8,.str (cB (aF ds+c)))::(40,.bool (!(rn (gJ (dh ds) b (cz d))).isEmpty))::(9,nV b)::PG ds n6 lx S h F d ws
theorem h00:(dh ds).getD 0 []=[]:=by
 refine aj (t8 (by decide) ..) (E9.mpr λc hc=>?_);refine aK (aG.mp ((nt _ _ _).mp hc).2) λq hq z=>?_;have h1:=bo.mp hq;have h2:=(qT q h1.1).2.1;have h3:q.2=0:=by simpa using h1.2
 lia
theorem gr6:Gr6 (dh ds):=⟨si,h00,qZ⟩
def zh.S0(k:Nat)(mu:Mu)(vs:el)(L lx:ay)(ds:List Nat)(n6 d:Nat)(S h:Nat->Nat)(F:Nat->List Nat)(ws:List Nat)(pm doc:ai)(b _:Nat):Prop:=∀{Θ:AF->Mu->Prop} (H:Hy G) (he:du (bT pm doc L)) (Ae:b < 6) (zp:b≠0) (Af:Sv vs ((9,nV b)::PG ds n6 lx S h F d ws)) (hT:sj (dh ds) S) (hh:∀b,b≠0->b < 6->pA (dh ds) b (h b)) (hL:ub (dh ds) (cz d) ws) (next:∀vs c,Sv vs (S29 ds n6 lx S h F d ws b c)->c < 6->Je (dh ds) (cz d) b c->WS (k+8) (cw L vs::mu) (bT pm doc L) ((HO ((fR (cM 23)).getD 29 (.Pass ⟨0,0,0,0⟩))).drop 4) Θ),WS (k+8) (cw L vs::mu) (bT pm doc L) (HO ((fR (cM 23)).getD 29 (.Pass ⟨0,0,0,0⟩))) Θ
namespace zh
@[irreducible] def e0:=Fs eN gD gD cL cL gD eN eN inferInstance inferInstance inferInstance gD gL gL eN eN S0
def k_:=e0.1
def e9:=e0.2.1
def kR:=e0.2.2.1
def L_:=e0.2.2.2.1
def zc:=e0.2.2.2.2.1
def aV:=e0.2.2.2.2.2.1
def gO:=e0.2.2.2.2.2.2.1
def d_:=e0.2.2.2.2.2.2.2.1
def S_:=e0.2.2.2.2.2.2.2.2.1
def h_:=e0.2.2.2.2.2.2.2.2.2.1
def F_:=e0.2.2.2.2.2.2.2.2.2.2.1
def qK:=e0.2.2.2.2.2.2.2.2.2.2.2.1
def pj:=e0.2.2.2.2.2.2.2.2.2.2.2.2.1
def g8:=e0.2.2.2.2.2.2.2.2.2.2.2.2.2.1
def b_:=e0.2.2.2.2.2.2.2.2.2.2.2.2.2.2.1
theorem T0:S0 k_ e9 kR L_ zc aV gO d_ S_ h_ F_ qK pj g8 b_ e0.2.2.2.2.2.2.2.2.2.2.2.2.2.2.2:=by
 intro Θ H he Ae zp Af hT hh hL next
 have d8:=eI aV;have hf:∀{kR} {l:Mu},bq L_ (aM (L_+1) (bk (cM 23)).names) kR∈cw L_ kR::l:=aa;refine cq (H.f290.go) λob z z z h0 hd z=>dU (r8 (block:=b_) (marks:=cz d_) (si (ds:=aV))) λQZ hW=>aC (bX (y:= .list ((gJ (dh aV) b_ (cz d_)).map wV)) (ju (ys:=[.list ((dh aV).map wV),nV b_,wV (cz d_)]) (mn H he H.m_back rfl) h0 hd (au (ah (j:=32) he .loc hf (Af.get rfl)) (au (ah (j:=9) he (.cell (L_+8) "block") hf (Af.get rfl)) (au (ah (j:=45) he (.cell (L_+19) "settings") hf (Af.get rfl)) aT))) (nc (k:=k_+6) H si Ae (aw (oa d_) (by decide)))) (aQ (i:=0) (j:=36) he (.cell (L_+14) "ways") rfl ?_) rfl rfl);have hS1:Sv _ ((36,.list ((gJ (dh aV) b_ (cz d_)).map wV))::(9,nV b_)::PG aV gO zc S_ h_ F_ d_ qK):=Af.set (j:=36) (y:= .list ((gJ (dh aV) b_ (cz d_)).map wV));generalize kR.set 36 (ae (.list ((gJ (dh aV) b_ (cz d_)).map wV)))=NN at hS1 ⊢;show WS (k_+8) (cw L_ NN::e9) _ _ _;have hsz:((gJ (dh aV) b_ (cz d_)).zipIdx.flatMap λq=>(gJ (dh aV) b_ (cz d_)).take q.2).length<=2 ^ 21:=by have h1:=Br (gJ (dh aV) b_ (cz d_)) (gJ (dh aV) b_ (cz d_)) 0;have h2:=JL QZ (show 2*0+(gJ (dh aV) b_ (cz d_)).length<=2000 by lia);lia
 have hqi:∀q∈(gJ (dh aV) b_ (cz d_)).zipIdx,q.2<=(gJ (dh aV) b_ (cz d_)).length:=λq hq=>by
  have:=List.mem_zipIdx hq;lia
 have Js:∀q∈(gJ (dh aV) b_ (cz d_)).zipIdx,q.1.length<=2 ^ 21:=λq hq=>by
  have h1:=ao (ql.mp hq);have ok:=((hW q.1).mp h1).1.ok si;exact aw (ez ok.nd ok.lt) (by decide)
 refine aC (bX (y:= .bool (!(rn (gJ (dh aV) b_ (cz d_))).isEmpty)) (mJ (Kt (gJ (dh aV) b_ (cz d_)).zipIdx (λq=>V.tup [.int (q.2:Nat),wV q.1]) (λq=>(gJ (dh aV) b_ (cz d_)).take q.2) wV (λq=>HR q.1) (λz z=>V.int 1) ⟨rfl,rfl,by decide+kernel,by decide+kernel⟩ (sD (iN H he H.b_enumerate rfl) (ah (j:=36) he (.cell (L_+14) "ways") hf (hS1.get rfl))) (by lia) hsz (λC2 q hq=>SL 1 2 3 he.comp .loc .loc (.cell (C2+1) "other") rfl (dA (bM (bF (dE (ah (j:=36) he.comp (.cell (L_+14) "ways") (ab _ hf) (hS1.get rfl))) (jo dM (eO (ah (j:=1) he.comp .loc aa rfl)) dM) (pg (λh_=>by exact gK h_) (by refine aj (ak ..) ?_;exact aw QZ (by decide)))) (by (refine aj (jr ..) ?_;refine aj (Jn (hqi q hq) ..) ?_;rfl)))) (λw hw=>⟨fS (c9 (nF q.1 nV (λa=>decide (a∈w)) (λz=>V.int 1) ⟨rfl,rfl,by decide+kernel,by decide+kernel⟩ (dA (ah (j:=2) he.comp .loc aa rfl)) (by lia) (Js q hq) (λC3 a ha=>iu 1 he.comp.comp .loc (fS (c9 (ah (j:=1) he.comp.comp .loc aa rfl) (dE (ah (j:=3) he.comp.comp (.cell (C2+1) "other") (ab _ aa) rfl)) KJ)) (λz=>aU))) (ij (xs:=[]) aT (bg rfl)) (FK (nk _ _))),λz=>aU⟩))) (ij (xs:=[]) aT (bg rfl)) (BQ (Jo λx hx=>?ones))) (aQ (i:=0) (j:=40) he .loc rfl ?_) rfl rfl)
 case ones=>exact aK (bG.mp hx) λq z h_=>aK (aG.mp h_) λw z h_=>h_.symm
 have hS2:Sv _ ((40,.bool (!(rn (gJ (dh aV) b_ (cz d_))).isEmpty))::(9,nV b_)::PG aV gO zc S_ h_ F_ d_ qK):=(hS1.set (j:=40) (y:= .bool (!(rn (gJ (dh aV) b_ (cz d_))).isEmpty))).sub ⟨rfl,rfl,rfl,rfl,rfl,rfl,rfl,rfl,rfl,rfl,rfl,rfl,rfl,rfl,rfl,rfl,trivial⟩;generalize NN.set 40 (ae (.bool (!(rn (gJ (dh aV) b_ (cz d_))).isEmpty)))=vs2 at hS2 ⊢;show WS (k_+8) (cw L_ vs2::e9) _ _ _;have ho:=hh b_ zp Ae;refine aC (bX (y:= .str (cB (aF aV+h_ b_))) (bF (pN (ah (j:=33) he .loc hf (hS2.get rfl))) (bF (dE (ah (j:=7) he (.cell (L_+6) "names") hf (hS2.get rfl))) (ah (j:=9) he (.cell (L_+8) "block") hf (hS2.get rfl)) (ew (j:=b_) (inj:=λb_=>V.str (cB (aF aV+b_))) (bz Ae) (by decide))) (mh (gb d8 PA (Pz _ Ae zp)))) (aQ (i:=0) (j:=8) he (.cell (L_+7) "name") rfl ?_) rfl rfl);have hS3:Sv _ (S29 aV gO zc S_ h_ F_ d_ qK b_ (h_ b_)):=hS2.set (j:=8) (y:= .str (cB (aF aV+h_ b_)));refine aC (xV (λn nu=>∃kR c,nu=cw L_ kR::e9/\Sv kR (S29 aV gO zc S_ h_ F_ d_ qK b_ c)/\c < 6/\wq (dh aV) b_ c/\(∀y,zC (dh aV) (cz d_) y->wq (dh aV) b_ y->gI (dh aV) c y)/\n=(eY (S_ c)).length) (eY (S_ (h_ b_))).length ⟨_,h_ b_,rfl,hS3,ho.lt,ho.sd,λy hy hd=>ho.near y (hL.lt y ((hL.mem y).mpr hy)) hd,rfl⟩ ?_);intro n nu dO;refine xP dO λkR c eT hS ug GN hnr gi=>?_;clear dO;subst eT;subst gi;refine PT.wt (c9 (ah (j:=8) he (.cell (L_+7) "name") hf (hS.get rfl)) (dE (bM (ah (j:=43) he (.cell (L_+17) "line") hf (hS.get rfl)) (y:= .list ((qK.map λw=>cB (aF aV+w)).map .str)) (by refine aj (a0 ..) ?_;rfl))) BR) ?_;refine aj (CA d8 hL.lt ug ..) ?_;by_cases hc:c∈qK
 ·exact aj (decide_eq_true hc ..) (bC (next _ c hS ug ⟨(hL.mem c).mp hc,GN,hnr⟩))
 ·refine aj (decide_eq_false hc ..) ?_;have zE:c≠0:=by
   rintro rfl;exact hc ((hL.mem 0).mpr (.inl (GD d_)))
  have zr:=hh c zE ug;show WS (k_+8) (cw L_ kR::e9) (bT pj g8 L_) _ _;refine aC (bX (y:= .str (cB (aF aV+h_ c))) (bF (pN (ah (j:=33) he .loc hf (hS.get rfl))) (ah (j:=8) he (.cell (L_+7) "name") hf (hS.get rfl)) (mh (gb d8 PA (Pz _ ug zE)))) (aQ (i:=0) (j:=8) he (.cell (L_+7) "name") rfl ?_) rfl rfl);refine bC ⟨_,Bo hT hh ug zE,_,h_ c,rfl,(hS.set (j:=8) (y:= .str (cB (aF aV+h_ c)))).sub ⟨rfl,rfl,rfl,rfl,rfl,rfl,rfl,rfl,rfl,rfl,rfl,rfl,rfl,rfl,rfl,rfl,rfl,trivial⟩,zr.lt,⟨gI.trans zr.sd.1 GN.1,λe=>?_⟩,λy hy hd=>zr.near y (hL.lt y ((hL.mem y).mpr hy)) ⟨hnr y hy hd,λe=>hc ((hL.mem c).mpr (e▸hy))⟩,rfl⟩;have h1:gI (dh aV) c b_:=e▸zr.sd.1;exact GN.2 (gI.antiH qZ Ae GN.1 h1)
end zh
theorem zh{pm doc:ai}{b:Nat}:zh.S0 k mu vs L lx ds n6 d S h F ws pm doc b 0:=by with_unfolding_all exact Au _ _ _ _ _ _ _ _ _ _ _ _ _ _ _ _ zh.S0 @zh.T0 k mu vs L lx ds n6 d S h F ws pm doc b 0
theorem b29_b(H:Hy G){pm doc:ai}(he:du (bT pm doc L)){b c:Nat}(Ae:b < 6)(zp:b≠0)(ug:c < 6)(hS3:Sv vs (S29 ds n6 lx S h F d ws b c))(hL:ub (dh ds) (cz d) ws)(nv:Je (dh ds) (cz d) b c)
 (next:WS (k+8) (cw L vs::mu) (bT pm doc L) [] Θ):
 WS (k+8) (cw L vs::mu) (bT pm doc L) ((HO ((fR (cM 23)).getD 29 (.Pass ⟨0,0,0,0⟩))).drop 4) Θ:=by
 have d8:=eI ds;have hf:∀{vs} {l:Mu},bq L (aM (L+1) (bk (cM 23)).names) vs∈cw L vs::l:=aa;refine cq (H.f290.go) λob z z z h0 hd z=>dU (r8 (block:=b) (marks:=cz d) (si (ds:=ds))) λQZ hW=>dU (r8 (block:=b) (marks:=lW ws) (si (ds:=ds))) λhW2l hW2=>?_;have hmm:∀x,x∈lW ws↔zC (dh ds) (cz d) x:=λx=>by
  refine rwj (hL.mem x ..) ?_;unfold lW;refine gj (bo ..) ?_;refine gj (aY ..) ?_;refine aj (decide_eq_true_eq ..) ?_;exact ⟨λh=>h.2,λh=>⟨hL.lt x h,h⟩⟩
 have Bx:∀w∈gJ (dh ds) b (lW ws),w.getLast? =ae (ks w)/\ks w < 6/\w.length < 2 ^ 60:=λw hw=>by
  refine mI ((hW2 w).mp hw) λh1 y hy z=>?_;have ok:=h1.ok si;have e:ks w=y:=by unfold ks;refine aj (hy ..) ?_;rfl
  exact ⟨by (refine aj (hy ..) ?_;refine aj (e ..) ?_;rfl),e▸ok.lt y (df hy),b7 (ez ok.nd ok.lt) (by decide)⟩
 have m1:(!(rn (gJ (dh ds) b (cz d))).isEmpty)=decide (b∈ws.drop (cz d).length):=by rw [cj,MM gr6 (GD d) zp Ae nv hW,decide_eq_true_eq];exact (hL.iff b).symm
 have m2:(((ws.drop (cz d).length).map λw=>cB (aF ds+w)).any (· == cB (aF ds+b)))=decide (b∈ws.drop (cz d).length):=by rw [CA d8 (λc hc=>hL.lt c (gn hc)) Ae]
 have m3:(!((((gJ (dh ds) b (lW ws)).filter λw=>cB (aF ds+ks w) != cB (aF ds+c)).map wV).isEmpty))=decide (b∈ws.drop (cz d).length):=by rw [List.isEmpty_map,cj,decide_eq_true_eq,hL.iff b,<- MN gr6 (GD d) nv hmm hW2];rw [show ((gJ (dh ds) b (lW ws)).filter λw=>cB (aF ds+ks w) != cB (aF ds+c))=(gJ (dh ds) b (lW ws)).filter λw=>ks w != c from fz λw hw=>congrArg not (rU d8 (Bx w hw).2.1 ug)]
 have Fg:(PC (aF ds) ws).drop (cz d).length=((ws.drop (cz d).length).map λw=>cB (aF ds+w)).map .str:=by rw [a0,Nx];rfl
 have hsl:(cz d).length<=ws.length:=by have h1:=congrArg kM hL.pre;rw [dR] at h1;omega
 refine aC (iY (b:=(decide (b∈ws.drop (cz d).length) != decide (b∈ws.drop (cz d).length)) || ((decide (b∈ws.drop (cz d).length) != decide (b∈ws.drop (cz d).length)) || false)) (oM (iM ?t1 λz=>iM ?t2 λz=>jn)) (λh=>by simp at h) λz=>bC next)
 case t1=>exact c9 (bM (ah (j:=40) he .loc hf (hS3.get rfl)) (congrArg V.bool m1)) (bM (mJ (bF (dE (ah (j:=7) he (.cell (L+6) "names") hf (hS3.get rfl))) (ah (j:=9) he (.cell (L+8) "block") hf (hS3.get rfl)) (ew (j:=b) (inj:=λb=>V.str (cB (aF ds+b))) (bz Ae) (by decide))) (dE (bM (bF (dE (ah (j:=43) he (.cell (L+17) "line") hf (hS3.get rfl))) (jo (eO (ej (j4 H he H.b_len rfl) (au (dE (ah (j:=45) he (.cell (L+19) "settings") hf (hS3.get rfl))) aT) (mi (by rw [ak];exact aw (oa d) (by decide))))) dM dM) (pg (λh=>by exact gK h) (by rw [ak];exact aw hL.len (by decide)))) (by rw [Bp (by rw [ak,ak];exact hsl),ak,Fg]))) FL) (congrArg V.bool m2)) Ki
 case t2=>exact c9 (bM (ah (j:=40) he .loc hf (hS3.get rfl)) (congrArg V.bool m1)) (bM (mJ (nF (gJ (dh ds) b (lW ws)) wV (λw=>cB (aF ds+ks w) != cB (aF ds+c)) wV ⟨rfl,rfl,by decide+kernel,by decide+kernel⟩ (dA (ju (ys:=[.list ((dh ds).map wV),nV b,wV (lW ws)]) (mn H he H.m_back rfl) h0 hd (au (ah (j:=32) he .loc hf (hS3.get rfl)) (au (ah (j:=9) he (.cell (L+8) "block") hf (hS3.get rfl)) (au (ah (j:=39) he .loc hf (hS3.get rfl)) aT))) (nc (k:=k+6) H si Ae (aw (MO ws) (by decide))))) (by lia) (aw hW2l (by decide)) (λC4 w hw=>iu 1 he.comp .loc (fS (c9 (bF (dE (ah (j:=7) he.comp (.cell (L+6) "names") (ab _ hf) (hS3.get rfl))) (bF (dE (ah (j:=1) he.comp .loc aa rfl)) (o8 aU) (xF (inj:=nV) (Bx w hw).1 (Bx w hw).2.2)) (ew (j:=(ks w)) (inj:=λb=>V.str (cB (aF ds+b))) (bz (Bx w hw).2.1) (by decide))) (ah (j:=8) he.comp (.cell (L+7) "name") (ab _ hf) (hS3.get rfl)) tC)) (λz=>ah (j:=1) he.comp .loc aa rfl))) (ij (xs:=[]) aT (bg rfl)) (BQ (Bs _))) (congrArg V.bool m3)) Ki
theorem SN(H:Hy G){pm doc:ai}(he:du (bT pm doc L))(Af:Sv vs (PG ds n6 lx S h F d ws))(hT:sj (dh ds) S)(hh:∀b,b≠0->b < 6->pA (dh ds) b (h b))(hL:ub (dh ds) (cz d) ws)
 (next:∀vs,Sv vs (PG ds n6 lx S h F d ws)->WS (k+8) (cw L vs::mu) (bT pm doc L) (je 30) Θ):
 WS (k+8) (cw L vs::mu) (bT pm doc L) (je 29) Θ:=by
 refine aC (jN (ctx:=[]) (xs:=[1,2,3,4,5].map nV) (λi nu=>∃vs,nu=cw L vs::mu/\Sv vs (PG ds n6 lx S h F d ws)) (pT (qx (iN H he H.b_range rfl) aU aU (by decide) (by decide)) rfl) (by lia) ⟨vs,rfl,Af⟩ (λi nu h o ho=>(eo ho)) ?step ?fin)
 case step=>intro i y nu hy iC;refine aK iC λvs kG hS=>?_;clear iC;subst kG;rw [aJ] at hy;refine aK (aL.mp hy) λb hb ma=>?_;subst ma;have zF:=ao hb;have Ae:b < 6:=(by decide:∀b∈[1,2,3,4,5],b < 6) b zF;have zp:b≠0:=(by decide:∀b∈[1,2,3,4,5],b≠0) b zF;refine aQ (i:=0) (j:=9) he (.cell (L+8) "block") rfl (zh H he Ae zp (hS.set (j:=9) (y:=nV b)) hT hh hL λvs c hS3 ug nv=>?_);refine b29_b H he Ae zp ug hS3 hL nv (bC ⟨_,rfl,hS3.sub ⟨rfl,rfl,rfl,rfl,rfl,rfl,rfl,rfl,rfl,rfl,rfl,rfl,rfl,rfl,trivial⟩⟩)
 case fin=>intro nu mE;refine aK mE λvs q8 hS=>?_;clear mE;subst q8;exact bC (next _ hS)
section
variable {Ψ:V->Mu->Prop}
theorem PH(h1:WE k mu env x λv nu=>v= .bool aI/\WE k nu env y Ψ):WE k mu env (.BoolOp .And [x,y] pos) Ψ:=⟨λ{z z z z z z} hA r q=>wpAny_And2 (h1.c hA r λ{z z z z z} z1 q1 r1 w=>(aZ.boolE (w.1▸q1))▸eU (w.2.c hA r1 λ{z z z z z} z2=>q (z1.trans z2)))⟩
theorem Bt(c:Nat):∀l:List Nat,cnt c l=((l.count c:Nat):Int)
 |[]=>by rw [cnt_nil];rfl
 |a::l=>by
  rw [cnt_cons,Bt c l,List.count_cons];by_cases h:a=c
  ·simp [h];lia
  ·simp [h]
theorem SO(H:Hy G)(LH:fN G K)(BH:yz K){pm doc:ai}(he:du (bT pm doc L)){P:ib}(PO:mV P)(hS:Sv vs (PG ds n6 P.lx S h F d ws))(hR:pn ds n6 19 cs)
 (next:Θ (.ret (.bool aI)) (cw L vs::(yy P [] (1+((g9 ds n6).cps.toList.count 10:Nat)) av++mu))):
 WS (k+8) (cw L vs::(j6 P [] (1+((g9 ds n6).cps.toList.count 10:Nat)) cs++mu)) (bT pm doc L) (je 30) Θ:=by
 have hf:∀{vs} {l:Mu},bq L (aM (L+1) (bk (cM 23)).names) vs∈cw L vs::l:=aa;refine cq (LH.f207.go) λog z z z g0 gd z=>aC (gw (PH (Hr (pR LH.KO LH.m_get (ah (j:=21) he (.cell (L+11) "lexer") hf (hS.get rfl)) (ao (i:=2) rfl) (yP _ _ _) g0 gd (FW.mono (FW.cons _ (FW.app mu (LK (k:=k+3) H LH BH PO hR.end_))) λy nu ⟨ru,e1,ue,e2,e3,e4⟩=>?_)))));subst e1 e2 e3 e4;refine ⟨bZ (.str ""),aI,cO,rC,rfl,?_⟩;refine cf (mJ (oS LH.KO LH.p_line (ah (j:=21) he (.cell (L+11) "lexer") hf (hS.get rfl)) (ao (i:=2) rfl) (nN _ _ _) (y:= .int (1+((g9 ds n6).cps.toList.count 10:Nat))) (.head _) (λn e=>by cases e)) (br aU (f7 (ah (j:=20) he .loc hf (hS.get rfl)) mL (au cO aT) rK PySem.F.plainAttrs_str PySem.F.slot_str_count PySem.F.type_str_count rfl) fC) qv) ?_;have e:Np (g9 ds n6) "\n"=(((g9 ds n6).cps.toList.count 10:Nat):Int):=by show Np (g9 ds n6) ⟨#[10]⟩=_;rw [count_cnt,Bt]
 rw [e,beq_self_eq_true];exact next
end
theorem MP(sc:List Int):∃(ds:List Nat) (n6:Nat),Dr ds (jQ sc) n6/\(uZ (jQ sc)).map V.int=ds.map nV:=by
 have hb:∀n∈jQ sc,0<=n/\n < 12960000:=λn hn=>by
  refine aK (aG.mp hn) λq z dO=>?_;subst dO;unfold LP;lia
 have hl:(jQ sc).length=7:=by unfold jQ;rw [ak];rfl
 obtain ⟨n,hn⟩:∃n,(jQ sc)[6]? =ae n:=⟨_,bJ (by rw [hl];decide)⟩;have h6:=hb n (ao hn);refine ⟨(jQ sc).flatMap λn=>(aN 4).map λp=>n.toNat / 60 ^ p % 60,n.toNat,⟨?_,?_,hl,?_,?_⟩,?_⟩
 ·rw [List.length_flatMap];simp only [ak,fq];rw [List.map_const',hl];rfl
 ·intro d hd;refine aK (bG.mp hd) λm z h=>aK (aG.mp h) λp z eT=>?_;subst eT;exact ee _ (by decide)
 ·rw [hn,Int.toNat_of_nonneg h6.1]
 ·lia
 ·unfold uZ;rw [uw,uw];rw [List.flatMap_def,List.flatMap_def];refine congrArg List.flatten (b5 λm hm=>?_);rw [a0,a0];refine b5 λp z=>?_;have h0:=(hb m hm).1;refine cJ (Int.eq_ofNat_of_zero_le h0) λa gi=>?_;subst gi;show V.int ((a:Int) / 60 ^ p % 60)=V.int (((a:Int).toNat / 60 ^ p % 60:Nat));rw [b8]
  push_cast
  rfl
section
variable {Φ:V->Mu->Prop}
structure PJ(G:Gd)(K:fH):Prop where
 H:Hy G
 LH:fN G K
 NH:uT K
 GH:Lv G
 BH:yz K
 EH:gN G K
 TH:sa G K
 QH:QE K
 IH:ItH K
 LL:SD G
 f307:DY G 307 306 (cM 23)
theorem PK(X:PJ G K){pm doc:ai}{L:ay}{vs:el}(he:du (bT pm doc L))(hk:vZ (bT pm doc L)){sc:List Int}(Uq:sc.length<=63)(hS:Sv vs [(0,.list (sc.map .int))])
 (fin:∀nu l1 l2,gG 272 l1∈nu->gG 304 l2∈nu->Φ (.bool aI) nu):
 ym (k+8) (cw L vs::gG 272 []::gG 304 []::mu) (bT pm doc L) (fR (cM 23)) (lE Φ):=by
 refine eD (MP sc) λds n6 hD Uy=>?_;rw [I4];refine O6 (law_0 X.H he Uq hS λvs hS=>?_);have hS:Sv vs [(4,.list (ds.map nV)),(3,.list ((jQ sc).map .int))]:=by rw [<- Uy];exact hS.sub ⟨rfl,rfl,trivial⟩
 refine yC X.H he hD hS λvs hS=>yE X.H he hD hS λvs A hS=>yI X.H he hD hS λvs Oc Du hS=>yN X.H he hD hS λvs Sg hS=>WF.to [0,0,0,0,1,1] (tV X.H X.LH X.NH X.GH he hD hS λvs P PO hP hS=>?_);refine Sh X.H he hS λvs Bk hS=>tW X.H X.LH X.BH he PO hS (by have h:=pn.start (ds:=ds) (n6:=n6);exact h) (ab _ aa) λvs cs hS hR hB=>?_;refine bC ?_;show ym (k+8) _ (bT pm doc L) (je 15) (lE Φ);refine tX X.H X.LH X.BH X.GH X.EH he hk hD PO hS hR λvs cs hS hR=>Ss (N:=0) (cs:=cs) (B:=B0) X.H X.EH X.TH he hS λvs hS=>t5 X.H X.EH X.QH X.GH he hk hS λvs hS=>t7 X.H X.EH X.QH X.IH he hD hS hB λvs hS hB=>WF.f (Sw X.H he hS λvs hS=>?_);refine Sx X.H he hS λvs T hS=>SE X.H X.LH X.BH X.LL he PO hS hR hB λvs cs S c' hS hR hT=>SG X.H X.LH X.NH he hS λvs Hm Nt cx dc hS=>t9 X.H X.LH he hS hT λvs h hS hh=>ua X.H he hS hT hh λvs F hS hF=>SJ X.H he (by rw [hD.len];decide) (hD.at (i:=25) (by decide)) hS λvs W hS=>?_;exact uc X.H X.LH X.BH X.LL he PO hS hR hF λvs cs ws c2 hS hR hL=>SM X.H he hS hL.lt λvs hS=>SN X.H he hS hT hh hL λvs hS=>SO X.H X.LH X.BH he PO hS hR (jJ.keep (fin _ (zW (ae (P.a,P.b))) [(273,49,c',lz),(298,40,c2,lz)] (ao (i:=7) rfl) (ao (i:=8) rfl)))
end
end
section
variable {G:Gd}{K:fH}{a c:ay}{st:d6}{q:bb}
theorem vf{o:o6}(h:K.lookup a=ae o):BD K a=o:=by delta BD;refine aj (h ..) ?_;rfl
theorem wx{cd:ai}{h:dH}(hK:K.In h)(e:i6 K cd q=aI):h.CodeRec cd q:=by
 refine Heap.CodeRec.of_ok ?_;cases cd with
 |ref c=>refine dU (cn.mp e) λe1 e2=>cJ (dI.mp e2) λo ho=>?_;rw [vf ho] at e1;delta Heap.codeRecOk;dsimp only;exact aj (hK c o ho ..) e1
 |_=>exact vL e
structure Uc(G:Gd)(K:fH):Prop where
 at':∀a o,K.lookup a=ae o->G.Z0 a=ae o
theorem Uc.ko(f:Uc G K):FX G K:=⟨λh hz a o e=>hz a o (f.at' a o e)⟩
theorem MQ{fd:cm}(h:xc K a=ae (.func fd)):∃o,K.lookup a=ae o/\o.data= .func {fd with pyModule:=pmIn K a,doc:=dcIn K a}:=by
 unfold xc at h;refine aK (aL.mp h) λo ho e=>⟨o,ho,?_⟩
 delta pmIn dcIn;refine aj (vf ho ..) ?_;cases hd:o.data with
 |func f=>
  rw [hd] at e;injection e with e
  refine fZ (e ..) ?_;rfl
 |_=>rw [hd] at e;cases e
theorem FnK.isC(h1:xc K a=ae (.func (mz (md st) (wJ st) (fR st) (bk st) .none (.ref c) .none)))(h3:i6 K (.ref c) (md st)=aI)(f:Uc G K):DY G a c st:=by exact aK (MQ h1) λo ho e=>⟨o,_,_,f.at' _ _ ho,e,λh hz=>wx (f.ko.inn h hz) h3⟩
theorem FnK.f(h1:xc K a=ae (.func (mz (md st) (wJ st) (fR st) (bk st) .none (.ref c) .none)))(h3:i6 K (.ref c) (md st)=aI)(f:Uc G K):rL G a st:=by exact cE ((FnK.isC h1 h3 f).go) λo pm doc h1 h2 h3=>⟨o,pm,_,doc,h1,h2,h3⟩
theorem MeK.f(h1:xc K a=ae (.func (Av st q .none (.ref c) .none)))(h3:i6 K (.ref c) q=aI)(f:Uc G K):nH G a st q:=by exact aK (MQ h1) λo ho e=>⟨o,_,_,_,f.at' _ _ ho,e,λh hz=>wx (f.ko.inn h hz) h3⟩
noncomputable def flK:Nat->List bb->List (Int×ai)
 |_,[]=>[]
 |i,n::l=>((2:Int) ^ i,.str n (254+2*i))::flK (i+1) l
theorem EN{prog:dB}{w:d9}:∀(l:List bb) (i:Nat),Pairs (lu prog w) (TX i l) (flK i l)
 |[],_=> .nil
 |n::l,i=> .cons (by show ((2:Int) ^ i == 2 ^ i)=aI;simp) rfl (EN l (i+1))
noncomputable def epIn(K:fH)(a:ay):Nat:=match (BD K a).data with| .dict _ n=>n|_=>0
end
section
variable {w:d9}{s:aq}{mg mb:bb->Option ai}
theorem zi{α β:Type}{f g:α->β}{l:List α}(h:l.map f=l.map g):∀{i:Nat} {a:α},l[i]? =ae a->f a=g a:=λ{i a} hi=>by
 have:=congrArg (λl=>l[i]?) h;simp only [aJ,hi,GP] at this;exact aO this
structure eJ(K:fH)(w:d9)(s:aq)(mg:bb->Option ai):Prop where
 fit:Uc (hG w s mg) K
 mgK:∀x,mg x=BE K x
 B:g7 (hG w s mg)
 bt:∀h:dH,(∀a o,(hG w s mg).Z0 a=ae o->h.get? a=ae o)->∀Pl,Pl≠4->h.BuiltinsAt mg Pl
 ob:Fu K=N4
variable {K:fH}
theorem eJ.A(F:eJ K w s mg):oA K=vA:=congrArg (·.1) F.ob
theorem eJ.O(F:eJ K w s mg):oB K=vB:=congrArg (·.2.1) F.ob
theorem eJ.C(F:eJ K w s mg):oC K=vC:=congrArg (·.2.2.1) F.ob
theorem eJ.D(F:eJ K w s mg):oD K=vD:=congrArg (·.2.2.2.1) F.ob
theorem eJ.E(F:eJ K w s mg):oE K=vE:=oE_eq▸(congrArg (·.2.2.2.2.1) F.ob)
theorem eJ.V(F:eJ K w s mg):oF K=vF:=congrArg (·.2.2.2.2.2) F.ob
theorem eJ.A1(F:eJ K w s mg):(Rc.map λq=>(xc K q.1,i6 K (.ref q.2.1) (md q.2.2)))=Rc.map λq=>(ae (Ng (mz (md q.2.2) (wJ q.2.2) (fR q.2.2) (bk q.2.2) .none (.ref q.2.1) .none)),aI):=congrArg (·.1) F.A
theorem eJ.A2(F:eJ K w s mg):(meL.map λq=>(xc K q.1,i6 K (.ref q.2.1) q.2.2.2))=meL.map λq=>(ae (Ng (Av q.2.2.1 q.2.2.2 .none (.ref q.2.1) .none)),aI):=congrArg (·.2.1) F.A
theorem eJ.A3(F:eJ K w s mg):(Rd.map λq=>BE K q.1)=Rd.map λq=>ae (cY q.2):=congrArg (·.2.2.1) F.A
theorem eJ.A4(F:eJ K w s mg):(mnL.map (BE K))=mnL.map λz=>(av:Option ai):=congrArg (·.2.2.2) F.A
theorem eJ.fn(F:eJ K w s mg)(i:Nat){q:ay×ay×d6}(hi:Rc[i]? =ae q):xc K q.1=ae (.func (mz (md q.2.2) (wJ q.2.2) (fR q.2.2) (bk q.2.2) .none (.ref q.2.1) .none))/\i6 K (.ref q.2.1) (md q.2.2)=aI:=
 sO (zi F.A1 hi)
theorem eJ.isF(F:eJ K w s mg)(i:Nat){a c:ay}{st:d6}(hi:Rc[i]? =ae (a,c,st)):rL (hG w s mg) a st:=FnK.f (F.fn i hi).1 (F.fn i hi).2 F.fit
theorem eJ.isC(F:eJ K w s mg)(i:Nat){a c:ay}{st:d6}(hi:Rc[i]? =ae (a,c,st)):DY (hG w s mg) a c st:=FnK.isC (F.fn i hi).1 (F.fn i hi).2 F.fit
theorem eJ.isM(F:eJ K w s mg)(i:Nat){a c:ay}{st:d6}{q:bb}(hi:meL[i]? =ae (a,c,st,q)):nH (hG w s mg) a st q:=by exact dU (sO (zi F.A2 hi)) λh1 h2=>MeK.f h1 h2 F.fit
theorem eJ.m(F:eJ K w s mg)(i:Nat){x:bb}{a:ay}(hi:Rd[i]? =ae (x,a)):mg x=ae (.ref a):=(F.mgK x).trans (zi F.A3 hi)
theorem eJ.n(F:eJ K w s mg)(i:Nat){x:bb}(hi:mnL[i]? =ae x):mg x=av:=(F.mgK x).trans (zi F.A4 hi)
theorem eJ.b(F:eJ K w s mg)(i:Nat){x:Bool}(hi:(oC K)[i]? =ae x):x=aI:=by rw [F.C] at hi;exact List.eq_of_mem_replicate (ao hi)
theorem PL(F:eJ K w s mg):(65 == lY)=aH/\∀h:dH,(∀a o,(hG w s mg).Z0 a=ae o->h.get? a=ae o)->h.DictOf (lu (hG w s mg).prog (hG w s mg).w) 65 qA:=by
 refine ⟨rfl,λh hz=>?_⟩;have h1:=hz 65 _ (F.fit.at' _ _ (congrArg (·.1) F.O));refine ⟨_,(TX 0 oJ).toArray,10,h1,⟨rfl,rfl,rfl⟩,rfl,?_,?_,?_⟩
 ·intro e he;have:∀(l:List bb) (i:Nat),i+l.length<=10->∀e∈TX i l,∃k:Int,Value.isInt k e.key=aI/\e.hash=hashInt k:=by
   intro l;induction l with
   |nil=>intro i z e he;exact eo he
   |cons n l ih=>
    intro i hi e he;rcases aP.mp he with q|q
    ·subst q;refine ⟨2 ^ i,by show ((2:Int) ^ i == 2 ^ i)=aI;simp,?_⟩;have hi9:i < 10:=by simp at hi;lia
     have:∀i,i < 10->(2:Int) ^ i=hashInt (2 ^ i):=by decide+kernel
     exact this i hi9
    ·exact ih (i+1) (by simp at hi;lia) e q
  exact this oJ 0 (by decide) e (by simpa using he)
 ·show Pairs _ (TX 0 oJ).toArray.toList qA;exact aj (gP ..) (EN oJ 0)
 ·decide+kernel
theorem PM(F:eJ K w s mg):Hy (hG w s mg):=⟨
 F.B,
 F.m 0 rfl,
 F.m 1 rfl,
 F.m 2 rfl,
 F.m 3 rfl,
 F.m 4 rfl,
 F.m 5 rfl,
 F.m 6 rfl,
 F.m 7 rfl,
 F.m 8 rfl,
 F.m 9 rfl,
 F.m 10 rfl,
 F.m 11 rfl,
 F.m 12 rfl,
 F.m 13 rfl,
 F.m 14 rfl,
 F.m 15 rfl,
 F.n 0 rfl,
 F.n 1 rfl,
 F.n 2 rfl,
 F.n 3 rfl,
 F.n 4 rfl,
 F.n 5 rfl,
 F.n 6 rfl,
 F.n 7 rfl,
 F.n 8 rfl,
 F.n 9 rfl,
 F.n 10 rfl,
 F.n 11 rfl,
 F.n 12 rfl,
 F.n 13 rfl,
 F.n 14 rfl,
 F.n 15 rfl,
 F.n 16 rfl,
 F.n 17 rfl,
 PL F,
 F.isF 0 rfl,
 F.isF 1 rfl,
 F.isF 2 rfl,
 F.isF 3 rfl,
 F.isF 4 rfl,
 F.isF 5 rfl,
 F.isF 6 rfl,
 F.isF 7 rfl,
 F.isF 8 rfl,
 F.isF 9 rfl,
 F.isF 10 rfl,
 F.isF 11 rfl⟩
theorem MR(F:eJ K w s mg){c P:ay}(h:codeHdIn K c P=aI)(hP:P≠4)(hn:vp≠P):DW (hG w s mg) c P:=
 ⟨λh' hz=>codeHd_of_K (F.fit.ko.inn h' hz) h,λh' hz=>F.bt h' hz P hP,hn⟩
theorem zj(F:eJ K w s mg)(i:Nat){g:ay}{name:bb}(hi:gtL[i]? =ae (g,name)):∃g,w0 K name g i:=by
 have h:(gtL.map λq=>(fJ K (.ref 162) q.2,Fh K (.ref q.1) "__get__",Uz K (.ref q.1),K.lookup q.1,getL "index" (J5 K (q.1 - 1)),(K.lookup (q.1 - 1)).map λo=>(o.cls,o.dict,o.slots)))=gtL.zipIdx.map λ(q:(ay×bb)×Nat)=>(ae (ae (cY q.1.1)),ae (ae (cY 43)),ae aI,ae (Ag 60 (q.1.1 - 1)),ae (ae (jS q.2 (394+10*q.2))),ae (lX "dict",(av:Option ay),(#[]:Array (Option ai)))):=congrArg (·.1) F.V;have:=congrArg (λl=>l[i]?) h;simp only [aJ,hi,GP,TC,eC] at this;obtain ⟨h1,h2,h3,h4,h5,h6⟩:_/\_/\_/\_/\_/\_:=by simpa only [Nj] using aO this
 obtain ⟨⟨c,d,dt,sl⟩,ho,e⟩:=aL.mp h6;simp only [Nj] at e;refine G1 e λeT gi iC=>?_;clear e;subst eT;subst gi;subst iC;refine ⟨g,h1,h2,h3,g - 1,h4,J5 K (g - 1),epIn K (g - 1),_,?_,h5⟩;refine aj (ho ..) ?_;delta J5 epIn;refine aj (vf ho ..) ?_;unfold J5 at h5;rw [vf ho] at h5;cases dt with
 |dict es n=>rfl
 |_=>cases h5
theorem me_d(F:eJ K w s mg):Co (hG w s mg) 43 (jl 2 1) "_tuplegetter.__get__":=by obtain ⟨o,ho,e⟩:=MQ (show xc K 43=ae (.func {Av (jl 2 1) "_tuplegetter.__get__" .none (.ref 42) .none with defaults:= .ref 36}) from congrArg (·.2.2.1) F.O);exact ⟨o,_,_,_,36,_,_,F.fit.at' _ _ ho,e,F.fit.at' _ _ (congrArg (·.2.1) F.O),rfl,λh hz=>wx (F.fit.ko.inn h hz) (congrArg (·.2.2.2.1) F.O)⟩
end
section
variable {w:d9}{s:aq}{mg mb:bb->Option ai}{K:fH}
set_option tactic.hygienic true in
theorem MS(F:eJ K w s mg):PJ (hG w s mg) K:={
 H:=PM F
 LH:=⟨
  F.fit.ko,
  F.b 0 rfl,
  F.b 1 rfl,
  F.b 2 rfl,
  F.b 3 rfl,
  F.b 4 rfl,
  F.b 5 rfl,
  F.b 6 rfl,
  F.b 7 rfl,
  F.b 8 rfl,
  F.b 9 rfl,
  F.b 10 rfl,
  F.isM 0 rfl,
  F.isM 1 rfl,
  F.isM 2 rfl,
  F.isM 3 rfl,
  F.b 11 rfl,
  F.b 12 rfl,
  F.b 13 rfl,
  F.isM 4 rfl,
  F.isM 5 rfl⟩
 NH:=⟨
  F.b 14 rfl,
  congrArg (·.1) F.D,
  congrArg (·.2.2.2.2.2.2.1) F.D,
  F.b 15 rfl,
  F.b 16 rfl,
  congrArg (·.2.1) F.D,
  congrArg (·.2.2.2.2.2.2.2.1) F.D,
  F.b 17 rfl⟩
 GH:={la:=MR F (F.b 22 rfl) (by decide) (by decide),f275:=F.isC 6 rfl}
 BH:={b_read:=F.b 18 rfl}
 EH:=⟨
  F.fit.ko,
  rfl,
  congrArg (·.1) (congrFun F.E _),
  congrArg (·.2.1) (congrFun F.E _),
  congrArg (·.2.2.1) (congrFun F.E _),
  congrArg (·.2.2.2.1) (congrFun F.E _),
  F.b 19 rfl,
  congrArg (·.2.2.2.2.2.2.2.2.2.2.1) F.D,
  congrArg (·.2.2.2.2.2.2.2.2.2.2.2.1) F.D,
  λt=>congrFun (congrArg (·.2.2.2.2.1) (congrFun F.E _)) t,
  congrArg (·.2.2.2.2.2.1) (congrFun F.E _),
  congrArg (·.2.2.2.2.2.2.1) (congrFun F.E _),
  congrArg (·.2.2.2.2.2.2.2.1) (congrFun F.E _),
  congrArg (·.2.2.2.2.2.2.2.2.1) (congrFun F.E _),
  congrArg (·.2.2.2.2.2.2.2.2.2.1) (congrFun F.E _),
  congrArg (·.2.2.2.2.2.2.2.2.2.2) (congrFun F.E _),
  by
   have h:J6 K=ae aH:=congrArg (·.2) F.V;unfold J6 at h
   split at h
   ·rename_i od cd sl e;exact ⟨od,cd,sl,e,aO h⟩
   ·exact gK h,
  F.b 20 rfl,
  F.isM 6 rfl,
  congrArg (·.2.2.2.2.2.2.2.2.2.2.2.2.1) F.D⟩
 TH:=⟨
  me_d F,
  F.b 21 rfl,
  congrArg (·.2.2.1) F.D,
  congrArg (·.2.2.2.1) F.D,
  congrArg (·.2.2.2.2.2.2.2.2.2.2.2.2.2) F.D,
  F.n 18 rfl,
  F.n 19 rfl,
  zj F 0 rfl,
  zj F 1 rfl,
  zj F 2 rfl,
  zj F 3 rfl,
  zj F 4 rfl⟩
 QH:={sub:=congrArg (·.2.2.2.2.2.2.2.2.1) F.D,eq:=congrArg (·.2.2.2.2.1) F.D,up:=congrArg (·.2.2.2.2.2.2.2.2.2.1) F.D}
 IH:={iter:=congrArg (·.2.2.2.2.2.1) F.D}
 LL:={la:=MR F (F.b 23 rfl) (by decide) (by decide)}
 f307:=F.isC 12 rfl}
theorem EO{a:ay}(h1:a≠272)(h2:a≠304):(hG w s mg).Z0 a=s.heap.get? a:=if_neg (by rintro (h|h);exact h1 h;exact h2 h)
theorem MT{a:ay}{m:bb->Option ai}(x:s.heap.Ns a m)(h1:a≠272)(h2:a≠304){h:dH}(hz:∀a o,(hG w s mg).Z0 a=ae o->h.get? a=ae o):h.Ns a m:=by refine oH x λo es ep ho r=>?_;clear x;exact ⟨o,es,ep,hz a o ((EO h1 h2).trans ho),r⟩
theorem headF{q:dB}{loose:List bb}{RR:WRecords}{XP:(bb->Option ai)->dH->Prop}{s0:aq}(Gr:Ground q loose RR XP w s0 mg mb s.heap)(hq:importsNone q=aI)(KX:K.In s.heap)(k272:K.lookup 272=av)(k304:K.lookup 304=av)(Bw:Fu K=N4):eJ K w s mg:=by
 have k3:K.lookup 3=ae (BD K 3):=by refine cJ (dI.mp (show (K.lookup 3).isSome=aI from congrArg (·.2.1.2.2.2.2) Bw)) λo ho=>?_;rw [ho,vf ho]
 have kb:BE K "__builtins__"=ae (.ref 4):=by have h:(Rd.map λq=>BE K q.1)=Rd.map λq=>ae (cY q.2):=congrArg (·.1.2.2.1) Bw;exact zi h (i:=17) (a:=("__builtins__",4)) rfl
 have hm:∀x,mg x=BE K x:=λx=>by
  refine lG (Gr.T.g) λo es ep ho hd' z h=>?_;have e:=KX 3 _ k3;rw [show s.heap.get? 3=ae o from ho] at e;have e:=aO e;unfold BE;rw [<- e,hd'];exact (h x).symm
 refine ⟨⟨λa o e=>?_⟩,hm,⟨λh hz=>MT Gr.T.g (by decide) (by decide) hz,λh hz=>⟨mb,MT Gr.T.b (by decide) (by decide) hz,Gr.T.builtins⟩,λh hz=>?_,?_⟩,λh hz Pl hP=>?_,Bw⟩
 ·rw [EO (by rintro rfl;rw [k272] at e;exact gK e) (by rintro rfl;rw [k304] at e;exact gK e)];exact KX a o e
 ·exact aK (Gr.T.nolimit) λmc h1 h2=>⟨mc,MT h1 (by decide) (by decide) hz,h2⟩
 ·refine aK ((Gr.T.seer hq).mods) λmm dO z=>oH dO λo z z ho z=>?_;clear dO;exact ⟨o,(EO (by decide) (by decide)).trans ho⟩
 ·refine xP (Gr.T.bmain) λbm ob h1 h2 h3 h4 h5 h6=>?_;have e:=(hm "__builtins__").trans kb;rw [h1] at e;have e:bm=4:=by injection e with e;injection e
  subst e;exact ⟨4,ob,h1,by decide,by decide,λe=>hP e.symm,hz 4 ob ((EO (by decide) (by decide)).trans h3),h4,h5,h6⟩
theorem PN{P:Params}{h:dH}:∀{vs:List ai} {xs:List WData},WellAll P h vs xs->WShape.hasItems [] xs .int=aI->∃is:List Int,xs=is.map .int/\∀{Z:bI},bW G Z vs (is.map .int):=by
 intro vs xs hw hs;induction xs generalizing vs with
 |nil=>cases hw;exact ⟨[],rfl,λ{z}=> .nil⟩
 |cons x xs ih=>
  cases hw with
  |cons h1 h2=>
   have hs:=cn.mp (show (WShape.has [] x .int && WShape.hasItems [] xs .int)=aI from hs);refine aK (ih h2 hs.2) λis e hr=>?_;cases h1 with
   |int i t=>exact ⟨i::is,by rw [e];rfl,λ{z}=> .cons (.int i t) hr⟩
   |_=>exact absurd (show aH=aI from hs.1) (by decide)
theorem SP{R:WRecords}{a b:WTm}{e:WCtx}(h:WTm.value R a e=ae (.bool aH)):WTm.value R (.and a b) e=ae (.bool aH):=by
 conv=>lhs;whnf
 exact aj h rfl
theorem MU{R:WRecords}{t:WTm}{e:WCtx}(h:WTm.value R t e=ae (.bool aH)):t.holds R e=aH:=by delta WTm.holds;exact aj h rfl
theorem PP{P:Params}{h:dH}{args:List WData}{bB:List ai}(hw:WellAll P h bB args)(hp:(cQ.row.toRowW.claim).pre args=aI):∃a vs sc,bB=[.ref a]/\args=[.list ((sc:List Int).map .int)]/\sc.length<=63/\h.get? a=ae {cls:= .type "list",data:= .seq vs}/\∀{Z:bI},bW G Z vs.toList (sc.map .int):=by
 have hp2:(WShape.hasAll [] args [.list .int] && (OpenLaw.pre cQ).holds [] {args:=args})=aI:=hp;rw [dQ] at hp2;refine dU hp2 λh1 h2=>?_;clear hp2
 match args,hw with
 |[],_=>exact absurd (show aH=aI from h1) (by decide)
 |[x],hw=>
  cases hw with
  |cons q1 q2=>
  cases q2;have h1:=(cn.mp (show (WShape.has [] x (.list .int) && aI)=aI from h1)).1;cases q1 with
  |@list a vs xs e r=>
   refine aK (PN r ((zH _).symm.trans h1)) λsc e2 hr=>⟨a,vs.toArray,sc,rfl,by rw [e2],?_,e,λ{z}=>by rw [gP];exact hr⟩
   subst e2;refine Nat.le_of_not_lt λhlt=>?_;have hn:decide ((63:Int) < ((sc.map WData.int).length:Nat))=aI:=decide_eq_true (by refine aj (ak ..) ?_;omega);have e:WTm.value [] (OpenLaw.pre cQ) {args:=[.list (sc.map .int)]}=ae (.bool aH):=SP (congrArg (λb=>ae (WData.bool !b)) hn);exact vL ((MU e).symm.trans h2)
  |_=>exact absurd (show aH=aI from h1) (by decide)
 |x::y::r,hw=>exact absurd (show aH=aI from (cn.mp (show (WShape.has [] x (.list .int) && aH)=aI from h1)).2) (by decide)
end
section
variable {K:fH}
theorem c_law(X:PJ G K){sc:List Int}(Uq:sc.length<=63):JS 9 [gG 272 [],gG 304 []] (.ref 307) [.list (sc.map .int)] λy nu=>y= .bool aI/\∃l1 l2,gG 272 l1∈nu/\gG 304 l2∈nu:=by
 refine cE (X.f307.go) λob pm doc h0 hd hcd=>Lc X.H.B (k:=8) (names:=["script"]) (vals':=λL=>(nones (aM (L+1) (bk (cM 23)).names)).set 0 (ae (.list (sc.map .int)))) (Kn.z0 h0) hd (λZ s r=>hcd _ r.z0in) rfl (λvs h=>?_) (by show (aM 0 (bk (cM 23)).names).nd;decide+kernel) (λL=>⟨rfl,rfl,rfl⟩) (λL=>?_) (λL=>?_)
 ·exact uQ h λa=>rfl
 ·exact .cons (j:=0) (.cell (L+1) "script") rfl .nil
 ·refine PK (k:=0) X ⟨rfl,rfl,rfl⟩ ⟨by show (bk (cM 23)).kind≠_;decide,rfl⟩ Uq ⟨?_,?_⟩ λnu l1 l2 h1 h2=>⟨rfl,l1,l2,h1,h2⟩
  ·rw [List.length_set];rfl
  ·intro j y e;rw [lh] at e;by_cases hj:j=0
   ·subst hj;rw [show ((0:Nat) == 0)=aI from rfl] at e
    (have lA:=aO e;clear e;subst lA)
    rw [eA (by show 0 < 47;decide)]
   ·rw [show (j == 0)=aH from by simpa using hj] at e;exact gK e
end
section
variable {w:d9}{s:aq}{mg mb:bb->Option ai}{K:fH}
theorem HS{s':aq}{c P:ay}{l:List zV}(C:CodeHd s.heap c P)(hP:s.heap.get? P=ae (tabObj #[]))(h':s'.heap.get? P=ae (tabObj (rl l).toArray)){o:o6}(e:s.heap.get? P=ae o):asItWas s.heap s'.heap P o:=by
 rw [hP] at e
 (have lA:=aO e;clear e;subst lA)
 exact .inr (.inl ⟨(C.tab hP).isCodeTable,rfl,#[],(rl l).toArray,rfl,by rw [h'];simp [tabObj]⟩)
theorem Jp:C7 cx:=by
 intro q loose RR XP s0 mb fa args bB cl mean E Gr hq Y hmg hg hp hw;refine C0 Y λK KX n1 n2 Bw ht=>?_;clear Y;have F:=headF Gr hq KX n1 n2 Bw;have X:PJ G K:=HZ▸MS F;have e:=F.m 16 (x:="law") (a:=307) rfl;rw [hmg] at e;obtain rfl:fa=307:=by injection e with e;injection e
 refine g6 (PP hw hp) λa vs sc eT gi Uq ha hr=>?_;subst eT;subst gi;have Tt:=ht 272 (by decide);have Tu:=ht 304 (by decide);have na:a≠272:=by rintro rfl;rw [Tt] at ha;cases ha
 have nb:a≠304:=by rintro rfl;rw [Tu] at ha;cases ha
 have zat:∀{b:ay},b≠272->b≠304->G.Z0 b=cx.s.heap.get? b:=λ{z} h1 h2=>HZ▸EO h1 h2;have Q0:∀{b:ay},b=272\/b=304->G.Z0 b=av:=λ{z} h=>HZ▸if_pos h;have r0:R G.Z0 ([gG 272 [],gG 304 []]++[]) cx.s:={
  z0:=bI.le_refl _
  zin:=λb o e=>by
   by_cases h1:b=272\/b=304
   ·rw [Q0 h1] at e;exact gK e
   ·rw [zat (λh=>h1 (.inl h)) (λh=>h1 (.inr h))] at e;exact e
  sat:=λx hx=>by
   rcases aP.mp hx with h|hx
   ·subst h;exact ⟨Tt,λq hq=>eo hq⟩
   ·rcases aP.mp hx with h|hx
    ·subst h;exact ⟨Tu,λq hq=>eo hq⟩
    ·exact eo hx
  nodup:=by show ([272,304]:List ay).Nodup;decide
  sep:=λb hb=>by
   have:b∈([272,304]:List ay):=hb;refine Q0 ?_;simpa using this
  gens:=hg
  os:=congrArg Gd.os HZ}
 have va:aZ G G.Z0 (.ref a) (.list (sc.map .int)):= .list (vs:=vs) (n:=0) ((zat na nb).trans ha) hr;have em:aX cQ.row.toRowW.prog cx.w=aX G.prog G.w:=congrArg (λg:Gd=>aX g.prog g.w) HZ;rw [em];refine (c_law X Uq).c (fr:=[]) (l:=[]) (vs:=[.ref a]) ⟨rfl,by show 1+claimMargin+9<=900;decide+kernel,by show 4+10*9<=9000;decide⟩ rfl (λz h=>eo h) r0 (.cons va .nil) λ{v s' Z' y nu} z' hv r' w=>?_;refine uD w λhy l1 l2 t1 t2=>?_;clear w;subst hy;cases hv;have c1:CodeHd cx.s.heap 274 272:=codeHd_of_K KX (F.b 22 rfl);have c2:CodeHd cx.s.heap 306 304:=codeHd_of_K KX (F.b 23 rfl);have q1:=(r'.sat _ (aE _ t1)).1;have q2:=(r'.sat _ (aE _ t2)).1;have keep:∀b o,b≠272->b≠304->cx.s.heap.get? b=ae o->s'.heap.get? b=ae o:=λb o h1 h2 e=>r'.zin b o (r'.z0 _ _ ((zat h1 h2).trans e));have hpost:(cQ.row.toRowW.claim).post [.list (sc.map .int)] (.bool aI) [.list (sc.map .int)]=aI:=by kernel_rfl
 refine ⟨.inl ⟨.bool aI,.bool aI,[],rfl,λz=>rfl,.bool aI,hpost,λz=>⟨kQ,λz h=>eo h⟩⟩,⟨λb o e=>?_,λb o e=>?_⟩,r'.os.trans (congrArg Gd.os HZ).symm,AllBare.of_eq r'.gens⟩
 ·by_cases h1:b=272
  ·subst h1;exact HS c1 Tt q1 e
  ·by_cases h2:b=304
   ·subst h2;exact HS c2 Tu q2 e
   ·exact .inl (keep b o h1 h2 e)
 ·by_cases h1:b=272
  ·subst h1;exact ⟨_,q1⟩
  ·by_cases h2:b=304
   ·subst h2;exact ⟨_,q2⟩
   ·exact ⟨o,keep b o h1 h2 e⟩
end
theorem PySem_holds:PySem.Challenge.rw_kl0432_01.Holds:=Rj λd kwd hdef w s₀ s₁ mg mb Gr Y fa o pm cd doc dV kV ho hdt hcd hD hmg hgens args bB as hpre hlay hrd hwell d8=>
 J8 Jp ⟨w,s₁,mg⟩ _ _ _ _ _ _ _ _ _ _ _ _ Gr (by kernel_rfl) Y ((defOf_name hdef)▸hmg) hgens hpre hwell
end
end Mine.Internal
theorem PySem.Challenge.cw_kl0432_01_holds : PySem.Challenge.rw_kl0432_01.Holds :=
 Mine.Internal.PySem_holds
