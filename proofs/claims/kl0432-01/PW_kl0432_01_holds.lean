import PyProof.Rows.All
import Wide.All
import OpenK.AllK
import Wide.FinOn
import KE.KBytesWalk
import KE.KStopIter
import KE.KTryOn
import KE.KDictSum
import KE.KEqDict
import KE.KLam
import KE.BytesMake
import Lean
import PySem.Challenge.RW_kl0432_01
open PySem PySem.Spec PySem.Calls PyProof.Rows PySem.W
set_option Elab.async false
set_option linter.all false
set_option maxRecDepth 100000
set_option maxHeartbeats 4000000
set_option tactic.hygienic false
set_option genInjectivity false
set_option genSizeOf false
namespace Mine.Internal
open _root_.List renaming mem_cons_self->aa,mem_cons_of_mem->ab,length_map->ak,mem_of_getElem? ->ao,mem_singleton->aA,getElem?_eq_some_iff->aB,mem_append_left->aE,mem_map->aG,getElem?_map->aJ,range->aN,mem_cons->aP,mem_range->aY,map_map->a0,length_append->ba,mem_append->bc,map_append->bj,mem_filter->bo,length_filter_le->bu,getElem?_range->bz,map_cons->bA,mem_flatMap->bG,getElem?_eq_getElem->bJ,length_cons->bK,mem_append_right->bL,nodup_append->bP,getD_eq_getElem?_getD->bR,append_assoc->bU,map_congr_left->b5,nodup_cons->cg,perm_middle->cu,append_nil->cy,take_length->cK,any_eq_true->cS,sum_cons->da,mem_of_getLast? ->df,take_add_one->dE,flatMap_cons->dF,length_take->dR,drop_eq_getElem_cons->dZ,take_of_length_le->d6,getElem?_set_self->eA,getElem?_append_left->eE,length_zipIdx->eX,append_of_mem->eY,not_mem_nil->e7,length_range->fq,foldl_append->fu,drop_zero->fy,filter_congr->fz,foldl_cons->fF,cons_append->fU,mem_filterMap->fV,all_eq_true->fW,filter_append->fX,length_drop->fY,mem_of_mem_drop->gn,drop_append_of_le_length->gq,getLast?_eq_some_getLast->gu,toList_toArray->gQ,mem_map_of_mem->gS,sublist_cons_self->gW,filter_eq_nil_iff->gY,filter_cons->hZ,getElem?_eq_none->il,mem_iff_getElem? ->iq,take_succ_cons->jb,map_eq_nil_iff->jc,zipIdx_map_fst->jd,find?_cons->jW,getLast_cons->kg,getElem?_set_ne->kI,length_take_le'->kL,length->kM,nodup_nil->kQ,lookup_cons->lh,nodup_range->lp,count_eq_zero->mD,take_append_drop->oq,drop_length->ox,zipIdx_cons->oy,mem_of_mem_take->pB,eq_nil_of_length_eq_zero->pC,filter_nil->qf,range_succ->qg,nil_append->qi,mem_zipIdx_iff_getElem? ->qk,filterMap_cons->qo,getElem?_eq_none_iff->su,size_toArray->sU,mem_of_head? ->sV,count_append->sW,getElem?_cons_succ->ui,isEmpty_iff->ur,map_flatMap->uv,mem_nil_iff->ux,map_nil->vf,set_set->vh,sum_append->vt,take_zero->xp,map_id->xx,length_pos_iff->zw,any_cons->zG,find?_eq_none->Ak,getElem?_drop->Am,count->Ao,any_map->CG,reverse_cons->CQ,eq_nil_iff_forall_not_mem->E8,take_append_of_le_length->Fm,length_nil->GW,dropLast_concat_getLast->GY,drop_drop->JJ,getElem?_append_right->JN,perm_append_singleton->JO,pairwise_iff_getElem->JX,extract_eq_drop_take->JY,getLast?_eq_some_iff->JZ,all_cons->Ng,map_drop->Nv,getElem?_take_of_lt->Ny,length_eq_zero_iff->NV,drop_of_length_le->Qe,set_append_right->Q1,getElem?_of_mem->Ts,getElem?_mapIdx->Tw,getElem?_zipIdx->Tz,getLast?_append->TQ,flatMap_append->Uy,drop_succ_cons->Uz
open _root_.Option renaming some->ae,none->av,map_eq_some_iff->aL,bind_eq_some_iff->dq,isSome_iff_exists->dI,bind_eq_none_iff->el,isSome_none->Aj,toList_some->Al,bind_some->EU,map_some->GO,map_eq_none_iff->Qa
open _root_.PySem renaming wpAny_bind->ag,Value->ai,Shared->aq,wpAny_pure->ar,Addr->ay,wpAny->aS,model->aX,Str->bb,Around->bh,foldedSetIterable->bw,wpAny_holding->bE,Expr->bH,FuncData->cm,wpAny_of_eq->cM,sliceBounds->c7,wpAny_call_entry->dp,builtinLookup_eq_fast->dB,Program->dG,Heap->dH,wpAny_field->dS,eval->dW,wpAny_callSpecial?_slot->dX,World->d8,Stmt->ed,sizeLine->er,wpAny_call->eF,wpAny_setField->eH,wpAny_mono->eR,Scope->eU,wpAny_truthy_bool->eV,holding->eW,typeLookup_type->fg,starEach->fo,wpAny_ite_split->f5,DictEntry->gA,wpAny_Call_NameR->gB,wpAny_askSetting->gC,Env->gP,wpAny_specialOf->h8,standAt->iE,wpAny_standAt->iH,checkBuiltinCall->iI,typeLookup->iQ,isSubtype_type->iR,codeAny->iV,wpAny_newObj_type->jg,codeAny_call_builtin->jj,assignEach->jB,Pos->jC,typeOf->jU,call->ku,letOwnedTupleGo->kJ,codeAny_of_tree->kK,codeAny_builtin->kO,wpAny_loadPart'->kP,Comprehension->kS,wpAny_attempt->kT,backTo->lj,wpAny_pyIter_list->lr,intKind->lu,wpAny_setState_of->ly,sysModules->lY,pyNext->l0,call_meets->l6,specialOf->mA,getMethod->mB,Sem->mF,wpAny_rule->oj,Obj->o6,rawInt->pD,callWith->pE,letTemporaryGo->pF,bindArgs->pI,wpAny_loadPart->pJ,codeAny_call_function->qp,wpAny_execs_cons->q9,pyIter->ra,argsOk->rh,attributeBase->rn,plainId_quiet->ro,importedModules->sr,aRefKeyMayBeTheName->sT,getAttr->s8,compStart->tx,isInstance->uh,Flow->uj,wpAny_pyIter_tuple->uk,entryFor->uo,ret->vm,OsState->vn,mainGlobals->vo,strIterType->vp,wpAny_alloc->vq,valueAt->vr,wpAny_pyIter_slot->vy,field->vG,behindInMarks->wz,assign->wA,swapsWithSole->wB,swappedStores->wC,Result->wD,PyData->wF,swapsWith->xn,cellsFrom->xo,slicePick->xq,wpAny_isInstance->xw,PlainAttrs->zr,wpAny_pyNext_list_item->zt,strKind_is->zu,sliceRange->zv,Model->zE,wpAny_isTrue_Compare1->Ag,wpAny_allTrue_Or_cons->Ah,wpAny_pyNext_list_end->Ai,Operator->CB,NameKind->CE,newFunctionEnv->CF,someArgs->CJ,builtinKind->CN,wpAny_seqItems->CO,Arguments->CW,treeTable->CX,wpAny_Assign_stores->EW,list_getitem_lookup->E1,wpAny_Tuple_spliced->E3,wpAny_setEntries_of->E7,cameBackBy->GQ,intKind_is->GU,Tok->HW,call->Ju,execs->Jw,bootBuiltins->Jx,leaving->JA,getItem->JB,baseText->JC,codeAny_func->JE,call_meetsIn->JG,wpAny_mkText->JL,byteArr->JM,isSubtype->Nf,clausesOf->Ni,seqIndex? ->Nj,JoinOk->Nk,opaqueClassAbove->Nq,entryFor_of_tree->Nr,wpAny_BinOp->NM,again->NN,subscripted->NP,Fin->NW,unpackItems->NY,pushCells_keeps->P9,splitId->Q0,wpAny_Name->Tt,BoolOp->Tu,wpAny_load->Tv,wpAny_operateT->TF,typeIs_str->TG,table->TI,newExc->TJ,boundAndCalled->TL,isSubtype_stop->TO,evalArgs_none->UB
open _root_.Nat renaming le_trans->aw,le_of_ble_eq_true->bg,le_refl->bp,lt_of_le_of_lt->b7,lt_of_lt_of_le->cb,lt_succ_of_lt->cI,ne_of_lt->c8,le_add_right->dC,mod_lt->ee,le_of_lt->eB,zero_add->eC,pow_le_pow_right->e8,testBit_eq_decide_div_mod_eq->fx,zero_le->gp,lt_or_ge->gX,add_mul->iS,lt_succ_self->jf,succ_lt_succ->jk,le_succ->jD,ne_of_gt->jJ,mul_assoc->jY,le_of_eq->ll,succ_ne_zero->lq,testBit_two_pow->lC,add_assoc->l5,add_sub_cancel_left->mG,le_of_succ_le->nj,succ_ne_self->ou,min_le_right->ow,two_pow_pos->qh,add_le_add_left->qm,mul_comm->rb,zero_mul->rg,lt_trichotomy->sO,lt_of_not_le->uz,testBit_lt_two_pow->vg,strongRecOn->vH,succ->xm,eq_of_testBit_eq->xr,one_mul->xt,mul_le_mul_right->xv,lt_irrefl->zH,pow_succ->CH,le_of_lt_succ->CI,lt_trans->CP,succ_le_succ->E4,and_two_pow_sub_one_eq_mod->E6,testBit_and->GT,not_lt_zero->GX,not_lt->Jv,mod_two_eq_zero_or_one->JI,mul_le_mul->JK,testBit_two_pow_mul->NS,testBit_mul_two_pow->NT,le_of_succ_le_succ->Qd,not_succ_le_self->TB,add_le_add_right->TC,not_succ_le_zero->TR,mul_le_mul_left->UA
open _root_.PySem.Heap renaming get?_push_of_some->az,get?_push_size->aW,lt_size->bN,get?_update_self->bS,size_push->fN,get?_update_other->iF,SameBut->ji,ExtBut->rx,MadeExcOf->TK
open _root_.Bool renaming false->aH,true->aI,eq_iff_iff->cj,and_eq_true_iff->cn,false_ne_true->cF,false_eq_true->dj,and_eq_true->dQ,or_eq_true->jV,and_false->kN,or_false->zF,not_eq_true'->CC,noConfusion->EY,toNat_true->GV,true_and->Nw
open _root_.Option.some renaming inj->aO
open _root_.Classical renaming byContradiction->bO
open _root_.Exists renaming imp->bQ
open _root_.Array renaming getElem?_toList->bV,getElem?_eq_getElem->dY,length_toList->eK,toList_append->lB,mem_toList_iff->pH,getElem?_eq_some_iff->rv,toList_inj->uq,any_toList->uu,toList_extract->xu,toList_push->CD,getElem?_eq_none->P8
open _root_.PySem.Heap.SameBut renaming update->bY,refl->JP
open _root_.Int renaming toNat_natCast->b8,natCast_nonneg->dJ,ofNat->fB,lt_of_lt_of_le->ru,one_mul->sS,toNat->uw,fdiv_eq_ediv_of_nonneg->JF,ofNat_inj->Nx,add_zero->P7
open _root_.Trans renaming trans->cG
open _root_.PySem.Challenge renaming rw_kl0432_01->cQ
open _root_.PySem.Value renaming ref->cY,none->eG,builtin->iG,int->jT,type->lX,bytes->CL,isStrOf_shape->E0,bool->TN
open _root_.PySem.Builtin.Str renaming occurrences->cZ,strSub->fj,strKind->mR
open _root_.Pure renaming pure->dg
open _root_.PySem.Obj renaming data_mapFields->dP,isFreed_of_fields->iW,putName->om,cls_mapFields->pK,mapFields->Fk
open _root_.PySem.F renaming plainAttrs_str->eM,slot_tuple_iterator_next->fA,plainAttrs_list->fP,slot_list_append->iT,type_list_append->iU,slot_str_split->jX,slot_tuple_iterator_next->l8,called_set->mC,slot_str_join->nz,type_str_join->nA,slot_tuple_iter->uA,plainAttrs_list->uB,slot_list_iadd->vi,slot_tuple_getattribute->vj,entry_str_split->vx,plainAttrs_dict->vz,args_tuple_iterator_next_1->Ap,entry_tuple_iterator_next->Bx,args_str_split_2->GS,slot_dict_items->JH,type_str_split->Np,slot_tuple_index->Nu,slot_dict_itemiterator_iter->NR,plain_tuple_new->NU,plainAttrs_dict->NZ,args_tuple_iterator_next_1->Qb,slot_tuple_eq->Qf,entry_tuple_iterator_next->Q3,slot_dict_get->Q5,slot_tuple_ne->Q6,store_object->TM
open _root_.PySem.W.Looks renaming of_pure->fe,ld->sv
open _root_.PySem.W renaming Frag->fl,findIn->fH,Looks->iL,dictOf->i3,putName_dict->mS,looks_findIn->mT,check_slot->ry,instObj->Af,kdk_entry_next->E5,specialIn->Fg,findCls->Fh,absHeap->Fi,methodObj->Fl,boot_heap->P6,lookIn_dict->QZ,takesIn->Uw,SharedT->Ux,hideAll->UC
open _root_.PySem.Txt renaming join->fO,split->Nl,count->Nm
open _root_.PySem.Str renaming ofString->fQ,ofString->An
open _root_.Ne renaming symm->gf
open _root_.PySem.Calls renaming call_function_entry->gv,docDef->mz,Name_function_global->Jy,evalArgs_plain->Jz
open _root_.PySem.Around renaming under_plainId->gR,frames_deeper->CM
open _root_.PyProof.Rows renaming Attribute_any_->gZ,callWith_def->iJ,MethodCall_->i5,IntsAre->um,callWith_builtin1->EX,mapSeq_app->NQ
open _root_.List.Perm renaming refl->ic,swap->jh,of_eq->GZ
open _root_.LawfulBEq renaming eq_of_beq->jE
open _root_.PyProof.Rows.F renaming plain_set_update_loop->lD,entry_set_update_loop->zx
open _root_.PySem.Builtin renaming bitAnd->lZ
open _root_.Function renaming comp->l7
open _root_.PySem.Builtin.SmallTypes renaming nextOf->mH
open _root_.PySem.W.KBw renaming iter_typeIs->oo,slot_next->rz,IsBytesIter->Bw
open _root_.PySem.PyData renaming strOk->pG,depthAll->zI,canLayAll0->JD
open _root_.UInt8 renaming toNat->pL
open _root_.PySem.Builtin.Tuple renaming tupleCompareSizes->qj
open _root_.Inhabited renaming default->ri
open _root_.Prod.mk renaming inj->sN,injEq->Nh
open _root_.PySem.Builtin.Int renaming intBits->sQ
open _root_.List.Sublist renaming refl->sR
open _root_.List.cons renaming inj->s7,injEq->GP
open _root_.Prod renaming fst->uy,ext->TP
open _root_.PySem.Builtin.List renaming listTooLong->wG,listLengthHint->Q4
open _root_.Lean.Parser.Tactic renaming tacticSeq1Indented->xM,tacticSeq->GN
open _root_.PySem.Builtin.Range renaming small->EZ
open _root_.PySem.Code renaming compLoop->Fj,compStart->TA
open _root_.ForInStep renaming yield->GR
open _root_.PySem.Data renaming func->Nd
open _root_.Int.ofNat renaming inj->Nn
open _root_.And renaming intro->NO
noncomputable section
section
variable {T1 T2 T3 T4 T5:Sort _}{g:Prop}
theorem dU{A R:Prop}(h:A/\R)(f:A->R->g):g:=h.elim λa h=>f a h
theorem cJ{R:T1->Prop}(h:∃a,R a)(f:∀a,R a->g):g:=h.elim λa h=>f a h
theorem G0{A B R:Prop}(h:A/\B/\R)(f:A->B->R->g):g:=h.elim λa h=>h.elim λb h=>f a b h
theorem aK{B R:T1->Prop}(h:∃a,B a/\R a)(f:∀a,B a->R a->g):g:=h.elim λa h=>h.elim λb h=>f a b h
theorem oz{R:T1->T2->Prop}(h:∃a,∃b,R a b)(f:∀a,∀b,R a b->g):g:=h.elim λa h=>h.elim λb h=>f a b h
theorem Q7{A B C R:Prop}(h:A/\B/\C/\R)(f:A->B->C->R->g):g:=h.elim λa h=>h.elim λb h=>h.elim λc h=>f a b c h
theorem mI{A:Prop}{C R:T1->Prop}(h:A/\∃b,C b/\R b)(f:A->∀b,C b->R b->g):g:=h.elim λa h=>h.elim λb h=>h.elim λc h=>f a b c h
theorem vI{A:Prop}{R:T1->T2->Prop}(h:A/\∃b,∃c,R b c)(f:A->∀b,∀c,R b c->g):g:=h.elim λa h=>h.elim λb h=>h.elim λc h=>f a b c h
theorem ef{B C R:T1->Prop}(h:∃a,B a/\C a/\R a)(f:∀a,B a->C a->R a->g):g:=h.elim λa h=>h.elim λb h=>h.elim λc h=>f a b c h
theorem eD{C R:T1->T2->Prop}(h:∃a,∃b,C a b/\R a b)(f:∀a,∀b,C a b->R a b->g):g:=h.elim λa h=>h.elim λb h=>h.elim λc h=>f a b c h
theorem N0{A B C D R:Prop}(h:A/\B/\C/\D/\R)(f:A->B->C->D->R->g):g:=h.elim λa h=>h.elim λb h=>h.elim λc h=>h.elim λd h=>f a b c d h
theorem qq{A:Prop}{C D R:T1->Prop}(h:A/\∃b,C b/\D b/\R b)(f:A->∀b,C b->D b->R b->g):g:=h.elim λa h=>h.elim λb h=>h.elim λc h=>h.elim λd h=>f a b c d h
theorem uC{A:Prop}{D R:T1->T2->Prop}(h:A/\∃b,∃c,D b c/\R b c)(f:A->∀b,∀c,D b c->R b c->g):g:=h.elim λa h=>h.elim λb h=>h.elim λc h=>h.elim λd h=>f a b c d h
theorem By{B C D R:T1->Prop}(h:∃a,B a/\C a/\D a/\R a)(f:∀a,B a->C a->D a->R a->g):g:=h.elim λa h=>h.elim λb h=>h.elim λc h=>h.elim λd h=>f a b c d h
theorem cC{C D R:T1->T2->Prop}(h:∃a,∃b,C a b/\D a b/\R a b)(f:∀a,∀b,C a b->D a b->R a b->g):g:=h.elim λa h=>h.elim λb h=>h.elim λc h=>h.elim λd h=>f a b c d h
theorem oH{D R:T1->T2->T3->Prop}(h:∃a,∃b,∃c,D a b c/\R a b c)(f:∀a,∀b,∀c,D a b c->R a b c->g):g:=h.elim λa h=>h.elim λb h=>h.elim λc h=>h.elim λd h=>f a b c d h
theorem J0{A B C D E R:Prop}(h:A/\B/\C/\D/\E/\R)(f:A->B->C->D->E->R->g):g:=h.elim λa h=>h.elim λb h=>h.elim λc h=>h.elim λd h=>h.elim λe h=>f a b c d e h
theorem CY{A:Prop}{R:T1->T2->T3->T4->Prop}(h:A/\∃b,∃c,∃d,∃e,R b c d e)(f:A->∀b,∀c,∀d,∀e,R b c d e->g):g:=h.elim λa h=>h.elim λb h=>h.elim λc h=>h.elim λd h=>h.elim λe h=>f a b c d e h
theorem CZ{B C D E R:T1->Prop}(h:∃a,B a/\C a/\D a/\E a/\R a)(f:∀a,B a->C a->D a->E a->R a->g):g:=h.elim λa h=>h.elim λb h=>h.elim λc h=>h.elim λd h=>h.elim λe h=>f a b c d e h
theorem ir{C D E R:T1->T2->Prop}(h:∃a,∃b,C a b/\D a b/\E a b/\R a b)(f:∀a,∀b,C a b->D a b->E a b->R a b->g):g:=h.elim λa h=>h.elim λb h=>h.elim λc h=>h.elim λd h=>h.elim λe h=>f a b c d e h
theorem cE{D E R:T1->T2->T3->Prop}(h:∃a,∃b,∃c,D a b c/\E a b c/\R a b c)(f:∀a,∀b,∀c,D a b c->E a b c->R a b c->g):g:=h.elim λa h=>h.elim λb h=>h.elim λc h=>h.elim λd h=>h.elim λe h=>f a b c d e h
theorem Aq{A:Prop}{D E F R:T1->T2->Prop}(h:A/\∃b,∃c,D b c/\E b c/\F b c/\R b c)(f:A->∀b,∀c,D b c->E b c->F b c->R b c->g):g:=h.elim λa h=>h.elim λb h=>h.elim λc h=>h.elim λd h=>h.elim λe h=>h.elim λi h=>f a b c d e i h
theorem Ar{C D E F R:T1->T2->Prop}(h:∃a,∃b,C a b/\D a b/\E a b/\F a b/\R a b)(f:∀a,∀b,C a b->D a b->E a b->F a b->R a b->g):g:=h.elim λa h=>h.elim λb h=>h.elim λc h=>h.elim λd h=>h.elim λe h=>h.elim λi h=>f a b c d e i h
theorem lG{D E F R:T1->T2->T3->Prop}(h:∃a,∃b,∃c,D a b c/\E a b c/\F a b c/\R a b c)(f:∀a,∀b,∀c,D a b c->E a b c->F a b c->R a b c->g):g:=h.elim λa h=>h.elim λb h=>h.elim λc h=>h.elim λd h=>h.elim λe h=>h.elim λi h=>f a b c d e i h
theorem cq{E F R:T1->T2->T3->T4->Prop}(h:∃a,∃b,∃c,∃d,E a b c d/\F a b c d/\R a b c d)(f:∀a,∀b,∀c,∀d,E a b c d->F a b c d->R a b c d->g):g:=h.elim λa h=>h.elim λb h=>h.elim λc h=>h.elim λd h=>h.elim λe h=>h.elim λi h=>f a b c d e i h
theorem xN{C D E F H R:T1->T2->Prop}(h:∃a,∃b,C a b/\D a b/\E a b/\F a b/\H a b/\R a b)(f:∀a,∀b,C a b->D a b->E a b->F a b->H a b->R a b->g):g:=h.elim λa h=>h.elim λb h=>h.elim λc h=>h.elim λd h=>h.elim λe h=>h.elim λi h=>h.elim λj h=>f a b c d e i j h
theorem g6{D E F H R:T1->T2->T3->Prop}(h:∃a,∃b,∃c,D a b c/\E a b c/\F a b c/\H a b c/\R a b c)(f:∀a,∀b,∀c,D a b c->E a b c->F a b c->H a b c->R a b c->g):g:=h.elim λa h=>h.elim λb h=>h.elim λc h=>h.elim λd h=>h.elim λe h=>h.elim λi h=>h.elim λj h=>f a b c d e i j h
theorem tA{E F H R:T1->T2->T3->T4->Prop}(h:∃a,∃b,∃c,∃d,E a b c d/\F a b c d/\H a b c d/\R a b c d)(f:∀a,∀b,∀c,∀d,E a b c d->F a b c d->H a b c d->R a b c d->g):g:=h.elim λa h=>h.elim λb h=>h.elim λc h=>h.elim λd h=>h.elim λe h=>h.elim λi h=>h.elim λj h=>f a b c d e i j h
theorem wH{D E F H I R:T1->T2->T3->Prop}(h:∃a,∃b,∃c,D a b c/\E a b c/\F a b c/\H a b c/\I a b c/\R a b c)(f:∀a,∀b,∀c,D a b c->E a b c->F a b c->H a b c->I a b c->R a b c->g):g:=h.elim λa h=>h.elim λb h=>h.elim λc h=>h.elim λd h=>h.elim λe h=>h.elim λi h=>h.elim λj h=>h.elim λk h=>f a b c d e i j k h
theorem dK{E F H I R:T1->T2->T3->T4->Prop}(h:∃a,∃b,∃c,∃d,E a b c d/\F a b c d/\H a b c d/\I a b c d/\R a b c d)(f:∀a,∀b,∀c,∀d,E a b c d->F a b c d->H a b c d->I a b c d->R a b c d->g):g:=h.elim λa h=>h.elim λb h=>h.elim λc h=>h.elim λd h=>h.elim λe h=>h.elim λi h=>h.elim λj h=>h.elim λk h=>f a b c d e i j k h
theorem iK{F H I R:T1->T2->T3->T4->T5->Prop}(h:∃a,∃b,∃c,∃d,∃e,F a b c d e/\H a b c d e/\I a b c d e/\R a b c d e)(f:∀a,∀b,∀c,∀d,∀e,F a b c d e->H a b c d e->I a b c d e->R a b c d e->g):g:=h.elim λa h=>h.elim λb h=>h.elim λc h=>h.elim λd h=>h.elim λe h=>h.elim λi h=>h.elim λj h=>h.elim λk h=>f a b c d e i j k h
theorem qr{D E F H I J R:T1->T2->T3->Prop}(h:∃a,∃b,∃c,D a b c/\E a b c/\F a b c/\H a b c/\I a b c/\J a b c/\R a b c)(f:∀a,∀b,∀c,D a b c->E a b c->F a b c->H a b c->I a b c->J a b c->R a b c->g):g:=h.elim λa h=>h.elim λb h=>h.elim λc h=>h.elim λd h=>h.elim λe h=>h.elim λi h=>h.elim λj h=>h.elim λk h=>h.elim λl h=>f a b c d e i j k l h
theorem jZ{D E F H I J K R:T1->T2->T3->Prop}(h:∃a,∃b,∃c,D a b c/\E a b c/\F a b c/\H a b c/\I a b c/\J a b c/\K a b c/\R a b c)(f:∀a,∀b,∀c,D a b c->E a b c->F a b c->H a b c->I a b c->J a b c->K a b c->R a b c->g):g:=h.elim λa h=>h.elim λb h=>h.elim λc h=>h.elim λd h=>h.elim λe h=>h.elim λi h=>h.elim λj h=>h.elim λk h=>h.elim λl h=>h.elim λm h=>f a b c d e i j k l m h
end
@[elab_as_elim] theorem aj{α:Sort u}{a b:α}{P:α->Prop}(e:a=b)(h:P b):P a:=e▸h
@[elab_as_elim] theorem fZ{α:Sort u}{a b:α}{P:α->Prop}(e:a=b)(h:P a):P b:=e▸h
@[elab_as_elim] theorem gj{a b:Prop}{P:Prop->Prop}(e:a↔b)(h:P b):P a:=propext e▸h
@[elab_as_elim] theorem rwj{a b:Prop}{P:Prop->Prop}(e:a↔b)(h:P a):P b:=propext e▸h
noncomputable def ep{α:Type}(n:Nonempty α)(P:α->Prop):α:=@Classical.epsilon α n λa=>¬P a
theorem rA{α:Type}{n:Nonempty α}{P:α->Prop}(h:P (ep n P))(a:α):P a:=bO λq=>(Classical.epsilon_spec (p:=λa=>¬P a) ⟨a,q⟩) h
theorem j8{α β:Type}:Nonempty α->Nonempty β->Nonempty (α×β):=λ⟨a⟩ ⟨b⟩=>⟨(a,b)⟩
theorem neQ{α:Type}:Nonempty (α->Prop):=⟨λz=>True⟩
theorem s9{α β:Type}:Nonempty (α->β->Prop):=⟨λz z=>True⟩
theorem gD{α:Type}:Nonempty (List α):=⟨[]⟩
theorem neO{α:Type}:Nonempty (Option α):=⟨av⟩
theorem neF{α β:Type}(n:Nonempty β):Nonempty (α->β):=n.elim λb=>⟨λz=>b⟩
theorem eN:Nonempty Nat:=⟨0⟩
theorem Q8:Nonempty Int:=⟨0⟩
section
variable {T1 T2 T3 T4 T5 T6 T7 T8 T9 T10 T11 T12 T13 T14 T15 T16:Type}(n1:Nonempty T1)(n2:Nonempty T2)(n3:Nonempty T3)(n4:Nonempty T4)(n5:Nonempty T5)(n6:Nonempty T6)(n7:Nonempty T7)(n8:Nonempty T8)(n9:Nonempty T9)(QM:Nonempty T10)(Ua:Nonempty T11)(Ub:Nonempty T12)(n13:Nonempty T13)(n14:Nonempty T14)(n15:Nonempty T15)(n16:Nonempty T16)
def ap2(S:T1->T2->Prop)(t:T1×T2):Prop:=S t.1 t.2
noncomputable def Qg(S:T1->T2->Prop):T1×T2:=ep (j8 n1 n2) (ap2 S)
theorem Fo(S:T1->T2->Prop)(h:ap2 S (Qg n1 n2 S))(x1:T1)(x2:T2):S x1 x2:=rA h (x1,x2)
def ap4(S:T1->T2->T3->T4->Prop)(t:T1×T2×T3×T4):Prop:=S t.1 t.2.1 t.2.2.1 t.2.2.2
noncomputable def G1(S:T1->T2->T3->T4->Prop):T1×T2×T3×T4:=ep (j8 n1 (j8 n2 (j8 n3 n4))) (ap4 S)
theorem vJ(S:T1->T2->T3->T4->Prop)(h:ap4 S (G1 n1 n2 n3 n4 S))(x1:T1)(x2:T2)(x3:T3)(x4:T4):S x1 x2 x3 x4:=rA h (x1,x2,x3,x4)
def ap6(S:T1->T2->T3->T4->T5->T6->Prop)(t:T1×T2×T3×T4×T5×T6):Prop:=S t.1 t.2.1 t.2.2.1 t.2.2.2.1 t.2.2.2.2.1 t.2.2.2.2.2
noncomputable def Fp(S:T1->T2->T3->T4->T5->T6->Prop):T1×T2×T3×T4×T5×T6:=ep (j8 n1 (j8 n2 (j8 n3 (j8 n4 (j8 n5 n6))))) (ap6 S)
theorem uD(S:T1->T2->T3->T4->T5->T6->Prop)(h:ap6 S (Fp n1 n2 n3 n4 n5 n6 S))(x1:T1)(x2:T2)(x3:T3)(x4:T4)(x5:T5)(x6:T6):S x1 x2 x3 x4 x5 x6:=rA h (x1,x2,x3,x4,x5,x6)
def ap8(S:T1->T2->T3->T4->T5->T6->T7->T8->Prop)(t:T1×T2×T3×T4×T5×T6×T7×T8):Prop:=S t.1 t.2.1 t.2.2.1 t.2.2.2.1 t.2.2.2.2.1 t.2.2.2.2.2.1 t.2.2.2.2.2.2.1 t.2.2.2.2.2.2.2
noncomputable def Nz(S:T1->T2->T3->T4->T5->T6->T7->T8->Prop):T1×T2×T3×T4×T5×T6×T7×T8:=ep (j8 n1 (j8 n2 (j8 n3 (j8 n4 (j8 n5 (j8 n6 (j8 n7 n8))))))) (ap8 S)
theorem Bz(S:T1->T2->T3->T4->T5->T6->T7->T8->Prop)(h:ap8 S (Nz n1 n2 n3 n4 n5 n6 n7 n8 S))(x1:T1)(x2:T2)(x3:T3)(x4:T4)(x5:T5)(x6:T6)(x7:T7)(x8:T8):S x1 x2 x3 x4 x5 x6 x7 x8:=rA h (x1,x2,x3,x4,x5,x6,x7,x8)
def ap10(S:T1->T2->T3->T4->T5->T6->T7->T8->T9->T10->Prop)(t:T1×T2×T3×T4×T5×T6×T7×T8×T9×T10):Prop:=S t.1 t.2.1 t.2.2.1 t.2.2.2.1 t.2.2.2.2.1 t.2.2.2.2.2.1 t.2.2.2.2.2.2.1 t.2.2.2.2.2.2.2.1 t.2.2.2.2.2.2.2.2.1 t.2.2.2.2.2.2.2.2.2
noncomputable def zJ(S:T1->T2->T3->T4->T5->T6->T7->T8->T9->T10->Prop):T1×T2×T3×T4×T5×T6×T7×T8×T9×T10:=ep (j8 n1 (j8 n2 (j8 n3 (j8 n4 (j8 n5 (j8 n6 (j8 n7 (j8 n8 (j8 n9 QM))))))))) (ap10 S)
theorem uE(S:T1->T2->T3->T4->T5->T6->T7->T8->T9->T10->Prop)(h:ap10 S (zJ n1 n2 n3 n4 n5 n6 n7 n8 n9 QM S))(x1:T1)(x2:T2)(x3:T3)(x4:T4)(x5:T5)(x6:T6)(x7:T7)(x8:T8)(x9:T9)(MT:T10):S x1 x2 x3 x4 x5 x6 x7 x8 x9 MT:=rA h (x1,x2,x3,x4,x5,x6,x7,x8,x9,MT)
def ap12(S:T1->T2->T3->T4->T5->T6->T7->T8->T9->T10->T11->T12->Prop)(t:T1×T2×T3×T4×T5×T6×T7×T8×T9×T10×T11×T12):Prop:=S t.1 t.2.1 t.2.2.1 t.2.2.2.1 t.2.2.2.2.1 t.2.2.2.2.2.1 t.2.2.2.2.2.2.1 t.2.2.2.2.2.2.2.1 t.2.2.2.2.2.2.2.2.1 t.2.2.2.2.2.2.2.2.2.1 t.2.2.2.2.2.2.2.2.2.2.1 t.2.2.2.2.2.2.2.2.2.2.2
noncomputable def HX(S:T1->T2->T3->T4->T5->T6->T7->T8->T9->T10->T11->T12->Prop):T1×T2×T3×T4×T5×T6×T7×T8×T9×T10×T11×T12:=ep (j8 n1 (j8 n2 (j8 n3 (j8 n4 (j8 n5 (j8 n6 (j8 n7 (j8 n8 (j8 n9 (j8 QM (j8 Ua Ub))))))))))) (ap12 S)
theorem C0(S:T1->T2->T3->T4->T5->T6->T7->T8->T9->T10->T11->T12->Prop)(h:ap12 S (HX n1 n2 n3 n4 n5 n6 n7 n8 n9 QM Ua Ub S))(x1:T1)(x2:T2)(x3:T3)(x4:T4)(x5:T5)(x6:T6)(x7:T7)(x8:T8)(x9:T9)(MT:T10)(QN:T11)(QO:T12):S x1 x2 x3 x4 x5 x6 x7 x8 x9 MT QN QO:=rA h (x1,x2,x3,x4,x5,x6,x7,x8,x9,MT,QN,QO)
def ap14(S:T1->T2->T3->T4->T5->T6->T7->T8->T9->T10->T11->T12->T13->T14->Prop)(t:T1×T2×T3×T4×T5×T6×T7×T8×T9×T10×T11×T12×T13×T14):Prop:=S t.1 t.2.1 t.2.2.1 t.2.2.2.1 t.2.2.2.2.1 t.2.2.2.2.2.1 t.2.2.2.2.2.2.1 t.2.2.2.2.2.2.2.1 t.2.2.2.2.2.2.2.2.1 t.2.2.2.2.2.2.2.2.2.1 t.2.2.2.2.2.2.2.2.2.2.1 t.2.2.2.2.2.2.2.2.2.2.2.1 t.2.2.2.2.2.2.2.2.2.2.2.2.1 t.2.2.2.2.2.2.2.2.2.2.2.2.2
noncomputable def N1(S:T1->T2->T3->T4->T5->T6->T7->T8->T9->T10->T11->T12->T13->T14->Prop):T1×T2×T3×T4×T5×T6×T7×T8×T9×T10×T11×T12×T13×T14:=ep (j8 n1 (j8 n2 (j8 n3 (j8 n4 (j8 n5 (j8 n6 (j8 n7 (j8 n8 (j8 n9 (j8 QM (j8 Ua (j8 Ub (j8 n13 n14))))))))))))) (ap14 S)
theorem J1(S:T1->T2->T3->T4->T5->T6->T7->T8->T9->T10->T11->T12->T13->T14->Prop)(h:ap14 S (N1 n1 n2 n3 n4 n5 n6 n7 n8 n9 QM Ua Ub n13 n14 S))(x1:T1)(x2:T2)(x3:T3)(x4:T4)(x5:T5)(x6:T6)(x7:T7)(x8:T8)(x9:T9)(MT:T10)(QN:T11)(QO:T12)(x13:T13)(x14:T14):S x1 x2 x3 x4 x5 x6 x7 x8 x9 MT QN QO x13 x14:=rA h (x1,x2,x3,x4,x5,x6,x7,x8,x9,MT,QN,QO,x13,x14)
def ap16(S:T1->T2->T3->T4->T5->T6->T7->T8->T9->T10->T11->T12->T13->T14->T15->T16->Prop)(t:T1×T2×T3×T4×T5×T6×T7×T8×T9×T10×T11×T12×T13×T14×T15×T16):Prop:=S t.1 t.2.1 t.2.2.1 t.2.2.2.1 t.2.2.2.2.1 t.2.2.2.2.2.1 t.2.2.2.2.2.2.1 t.2.2.2.2.2.2.2.1 t.2.2.2.2.2.2.2.2.1 t.2.2.2.2.2.2.2.2.2.1 t.2.2.2.2.2.2.2.2.2.2.1 t.2.2.2.2.2.2.2.2.2.2.2.1 t.2.2.2.2.2.2.2.2.2.2.2.2.1 t.2.2.2.2.2.2.2.2.2.2.2.2.2.1 t.2.2.2.2.2.2.2.2.2.2.2.2.2.2.1 t.2.2.2.2.2.2.2.2.2.2.2.2.2.2.2
noncomputable def Fq(S:T1->T2->T3->T4->T5->T6->T7->T8->T9->T10->T11->T12->T13->T14->T15->T16->Prop):T1×T2×T3×T4×T5×T6×T7×T8×T9×T10×T11×T12×T13×T14×T15×T16:=ep (j8 n1 (j8 n2 (j8 n3 (j8 n4 (j8 n5 (j8 n6 (j8 n7 (j8 n8 (j8 n9 (j8 QM (j8 Ua (j8 Ub (j8 n13 (j8 n14 (j8 n15 n16))))))))))))))) (ap16 S)
theorem As(S:T1->T2->T3->T4->T5->T6->T7->T8->T9->T10->T11->T12->T13->T14->T15->T16->Prop)(h:ap16 S (Fq n1 n2 n3 n4 n5 n6 n7 n8 n9 QM Ua Ub n13 n14 n15 n16 S))(x1:T1)(x2:T2)(x3:T3)(x4:T4)(x5:T5)(x6:T6)(x7:T7)(x8:T8)(x9:T9)(MT:T10)(QN:T11)(QO:T12)(x13:T13)(x14:T14)(x15:T15)(x16:T16):S x1 x2 x3 x4 x5 x6 x7 x8 x9 MT QN QO x13 x14 x15 x16:=rA h (x1,x2,x3,x4,x5,x6,x7,x8,x9,MT,QN,QO,x13,x14,x15,x16)
end
theorem gK{α:Type u}{a:α}{P:Prop}(h:av=ae a):P:=by cases h
theorem nomS{α:Type u}{a:α}{P:Prop}(h:ae a=av):P:=by cases h
theorem eo{α:Type u}{a:α}{P:Prop}(h:a∈([]:List α)):P:=by cases h
theorem vK{P:Prop}(h:aH=aI):P:=by cases h
theorem J2{P:Prop}(h:aI=aH):P:=by cases h
theorem Q9{α:Type u}{a:α}{l:List α}{P:Prop}(h:[]=a::l):P:=by cases h
theorem J3{α:Type u}{a:α}{l:List α}{P:Prop}(h:a::l=[]):P:=by cases h
@[elab_as_elim] theorem TS{P:Nat->Prop}{i:Nat}(h:i < 3)(a:P 0)(b:P 1)(c:P 2):P i:=by cases i with|zero=>exact a|succ i=>cases i with|zero=>exact b|succ i=>cases i with|zero=>exact c|succ i=>omega
theorem lt4s{P:Nat->Prop}{i:Nat}(h:i < 4)(a:P 0)(b:P 1)(c:P 2)(d:P 3):P i:=by cases i with|zero=>exact a|succ i=>exact TS (P:=λi=>P (i+1)) (by omega) b c d
@[elab_as_elim] theorem lt5{P:Nat->Prop}{i:Nat}(h:i < 5)(a:P 0)(b:P 1)(c:P 2)(d:P 3)(e:P 4):P i:=by cases i with|zero=>exact a|succ i=>exact lt4s (P:=λi=>P (i+1)) (by omega) b c d e
def aR:Lean.Syntax:= .node .none `Lean.Parser.Tactic.tacticSeq #[.node .none `Lean.Parser.Tactic.tacticSeq1Indented #[.node .none `null #[.node .none `Lean.Parser.Tactic.intros #[.atom .none "intros",.node .none `null #[]],.atom .none ";",.node .none `Lean.Parser.Tactic.tacticRfl #[.atom .none "rfl"]]]]
def aD:Lean.Syntax:= .node .none `Lean.Parser.Tactic.tacticSeq #[.node .none `Lean.Parser.Tactic.tacticSeq1Indented #[.node .none `null #[.node .none `Lean.Parser.Tactic.decide #[.atom .none "decide",.node .none `Lean.Parser.Tactic.optConfig #[.node .none `null #[]]]]]]
section
open PySem.W.Fast
noncomputable def Fs:CW:={posonlyargs:=[],args:=[],vararg:=av,kwonlyargs:=[],kw_defaults:=[],kwarg:=av,defaults:=[]}
noncomputable def BA:eU:={kind:= .function,names:=[],isGenerator:=aH,isCoroutine:=aH,more:=[]}
noncomputable def cN(i:Nat):ed:=Challenge.pw_kl0432_01.main.body.getD i (.Pass ⟨0,0,0,0⟩)
noncomputable def jl(i j:Nat):ed:=match cN i with
 | .ClassDef _ _ _ body .. =>body.getD j (.Pass ⟨0,0,0,0⟩)
 |_=> .Pass ⟨0,0,0,0⟩
noncomputable def md:ed->bb| .FunctionDef n .. =>n|_=>""
noncomputable def wI:ed->CW| .FunctionDef _ a .. =>a|_=>Fs
noncomputable def fR:ed->List ed| .FunctionDef _ _ b .. =>b|_=>[]
noncomputable def bk:ed->eU| .FunctionDef _ _ _ _ _ _ s .. =>s|_=>BA
noncomputable def oJ:List bb:=["OPTIMIZED","NEWLOCALS","VARARGS","VARKEYWORDS","NESTED","GENERATOR","NOFREE","COROUTINE","ITERABLE_COROUTINE","ASYNC_GENERATOR"]
noncomputable abbrev xy(st:ed)(pm cd doc:ai):cm:=mz (md st) (wI st) (fR st) (bk st) pm cd doc
noncomputable def eS(K:fl)(C:ay)(name:bb):Bool:=((clsIn K C).any λcd=>cd.hasDict) && fH K (.ref C) name == ae av && fH K (.ref C) "__getattribute__" == ae (ae (.builtin "object.__getattribute__"))
noncomputable def jm(K:fl)(C f:ay)(name:bb):Bool:=fH K (.ref C) "__getattribute__" == ae (ae (.builtin "object.__getattribute__")) && fH K (.ref C) "__getattr__" == ae av && fH K (.ref C) name == ae (ae (.ref f)) && typeIn K (.ref f) == ae (.type "function")
noncomputable def fh(K:fl)(C:ay)(name:bb):Bool:=fH K (.ref C) "__setattr__" == ae (ae (.builtin "object.__setattr__")) && plainOver K C && takerIn K C name == ae av && (clsIn K C).any (·.hasDict)
noncomputable abbrev Au(st:ed)(qual:bb)(pm cd doc:ai):cm:={xy st pm cd doc with qualname:=qual}
noncomputable def sx(K:fl)(C f:ay)(name:bb):Bool:=plainGet K C name && hasDictIn K C && fH K (.ref C) name == ae (ae (.ref f)) && isFn K (.ref f) && Fg K (.ref f) "__get__" == ae (ae (.builtin "function.__get__")) && Uw K (.ref f) == ae aH && !copiedNames.contains name
noncomputable def BB(K:fl)(a:ay):o6:=(K.lookup a).getD {cls:= .none,data:= .plain}
noncomputable def pmIn(K:fl)(a:ay):ai:=match (BB K a).data with| .func fd=>fd.pyModule|_=> .none
noncomputable def dcIn(K:fl)(a:ay):ai:=match (BB K a).data with| .func fd=>fd.doc|_=> .none
noncomputable def i6(K:fl)(cd:ai)(q:bb):Bool:=match cd with
 | .ref c=>(match (BB K c).data with
  | .fields vs=>(match (vs[1]? :Option ai) with|some (Value.str n _)=>n == q|_=>aH)
  |_=>aH) && (K.lookup c).isSome
 |_=>aH
noncomputable def strip:Data->Data
 | .func fd=> .func {fd with pyModule:= .none,doc:= .none}
 |d=>d
noncomputable def xb(K:fl)(a:ay):Option Data:=(K.lookup a).map λo=>strip o.data
noncomputable def BC(K:fl)(x:bb):Option ai:=match (BB K 3).data with| .dict es _=>nsFind es x|_=>av
noncomputable def TT:Nat->List bb->List gA
 |_,[]=>[]
 |i,n::l=>⟨2 ^ i,.int (2 ^ i) (253+2*i),.str n (254+2*i)⟩::TT (i+1) l
noncomputable def J4(K:fl)(a:ay):List gA:=match (BB K a).data with| .dict es _=>es.toList|_=>[]
noncomputable def Ra:List (ay×ay×ed):=[(72,71,cN 4),(172,171,cN 7),(179,178,cN 8),(256,255,cN 13),(263,262,cN 14),(270,269,cN 15),(275,274,cN 17),(280,279,cN 18),(285,284,cN 19),(290,289,cN 20),(297,296,cN 21),(302,301,cN 22),(307,306,cN 23)]
noncomputable def meL:List (ay×ay×ed×bb):=[(193,192,jl 10 0,"_netrclex.__init__"),(200,199,jl 10 1,"_netrclex._read_char"),(207,206,jl 10 2,"_netrclex.get_token"),(214,213,jl 10 3,"_netrclex.push_token"),(235,234,jl 12 1,"TupleComp.__init__"),(242,241,jl 12 2,"TupleComp.compare"),(90,89,jl 5 4,"_ExceptionTableEntryBase.__new__")]
noncomputable def Rb:List (bb×ay):=[("pretty_flags",72),("COMPILER_FLAG_NAMES",65),("_ExceptionTableEntry",162),("_parse_varint",172),("_parse_exception_table",179),("_netrclex",217),("TupleComp",245),("add_func_stats",256),("add_callers",263),("count_calls",270),("_law_given",275),("_law_spelled",280),("_law_octets",285),("_law_back",290),("_law_run",297),("_law_hear",302),("law",307),("__builtins__",4)]
noncomputable def mnL:List bb:=["range","len","sum","enumerate","int","bool","list","set","sorted","hex","next","iter","ord","chr","bytes","isinstance","tuple","StopIteration","type","issubclass"]
noncomputable def gtL:List (ay×bb):=[(132,"start"),(135,"end"),(138,"target"),(141,"depth"),(144,"lasti")]
noncomputable def oA(K:fl):=(Ra.map λq=>(xb K q.1,i6 K (.ref q.2.1) (md q.2.2)),meL.map λq=>(xb K q.1,i6 K (.ref q.2.1) q.2.2.2),Rb.map λq=>BC K q.1,mnL.map (BC K))
noncomputable def vA:=(Ra.map λq=>(ae (Nd (mz (md q.2.2) (wI q.2.2) (fR q.2.2) (bk q.2.2) .none (.ref q.2.1) .none)),aI),meL.map λq=>(ae (Nd (Au q.2.2.1 q.2.2.2 .none (.ref q.2.1) .none)),aI),Rb.map λq=>ae (cY q.2),mnL.map λz=>(av:Option ai))
noncomputable def oB(K:fl):=(K.lookup 65,K.lookup 36,xb K 43,i6 K (.ref 42) "_tuplegetter.__get__",(K.lookup 3).isSome)
noncomputable def vB:=(ae ({cls:= .type "dict",data:= .dict (TT 0 oJ).toArray 10}:o6),ae ({cls:= .type "tuple",data:= .seq #[.none] 0}:o6),ae (Nd {Au (jl 2 1) "_tuplegetter.__get__" .none (.ref 42) .none with defaults:= .ref 36}),aI,aI)
noncomputable def oC(K:fl):List Bool:=[eS K 217 "pushback",eS K 217 "lineno",eS K 217 "instream",eS K 217 "whitespace",fh K 217 "pushback",fh K 217 "lineno",fh K 217 "instream",fh K 217 "whitespace",jm K 217 200 "_read_char",jm K 217 207 "get_token",jm K 217 214 "push_token",eS K 245 "comp_select_list",fh K 245 "comp_select_list",jm K 245 242 "compare",makesIn K 217,keepIn K (.ref 217),makesIn K 245,keepIn K (.ref 245),sx K 217 200 "_read_char",readsIn K 162 (.type "type"),keepIn K (.ref 162),eS K 60 "index",codeHdIn K 274 272,codeHdIn K 306 304]
noncomputable def vC:List Bool:=List.replicate 24 aI
noncomputable def oD(K:fl):=(fH K (.ref 217) "__init__",fH K (.ref 245) "__init__",fH K (.ref 162) "__getattribute__",fH K (.ref 162) "__getattr__",fH K (.ref 162) "__eq__",fH K (.ref 162) "__iter__",typeIn K (.ref 193),typeIn K (.ref 235),subIn K (.type "tuple") (.ref 162),subIn K (.ref 162) (.type "tuple"),Fh K (.ref 162) (.type "type") "__new__",recIn K 150 "staticmethod",Fh K (.type "tuple") (.type "type") "__new__",Fh K (.type "tuple") (.type "type") "__getitem__")
noncomputable def vD:=(ae (ae (cY 193)),ae (ae (cY 235)),ae (ae (iG "tuple.__getattribute__")),ae (av:Option ai),ae (ae (iG "tuple.__eq__")),ae (ae (iG "tuple.__iter__")),ae (lX "function"),ae (lX "function"),ae aH,ae aI,ae (CFound.get (.builtin "staticmethod.__get__") (.ref 150) .none (.ref 162)),ae [cY 90],ae (CFound.val (.builtin "tuple.__new__")),ae (CFound.val (.builtin "tuple.__getitem__")))
noncomputable def oX(a k:ai->bb->mF (Option ai))(b h:ai->ai->mF Bool)(c:ai->mF (Option String))(d:ai->mF (List ai))(e:String->Args->mF Unit)(f:String->ai->mF Unit)(g:ai->mF Bool)(K:fl)(S:Setting):=(peek K S (a (.ref 162) "__call__"),peek K S (b (.ref 162) (.type "type")),peek K S (c (.ref 162)),peek K S (d (.ref 162)),(λt:ay=>peek K S (e "tuple.__new__" {pos:=[.ref 162,.ref t]})),peek K S (f "tuple.__new__" (.ref 162)),peek K S (g (.ref 162)),peek K S (h (.ref 162) (.type "tuple")),peek K S (h (.ref 162) (.ref 162)),peek K S (h (.ref 162) (.type "object")),peek K S (k (.ref 162) "__init__"))
noncomputable def oE:=oX mA iQ uh Nf Bind.madeBy mroOf iI Bind.madeHere isType
noncomputable def oG:=oX tw4214721358667687652 tw1381439984260040727 tw6571733998842723752 tw16098473122060591676 tw6838149247815620303 tw9541985092090588186 tw10254737850608025244 tw7909335148693498415 tw10380811246957099773
theorem oE_eq:oE=oG:=by delta oE oG;rw [te4214721358667687652,te6571733998842723752,te6838149247815620303,te9541985092090588186,te10254737850608025244,te7909335148693498415,te10380811246957099773,te16098473122060591676,te1381439984260040727]
noncomputable def vE(_:Setting):=(ae (ae (iG "type.__call__")),ae aI,ae (av:Option String),ae [cY 162,.ref 149,.type "tuple",.type "object"],(λ_:ay=>ae ()),ae (),ae aI,ae aI,ae aI,ae aI,ae (ae (iG "object.__init__")))
noncomputable def J5(K:fl):Option Bool:=match K.lookup 162 with
 |some ⟨.type "type",_,.cls cd,_⟩=>ae cd.hasDel
 |_=>av
noncomputable def oF(K:fl):=(gtL.map λq=>(fH K (.ref 162) q.2,Fg K (.ref q.1) "__get__",Uw K (.ref q.1),K.lookup q.1,getL "index" (J4 K (q.1 - 1)),(K.lookup (q.1 - 1)).map λo=>(o.cls,o.dict,o.slots)),J5 K)
noncomputable def vF:=((gtL.zipIdx.map λ(q:(ay×bb)×Nat)=>(ae (ae (cY q.1.1)),ae (ae (cY 43)),ae aI,ae (Af 60 (q.1.1 - 1)),ae (ae (jT q.2 (394+10*q.2))),ae (lX "dict",(av:Option ay),(#[]:Array (Option ai))))),ae aH)
noncomputable def Ft(K:fl):=(oA K,oB K,oC K,oD K,oG K,oF K)
noncomputable def N2:=(vA,vB,vC,vD,vE,vF)
def J6(_:d8)(h:dH):Prop:=∃K:fl,K.In h/\K.lookup 272=av/\K.lookup 304=av/\Ft K=N2/\∀P∈[272,304],h.get? P=ae (tabObj #[])
structure Cx where
 w:d8
 s:aq
 mg:bb->Option ai
def C6(c:Cx):Prop:=∀(q:dG) (loose:List bb) (RR:WRecords) (XP:(bb->Option ai)->dH->Prop) (s0:aq) (mb:bb->Option ai) (fa:ay) (args:List WData) (bB:List ai) (cl:bb->Option ay) (mean:ExcName->Option ai) (E:ai->aq->Prop),
 Ground q loose RR XP c.w s0 c.mg mb c.s.heap->importsNone q=aI->J6 c.w c.s.heap->c.mg "law"=ae (.ref fa)->c.s.gens=#[]->(cQ.row.toRowW.claim).pre args=aI->WellAll c.w.params c.s.heap bB args->
 aS (aX cQ.row.toRowW.prog c.w) callerA (Ju (.ref fa) bB) (λv s'=>GoodWG (cQ.row.toRowW.claim) cl mean args c.s (.ok (.ret v)) s') E c.s
theorem Qh:Nonempty Cx:=⟨⟨⟨λz z=>0,{strHash:=λz=>0,shareClass:=λz=>0,mergeTok:=λt=>t,idOf:=λz=>0,idOfShared:=λz z=>0,followText:=λz=>aH,idOfImm:=λz=>0}⟩,{},λz=>av⟩⟩
@[irreducible] noncomputable def cx:Cx:=@Classical.epsilon Cx Qh λc=>¬C6 c
theorem J7(h:C6 cx)(c:Cx):C6 c:=bO λn=>by
 unfold cx at h;exact @Classical.epsilon_spec_aux Cx Qh (λc=>¬C6 c) ⟨c,n⟩ h
theorem zK:Nonempty aq:=⟨{}⟩
theorem E9:Nonempty d8:=⟨cx.w⟩
theorem Fu:Nonempty bh:=⟨callerA⟩
theorem cL:Nonempty ay:=inferInstance
theorem gL:Nonempty ai:=inferInstance
theorem neE:Nonempty gP:=inferInstance
theorem sX:Nonempty dG:=inferInstance
end
noncomputable def Fv:List ay:=[162,161,149,148,217,216,245,244,60,59,3,2,36,42,43,65,132,135,138,141,144,131,134,137,140,143,150,71,72,89,90,171,172,178,179,192,193,199,200,206,207,213,214,234,235,241,242,255,256,262,263,269,270,274,275,279,280,284,285,289,290,296,297,301,302,306,307]
noncomputable def lH(h:dH):List ay->fl
 |[]=>[]
 |a::l=>match h.get? a with
  |some o=>(a,o)::lH h l
  |none=>lH h l
theorem G2(h:dH):∀l:List ay,(lH h l).In h/\∀a,a∉l->(lH h l).lookup a=av
 |[]=>⟨(λa o e=>by exact gK e),λz z=>rfl⟩
 |b::l=>by
  refine dU (G2 h l) λh1 h2=>?_;show Frag.In (match h.get? b with|some o=>(b,o)::lH h l|none=>lH h l) h/\∀a,a∉b::l->(match h.get? b with|some o=>(b,o)::lH h l|none=>lH h l).lookup a=av;cases hb:h.get? b with
  |none=>exact ⟨h1,λa ha=>h2 a λq=>ha (ab _ q)⟩
  |some o=>
   refine ⟨λa o' e=>?_,λa ha=>?_⟩
   ·rw [lh] at e;by_cases xa:a=b
    ·subst xa;rw [show (a == a)=aI from by simp] at e
     (have lA:=aO e;clear e;subst lA);exact hb
    ·rw [show (a == b)=aH from by simpa using xa] at e;exact h1 a o' e
   ·(refine aj (lh ..) ?_;refine aj (show (a == b)=aH from by simpa using λq:a=b=>ha (q▸aa)) ?_)
    exact h2 a λq=>ha (ab _ q)
section
noncomputable def N3(p:dG)(w:d8)(n0:Nat)(ann:Option ai):Nat->Ux->Thread->Option Ux
 |0,_,_=>av
 |n+1,s,t=>match through t with
  |true=>ae s
  |false=>match Fast.tw6613529449190102663 n0 ann t with
   |false=>av
   |true=>match Fast.tw10156331382660048174 (Fast.tw11892475500146522536 Fast.tw14364793385576792824) p w s t with
    |some (s',t')=>N3 p w n0 ann n s' t'
    |none=>av
theorem Av{p:dG}{w:d8}{n0:Nat}{ann:Option ai}:∀{n:Nat} {s s':Ux} {t:Thread},N3 p w n0 ann n s t=ae s'->topRun CX p w n0 ann n s.abs t=ae s'.abs
 |0,_,_,_,h=>by cases h
 |n+1,s,s',t,h=>by
  unfold N3 at h;unfold topRun;cases ht:through t with
  |true=>rw [ht] at h;cases h;rfl
  |false=>
   rw [ht] at h;dsimp only at h ⊢;rw [<- Fast.te6613529449190102663] at h;cases ho:stepOk n0 ann t with
   |false=>rw [ho] at h;cases h
   |true=>
    rw [ho] at h;dsimp only at h ⊢;rw [<- Fast.te10156331382660048174,<- Fast.te11892475500146522536,<- Fast.te14364793385576792824] at h;cases hs:stepT (denote CX) p w s t with
    |none=>rw [hs] at h;cases h
    |some q=>obtain ⟨s1,t1⟩:=q;rw [hs] at h;rw [stepT_spec hs];exact Av h
noncomputable def mkT:List o6->Nat->BT->BT
 |[],_,t=>t
 |o::l,n,t=>mkT l (n+1) (t.ins n o)
noncomputable def st0(w:d8)(os:vn):Ux:=⟨mkT (P6 w.params).objs.toList 0 .nil,11,(P6 w.params).life,#[],boot_drawn,boot_toks,os⟩
theorem N4(w:d8)(os:vn):(st0 w os).abs=⟨P6 w.params,#[],boot_drawn,boot_toks,os⟩:=by kernel_rfl!
noncomputable abbrev pw:dG:=PySem.Challenge.pw_kl0432_01
noncomputable def qV:dG:=view pw [23]
noncomputable def xO:List bb:=["_wall","_tuplegetter","COMPILER_FLAG_NAMES","pretty_flags","_ExceptionTableEntryBase","_ExceptionTableEntry","_parse_varint","_parse_exception_table","_netrclex","TupleComp","add_func_stats","add_callers","count_calls","_law_given","_law_spelled","_law_octets","_law_back","_law_run","_law_hear"]
noncomputable def ends(w:d8)(os:vn):Option Ux:=N3 pw w 11 (ae (.ref 6)) 3200 (st0 w os) (topStub pw)
noncomputable def chk(h0:dH)(s:aq):Bool:=staticsOk (sr pw.main.body) h0 s.heap && namesBound pw s.heap && gensDone s && laidKept h0 s.heap
noncomputable def uF(t:BT)(n:Nat):List ay->fl
 |[]=>[]
 |a::l=>match Nat.blt a n with
  |true=>match t.get a with
   |some o=>match alive o with
    |some o'=>(a,o')::uF t n l
    |none=>uF t n l
   |none=>[]
  |false=>uF t n l
noncomputable def okT(t:BT)(n:Nat)(l:List ay):Bool:=l.all λa=>Nat.blt a n && (t.get a).isSome
noncomputable def Fw(t:BT)(a:ay):Option o6:=(t.get a).bind alive
theorem J8{t:BT}{n:Nat}{life:Life}{a:ay}(h1:Nat.blt a n=aI)(h2:(t.get a).isSome=aI):(Fi t n life).get? a=Fw t a:=by obtain ⟨o,ho⟩:=dI.mp h2;rw [abs_get (Nat.blt_eq.mp h1:a < n) ho];unfold Fw;rw [ho];rfl
theorem J9{t:BT}{n:Nat}{life:Life}:∀{l:List ay},okT t n l=aI->lH (Fi t n life) l=uF t n l
 |[],_=>rfl
 |a::l,h=>by
  unfold okT at h;rw [Ng,dQ,dQ] at h;obtain ⟨⟨h1,h2⟩,h3⟩:=h;have ih:=J9 (life:=life) (l:=l) h3;show (match (Fi t n life).get? a with|some o=>(a,o)::lH (Fi t n life) l|none=>lH (Fi t n life) l)=(match Nat.blt a n with|true=>(match t.get a with|some o=>(match alive o with|some o'=>(a,o')::uF t n l|none=>uF t n l)|none=>[])|false=>uF t n l);rw [J8 h1 h2,h1];unfold Fw;obtain ⟨o,ho⟩:=dI.mp h2;rw [ho];dsimp only [EU];cases alive o with
  |none=>exact ih
  |some o'=>dsimp only;rw [ih]
noncomputable def obs(s:aq):=(Ft (lH s.heap Fv),[s.heap.get? 272,s.heap.get? 304])
noncomputable def bB:=(N2,[ae (tabObj #[]),ae (tabObj #[])])
theorem obs_T{s:Ux}(h:okT s.tree s.n (272::304::Fv)=aI):obs s.abs=(Ft (uF s.tree s.n Fv),[Fw s.tree 272,Fw s.tree 304]):=by unfold okT at h;rw [Ng,dQ,dQ,Ng,dQ,dQ] at h;obtain ⟨⟨h1,h2⟩,⟨h3,h4⟩,h5⟩:=h;show (Ft (lH (Fi s.tree s.n s.life) Fv),[(Fi s.tree s.n s.life).get? 272,(Fi s.tree s.n s.life).get? 304])=_;rw [J9 h5,J8 h1 h2,J8 h3 h4]
noncomputable def Rc(w:d8)(os:vn):=(ends w os).map λs=>(chk (P6 w.params) s.abs,Fast.tw4187177175401517315 qV xO (sr pw.main.body) (λz=>aI) aI s.abs,okT s.tree s.n (272::304::Fv),(Ft (uF s.tree s.n Fv),[Fw s.tree 272,Fw s.tree 304]))
noncomputable def Rd:=ae (aI,openGood qV xO,aI,bB)
set_option maxHeartbeats 0
theorem Re(w:d8)(os:vn):Rc (w.withFollow "special-get-raises" aH) os=Rd:=by kernel_rfl
theorem Rf(w:d8)(os:vn):Rc (w.withFollow "special-get-raises" aI) os=Rd:=by kernel_rfl
end
theorem Ka(w:d8)(os:vn):Rc w os=Rd:=by
 have e:=World.withFollow_self w "special-get-raises";cases hb:w.params.followText "special-get-raises" <;> rw [hb] at e
 ·have:=Re w os;rwa [e] at this
 ·have:=Rf w os;rwa [e] at this
theorem Kb{p:dG}{w:d8}{N n:Nat}{a:Option ai}{s s1:aq}(z1:(s.heap.isNs vo && s.gens.size == 0)=aI)(z2:s.heap.objs.size=n)(z3:s.heap.nsMap vo "__annotations__"=a)(r:topRun CX p w n a N s (topStub p)=ae s1)(c:(staticsOk (sr p.main.body) s.heap s1.heap && namesBound p s1.heap && gensDone s1 && laidKept s.heap s1.heap)=aI):topFrom CX p w N s=ae s1:=by subst z2 z3;unfold topFrom;rw [z1];dsimp only;rw [r];show (match staticsOk (sr p.main.body) s.heap s1.heap && namesBound p s1.heap && gensDone s1 && laidKept s.heap s1.heap with|true=>ae s1|false=>av)=_;rw [c]
theorem leftV:LeftO pw qV xO (λz=>aI) obs (λz=>bB) 3200:=λw=>by
 obtain ⟨⟨h,gs,d,k,os⟩,e,e'⟩:=aL.mp (boot_open (p:=pw) (N:=3200) (by kernel_rfl!) rfl (λs=>by kernel_rfl!) w);obtain ⟨rfl,rfl,rfl,rfl⟩:h=P6 w.params/\gs=Array.mk []/\d=boot_drawn/\k=boot_toks:=by simpa using e'
 refine aK (aL.mp (Ka w os)) λs' hs hv=>?_;obtain ⟨h1,h2,h3,h4⟩:_/\_/\_/\_:=by simpa only [Nh] using hv
 have r:=Av hs;rw [N4] at r;unfold openEnds;rw [e,EU,Kb (by kernel_rfl!) (by kernel_rfl!) (by kernel_rfl!) r h1,GO];show ae (openSeen qV xO (sr pw.main.body) (λz=>aI) aI s'.abs,obs s'.abs)=ae _;rw [obs_T h3,h4,Fast.te4187177175401517315,h2]
theorem N5(w:d8)(s:aq)(e:obs s=bB):J6 w s.heap:=by
 refine dU (sN e) λe1 e2=>dU (G2 s.heap Fv) λh1 h2=>?_;simp only [GP,and_true] at e2;refine ⟨_,h1,h2 272 (by decide),h2 304 (by decide),e1,λP hP=>?_⟩;rcases aP.mp hP with h|h
 ·rw [h];exact e2.1
 ·rw [aA.mp h];exact e2.2
theorem Fx(w:d8)(h h':dH)(x:J6 w h)(k:∀b o,h.get? b=ae o->h'.get? b=ae o):J6 w h':=by refine CZ x λK h1 h2 h3 h4 h5=>?_;clear x;exact ⟨K,λa o e=>k _ _ (h1 a o e),h2,h3,h4,λP hP=>k _ _ (h5 P hP)⟩
theorem saidV:cQ.wellSaid=aI:=by rw [Fast.te9446332074065402090];kernel_rfl
theorem Rg(ku:∀d kwd,defOf qV "law"=ae (d,kwd)->WalkO qV xO (λz z=>True) J6 cQ.row.toRowW d kwd λf vs=>Ju f vs):cQ.Holds:=by
 refine holds_law saidV λk1=>?_;obtain ⟨⟨d,kwd⟩,hd⟩:∃x,defOf qV "law"=ae x:=dI.mp (by kernel_rfl!);refine holds_open (N:=3200) leftV N5 Fx (λz z=>trivial) (λz z z z z=>trivial) hd ?hp ?hk (λs z=>?rf) rfl k1 ?ok ?hb ?hw (ku d kwd hd)
 case hp=>
  have e:pw.theDef "law"=(defOf qV "law").map λx=>(x.1.params,x.1.body,x.1.scope):=by kernel_rfl!
  exact e.trans (by rw [hd];rfl)
 case hk=>
  have e:((defOf qV "law").map λx=>kwWritten? x.1.params.kwonlyargs x.1.params.kw_defaults)=(defOf qV "law").map λx=>ae x.2:=by kernel_rfl!
  rw [hd] at e;exact aO e
 case rf=>exact recFacts_of (R:=[]) (s:=s) rfl
 case ok=>kernel_rfl
 case hb=>exact ⟨rfl,rfl,rfl,rfl,rfl,by kernel_rfl!⟩
 case hw=>exact ⟨[.list []],by decide+kernel,by decide+kernel⟩
section
variable {s:aq}{h':dH}{k:Nat}
inductive V where
 |none|bool (b:Bool)|int (i:Int)|str (s:bb)|bytes (b:Array UInt8)
 |tup (xs:List V)|list (xs:List V)|dict (es:List (bb×V))|ent (xs:List V)
 |ref (a:ay)|type (n:String)|bi (id:String)
theorem neV:Nonempty V:=⟨.none⟩
noncomputable abbrev bI:=ay->Option o6
def bI.le(Z Z':bI):Prop:=∀a o,Z a=ae o->Z' a=ae o
theorem bI.le_refl(Z:bI):Z.le Z:=λz z e=>e
theorem bI.le_trans{Z Z' PN:bI}(x:Z.le Z')(y:Z'.le PN):Z.le PN:=λa o e=>y a o (x a o e)
noncomputable def bI.put(Z:bI)(a:ay)(o:o6):bI:=λb=>if b=a then ae o else Z b
theorem bI.le_put{Z:bI}{a:ay}{o:o6}(h:Z a=av):Z.le (Z.put a o):=λb p e=>by
 unfold bI.put;by_cases hb:b=a
 ·subst hb;rw [h] at e;exact gK e
 ·refine aj (if_neg hb ..) ?_;exact e
theorem bI.put_self(Z:bI)(a:ay)(o:o6):Z.put a o a=ae o:=if_pos rfl
structure Gd where
 prog:dG
 w:d8
 Z0:bI
 mg:bb->Option ai
 os:vn
 ent:ay
noncomputable def hG(w:d8)(s:aq)(mg:bb->Option ai):Gd:={prog:=cQ.row.toRowW.prog,w:=w,Z0:=λa=>if a=272\/a=304 then av else s.heap.get? a,mg:=mg,os:=s.os,ent:=162}
@[irreducible] noncomputable def G:Gd:=hG cx.w cx.s cx.mg
theorem HY:hG cx.w cx.s cx.mg=G:=by unfold G;rfl
noncomputable abbrev oK(vs:Array ai)(n:Nat):o6:={cls:= .type "list",data:= .seq vs n}
def BD(G:Gd)(o:o6)(kvs:List (bb×ai)):Prop:=
 o.ExactDict/\∃es ep,o.data= .dict es ep/\KeysOf (strKind G.prog G.w) es/\Pairs (strKind G.prog G.w) es.toList kvs/\(kvs.map (·.1)).Nodup
mutual
inductive aZ(G:Gd)(Z:bI):ai->V->Prop
 |none:aZ G Z .none .none
 |bool (b):aZ G Z (.bool b) (.bool b)
 |int (i t):aZ G Z (.int i t) (.int i)
 |str (x t):aZ G Z (.str x t) (.str x)
 |bytes (b t):aZ G Z (.bytes b t) (.bytes b)
 |type (n):aZ G Z (.type n) (.type n)
 |bi (n):aZ G Z (.builtin n) (.bi n)
 |ref (a):aZ G Z (.ref a) (.ref a)
 |tup {a o vs n xs:_}:Z a=ae o->o.cls= .type "tuple"->o.data= .seq vs n->bW G Z vs.toList xs->aZ G Z (.ref a) (.tup xs)
 |list {a vs n xs:_}:Z a=ae (oK vs n)->bW G Z vs.toList xs->aZ G Z (.ref a) (.list xs)
 |ent {a o vs n xs:_}:Z a=ae o->o.cls= .ref G.ent->o.data= .seq vs n->bW G Z vs.toList xs->aZ G Z (.ref a) (.ent xs)
 |dict {a o kvs xs:_}:(a == lY)=aH->Z a=ae o->BD G o kvs->kvs.map (·.1)=xs.map (·.1)->bW G Z (kvs.map (·.2)) (xs.map (·.2))->aZ G Z (.ref a) (.dict xs)
inductive bW(G:Gd)(Z:bI):List ai->List V->Prop
 |nil:bW G Z [] []
 |cons {v vs x xs:_}:aZ G Z v x->bW G Z vs xs->bW G Z (v::vs) (x::xs)
end
theorem bI.le.trans{Z Z' PN:bI}(x:Z.le Z')(y:Z'.le PN):Z.le PN:=λa o e=>y a o (x a o e)
theorem bI.le.rfl{Z:bI}:Z.le Z:=λz z e=>e
section
variable {Z Z':bI}{v:ai}
theorem aZ.both{P:ai->V->Prop}{Q:List ai->List V->Prop}(av:P .none .none)(bool:∀b,P (.bool b) (.bool b))(int:∀i t,P (.int i t) (.int i))(str:∀x t,P (.str x t) (.str x))(bytes:∀b t,P (.bytes b t) (.bytes b))
 (type:∀n,P (.type n) (.type n)) (bi:∀n,P (.builtin n) (.bi n)) (ref:∀a,P (.ref a) (.ref a))
 (tup:∀{a o vs n xs},Z a=ae o->o.cls= .type "tuple"->o.data= .seq vs n->Q vs.toList xs->P (.ref a) (.tup xs)) (list:∀{a vs n xs},Z a=ae (oK vs n)->Q vs.toList xs->P (.ref a) (.list xs))
 (ent:∀{a o vs n xs},Z a=ae o->o.cls= .ref G.ent->o.data= .seq vs n->Q vs.toList xs->P (.ref a) (.ent xs))
 (dict:∀{a o kvs xs},(a == lY)=aH->Z a=ae o->BD G o kvs->kvs.map (·.1)=xs.map (·.1)->Q (kvs.map (·.2)) (xs.map (·.2))->P (.ref a) (.dict xs))
 (nil:Q [] []) (cons:∀{v vs x xs},P v x->bW G Z vs xs->Q vs xs->Q (v::vs) (x::xs)):(∀{v x},aZ G Z v x->P v x)/\∀{vs xs},bW G Z vs xs->Q vs xs:=
 have f:∀{v x},(h:aZ G Z v x)->P v x:=λ{z z} h=>aZ.rec (motive_1:=λv x z=>P v x) (motive_2:=λvs xs z=>Q vs xs) av bool int str bytes type bi ref (λ{z z z z z} e c d z q=>tup e c d q) (λ{z z z z} e z q=>list e q) (λ{z z z z z} e c d z q=>ent e c d q) (λ{z z z z} s e d k z q=>dict s e d k q) nil (λ{z z z z} z r p q=>cons p r q) h
 ⟨f,λ{z z} h=>bW.rec (motive_1:=λv x z=>P v x) (motive_2:=λvs xs z=>Q vs xs) av bool int str bytes type bi ref (λ{z z z z z} e c d z q=>tup e c d q) (λ{z z z z} e z q=>list e q) (λ{z z z z z} e c d z q=>ent e c d q) (λ{z z z z} s e d k z q=>dict s e d k q) nil (λ{z z z z} z r p q=>cons p r q) h⟩
theorem aZ.monos(h:Z.le Z'):(∀{v x},aZ G Z v x->aZ G Z' v x)/\∀{vs xs},bW G Z vs xs->bW G Z' vs xs:=
 aZ.both (P:=aZ G Z') (Q:=bW G Z') .none .bool .int .str .bytes .type .bi .ref (λ{z z z z z} e=> .tup (h _ _ e)) (λ{z z z z} e=> .list (h _ _ e)) (λ{z z z z z} e=> .ent (h _ _ e)) (λ{z z z z} s e=> .dict s (h _ _ e)) .nil (λ{z z z z} p z q=> .cons p q)
theorem aZ.mono(h:Z.le Z'){x:V}(r:aZ G Z v x):aZ G Z' v x:=(aZ.monos h).1 r
theorem bW.mono(h:Z.le Z'){vs:List ai}{xs:List V}(r:bW G Z vs xs):bW G Z' vs xs:=(aZ.monos h).2 r
@[elab_as_elim] theorem bW.ind{P:List ai->List V->Prop}{vs:List ai}{xs:List V}(h:bW G Z vs xs)(nil:P [] [])(cons:∀{v vs x xs},aZ G Z v x->bW G Z vs xs->P vs xs->P (v::vs) (x::xs)):P vs xs:=
 bW.rec (motive_1:=λz z z=>True) (motive_2:=λvs xs z=>P vs xs) trivial (λz=>trivial) (λz z=>trivial) (λz z=>trivial) (λz z=>trivial) (λz=>trivial) (λz=>trivial) (λz=>trivial) (λ{z z z z z} z z z z z=>trivial) (λ{z z z z} z z z=>trivial) (λ{z z z z z} z z z z z=>trivial) (λ{z z z z} z z z z z z=>trivial) nil (λ{z z z z} a r z q=>cons a r q) h
noncomputable def aZ.by(Z:bI)(v:ai):V->Prop
 | .none=>v= .none
 | .bool b=>v= .bool b
 | .int i=>∃t,v= .int i t
 | .str x=>∃t,v= .str x t
 | .bytes b=>∃t,v= .bytes b t
 | .type n=>v= .type n
 | .bi n=>v= .builtin n
 | .ref a=>v= .ref a
 |_=>True
theorem aZ.is{x:V}(h:aZ G Z v x):aZ.by Z v x:=by cases h <;> first|rfl|exact ⟨_,rfl⟩|trivial
variable {P:ai->Prop}
@[elab_as_elim] theorem aZ.intC{i:Int}(h:aZ G Z v (.int i))(c:∀t,P (.int i t)):P v:=by obtain ⟨t,rfl⟩:=h.is;exact c t
@[elab_as_elim] theorem aZ.strC{x:bb}(h:aZ G Z v (.str x))(c:∀t,P (.str x t)):P v:=by obtain ⟨t,rfl⟩:=h.is;exact c t
theorem aZ.boolE{b:Bool}(h:aZ G Z v (.bool b)):v= .bool b:=h.is
theorem aZ.noneE(h:aZ G Z v .none):v= .none:=h.is
theorem aZ.refE{a:ay}(h:aZ G Z v (.ref a)):v= .ref a:=h.is
theorem aZ.typeE{n:String}(h:aZ G Z v (.type n)):v= .type n:=h.is
theorem aZ.biE{n:String}(h:aZ G Z v (.bi n)):v= .builtin n:=h.is
end
section
variable {Z:bI}
theorem bW.length{vs:List ai}{xs:List V}(h:bW G Z vs xs):vs.length=xs.length:=h.ind rfl λ{z z z z} z z e=>congrArg xm e
theorem bW.get{vs:List ai}{xs:List V}(h:bW G Z vs xs){i:Nat}{x:V}:xs[i]? =ae x->∃v,vs[i]? =ae v/\aZ G Z v x:=
 h.ind (P:=λvs xs=>∀(i:Nat) (x:V),xs[i]? =ae x->∃v,vs[i]? =ae v/\aZ G Z v x) (λz z e=>gK e) (λ{v vs x xs} a z ih i=>i.casesOn (λz e=>⟨v,rfl,aO e▸a⟩) λi x e=>ih i x e) i x
theorem bW.get'{vs:List ai}{xs:List V}(h:bW G Z vs xs){i:Nat}{v:ai}:vs[i]? =ae v->∃x,xs[i]? =ae x/\aZ G Z v x:=
 h.ind (P:=λvs xs=>∀(i:Nat) (v:ai),vs[i]? =ae v->∃x,xs[i]? =ae x/\aZ G Z v x) (λz z e=>gK e) (λ{v vs x xs} a z ih i=>i.casesOn (λz e=>⟨x,rfl,aO e▸a⟩) λi v e=>ih i v e) i v
theorem bW.append{vs ws:List ai}{xs ys:List V}(h:bW G Z vs xs)(k:bW G Z ws ys):bW G Z (vs++ws) (xs++ys):=h.ind k λ{z z z z} a z r=> .cons a r
theorem bW.snoc{vs:List ai}{xs:List V}{v:ai}{x:V}(h:bW G Z vs xs)(e:aZ G Z v x):bW G Z (vs++[v]) (xs++[x]):=h.append (.cons e .nil)
theorem bW.ofGets:∀{vs:List ai} {xs:List V},vs.length=xs.length->(∀(i:Nat) (v:ai) (x:V),vs[i]? =ae v->xs[i]? =ae x->aZ G Z v x)->bW G Z vs xs:=λ{vs}=>by
 induction vs with
 |nil=>intro xs hl z;cases xs with
  |nil=>exact .nil
  |cons=>cases hl
 |cons v vs ih=>intro xs hl h;cases xs with
  |nil=>cases hl
  |cons x xs=>exact .cons (h 0 v x rfl rfl) (ih (Nat.succ.inj hl) λi a b ha hb=>h (i+1) a b ha hb)
end
structure cX where
 own:List ay
 sat:bI->dH->Prop
 mono:∀Z Z' h,Z.le Z'->sat Z h->sat Z' h
 loc:∀Z h h',sat Z h->(∀b∈own,∀o,h.get? b=ae o->h'.get? b=ae o)->(∀a o,Z a=ae o->h.get? a=ae o)->(∀a o,Z a=ae o->h'.get? a=ae o)->sat Z h'
 live:∀Z h,sat Z h->∀b∈own,∃o,h.get? b=ae o
noncomputable abbrev Mu:=List (cX)
noncomputable def gU(mu:Mu):List ay:=mu.flatMap (·.own)
structure R(Z:bI)(mu:Mu)(s:aq):Prop where
 z0:G.Z0.le Z
 zin:∀a o,Z a=ae o->s.heap.get? a=ae o
 sat:∀x∈mu,x.sat Z s.heap
 nodup:(gU mu).Nodup
 sep:∀b∈gU mu,Z b=av
 gens:s.gens=#[]
 os:s.os=G.os
section
variable {Z Z':bI}{mu:Mu}{s':aq}{tk:Nat}
theorem R.liveAll(r:R Z mu s){b:ay}(hb:b∈gU mu):∃o,s.heap.get? b=ae o:=by exact aK (bG.mp hb) λx hx hb=>x.live _ _ (r.sat x hx) b hb
theorem R.fresh(r:R Z mu s){a:ay}(ha:s.heap.objs.size<=a):Z a=av:=by
 cases e:Z a with
 |none=>rfl
 |some o=>exact absurd (bN (r.zin a o e)) (Jv.mpr ha)
theorem R.notOwn(r:R Z mu s){a:ay}(ha:s.heap.objs.size<=a):a∉gU mu:=λhb=>by
 exact cJ (r.liveAll hb) λo ho=>absurd (bN ho) (Jv.mpr ha)
theorem R.keep(r:R Z mu s)(hk:∀b o,s.heap.get? b=ae o->h'.get? b=ae o):R Z mu {s with heap:=h',toks:=tk} where
 z0:=r.z0
 zin:=λa o e=>hk a o (r.zin a o e)
 sat:=λx hx=>x.loc _ _ _ (r.sat x hx) (λb z o e=>hk b o e) r.zin λa o e=>hk a o (r.zin a o e)
 nodup:=r.nodup
 sep:=r.sep
 gens:=r.gens
 os:=r.os
theorem R.keeps(r:R Z mu s)(hk:Keeps s s'):R Z mu s':=by refine eD hk λh tk dO k=>?_;clear hk;subst dO;exact r.keep k
theorem R.toks(r:R Z mu s):R Z mu {s with toks:=tk}:=r.keep (h':=s.heap) λz z e=>e
theorem R.grow(r:R Z mu s)(hz:Z.le Z')(ql:∀a o,Z' a=ae o->s.heap.get? a=ae o)(hs:∀b∈gU mu,Z' b=av):R Z' mu s where
 z0:=bI.le_trans r.z0 hz
 zin:=ql
 sat:=λx hx=>x.mono _ _ _ hz (r.sat x hx)
 nodup:=r.nodup
 sep:=hs
 gens:=r.gens
 os:=r.os
theorem R.freeze(r:R Z mu s){a:ay}{o:o6}(ha:s.heap.get? a=ae o)(hz:Z a=av)(ho:a∉gU mu):R (Z.put a o) mu s:=
 r.grow (bI.le_put hz) (λb p e=>by
  unfold bI.put at e;by_cases hb:b=a
  ·subst hb;rw [if_pos rfl] at e;(have lA:=aO e;clear e;subst lA);exact ha
  ·rw [if_neg hb] at e;exact r.zin b p e) λb hb=>by
  unfold bI.put;have iP:b≠a:=λe=>ho (e▸hb);exact aj (if_neg iP ..) (r.sep b hb)
theorem R.push(r:R Z mu s)(o:o6):R Z mu {s with heap:=s.heap.push o}:=
 r.keep (tk:=s.toks) λz z e=>az o e
theorem R.pushZ(r:R Z mu s){o:o6}(hf:autoParam (o.isFreed=aH) aR):R (Z.put s.heap.objs.size o) mu {s with heap:=s.heap.push o}:=
 (r.push o).freeze (aW _ hf) (r.fresh (bp _)) (r.notOwn (bp _))
theorem R.add(r:R Z mu s)(x:cX)(hx:x.sat Z s.heap)(hn:x.own.Nodup)(ho:∀b∈x.own,b∉gU mu/\Z b=av):R Z (x::mu) s where
 z0:=r.z0
 zin:=r.zin
 sat:=λy hy=>by
  rcases aP.mp hy with rfl|hy
  ·exact hx
  ·exact r.sat y hy
 nodup:=by show (x.own++gU mu).Nodup;exact gj (bP ..) (⟨hn,r.nodup,λa ha b hb e=>(ho a ha).1 (e▸hb)⟩)
 sep:=λb hb=>by
  rcases bc.mp (show b∈x.own++gU mu from hb) with hb|hb
  ·exact (ho b hb).2
  ·exact r.sep b hb
 gens:=r.gens
 os:=r.os
theorem R.drop{x:cX}(r:R Z (x::mu) s):R Z mu s where
 z0:=r.z0
 zin:=r.zin
 sat:=λy hy=>r.sat y (.tail _ hy)
 nodup:=(bP.mp (show (x.own++gU mu).Nodup from r.nodup)).2.1
 sep:=λb hb=>r.sep b (bL (as:=x.own) hb)
 gens:=r.gens
 os:=r.os
theorem oL(a b:Mu):gU (a++b)=gU a++gU b:=Uy
theorem R.sub{nu:Mu}(r:R Z mu s)(hs:∀x∈nu,x∈mu)(hn:(gU nu).Nodup):R Z nu s where
 z0:=r.z0
 zin:=r.zin
 sat:=λy hy=>r.sat y (hs y hy)
 nodup:=hn
 sep:=λb hb=>by
  exact aK (bG.mp hb) λx hx hb=>r.sep b (bG.mpr ⟨x,hs x hx,hb⟩)
 gens:=r.gens
 os:=r.os
theorem rp{nu mu:Mu}(h:nu.Sublist mu)(hn:(gU mu).Nodup):(gU nu).Nodup:=by
 induction h with
 |slnil=>exact hn
 |cons a _ ih=>exact ih (bP.mp (show (a.own++gU _).Nodup from hn)).2.1
 |cons_cons a h ih=>have h2:=bP.mp (show (a.own++gU _).Nodup from hn);show (a.own++gU _).Nodup;refine gj (bP ..) (⟨h2.1,ih h2.2.1,λx hx y hy e=>h2.2.2 x hx y ?_ e⟩);exact aK (bG.mp hy) λz hz hy=>bG.mpr ⟨z,h.subset hz,hy⟩
theorem R.sublist{nu:Mu}(r:R Z mu s)(h:nu.Sublist mu):R Z nu s:=r.sub (λz hx=>h.subset hx) (rp h r.nodup)
theorem gh{α:Type}:∀{l:List α} {i:Nat} {x:α},l[i]? =ae x->l=l.take i++x::l.drop (i+1)
 |_::_,0,_,e=>by simp at e;subst e;rfl
 |a::l,i+1,x,e=>by
  rw [ui] at e;have:=gh e;simp only [jb,Uz,fU];refine fZ (this ..) ?_;rfl
theorem j0{α:Type}:∀{l:List α} {i:Nat} {x:α} (y:α),l[i]? =ae x->l.set i y=l.take i++y::l.drop (i+1)
 |_::_,0,_,_,e=>by rfl
 |a::l,i+1,x,y,e=>by
  rw [ui] at e;simp only [List.set_cons_succ,jb,Uz,fU];refine aj (j0 y e ..) ?_;rfl
theorem R.upd{i:Nat}{x x':cX}(r:R Z mu s)(hi:mu[i]? =ae x)(qe:x'.own=x.own)
 (hk:∀b o,b∉x.own->s.heap.get? b=ae o->h'.get? b=ae o) (hz:Z.le Z') (ql:∀a o,Z' a=ae o->h'.get? a=ae o) (hs:∀b∈gU mu,Z' b=av)
 (GD:x'.sat Z' h'):R Z' (mu.set i x') {s with heap:=h',toks:=tk}:=by
 have e1:=gh hi;have e2:=j0 x' hi;have hn:(gU (mu.take i)++(x.own++gU (mu.drop (i+1)))).Nodup:=by have:=r.nodup;rw [e1,oL] at this;exact this
 have ho:gU (mu.set i x')=gU mu:=by
  refine aj (e2 ..) ?_;refine aj (oL ..) ?_
  conv=>rhs;rw [e1,oL]
  show _++(x'.own++_)=_++(x.own++_);rw [qe]
 have hap:=bP.mp hn;have hap2:=bP.mp hap.2.1;refine ⟨bI.le_trans r.z0 hz,ql,λy hy=>?_,by rw [ho];exact r.nodup,by rw [ho];exact hs,r.gens,r.os⟩;rw [e2] at hy;have old:∀y,y∈mu->(∀b∈y.own,b∉x.own)->y.sat Z' h':=λy hy hd=>
  y.mono _ _ _ hz (y.loc _ _ _ (r.sat y hy) (λb hb o e=>hk b o (hd b hb) e) r.zin λa o e=>ql a o (hz a o e))
 rcases bc.mp hy with hy|hy
 ·refine old y (pB hy) λb hb hx=>hap.2.2 b (bG.mpr ⟨y,hy,hb⟩) b (aE _ hx) rfl
 ·rcases aP.mp hy with rfl|hy
  ·exact GD
  ·exact old y (gn hy) λb hb hx=>hap2.2.2 b hx b (bG.mpr ⟨y,hy,hb⟩) rfl
theorem R.upd'{i:Nat}{x x':cX}(r:R Z mu s)(hi:mu[i]? =ae x)(qe:x'.own=x.own)
 (hk:∀b o,b∉x.own->s.heap.get? b=ae o->h'.get? b=ae o) (GD:x'.sat Z h'):R Z (mu.set i x') {s with heap:=h',toks:=tk}:=
 r.upd hi qe hk (bI.le_refl Z) (λa o e=>hk a o (λhx=>by
  have:=r.sep a (bG.mpr ⟨x,ao hi,hx⟩);rw [this] at e;exact gK e) (r.zin a o e)) r.sep GD
end
theorem R.dropUpd{Z:bI}{mu:Mu}{s:aq}{x:cX}{h':dH}{tk:Nat}(r:R Z (x::mu) s)(hk:∀b o,b∉x.own->s.heap.get? b=ae o->h'.get? b=ae o):R Z mu {s with heap:=h',toks:=tk}:=by
 have hz:∀a o,Z a=ae o->h'.get? a=ae o:=λa o e=>hk a o (λhx=>by
  have:=r.sep a (aE (gU mu) hx);rw [this] at e;exact gK e) (r.zin a o e)
 have hn:=bP.mp (show (x.own++gU mu).Nodup from r.nodup);exact {
  z0:=r.z0
  zin:=hz
  sat:=λy hy=>y.loc _ _ _ (r.sat y (.tail _ hy)) (λb hb o e=>hk b o (λhx=>hn.2.2 b hx b (bG.mpr ⟨y,hy,hb⟩) rfl) e) r.zin hz
  nodup:=hn.2.1
  sep:=λb hb=>r.sep b (bL x.own hb)
  gens:=r.gens
  os:=r.os}
theorem R.left{Z:bI}{mu fr:Mu}{s:aq}(r:R Z (mu++fr) s):R Z mu s:=r.sublist (List.sublist_append_left mu fr)
theorem R.right{Z:bI}{mu fr:Mu}{s:aq}(r:R Z (mu++fr) s):R Z fr s:=r.sublist (List.sublist_append_right mu fr)
theorem R.perm{Z:bI}{mu nu:Mu}{s:aq}(r:R Z mu s)(h:mu.Perm nu):R Z nu s:=
 r.sub (λx hx=>h.mem_iff.mpr hx) ((List.Perm.flatMap_right (λx:cX=>x.own) h).nodup_iff.mp (show (mu.flatMap λx=>x.own).Nodup from r.nodup))
structure Rm(k:Nat)(A:bh):Prop where
 hh:A.handled=av
 dep:A.depth+k<=900
 uni:A.units+10*k<=9000
theorem Rm.le{k j:Nat}{A:bh}(r:Rm k A)(h:j<=k):Rm j A:=⟨r.hh,aw (qm h _) r.dep,aw (qm (UA 10 h) _) r.uni⟩
theorem Rm.deeper{k:Nat}{A:bh}(r:Rm (k+1) A)(env:gP):Rm k (A.deeper env):=
 ⟨r.hh,by have:=r.dep;show A.depth+1+k<=900;lia,by have:=r.uni;show A.units+3+10*k<=9000;lia⟩
theorem Rm.in1{k:Nat}{A:bh}(r:Rm (k+1) A):Rm k A.in1:=
 ⟨r.hh,by have:=r.dep;show A.depth+k<=900;lia,by have:=r.uni;show A.units+1+10*k<=9000;lia⟩
theorem Rm.units{k:Nat}{A:bh}(r:Rm k A):A.units < cLine:=by have:=r.uni;show A.units < 9900;lia
theorem Rm.depth{k:Nat}{A:bh}(r:Rm k A):A.depth < recursionLimit:=by have:=r.dep;show A.depth < 1000;lia
structure WV(k:Nat)(mu:Mu)(t:mF ai)(Φ:V->Mu->Prop):Prop where
 c:∀{A:bh} {E:ai->aq->Prop} {Z:bI} {s:aq} {fr:Mu} {Q:ai->aq->Prop},Rm k A->R Z (mu++fr) s->
  (∀{v s' Z' x nu},Z.le Z'->aZ G Z' v x->R Z' (nu++fr) s'->Φ x nu->Q v s')->aS (aX G.prog G.w) A t Q E s
structure Vw where
 p:bI->ai->Prop
 mono:∀Z Z' v,Z.le Z'->p Z v->p Z' v
theorem Rh:Nonempty bI:=⟨λz=>av⟩
theorem neVw:Nonempty (Vw):=⟨⟨λz z=>True,λz z z z z=>trivial⟩⟩
noncomputable def bZ(x:V):Vw:=⟨λZ v=>aZ G Z v x,λz z z h r=>r.mono h⟩
structure EV(k:Nat)(mu:Mu)(env:gP)(e:bH)(P:Vw):Prop where
 c:∀{A:bh} {E:ai->aq->Prop} {Z:bI} {s:aq} {fr:Mu} {Q:ai->aq->Prop},Rm k A->R Z (mu++fr) s->
  (∀{v s' Z'},Z.le Z'->P.p Z' v->R Z' (mu++fr) s'->Q v s')->aS (aX G.prog G.w) A (dW e env) Q E s
abbrev PE(k:Nat)(mu:Mu)(env:gP)(e:bH)(x:V):Prop:=EV k mu env e (bZ x)
abbrev WE(k:Nat)(mu:Mu)(env:gP)(e:bH)(Φ:V->Mu->Prop):Prop:=WV k mu (dW e env) Φ
structure WB(k:Nat)(mu:Mu){α:Type}(t:mF α)(b:α):Prop where
 c:∀{A:bh} {E:ai->aq->Prop} {Z:bI} {s:aq} {fr:Mu} {Q:α->aq->Prop},Rm k A->R Z (mu++fr) s->
  (∀{s' Z'},Z.le Z'->R Z' (mu++fr) s'->Q b s')->aS (aX G.prog G.w) A t Q E s
abbrev PT(k:Nat)(mu:Mu)(env:gP)(e:bH)(b:Bool):Prop:=WB k mu (isTrue e env (dW e env)) b
inductive AF where
 |next|brk|cont|ret (x:V)
inductive o7(G:Gd)(Z:bI):uj->AF->Prop
 |next:o7 G Z .next .next
 |brk:o7 G Z .brk .brk
 |cont:o7 G Z .cont .cont
 |ret {v x:_}:aZ G Z v x->o7 G Z (.ret v) (.ret x)
structure WF(k:Nat)(mu:Mu)(t:mF uj)(Φ:AF->Mu->Prop):Prop where
 c:∀{A:bh} {E:ai->aq->Prop} {Z:bI} {s:aq} {fr:Mu} {Q:uj->aq->Prop},Rm k A->R Z (mu++fr) s->
  (∀{f s' Z' a nu},Z.le Z'->o7 G Z' f a->R Z' (nu++fr) s'->Φ a nu->Q f s')->aS (aX G.prog G.w) A t Q E s
abbrev WS(k:Nat)(mu:Mu)(env:gP)(st:List ed)(Φ:AF->Mu->Prop):Prop:=WF k mu (Jw st env) Φ
abbrev WX(k:Nat)(mu:Mu)(env:gP)(st:ed)(Φ:AF->Mu->Prop):Prop:=WF k mu (exec st env) Φ
structure Wu(k:Nat)(mu:Mu){α:Type}(t:mF α)(b:α)(Ψ:Mu->Prop):Prop where
 c:∀{A:bh} {E:ai->aq->Prop} {Z:bI} {s:aq} {fr:Mu} {Q:α->aq->Prop},Rm k A->R Z (mu++fr) s->
  (∀{s' Z' nu},Z.le Z'->R Z' (nu++fr) s'->Ψ nu->Q b s')->aS (aX G.prog G.w) A t Q E s
abbrev WU(k:Nat)(mu:Mu)(t:mF Unit)(Ψ:Mu->Prop):Prop:=Wu k mu t () Ψ
section
variable {mu:Mu}
theorem WV.mono{t:mF ai}{Φ Ψ:V->Mu->Prop}(h:WV k mu t Φ)(hi:∀x nu,Φ x nu->Ψ x nu):WV k mu t Ψ:=⟨λ{y y y y y y} hA r q=>h.c hA r λ{y y y y y} z a b p=>q z a b (hi _ _ p)⟩
end
variable {Z:bI}{mu:Mu}{j i:Nat}{x:bb}{env:gP}{L:ay}{y:V}{p:jC}
noncomputable abbrev zL:=List (bb×Option ay)
noncomputable abbrev ej:=List (Option V)
noncomputable def fJ(Z:bI)(h:dH)(m:bb->Option ai)(x:bb):Option ay->Option V->Prop
 |none,av=>True
 |none,ae y=>∃v,m x=ae v/\aZ G Z v y
 |some c,av=>∃ov,h.IsCell c ov
 |some c,ae y=>∃v,h.IsCell c (ae v)/\aZ G Z v y
def ea(Z:bI)(h:dH)(m:bb->Option ai)(lay:zL)(bB:ej):Prop:=∀(j:Nat) (x:bb) (c:Option ay),lay[j]? =ae (x,c)->∃o,bB[j]? =ae o/\fJ Z h m x c o
section
variable {Z':bI}{h:dH}{m m':bb->Option ai}{lay:zL}{bB:ej}{c:Option ay}{o o':Option V}
theorem fJ.mono(hz:Z.le Z')(s:fJ Z h m x c o):fJ Z' h m x c o:=by
 cases c <;> cases o
 ·trivial
 ·obtain ⟨v,a,b⟩:=s;exact ⟨v,a,b.mono hz⟩
 ·exact s
 ·obtain ⟨v,a,b⟩:=s;exact ⟨v,a,b.mono hz⟩
theorem ea.mono(hz:Z.le Z')(s:ea Z h m lay bB):ea Z' h m lay bB:=λj x c e=>(s j x c e).imp λz q=>⟨q.1,q.2.mono hz⟩
theorem IsCell.at{c:ay}{v:Option ai}(x:h.IsCell c v)(hk:∀o,h.get? c=ae o->h'.get? c=ae o):h'.IsCell c v:=x.imp λo q=>⟨hk o q.1,q.2⟩
theorem fJ.loc(s:fJ Z h m x c o)(hk:∀b,c=ae b->∀o,h.get? b=ae o->h'.get? b=ae o)(hm:m' x=m x):fJ Z h' m' x c o:=by
 cases c <;> cases o
 ·trivial
 ·obtain ⟨v,a,b⟩:=s;exact ⟨v,hm.trans a,b⟩
 ·obtain ⟨ov,a⟩:=s;exact ⟨ov,IsCell.at a (hk _ rfl)⟩
 ·obtain ⟨v,a,b⟩:=s;exact ⟨v,IsCell.at a (hk _ rfl),b⟩
theorem C7{b:ay}(e:lay[j]? =ae (x,ae b)):b∈lay.filterMap (·.2):=fV.mpr ⟨_,ao e,rfl⟩
theorem ea.loc(s:ea Z h m lay bB)(hk:∀b∈lay.filterMap (·.2),∀o,h.get? b=ae o->h'.get? b=ae o)(hm:∀x∈lay.map (·.1),m' x=m x):ea Z h' m' lay bB:=
 λj x c e=>(s j x c e).imp λz q=>⟨q.1,q.2.loc (λb hb=>hk b (C7 (hb▸e))) (hm x (aG.mpr ⟨_,ao e,rfl⟩))⟩
theorem ea.live(s:ea Z h m lay bB)(b:ay)(hb:b∈lay.filterMap (·.2)):∃o,h.get? b=ae o:=by
 refine aK (fV.mp hb) λq h1 h2=>cJ (Ts h1) λj hj=>aK (s j q.1 (ae b) (hj.trans (congrArg (λc=>ae (q.1,c)) h2))) λo z hs=>?_;cases o with
 |none=>exact hs.elim λz w=>w.imp λz q=>q.1
 |some y=>exact hs.elim λz w=>w.1.imp λz q=>q.1
theorem BE(hn:(lay.filterMap (·.2)).Nodup){i:Nat}{y:bb}{b:ay}(hi:lay[i]? =ae (x,ae b))(hj:lay[j]? =ae (y,ae b)):i=j:=by
 have key:∀{i j:Nat} {x y:bb},i < j->lay[i]? =ae (x,ae b)->lay[j]? =ae (y,ae b)->False:=λ{z z z z} hlt hi hj=>by
  exact cJ (aB.mp hi) λh1 e1=>cJ (aB.mp hj) λh2 e2=>JX.mp (List.pairwise_filterMap.mp hn) _ _ h1 h2 hlt b (by (refine aj (e1 ..) ?_;rfl)) b (by (refine aj (e2 ..) ?_;rfl)) rfl
 exact (sO i j).elim (λq=>(key q hi hj).elim) λq=>q.elim id λq=>(key q hj hi).elim
theorem BF(hn:(lay.map (·.1)).Nodup){i:Nat}{c d:Option ay}(hi:lay[i]? =ae (x,c))(hj:lay[j]? =ae (x,d)):i=j:=by
 have key:∀{i j:Nat} {c d:Option ay},i < j->lay[i]? =ae (x,c)->lay[j]? =ae (x,d)->False:=λ{z z z z} hlt hi hj=>by
  exact cJ (aB.mp hi) λh1 e1=>cJ (aB.mp hj) λh2 e2=>JX.mp (List.pairwise_map.mp hn) _ _ h1 h2 hlt (by (refine aj (e1 ..) ?_;refine aj (e2 ..) ?_;rfl))
 exact (sO i j).elim (λq=>(key q hi hj).elim) λq=>q.elim id λq=>(key q hj hi).elim
theorem C8(hv:bB[j]? =ae o):(bB.set j o')[j]? =ae o':=eA (aB.mp hv).1
theorem ea.set(s:ea Z h m lay bB)(e:lay[j]? =ae (x,c))(hs:fJ Z h' m' x c o)(hn:(lay.map (·.1)).Nodup)(hc:(lay.filterMap (·.2)).Nodup)(hm:∀y,y≠x->m' y=m y)
 (hk:∀b∈lay.filterMap (·.2),c≠ae b->∀o,h.get? b=ae o->h'.get? b=ae o):ea Z h' m' lay (bB.set j o):=λi y d q=>by
 refine aK (s i y d q) λp hv w=>?_;by_cases Bs:j=i
 ·subst Bs;cases e.symm.trans q;exact ⟨o,C8 hv,hs⟩
 ·exact ⟨p,(kI Bs).trans hv,w.loc (λb hb=>hk b (C7 (hb▸q)) λQP=>Bs (BE hc (QP▸e) (hb▸q))) (hm y λhy=>Bs (BF hn e (hy▸q)))⟩
theorem ea.weak(s:ea Z h m lay bB)(e:bB[j]? =ae o)(hi:∀x c,fJ Z h m x c o->fJ Z h m x c o'):ea Z h m lay (bB.set j o'):=λi y d q=>by
 refine aK (s i y d q) λp hv w=>?_;by_cases Bs:j=i
 ·subst Bs;cases e.symm.trans hv;exact ⟨o',C8 hv,hi _ _ w⟩
 ·exact ⟨p,(kI Bs).trans hv,w⟩
theorem ea.cons(w:fJ Z h m x c o)(s:ea Z h m lay bB):ea Z h m ((x,c)::lay) (o::bB):=λi y d q=>by
 cases i with
 |zero=>cases q;exact ⟨o,rfl,w⟩
 |succ i=>exact s i y d q
end
abbrev zL.nd(lay:zL):Prop:=(lay.map (·.1)).Nodup
noncomputable def bq(L:ay)(lay:zL)(bB:ej):cX where
 own:=L::lay.filterMap (·.2)
 sat:=λZ h=>lay.nd/\∃m,h.Ns L m/\ea Z h m lay bB
 mono:=λZ Z' h hz ⟨n,m,a,b⟩=>⟨n,m,a,b.mono hz⟩
 loc:=λZ h h' ⟨n,m,a,b⟩ hk _ _=>⟨n,m,a.at' (λo e=>hk L aa o e),b.loc (λc hc=>hk c (ab _ hc)) λz z=>rfl⟩
 live:=λZ h ⟨n,m,a,b⟩ c hc=>by
  rcases aP.mp hc with rfl|hc
  ·obtain ⟨o,_,_,ho,_⟩:=a;exact ⟨o,ho⟩
  ·exact b.live c hc
structure g7(G:Gd):Prop where
 g:∀h:dH,(∀a o,G.Z0 a=ae o->h.get? a=ae o)->h.Ns vo G.mg
 b:∀h:dH,(∀a o,G.Z0 a=ae o->h.get? a=ae o)->∃mb,h.Ns builtinsNs mb/\∀x:bb,x≠"__name__"->mb x=Jx x
 lim:∀h:dH,(∀a o,G.Z0 a=ae o->h.get? a=ae o)->h.NoLimit
 sysm:∃o,G.Z0 lY=ae o
structure du(env:gP):Prop where
 kind:env.scope.kind= .function
 globals:env.globals=vo
 builtins:env.builtins=builtinsNs
section
variable {lay:zL}{bB:ej}{c:ay}
theorem R.z0in(r:R Z mu s):∀a o,G.Z0 a=ae o->s.heap.get? a=ae o:=λa o e=>r.zin a o (r.z0 a o e)
theorem R.slot{lay:zL}{c:Option ay}(r:R Z mu s)(hf:bq L lay bB∈mu)(hl:lay[j]? =ae (x,c))(hv:bB[j]? =ae (ae y)):
 ∃m,s.heap.Ns L m/\fJ Z s.heap m x c (ae y):=by
 refine mI (r.sat _ hf) λz m hn hs=>aK (hs _ _ _ hl) λo h1 h2=>?_;rw [hv] at h1;(have lA:=aO h1;clear h1;subst lA);exact ⟨m,hn,h2⟩
theorem Ri(he:du env)(hk:env.kindOf x=ae .local)(hf:bq env.locals lay bB∈mu)(hl:lay[j]? =ae (x,av))(hv:bB[j]? =ae (ae y))(hd:autoParam ((x == ("__debug__":bb))=aH) aD):
 PE k mu env (.Name x p) y:=⟨λ{A E Z s fr Q} hA r q=>by
 obtain ⟨m,hn,v,hm,hr⟩:=r.slot (aE fr hf) hl hv;exact Tt (wpAny_loadName_local he.kind hk hn hm (q .rfl hr r)) hd⟩
theorem N6(he:du env)(hk:env.kindOf x=ae .cell)(hc:env.cells.lookup x=ae c)(hf:bq L lay bB∈mu){z:bb}(hl:lay[j]? =ae (z,ae c))(hv:bB[j]? =ae (ae y))(hd:autoParam ((x == ("__debug__":bb))=aH) aD):
 PE k mu env (.Name x p) y:=⟨λ{A E Z s fr Q} hA r q=>by
 obtain ⟨m,hn,v,hm,hr⟩:=r.slot (aE fr hf) hl hv;exact Tt (wpAny_loadName_cell he.kind hk hc hm (q .rfl hr r)) hd⟩
theorem N7(he:du env)(hk:env.kindOf x=ae .free)(hc:env.cells.lookup x=ae c)(hf:bq L lay bB∈mu){z:bb}(hl:lay[j]? =ae (z,ae c))(hv:bB[j]? =ae (ae y))(hd:autoParam ((x == ("__debug__":bb))=aH) aD)
 (hd':autoParam ((x == ("__classdict__":bb))=aH) aD):PE k mu env (.Name x p) y:=⟨λ{A E Z s fr Q} hA r q=>by
 obtain ⟨m,hn,v,hm,hr⟩:=r.slot (aE fr hf) hl hv;exact Tt (wpAny_loadName_free he.kind hk hc hm (q .rfl hr r) hd') hd⟩
theorem N8(B:g7 G)(he:du env)(hk:env.kindOf x=ae .globalImplicit){v:ai}(hm:G.mg x=ae v)(hv:aZ G G.Z0 v y)(hd:autoParam ((x == ("__debug__":bb))=aH) aD):
 PE k mu env (.Name x p) y:=⟨λ{A E Z s fr Q} hA r q=>by
 with_reducible refine Jy he.kind hk ?_ hd
 with_reducible refine loadGlobal_global (he.globals▸B.g _ r.z0in) hm ?_
 exact (q .rfl (hv.mono r.z0) r)⟩
theorem Qi(B:g7 G)(he:du env)(hk:env.kindOf x=ae .globalImplicit){v:ai}(hm:G.mg x=av)(hb:Jx x=ae v)(hv:aZ G G.Z0 v y)(hn:autoParam (x≠"__name__") aD)
 (hd:autoParam ((x == ("__debug__":bb))=aH) aD):PE k mu env (.Name x p) y:=⟨λ{A E Z s fr Q} hA r q=>by
 exact aK (B.b _ r.z0in) λmb h1 h2=>Jy he.kind hk (loadGlobal_builtin (he.globals▸B.g _ r.z0in) hm (he.builtins▸h1) ((h2 x hn).trans hb) (q .rfl (hv.mono r.z0) r)) hd
⟩
theorem R.ownNodup{x:cX}(r:R Z mu s)(hi:mu[i]? =ae x):x.own.Nodup:=by
 have h1:(gU (mu.take i)++(x.own++gU (mu.drop (i+1)))).Nodup:=by have:=r.nodup;rw [gh hi,oL] at this;exact this
 exact (bP.mp (bP.mp h1).2.1).1
theorem Rj{A:bh}{E:ai->aq->Prop}{v:ai}{Q:Unit->aq->Prop}(r:R Z mu s)(he:du env)(hk:env.kindOf x=ae .local)(hi:mu[i]? =ae (bq env.locals lay bB))(hl:lay[j]? =ae (x,av))
 (hv:aZ G Z v y) (h:∀s',R Z (mu.set i (bq env.locals lay (bB.set j (ae y)))) s'->Q () s'):aS (aX G.prog G.w) A (storeName env x v) Q E s:=by
 refine mI (r.sat _ (ao hi)) λhnd m hn hs=>?_;have qe:(env.locals::lay.filterMap (·.2)).Nodup:=r.ownNodup hi;have hc:(lay.filterMap (·.2)).Nodup:=(cg.mp qe).2;refine wpAny_storeName_local hk hn (λh' SN uc=>h _ ?_) (by refine aj (he.kind ..) ?_;rfl);refine r.upd' hi rfl (λb o hb e=>(uc.2 b λq=>hb (q▸aa)).trans e) ⟨hnd,_,SN,?_⟩;exact hs.set hl ⟨v,by simp,hv⟩ hnd hc (λz hz=>by simp [hz]) λb hb u o e=>(uc.2 b λq=>(cg.mp qe).1 (q▸hb)).trans e
theorem N9{A:bh}{E:ai->aq->Prop}{v:ai}{Q:Unit->aq->Prop}(r:R Z mu s)(he:du env)(hk:env.kindOf x=ae .cell)(hcl:env.cells.lookup x=ae c)(hi:mu[i]? =ae (bq L lay bB)){z:bb}(hl:lay[j]? =ae (z,ae c))
 (hv:aZ G Z v y) (h:∀s',R Z (mu.set i (bq L lay (bB.set j (ae y)))) s'->Q () s'):aS (aX G.prog G.w) A (storeName env x v) Q E s:=by
 obtain ⟨hnd,m,hn,hs⟩:=r.sat _ (ao hi);have qe:(L::lay.filterMap (·.2)).Nodup:=r.ownNodup hi;have hc:(lay.filterMap (·.2)).Nodup:=(cg.mp qe).2;have JU:c∈lay.filterMap (·.2):=fV.mpr ⟨_,ao hl,rfl⟩;have hLc:L≠c:=λq=>(cg.mp qe).1 (q▸JU);obtain ⟨o,h1,h2⟩:=hs _ _ _ hl;have MU:∃ov,s.heap.IsCell c ov:=by
  cases o with
  |none=>exact h2
  |some y=>obtain ⟨v,a,_⟩:=h2;exact ⟨_,a⟩
 obtain ⟨ov,MU⟩:=MU;refine wpAny_storeName_cell he.kind hk hcl MU λh' hv' uc=>h {s with heap:=h'} (r.upd' (tk:=s.toks) hi rfl (λb o hb e=>(uc.2 b λq=>hb (q▸ab _ JU)).trans e) ⟨hnd,_,hn.sameBut uc hLc,?_⟩);exact hs.set hl ⟨v,hv',hv⟩ hnd hc (λz hz=>rfl) λb hb iP o e=>(uc.2 b λq=>iP (by (refine aj (q ..) ?_;rfl))).trans e
theorem R.weak{o o':Option V}(r:R Z mu s)(hi:mu[i]? =ae (bq L lay bB))(hv:bB[j]? =ae o)(ho:∀h m x c,fJ Z h m x c o->fJ Z h m x c o'):
 R Z (mu.set i (bq L lay (bB.set j o'))) s:=by
 exact mI (r.sat _ (ao hi)) λhnd m hn hs=>r.upd' (h':=s.heap) (tk:=s.toks) hi rfl (λz z z e=>e) ⟨hnd,m,hn,hs.weak hv λx c=>ho _ _ x c⟩
theorem fJ.forget{h:dH}{m:bb->Option ai}{c:Option ay}{o:Option V}(e:fJ Z h m x c o):fJ Z h m x c av:=by
 cases c <;> cases o
 ·trivial
 ·trivial
 ·exact e
 ·obtain ⟨v,a,_⟩:=e;exact ⟨_,a⟩
theorem fJ.as{h:dH}{m:bb->Option ai}{c:Option ay}{z:V}(e:fJ Z h m x c (ae y))(hi:∀v,aZ G Z v y->aZ G Z v z):fJ Z h m x c (ae z):=by
 cases c
 ·obtain ⟨v,a,b⟩:=e;exact ⟨v,a,hi v b⟩
 ·obtain ⟨v,a,b⟩:=e;exact ⟨v,a,hi v b⟩
end
variable {P Q S:Vw}{lay:zL}{bB:ej}{c b:Bool}{e:bH}
def rj(h:dH)(Z:bI)(a:ay)(xs:List V):Prop:=∃vs n,h.get? a=ae (oK vs n)/\bW G Z vs.toList xs
def Qj(G:Gd)(h:dH)(Z:bI)(a:ay)(es:List (bb×V)):Prop:=
 (a == lY)=aH/\∃kvs,h.DictOf (strKind G.prog G.w) a kvs/\kvs.map (·.1)=es.map (·.1)/\bW G Z (kvs.map (·.2)) (es.map (·.2))
noncomputable def me(mu:Mu)(xs:List V):Vw:=
 ⟨λZ v=>∃a,v= .ref a/\∀Z' s,Z.le Z'->R Z' mu s->rj s.heap Z' a xs,λZ Z' v h=>bQ λa u=>⟨u.1,λPN s h' r=>u.2 PN s (bI.le_trans h h') r⟩⟩
noncomputable def NA(mu:Mu)(es:List (bb×V)):Vw:=
 ⟨λZ v=>∃a,v= .ref a/\∀Z' s,Z.le Z'->R Z' mu s->Qj G s.heap Z' a es,λZ Z' v h=>bQ λa u=>⟨u.1,λPN s h' r=>u.2 PN s (bI.le_trans h h') r⟩⟩
noncomputable def bl(a:ay)(xs:List V):cX where
 own:=[a]
 sat:=λZ h=>rj h Z a xs
 mono:=λZ Z' h hz=>bQ λvs=>bQ λn u=>⟨u.1,u.2.mono hz⟩
 loc:=λZ h h' w hk z z=>w.imp λvs=>bQ λn u=>⟨hk a aa _ u.1,u.2⟩
 live:=λZ h w b hb=>w.elim λvs w=>w.elim λn u=>⟨_,aA.mp hb▸u.1⟩
noncomputable def cD(a:ay)(es:List (bb×V)):cX where
 own:=[a]
 sat:=λZ h=>Qj G h Z a es
 mono:=λZ Z' h hz w=>⟨w.1,w.2.imp λkvs u=>⟨u.1,u.2.1,u.2.2.mono hz⟩⟩
 loc:=λZ h h' w hk z z=>⟨w.1,w.2.imp λkvs u=>⟨u.1.imp λo=>bQ λes=>bQ λep v=>⟨hk a aa _ v.1,v.2⟩,u.2⟩⟩
 live:=λZ h w b hb=>w.2.elim λkvs u=>u.1.elim λo v=>v.elim λes v=>v.elim λep v=>⟨_,aA.mp hb▸v.1⟩
structure B2(k:Nat)(mu:Mu)(f:ai->ai->mF ai)(P Q S:Vw):Prop where
 c:∀{A:bh} {E:ai->aq->Prop} {Z:bI} {s:aq} {fr:Mu} {v u:ai} {T:ai->aq->Prop},Rm k A->R Z (mu++fr) s->P.p Z v->Q.p Z u->
  (∀{w s' Z'},Z.le Z'->S.p Z' w->R Z' (mu++fr) s'->T w s')->aS (aX G.prog G.w) A (f v u) T E s
abbrev xP(k:Nat)(mu:Mu)(op:CB)(P Q S:Vw):Prop:=B2 k mu (binaryOp op) P Q S
abbrev ta(k:Nat)(mu:Mu)(op:CmpOp)(P Q:Vw)(b:Bool):Prop:=B2 k mu (compareOp op) P Q (bZ (.bool b))
section
variable {l r:bH}{x:V}{op:CB}{CT:CmpOp}
theorem rj.list{Z:bI}{v:ai}{xs:List V}(h:aZ G Z v (.list xs)):∃a vs n,v= .ref a/\Z a=ae (oK vs n)/\bW G Z vs.toList xs:=by cases h with|list e r=>exact ⟨_,_,_,rfl,e,r⟩
theorem BG{Z:bI}{v:ai}{xs:List V}(h:aZ G Z v (.list xs)):(me mu xs).p Z v:=
 (rj.list h).imp λ_ ⟨_,_,e,z,r⟩=>⟨e,λZ' s hz R=>⟨_,_,R.zin _ _ (hz _ _ z),r.mono hz⟩⟩
theorem Oa{Z:bI}{v:ai}{es:List (bb×V)}(h:aZ G Z v (.dict es)):(NA mu es).p Z v:=by
 cases h with
 |dict q e d f r=>refine Aq d λd1 ND ep d2 d3 d4 d5=>?_;clear d;exact ⟨_,rfl,λZ' s hz R=>⟨q,_,⟨_,_,_,R.zin _ _ (hz _ _ e),d1,d2,d3,d4,d5⟩,f,r.mono hz⟩⟩
theorem EV.mono(h:EV k mu env e P)(hi:∀Z v,P.p Z v->Q.p Z v):EV k mu env e Q:=⟨λ{z z z z z z} hA r q=>h.c hA r λ{z z z} a b c=>q a (hi _ _ b) c⟩
theorem dD{xs:List V}(h:PE k mu env e (.list xs)):EV k mu env e (me mu xs):=EV.mono h λz z q=>BG q
theorem uG{a:ay}{xs:List V}(h:PE k mu env e (.ref a))(hm:bl a xs∈mu):EV k mu env e (me mu xs):=EV.mono h λZ v q=>⟨a,q.refE,λZ' s hz r=>r.sat _ hm⟩
theorem pM{es:List (bb×V)}(h:PE k mu env e (.dict es)):EV k mu env e (NA mu es):=EV.mono h λz z q=>Oa q
theorem wJ{a:ay}{es:List (bb×V)}(h:PE k mu env e (.ref a))(hm:cD a es∈mu):EV k mu env e (NA mu es):=EV.mono h λZ v q=>⟨a,q.refE,λZ' s hz r=>r.sat _ hm⟩
theorem aU{i:Int}{kk}:PE k mu env (.Constant (.int i) kk p) (.int i):=⟨λ{z z z z z z} hA r q=>wpAny_Constant_int (q .rfl (aZ.int _ _) r.toks)⟩
theorem cO{t:bb}{kk}:PE k mu env (.Constant (.str t) kk p) (.str t):=⟨λ{z z z z z z} hA r q=>wpAny_Constant_str (q .rfl (aZ.str _ _) r.toks)⟩
theorem Kc{b:Bool}{kk}:PE k mu env (.Constant (.bool b) kk p) (.bool b):=⟨λ{z z z z z z} hA r q=>wpAny_Constant_bool (q .rfl (aZ.bool _) r)⟩
theorem Kd{kk}:PE k mu env (.Constant .none kk p) .none:=⟨λ{z z z z z z} hA r q=>wpAny_Constant_none (q .rfl aZ.none r)⟩
theorem br(hl:EV k mu env l P)(hr:EV k mu env r Q)(ho:xP k mu op P Q S):EV k mu env (.BinOp l op r p) S:=⟨λ{z z z z z z} hA R q=>by
 with_reducible refine NM ?_
 exact hl.c hA R λz1 p1 r1=>hr.c hA r1 λz2 p2 r2=>ho.c hA r2 (P.mono _ _ _ z2 p1) p2 λz3 p3 r3=>q (z1.trans (z2.trans z3)) p3 r3⟩
theorem mJ(hl:EV k mu env l P)(hr:EV k mu env r Q)(ho:ta k mu CT P Q b)(hm:wz CT r=aH:=by with_unfolding_all rfl):PE k mu env (.Compare l [CT] [r] p) (.bool b):=⟨λ{z z z z z z} hA R q=>by
 with_reducible refine wpAny_Compare1 ?_ hm
 exact hl.c hA R λz1 p1 r1=>hr.c hA r1 λz2 p2 r2=>ho.c hA r2 (P.mono _ _ _ z2 p1) p2 λz3 p3 r3=>q (z1.trans (z2.trans z3)) p3 r3⟩
theorem c9(hl:EV k mu env l P)(hr:EV k mu env r Q)(ho:ta k mu CT P Q b)(hm:wz CT r=aH:=by with_unfolding_all rfl):PT k mu env (.Compare l [CT] [r] p) b:=⟨λ{z z z z z z} hA R q=>by
 with_reducible refine Ag ?_ hm
 exact hl.c hA R λ{z z z} z1 p1 r1=>hr.c hA r1 λ{z z z} z2 p2 r2=>ho.c hA r2 (P.mono _ _ _ z2 p1) p2 λ{z z z} z3 p3 r3=>(aZ.boolE p3)▸eV (q (z1.trans (z2.trans z3)) r3)⟩
theorem Fy(h:PT k mu env e b):PT k mu env (.UnaryOp .Not e p) (!b):=⟨λ{z z z z z z} hA R q=>wpAny_isTrue_Not (h.c hA R q)⟩
abbrev Fz(k:Nat)(mu:Mu)(env:gP)(op:Tu)(es:List bH)(b:Bool):Prop:=WB k mu (allTrue op es env) b
theorem oM{bop:Tu}{es:List bH}(h:Fz k mu env bop es b):PT k mu env (.BoolOp bop es p) b:=⟨λ{z z z z z z} hA R q=>by
 with_reducible refine wpAny_isTrue_BoolOp ?_
 exact h.c hA R q⟩
theorem BI:Fz k mu env .And [] aI:=⟨λ{z z z z z z} hA R q=>wpAny_allTrue_And_nil (q .rfl R)⟩
theorem jn:Fz k mu env .Or [] aH:=⟨λ{z z z z z z} hA R q=>wpAny_allTrue_Or_nil (q .rfl R)⟩
theorem C9{es:List bH}(h:PT k mu env e b)(hr:b=aI->Fz k mu env .And es c):Fz k mu env .And (e::es) (b && c):=⟨λ{z z z z z z} hA R q=>by
 with_reducible refine wpAny_allTrue_And_cons ?_
 refine h.c hA R λ{s1 Z1} z1 r1=>?_;cases b with
 |false=>exact q z1 r1
 |true=>exact (hr rfl).c hA r1 λ{z z} z2 r2=>q (z1.trans z2) r2⟩
theorem iM{es:List bH}(h:PT k mu env e b)(hr:b=aH->Fz k mu env .Or es c):Fz k mu env .Or (e::es) (b || c):=⟨λ{z z z z z z} hA R q=>by
 with_reducible refine Ah ?_
 refine h.c hA R λ{s1 Z1} z1 r1=>?_;cases b with
 |true=>exact q z1 r1
 |false=>exact (hr rfl).c hA r1 λ{z z} z2 r2=>q (z1.trans z2) r2⟩
theorem uH{t a f:bH}(ht:PT k mu env t b)(ha:b=aI->EV k mu env a P)(hf:b=aH->EV k mu env f P):EV k mu env (.IfExp t a f p) P:=⟨λ{z z z z z z} hA R q=>by
 with_reducible refine wpAny_IfExp ?_
 refine ht.c hA R λ{s1 Z1} z1 r1=>?_;cases b with
 |true=>exact (ha rfl).c hA r1 λ{z z z} z2 p2 r2=>q (z1.trans z2) p2 r2
 |false=>exact (hf rfl).c hA r1 λ{z z z} z2 p2 r2=>q (z1.trans z2) p2 r2⟩
section
variable {f:ai->ai->mF ai}{a b:Int}
theorem B2.ii{c:Int}(h:∀{A:bh} {E:ai->aq->Prop} {s:aq} {t u:HW} {T:ai->aq->Prop},T (.int c s.toks) {s with toks:=s.toks+1}->aS (aX G.prog G.w) A (f (.int a t) (.int b u)) T E s):B2 k mu f (bZ (.int a)) (bZ (.int b)) (bZ (.int c)):=
 ⟨λ{z z z z z z z z} hA R hp hq q=>aZ.intC hp λt=>aZ.intC hq λu=>h (q .rfl (.int _ _) R.toks)⟩
theorem B2.iib(h:∀{A:bh} {E:ai->aq->Prop} {s:aq} {t u:HW} {T:ai->aq->Prop},T (.bool c) s->aS (aX G.prog G.w) A (f (.int a t) (.int b u)) T E s):B2 k mu f (bZ (.int a)) (bZ (.int b)) (bZ (.bool c)):=
 ⟨λ{z z z z z z z z} hA R hp hq q=>aZ.intC hp λt=>aZ.intC hq λu=>h (q .rfl (.bool _) R)⟩
theorem B2.ssb{a b:bb}(h:∀{A:bh} {E:ai->aq->Prop} {s:aq} {t u:HW} {T:ai->aq->Prop},T (.bool c) s->aS (aX G.prog G.w) A (f (.str a t) (.str b u)) T E s):B2 k mu f (bZ (.str a)) (bZ (.str b)) (bZ (.bool c)):=
 ⟨λ{z z z z z z z z} hA R hp hq q=>aZ.strC hp λt=>aZ.strC hq λu=>h (q .rfl (.bool _) R)⟩
theorem fC:xP k mu .Add (bZ (.int a)) (bZ (.int b)) (bZ (.int (a+b))):= .ii PyProof.Rows.add_int
theorem vL:xP k mu .Sub (bZ (.int a)) (bZ (.int b)) (bZ (.int (a - b))):= .ii PyProof.Rows.sub_int
theorem Ke(h:IntMulOk a b):xP k mu .Mult (bZ (.int a)) (bZ (.int b)) (bZ (.int (a*b))):= .ii λ{z z z z z z} q=>PyProof.Rows.mul_int q h
theorem Rk(h:b≠0):xP k mu .Mod (bZ (.int a)) (bZ (.int b)) (bZ (.int (a.fmod b))):= .ii (PyProof.Rows.mod_int' h)
theorem Rl(h:b≠0)(hn:Builtin.divisionGoesByPylong a b=aH):xP k mu .FloorDiv (bZ (.int a)) (bZ (.int b)) (bZ (.int (a.fdiv b))):= .ii λ{z z z z z z} q=>PyProof.Rows.floordiv_int h q (.inl hn)
theorem Rn(h:0<=b)(hz:(sQ a:Int)*b<=2 ^ 27):xP k mu .Pow (bZ (.int a)) (bZ (.int b)) (bZ (.int (a ^ b.toNat))):= .ii (PyProof.Rows.pow_int h hz)
theorem Kf(h:0<=b)(h2:b<=1000000)(ha:a.natAbs < 2 ^ 64):xP k mu .LShift (bZ (.int a)) (bZ (.int b)) (bZ (.int (a*2 ^ b.toNat))):= .ii (PyProof.Rows.lshift_int_small h h2 ha)
theorem Ro(h:0<=b):xP k mu .RShift (bZ (.int a)) (bZ (.int b)) (bZ (.int (a.fdiv (2 ^ b.toNat)))):= .ii (PyProof.Rows.rshift_int h)
theorem qt:xP k mu .BitAnd (bZ (.int a)) (bZ (.int b)) (bZ (.int (lZ a b))):= .ii PyProof.Rows.and_int
theorem qu:ta k mu .Eq (bZ (.int a)) (bZ (.int b)) (a == b):= .iib PyProof.Rows.eq_int
theorem FA:ta k mu .NotEq (bZ (.int a)) (bZ (.int b)) (a != b):= .iib PyProof.Rows.ne_int
theorem Da:ta k mu .Lt (bZ (.int a)) (bZ (.int b)) (decide (a < b)):= .iib PyProof.Rows.lt_int
theorem G3:ta k mu .Gt (bZ (.int a)) (bZ (.int b)) (decide (b < a)):= .iib PyProof.Rows.gt_int
theorem cm_le:ta k mu .LtE (bZ (.int a)) (bZ (.int b)) (decide (a<=b)):= .iib PyProof.Rows.le_int
theorem o8(h:PE k mu env e (.int a)):PE k mu env (.UnaryOp .USub e p) (.int (-a)):=⟨λ{z z z z z z} hA R q=>by
 with_reducible refine wpAny_UnaryOp ?_
 exact h.c hA R λ{z z z} z1 p1 r1=>aZ.intC p1 λt=>PyProof.Rows.neg_int (q z1 (aZ.int _ _) r1.toks)⟩
end
theorem FB{a b:bb}(h:a.length+b.length<=er):xP k mu .Add (bZ (.str a)) (bZ (.str b)) (bZ (.str (a++b))):=
 ⟨λ{z z z z z z z z} hA R hp hq q=>aZ.strC hp λt=>aZ.strC hq λu=>PyProof.Rows.add_str (λt' tk=>q .rfl (aZ.str _ _) R.toks) h⟩
theorem rB{a b:bb}:ta k mu .Eq (bZ (.str a)) (bZ (.str b)) (a == b):= .ssb PyProof.Rows.eq_str
theorem tB{a b:bb}:ta k mu .NotEq (bZ (.str a)) (bZ (.str b)) (a != b):= .ssb PyProof.Rows.ne_str
theorem Kg{a b:Bool}:ta k mu .NotEq (bZ (.bool a)) (bZ (.bool b)) (a != b):=
 ⟨λ{z z z z z z z z} hA R hp hq q=>(aZ.boolE hp)▸(aZ.boolE hq)▸PyProof.Rows.ne_bool (q .rfl (.bool _) R)⟩
theorem Dc{a b:bb}:ta k mu .In (bZ (.str a)) (bZ (.str b)) (!(cZ b a 0 b.length 1).isEmpty):= .ssb PyProof.Rows.in_str
structure Tr(k:Nat)(mu:Mu)(P:Vw)(b:Bool):Prop where
 c:∀{A:bh} {E:ai->aq->Prop} {Z:bI} {s:aq} {fr:Mu} {v:ai} {T:Bool->aq->Prop},Rm k A->R Z (mu++fr) s->P.p Z v->
  (∀{s' Z'},Z.le Z'->R Z' (mu++fr) s'->T b s')->aS (aX G.prog G.w) A (truthy v) T E s
theorem xQ{a:Int}:Tr k mu (bZ (.int a)) (a != 0):=⟨λ{z z z z z z z} hA R hp q=>aZ.intC hp λt=>PyProof.Rows.truthy_int (q .rfl R)⟩
theorem qv{a:Bool}:Tr k mu (bZ (.bool a)) a:=⟨λ{z z z z z z z} hA R hp q=>(aZ.boolE hp)▸eV (q .rfl R)⟩
theorem G4{xs:List V}(hl:xs.length < 2 ^ 60):Tr k mu (me mu xs) (!xs.isEmpty):=⟨λ{A E Z s fr v T} hA R ⟨a,e,w⟩ q=>by
 subst e;refine eD (w Z s .rfl R.left) λvs n h1 h2=>?_;have SO:vs.size=xs.length:=eK.symm.trans h2.length;have hL:s.heap.IsList a vs:=⟨_,h1,rfl,n,rfl⟩;have hb:(!vs.isEmpty)= !xs.isEmpty:=by unfold Array.isEmpty;refine aj (SO ..) ?_;cases xs <;> rfl
 with_reducible refine wpAny_truthy_list hL (by refine aj (SO ..) ?_;lia) ?_
 first|exact hb▸q .rfl R.toks|(rw [hb];exact q .rfl R.toks)⟩
theorem kU(h:EV k mu env e P)(ht:Tr k mu P b)(he:autoParam (isTrue e env (dW e env)=(do let v <- dW e env;iE e.pos;eW [v] (truthy v))) aR):PT k mu env e b:=⟨λ{z z z z z z} hA R q=>by
 with_reducible refine wpAny_isTrue_value ?_ he
 exact h.c hA R λ{z z z} z1 p1 r1=>ht.c hA r1 p1 λ{z z} z2 r2=>q (z1.trans z2) r2⟩
end
variable {Φ:AF->Mu->Prop}
inductive Sl(env:gP)(L:ay)(lay:zL)(x:bb)(j:Nat):Prop
 |loc (h1:autoParam (env.kindOf x=ae .local) aR) (h2:autoParam (L=env.locals) aR) (h3:autoParam (lay[j]? =ae (x,av)) aR) (h4:autoParam ((x == ("__debug__":bb))=aH) aR):Sl env L lay x j
 |cell (c:ay) (z:bb) (h1:autoParam (env.kindOf x=ae .cell) aR) (h2:autoParam (env.cells.lookup x=ae c) aR) (h3:autoParam (lay[j]? =ae (z,ae c)) aR) (h4:autoParam ((x == ("__debug__":bb))=aH) aR):Sl env L lay x j
 |free (c:ay) (z:bb):env.kindOf x=ae .free->env.cells.lookup x=ae c->lay[j]? =ae (z,ae c)->(x == ("__debug__":bb))=aH->(x == ("__classdict__":bb))=aH->Sl env L lay x j
theorem ah(he:du env)(sl:Sl env L lay x j)(hf:bq L lay bB∈mu)(hv:bB[j]? =ae (ae y)):PE k mu env (.Name x p) y:=by
 cases sl with
 |loc hk hL hl hd=>subst hL;exact Ri he hk hf hl hv hd
 |cell c z hk hc hl hd=>exact N6 he hk hc hf hl hv hd
 |free c z hk hc hl hd hd'=>exact N7 he hk hc hf hl hv hd hd'
theorem cH{α:Type}{l fr:List α}{i:Nat}{x:α}(h:l[i]? =ae x):(l++fr)[i]? =ae x:=by refine aj (eE (aB.mp h).1 ..) ?_;exact h
theorem gE{α:Type}{l fr:List α}{i:Nat}{x y:α}(h:l[i]? =ae x):(l++fr).set i y=l.set i y++fr:=
 List.set_append_left i y (aB.mp h).1
theorem xR{A:bh}{E:ai->aq->Prop}{v:ai}{Q:Unit->aq->Prop}{fr:Mu}(r:R Z (mu++fr) s)(he:du env)(sl:Sl env L lay x j)(hi:mu[i]? =ae (bq L lay bB))
 (Cz:env.kindOf x≠ae .free) (hv:aZ G Z v y) (h:∀s',R Z (mu.set i (bq L lay (bB.set j (ae y)))++fr) s'->Q () s'):aS (aX G.prog G.w) A (storeName env x v) Q E s:=by
 cases sl with
 |loc hk hL hl hd=>subst hL;exact Rj r he hk (cH hi) hl hv λs' r'=>h s' (by refine fZ (gE hi ..) ?_;exact r')
 |cell c z hk hc hl hd=>exact N9 r he hk hc (cH hi) hl hv λs' r'=>h s' (by refine fZ (gE hi ..) ?_;exact r')
 |free c z hk hc hl hd hd'=>exact absurd hk Cz
structure mK(k:Nat)(mu:Mu)(env:gP)(t:bH)(x:V)(Ψ:Mu->Prop):Prop where
 c:∀{A:bh} {E:ai->aq->Prop} {Z:bI} {s:aq} {fr:Mu} {v:ai} {Q:Unit->aq->Prop},Rm k A->R Z (mu++fr) s->aZ G Z v x->
  (∀{s' Z' nu},Z.le Z'->R Z' (nu++fr) s'->Ψ nu->Q () s')->aS (aX G.prog G.w) A (wA t env v) Q E s
structure HZ(k:Nat)(mu:Mu)(env:gP)(ts:List bH)(xs:List V)(Ψ:Mu->Prop):Prop where
 len:ts.length=xs.length
 plain:(jB ts env).all (λq=>!q.1)=aI
 c:∀{A:bh} {E:ai->aq->Prop} {Z:bI} {s:aq} {fr:Mu} {vs:List ai} {Q:Unit->aq->Prop},Rm k A->R Z (mu++fr) s->bW G Z vs xs->
  (∀{s' Z' nu},Z.le Z'->R Z' (nu++fr) s'->Ψ nu->Q () s')->aS (aX G.prog G.w) A (assignInOrder ((jB ts env).map (·.2)) vs) Q E s
section
variable {nu:Mu}{Ψ:Mu->Prop}
theorem aQ(he:du env)(sl:Sl env L lay x j)(hi:mu[i]? =ae (bq L lay bB))(h:Ψ (mu.set i (bq L lay (bB.set j (ae y)))))(Cz:autoParam ((env.kindOf x == ae .free)=aH) aR):mK k mu env (.Name x p) y Ψ:=
 ⟨λ{z z z z z z z} hA r hv q=>wpAny_assign_Name (xR r he sl hi (beq_eq_false_iff_ne.mp Cz) hv λs' r'=>q .rfl r' h)⟩
theorem bW.nil_inv{vs:List ai}(h:bW G Z vs []):vs=[]:=pC h.length
theorem bW.cons_inv{vs:List ai}{y:V}{ys:List V}(h:bW G Z vs (y::ys)):∃v rr,vs=v::rr/\aZ G Z v y/\bW G Z rr ys:=by cases h with|cons a b=>exact ⟨_,_,rfl,a,b⟩
theorem bW.uncons{v:ai}{vs:List ai}{y:V}{ys:List V}(h:bW G Z (v::vs) (y::ys)):aZ G Z v y/\bW G Z vs ys:=by cases h with|cons a b=>exact ⟨a,b⟩
theorem iX(h:Ψ mu):HZ k mu env [] [] Ψ:=⟨rfl,rfl,λ{z z z z z z z} hA r hv q=>hv.nil_inv▸ar (q .rfl r h)⟩
theorem wK{t:bH}{ts:List bH}(hs:∀a p,t≠ .Starred a p):jB (t::ts) env=(aH,wA t env)::jB ts env:=by cases t <;> first|rfl|exact absurd rfl (hs _ _)
theorem cv{t:bH}{ts:List bH}{xs:List V}(hl:ts.length=xs.length)(hp:(jB ts env).all (λq=>!q.1)=aI)(h:mK k mu env t y λnu=>HZ k nu env ts xs Ψ)(hs:∀a p,t≠ .Starred a p:=by intro z z h;cases h):HZ k mu env (t::ts) (y::xs) Ψ:=
 ⟨congrArg xm hl,by refine aj (wK hs ..) ?_;exact hp,λ{z z z z z z z} hA r hv q=>by
  refine aj (wK hs ..) ?_;obtain ⟨v,vs,rfl,hv,hr⟩:=hv.cons_inv;exact ag (bE (h.c hA r hv λ{z z z} z1 r1 w=>w.c hA r1 (hr.mono z1) λ{z z z} z2=>q (z1.trans z2)))⟩
theorem o9{l:List (Bool×(ai->mF Unit))}(h:l.all (λq=>!q.1)=aI):l.findIdx? (·.1)=av:=
 List.findIdx?_eq_none_iff.mpr λx hx=>by have:=fW.mp h x hx;simpa using this
theorem nB{env:gP}(ts:List bH):(jB ts env).length=ts.length:=by
 induction ts with
 |nil=>rfl
 |cons t ts ih=>cases t <;> exact congrArg xm ih
theorem aZ.tup_inv{v:ai}{xs:List V}(h:aZ G Z v (.tup xs)):∃a o vs n,v= .ref a/\Z a=ae o/\o.cls= .type "tuple"/\o.data= .seq vs n/\bW G Z vs.toList xs:=by cases h with|tup e c d r=>exact ⟨_,_,_,_,rfl,e,c,d,r⟩
theorem aZ.ent_inv{v:ai}{xs:List V}(h:aZ G Z v (.ent xs)):∃a o vs n,v= .ref a/\Z a=ae o/\o.cls= .ref G.ent/\o.data= .seq vs n/\bW G Z vs.toList xs:=by cases h with|ent e c d r=>exact ⟨_,_,_,_,rfl,e,c,d,r⟩
theorem i7{ts:List bH}{kk:Nat}{xs:List V}(h:HZ k mu env ts xs Ψ):mK k mu env (.Tuple ts kk p) (.tup xs) Ψ:=⟨λ{A E Z s fr v Q} hA r hv q=>by
 refine dK (hv.tup_inv) λa o vs n eT e hc hd hr=>?_;subst eT;have hT:s.heap.IsTuple a vs:=⟨_,r.zin _ _ e,hc,_,hd⟩;have hn:(jB ts env).length=vs.size:=(nB ts).trans (h.len.trans hr.length.symm);exact wpAny_assign_Tuple hA.hh hT hn (o9 h.plain) λh' hx=>h.c hA (r.keep (tk:=s.toks) λb o e=>hx b o (c8 (bN e)) e) hr q⟩
theorem bC(h:Φ .next mu):WS k mu env [] Φ:=⟨λ{z z z z z z} hA r q=>wpAny_execs_nil (q .rfl .next r h)⟩
noncomputable def thenS(k:Nat)(env:gP)(rest:List ed)(Φ:AF->Mu->Prop):AF->Mu->Prop
 | .next,nu=>WS k nu env rest Φ
 |f,nu=>Φ f nu
@[elab_as_elim] theorem o7.by{P:uj->AF->Prop}{f:uj}{a:AF}(h:o7 G Z f a)(n:P .next .next)(b:P .brk .brk)(c:P .cont .cont)(r:∀v x,aZ G Z v x->P (.ret v) (.ret x)):P f a:=
 o7.rec (motive:=λf a z=>P f a) n b c (λ{v x} h=>r v x h) h
theorem aC{st:ed}{rest:List ed}(h:WX k mu env st (thenS k env rest Φ)):WS k mu env (st::rest) Φ:=⟨λ{z z z z z z} hA r q=>by
 with_reducible refine q9 ?_
 refine h.c hA r λ{f s1 Z1 a nu} z1 f1 r1 w=>?_
 revert w
 exact o7.by f1 (λw=>WF.c (show WS k nu env rest Φ from w) hA r1 λ{z z z z z} z2=>q (z1.trans z2)) (q z1 .brk r1) (q z1 .cont r1) λv x hv=>q z1 (.ret hv) r1⟩
theorem cf{Θ:V->Mu->Prop}(h:PE k mu env e y)(hΘ:Θ y mu):WE k mu env e Θ:=⟨λ{z z z z z z} hA r q=>h.c hA r λ{z z z} a b c=>q a b c hΘ⟩
theorem b4{pos:jC}{t:bH}(hv:WE k mu env e λy nu=>mK k nu env t y (Φ .next))(hs:wB [t] e pos.line env=dg aH)(hw:wC [t] e env=dg av)
 (ht:autoParam (jB [t] env=[(aH,wA t env)]) aR):WX k mu env (.Assign [t] e pos) Φ:=⟨λ{z z z z z z} hA r q=>by
 with_reducible refine EW ?_ hs hw
 refine aj (ht ..) ?_;exact hv.c hA r λ{z z z z z} z1 q1 r1 w=>w.c hA r1 q1 λ{z z z} z2=>q (z1.trans z2) .next⟩
theorem bX{pos:jC}{t:bH}(hv:PE k mu env e y)(ha:mK k mu env t y (Φ .next))(hs:wB [t] e pos.line env=dg aH)(hw:wC [t] e env=dg av)
 (ht:autoParam (jB [t] env=[(aH,wA t env)]) aR):WX k mu env (.Assign [t] e pos) Φ:=b4 (cf hv ha) hs hw ht
theorem ig{pos:jC}(h:WE k mu env e λz nu=>Φ .next nu)(hi:autoParam (interactive env=aH) aR)(hs:autoParam (xn e av pos.line env=dg aH) aR):WX k mu env (.Expr e pos) Φ:=⟨λ{z z z z z z} hA r q=>by
 with_reducible refine wpAny_Expr_any ?_ hi hs
 exact h.c hA r λ{z z z z z} z1 z=>q z1 .next⟩
theorem gw{pos:jC}(h:WE k mu env e λy nu=>Φ (.ret y) nu):WX k mu env (.Return (ae e) pos) Φ:=⟨λ{z z z z z z} hA r q=>by
 with_reducible refine wpAny_Return_some ?_
 exact h.c hA r λ{z z z z z} z1 q1=>q z1 (.ret q1)⟩
theorem Rp{pos:jC}(h:Φ .brk mu):WX k mu env (.Break pos) Φ:=⟨λ{z z z z z z} hA r q=>wpAny_Break (q .rfl .brk r h)⟩
theorem G5{pos:jC}(h:Φ .cont mu):WX k mu env (.Continue pos) Φ:=⟨λ{z z z z z z} hA r q=>wpAny_Continue (q .rfl .cont r h)⟩
structure Wt(k:Nat)(mu:Mu)(t:mF Bool)(Θ:Bool->Mu->Prop):Prop where
 c:∀{A:bh} {E:ai->aq->Prop} {Z:bI} {s:aq} {fr:Mu} {Q:Bool->aq->Prop},Rm k A->R Z (mu++fr) s->
  (∀{b s' Z' nu},Z.le Z'->R Z' (nu++fr) s'->Θ b nu->Q b s')->aS (aX G.prog G.w) A t Q E s
abbrev WT(k:Nat)(mu:Mu)(env:gP)(e:bH)(Θ:Bool->Mu->Prop):Prop:=Wt k mu (isTrue e env (dW e env)) Θ
theorem PT.wt{Θ:Bool->Mu->Prop}(h:PT k mu env e b)(hΘ:Θ b mu):WT k mu env e Θ:=⟨λ{z z z z z z} hA r q=>h.c hA r λ{z z} z1 r1=>q z1 r1 hΘ⟩
noncomputable def brP:Bool->Prop->Prop->Prop
 |true,p,_=>p
 |false,_,q=>q
theorem xS{pos:jC}{body orelse:List ed}(h:WT k mu env e λc nu=>brP c (WS k nu env body Φ) (WS k nu env orelse Φ)):WX k mu env (.If e body orelse pos) Φ:=⟨λ{z z z z z z} hA r q=>by
 with_reducible refine wpAny_If ?_
 refine h.c hA r λ{c s1 Z1 nu} z1 r1 w=>?_;cases c with
 |true=>exact WF.c (show WS k nu env body Φ from w) hA r1 λ{z z z z z} z2=>q (z1.trans z2)
 |false=>exact WF.c (show WS k nu env orelse Φ from w) hA r1 λ{z z z z z} z2=>q (z1.trans z2)⟩
theorem iY{pos:jC}{body orelse:List ed}(h:PT k mu env e b)(h1:b=aI->WS k mu env body Φ)(h2:b=aH->WS k mu env orelse Φ):WX k mu env (.If e body orelse pos) Φ:=
 xS (h.wt (by cases b;exact h2 rfl;exact h1 rfl))
structure CR(I:ay)(ctx:Mu)(t:bH)(xs:List V)(it:Nat->cX):Prop where
 item:∀(i:Nat) (x:V),xs[i]? =ae x->∀{A:bh} {E:ai->aq->Prop} {Z:bI} {s:aq} {fr:Mu} {Q:Option ai->aq->Prop},Rm 1 A->(∀o∈ctx,o∈fr)->R Z (it i::fr) s->
  (∀{v s1},(∀{E:ai->aq->Prop} {T:Unit->aq->Prop},(∀{s2 Z'},Z.le Z'->aZ G Z' v x->R Z' (it (i+1)::fr) s2->T () s2)->aS (aX G.prog G.w) A (kJ t (.ref I) v) T E s1)->Q (ae v) s1)->
  wpAny (aX G.prog G.w) A (l0 (.ref I)) Q E s
 done:∀{A:bh} {E:ai->aq->Prop} {Z:bI} {s:aq} {fr:Mu} {Q:Option ai->aq->Prop},Rm 1 A->(∀o∈ctx,o∈fr)->R Z (it xs.length::fr) s->
  (∀{s1 Z'},Z.le Z'->R Z' fr s1->Q av s1)->aS (aX G.prog G.w) A (l0 (.ref I)) Q E s
 self:∀(i:Nat) {A:bh} {E:ai->aq->Prop} {Z:bI} {s:aq} {fr:Mu} {Q:ai->aq->Prop},Rm 1 A->R Z (it i::fr) s->
  (∀{s1},R Z (it i::fr) s1->Q (.ref I) s1)->aS (aX G.prog G.w) A (ra (.ref I)) Q E s
structure pd(k:Nat)(mu:Mu)(env:gP)(e t:bH)(ctx:Mu)(xs:List V):Prop where
 has:∀o∈ctx,o∈mu
 c:∀{A:bh} {E:ai->aq->Prop} {Z:bI} {s:aq} {fr:Mu} {Q:ai->aq->Prop},Rm k A->R Z (mu++fr) s->
  (∀{I it s' Z'},CR I ctx t xs it->Z.le Z'->R Z' (it 0::(mu++fr)) s'->Q (.ref I) s')->
  wpAny (aX G.prog G.w) A (dW e env) (λx s1=>aS (aX G.prog G.w) A (ra x) Q E s1) E s
noncomputable def kW(Inv:Mu->Prop)(Φ:AF->Mu->Prop):AF->Mu->Prop
 | .next,nu=>Inv nu
 | .cont,nu=>Inv nu
 | .brk,nu=>Φ .next nu
 | .ret y,nu=>Φ (.ret y) nu
noncomputable def oN(T:uj->aq->Prop)(P:aq->Prop):uj->aq->Prop
 | .next,s=>P s
 | .cont,s=>P s
 | .brk,s=>T .next s
 | .ret v,s=>T (.ret v) s
theorem oN.of{T:uj->aq->Prop}{P:aq->Prop}{fr:Mu}{Inv:Mu->Prop}{f:uj}{a:AF}(h:o7 G Z f a)(w:kW Inv Φ a nu)(hn:Inv nu->P s)(hq:∀{g c},o7 G Z g c->Φ c nu->T g s):oN T P f s:=by
 revert w
 exact o7.by h hn (hq .next) hn λv x hv=>hq (.ret hv)
structure ForT(prog:dG)(w:d8)(A:bh)(env:gP)(target:bH)(body orelse:List ed)(it:ai)(T:uj->aq->Prop)(P:aq->Prop)(s:aq):Prop where
 c:∀{E:ai->aq->Prop} {Q:Option ai->aq->Prop},(∀{s1},(∀{E:ai->aq->Prop},aS (aX prog w) A (Jw orelse env) T E s1)->Q av s1)->
  (∀{v s1},(∀{E:ai->aq->Prop},aS (aX prog w) A (kJ target it v) (λz s2=>aS (aX prog w) A (wA target env v) (λz s3=>aS (aX prog w) A (Jw body env) (oN T P) E s3) E s2) E s1)->Q (ae v) s1)->
  wpAny (aX prog w) A (l0 it) Q E s
theorem BJ{prog:dG}{w:d8}{A:bh}{E:ai->aq->Prop}{target:bH}{body orelse:List ed}{it:ai}{T:uj->aq->Prop}(I:Nat->aq->Prop)
 (turn:∀n s,I n s->ForT prog w A env target body orelse it T (λs'=>∃m,m < n/\I m s') s) (n:Nat) (h:I n s):
 iV (aX prog w) A (.forLoop target it body orelse env) (λr s'=>match r with| .ok f=>T f s'| .error e=>GQ (aX prog w) A env E e s') s:=
 codeAny_forLoop_any I (λn s hI=>(turn n s hI).c (λ{z} h=>h) λ{v s1} h=>eR h (λz s2 h=>eR h (λz s3 h=>eR h (λf s4 h=>by cases f <;> exact h) λz z e=>e) λz z e=>e) λz z e=>e) n h
structure BK(Z:bI)(Inv:Nat->Mu->Prop)(m:Nat)(it:Nat->cX)(fr:Mu)(n:Nat)(s':aq):Prop where
 ex:∃i Z' nu,n=m+1 - i/\i<=m/\Z.le Z'/\R Z' (it i::(nu++fr)) s'/\Inv i nu
theorem BK.lt{Inv:Nat->Mu->Prop}{m:Nat}{it:Nat->cX}{fr:Mu}{s':aq}{i:Nat}{Z':bI}(hi:i < m)(z:Z.le Z')(r:R Z' (nu++(it (i+1)::fr)) s')(h:Inv (i+1) nu):∃n,n < m+1 - i/\BK Z Inv m it fr n s':=
 ⟨m+1 - (i+1),Nat.sub_lt_sub_left (cI hi) (jf _),⟨i+1,Z',nu,rfl,hi,z,r.perm cu,h⟩⟩
@[elab_as_elim] theorem BK.by{P:Nat->Prop}{Inv:Nat->Mu->Prop}{m:Nat}{it:Nat->cX}{fr:Mu}{n:Nat}{s':aq}(h:BK Z Inv m it fr n s')(item:∀{i Z' nu},i < m->Z.le Z'->R Z' (it i::(nu++fr)) s'->Inv i nu->P (m+1 - i))
 (done:∀{Z' nu},Z.le Z'->R Z' (it m::(nu++fr)) s'->Inv m nu->P (m+1 - m)):P n:=by
 refine g6 (h.ex) λi Z' nu gi hi z r inv=>?_;subst gi;rcases Nat.lt_or_eq_of_le hi with h|rfl
 ·exact item h z r inv
 ·exact done z r inv
theorem G6{A:bh}{E:ai->aq->Prop}{I:ay}{it:Nat->cX}{fr:Mu}{Z1:bI}{Q:uj->aq->Prop}{t:bH}{body orelse:List ed}{ctx:Mu}{xs:List V}(Inv:Nat->Mu->Prop)(hit:CR I ctx t xs it)(hk:1<=k)(h0:Inv 0 mu)(qZ:∀i nu,Inv i nu->∀o∈ctx,o∈nu)
 (step:∀i x nu,xs[i]? =ae x->Inv i nu->mK k nu env t x λrt=>WS k rt env body (kW (Inv (i+1)) Φ)) (fin:∀nu,Inv xs.length nu->WS k nu env orelse Φ) (hA:Rm k A) (z1:Z.le Z1) (r:R Z1 (it 0::(mu++fr)) s)
 (q:∀{f s' Z' a nu},Z.le Z'->o7 G Z' f a->R Z' (nu++fr) s'->Φ a nu->Q f s'):iV (aX G.prog G.w) A (.forLoop t (.ref I) body orelse env) (λr s'=>match r with| .ok f=>Q f s'| .error e=>GQ (aX G.prog G.w) A env E e s') s:=by
 refine BJ (BK Z Inv xs.length it fr) (λn s' h=>h.by ?_ ?_) (xs.length+1) ⟨0,Z1,mu,rfl,gp _,z1,r,h0⟩
 ·intro i Z' nu hi z r inv;refine ⟨λ{y y} hn hs=>hit.item i _ (bJ hi) (hA.le hk) (λo ho=>aE _ (qZ i nu inv o ho)) r λ{v s3} h3=>hs (h3 λ{s4 Z4} z4 hv r4=>?_)⟩;refine (step i _ nu (bJ hi) inv).c hA (r4.perm cu.symm) hv λ{s5 Z5 nu5} z5 r5 w5=>w5.c hA r5 λ{f s6 Z6 a nu6} z6 f6 r6 w6=>oN.of (fr:=fr) f6 w6 (BK.lt hi (z.trans (z4.trans (z5.trans z6))) r6) λ{y y} hg=>q (z.trans (z4.trans (z5.trans z6))) hg (R.drop (r6.perm cu))
 ·intro Z' nu z r inv;exact ⟨λ{y y} hn hs=>hit.done (hA.le hk) (λo ho=>aE _ (qZ _ nu inv o ho)) r λ{y y} z3 r3=>hn ((fin nu inv).c hA r3 λ{y y y y y} z4=>q (z.trans (z3.trans z4)))⟩
theorem jO{pos:jC}{t:bH}{body orelse:List ed}{ctx:Mu}{xs:List V}(Inv:Nat->Mu->Prop)(src:pd k mu env e t ctx xs)(hk:1<=k)(h0:Inv 0 mu)(qZ:∀i nu,Inv i nu->∀o∈ctx,o∈nu)
 (step:∀i x nu,xs[i]? =ae x->Inv i nu->mK k nu env t x λrt=>WS k rt env body (kW (Inv (i+1)) Φ))
 (fin:∀nu,Inv xs.length nu->WS k nu env orelse Φ) (hf:autoParam (∀x,bw e env x=dg x) aR):WX k mu env (.For t e body orelse pos) Φ:=⟨λ{A E Z s fr Q} hA r q=>by
 with_reducible refine wpAny_For ?_ hf
 exact src.c hA r λ{z z z z} hit z2 r2=>G6 Inv hit hk h0 qZ step fin hA z2 r2 q⟩
structure WhI(Z:bI)(Inv:Nat->Mu->Prop)(fr:Mu)(n:Nat)(s':aq):Prop where
 ex:∃Z' nu,Z.le Z'/\R Z' (nu++fr) s'/\Inv n nu
theorem H1{prog:dG}{w:d8}{A:bh}{E:ai->aq->Prop}{test:bH}{body orelse:List ed}{T:uj->aq->Prop}(I:Nat->aq->Prop)
 (turn:∀n s,I n s->∀{E:ai->aq->Prop} {Q:Bool->aq->Prop},(∀{s1},(∀{E:ai->aq->Prop},aS (aX prog w) A (Jw body env) (oN T λs'=>∃m,m < n/\I m s') E s1)->Q aI s1)->
  (∀{s1},(∀{E:ai->aq->Prop},aS (aX prog w) A (Jw orelse env) T E s1)->Q aH s1)->aS (aX prog w) A (isTrue test env (dW test env)) Q E s) (n:Nat) (h:I n s):
 iV (aX prog w) A (.whileLoop test body orelse env) (λr s'=>match r with| .ok f=>T f s'| .error e=>GQ (aX prog w) A env E e s') s:=
 codeAny_whileLoop I (λn s hI=>turn n s hI (λ{z} h=>(if_pos rfl).symm▸eR h (λf s4 h=>by cases f <;> exact h) λz z e=>e) λ{z} h=>(if_neg cF).symm▸h) n h
theorem xT{pos:jC}{body orelse:List ed}(Inv:Nat->Mu->Prop)(n:Nat)(h0:Inv n mu)
 (turn:∀n nu,Inv n nu->WT k nu env e λc rt=>brP c (WS k rt env body (kW (λud=>∃m,m < n/\Inv m ud) Φ)) (WS k rt env orelse Φ)):WX k mu env (.While e body orelse pos) Φ:=⟨λ{A E Z s fr Q} hA r q=>by
 with_reducible refine wpAny_While ?_
 refine H1 (WhI Z Inv fr) (λn s' h=>?_) n ⟨Z,mu,.rfl,r,h0⟩;intro E Q2 ht hf;refine cC (h.ex) λZ' nu z r inv=>(turn n nu inv).c hA r λ{c s1 Z1 rt} z1 r1 w1=>?_;cases c with
 |true=>exact ht (WF.c (show WS k rt env body _ from w1) hA r1 λ{f s2 Z2 a ud} z2 f2 r2 w2=>oN.of (fr:=fr) f2 w2 (λ⟨m,hm,hi⟩=>⟨m,hm,⟨Z2,ud,z.trans (z1.trans z2),r2,hi⟩⟩) λ{y y} hg=>q (z.trans (z1.trans z2)) hg r2)
 |false=>exact hf (WF.c (show WS k rt env orelse Φ from w1) hA r1 λ{y y y y y} z2=>q (z.trans (z1.trans z2)))⟩
end
variable {t:bH}{xs:List V}
noncomputable def BL:List String:=["enumerate","zip","dict_itemiterator","dict_reverseitemiterator","odict_iterator","itertools.zip_longest","itertools.pairwise"]
theorem FD{M:zE}{A:bh}{E:ai->aq->Prop}{s:aq}{t:bH}{x:bb}{p:jC}{I:ay}{v:ai}{Q:Unit->aq->Prop}(h:Q () s):aS M A (kJ (.Name x p) (.ref I) v) Q E s:=ar h
theorem wL{M:zE}{A:bh}{E:ai->aq->Prop}{s:aq}{t:bH}{I:ay}{v:ai}{n:String}{o:o6}{Q:Unit->aq->Prop}(ho:s.heap.get? I=ae o)(hc:o.cls= .type n)
 (hn:BL.contains n=aH) (h:Q () s):aS M A (kJ t (.ref I) v) Q E s:=by
 have key:∀a:ay,aS M A (do
  let o <- load I
  match o.cls,o.data with
  | .type n,.fields vs=>
   if BL.contains n && vs[0]? == ae (pD a) then
    rule "for.unpacks-the-owned-tuple"
    updateField I 0 .none
  |_,_=>dg ():mF Unit) Q E s:=λa=>by
  refine ag (Tv ho ?_);obtain ⟨cls,d,data,sl⟩:=o;subst hc;cases data <;> first|exact ar h|(simp only [hn,Bool.false_and,dj,if_false];exact ar h)
 unfold kJ;cases t <;> first|exact ar h|(cases v <;> first|exact ar h|exact key _)
noncomputable def itW(I:ay)(fp:List ay)(Zf:bI)(Fe:∀b∈fp,b≠I->∃o,Zf b=ae o)(St:dH->Prop)
 (GE:∀h h',St h->(∀b∈fp,∀o,h.get? b=ae o->h'.get? b=ae o)->St h') (hl:∀h,St h->∃o,h.get? I=ae o):cX where
 own:=[I]
 sat:=λZ h=>Zf.le Z/\St h
 mono:=λZ Z' h hz ⟨a,b⟩=>⟨bI.le_trans a hz,b⟩
 loc:=λZ h h' ⟨a,b⟩ hk hz MV=>⟨a,GE h h' b λc hc o e=>by
  by_cases hI:c=I
  ·subst hI;exact hk c aa o e
  ·refine cJ (Fe c hc hI) λo' Uc=>?_;have h1:=hz c o' (a _ _ Uc);rw [e] at h1;(have lA:=aO h1;clear h1;subst lA);exact MV c _ (a _ _ Uc)⟩
 live:=λZ h ⟨a,b⟩ c hc=>by simp at hc;subst hc;exact hl h b
theorem CR.ofWalks{I:ay}{fp:List ay}{n:Nat}{P:Nat->ai->Prop}{St:Nat->dH->Prop}{Zf:bI}{c:String}(W:∀A:bh,A.handled=av->Walks G.prog G.w A I fp [I] n P St)(hn:xs.length=n)
 (Fe:∀b∈fp,b≠I->∃o,Zf b=ae o) (hP:∀i v x,xs[i]? =ae x->P i v->aZ G Zf v x) (hc:∀i h,St i h->∃o,h.get? I=ae o/\o.cls= .type c) (hcn:BL.contains c=aH):
 CR I [] t xs λi=>itW I fp Zf Fe (St i) ((W {} rfl).frame i) λh s=>(hc i h s).imp λz q=>q.1 where
 item:=λi x hx {A E Z s fr Q} hA z r q=>by
  have hs:=r.sat _ aa;exact (W A hA.hh).item i s _ E (hn▸(aB.mp hx).1) hs.2 λv h' tk hp hst' hk=>q λ{E T} p=>aK (hc _ _ hst') λo ho hcl=>wL (s:={s with heap:=h',toks:=tk}) ho hcl hcn (p .rfl ((hP i v x hx hp).mono hs.1) (r.upd' (x':=itW I fp Zf Fe (St (i+1)) ((W {} rfl).frame _) _) (i:=0) (h':=h') (tk:=tk) rfl rfl hk ⟨hs.1,hst'⟩))
 done:=λ{A E Z s fr Q} hA z r q=>by
  have hs:=r.sat _ aa;rw [hn] at hs;exact (W A hA.hh).done s _ E hs.2 λh' tk hk=>q .rfl (r.dropUpd hk)
 self:=λi {A E Z s fr Q} hA r q=>(W A hA.hh).self i s _ E (r.sat _ aa).2 (q r)
variable {Ps:List (Vw)}{pos:jC}
inductive j3(Z:bI):List ai->List (Vw)->Prop
 |nil:j3 Z [] []
 |cons {v vs P Ps:_}:P.p Z v->j3 Z vs Ps->j3 Z (v::vs) (P::Ps)
section
variable {vs:List ai}
theorem j3.cons_inv(h:j3 Z vs (P::Ps)):∃v rr,vs=v::rr/\P.p Z v/\j3 Z rr Ps:=by cases h with|cons a r=>exact ⟨_,_,rfl,a,r⟩
theorem j3.none(h:j3 Z vs ([]:List (Vw))):vs=[]:=by cases h;rfl
theorem j3.one(h:j3 Z vs [P]):∃v,vs=[v]/\P.p Z v:=
 h.cons_inv.imp λv w=>w.elim λz w=>⟨w.2.2.none▸w.1,w.2.1⟩
theorem j3.two(h:j3 Z vs [P,Q]):∃v u,vs=[v,u]/\P.p Z v/\Q.p Z u:=
 by obtain ⟨v,_,rfl,a,r⟩:=h.cons_inv;obtain ⟨u,rfl,b⟩:=r.one;exact ⟨v,u,rfl,a,b⟩
theorem j3.three(h:j3 Z vs [P,Q,S]):∃v u w,vs=[v,u,w]/\P.p Z v/\Q.p Z u/\S.p Z w:=
 by obtain ⟨v,_,rfl,a,r⟩:=h.cons_inv;obtain ⟨u,w,rfl,b,c⟩:=r.two;exact ⟨v,u,w,rfl,a,b,c⟩
end
theorem gF{Z:bI}{v:ai}{i:Int}(h:(bZ (.int i):Vw).p Z v):∃t,v= .int i t:=aZ.is h
theorem gV{Z:bI}{v:ai}{x:bb}(h:(bZ (.str x):Vw).p Z v):∃t,v= .str x t:=aZ.is h
structure tC(k:Nat)(mu:Mu)(env:gP)(es:List bH)(Ps:List (Vw)):Prop where
 len:es.length=Ps.length
 plain:∀pos,(lj pos (fo es env)).any (·.1)=aH
 c:∀{A:bh} {E:ai->aq->Prop} {Z:bI} {s:aq} {fr:Mu} {pos:jC} {Q:List ai->aq->Prop},Rm k A->R Z (mu++fr) s->
  (∀{vs s' Z'},Z.le Z'->j3 Z' vs Ps->R Z' (mu++fr) s'->Q vs s')->aS (aX G.prog G.w) A (spliced (lj pos (fo es env))) Q E s
structure Fn(k:Nat)(mu:Mu)(f:ai)(Ps:List (Vw))(S:Vw):Prop where
 c:∀{A:bh} {E:ai->aq->Prop} {Z:bI} {s:aq} {fr:Mu} {vs:List ai} {Q:ai->aq->Prop},Rm k A->R Z (mu++fr) s->j3 Z vs Ps->
  (∀{w s' Z'},Z.le Z'->S.p Z' w->R Z' (mu++fr) s'->Q w s')->aS (aX G.prog G.w) A (ku f vs) Q E s
section
variable {p':jC}{o:bH}{es:List bH}{A:bh}{E:ai->aq->Prop}{fr:Mu}{Q:ai->aq->Prop}
theorem aT:tC k mu env [] []:=⟨rfl,λz=>rfl,λ{z z z z z z z} hA r q=>ar (q .rfl .nil r)⟩
theorem et(hs:∀a p,e≠ .Starred a p):fo (e::es) env=(aH,dW e env)::fo es env:=by cases e <;> first|rfl|exact absurd rfl (hs _ _)
theorem au(h:EV k mu env e P)(hr:tC k mu env es Ps)(hs:∀a p,e≠ .Starred a p:=by intro z z h;cases h):tC k mu env (e::es) (P::Ps):=
 ⟨congrArg xm hr.len,λpos=>by
  refine aj (et hs ..) ?_;exact hr.plain pos,λ{A E Z s fr pos Q} hA r q=>by
  refine aj (et hs ..) ?_;show aS _ A (dW e env >>=λv=>eW [v] (spliced (lj pos (fo es env))) >>=λr=>dg ([v]++r)) Q E s;exact ag (h.c hA r λ{z z z} z1 p1 r1=>ag (bE (hr.c hA r1 λ{z z z} z2 p2 r2=>ar (q (z1.trans z2) (.cons (P.mono _ _ _ z2 p1) p2) r2))))⟩
theorem tC.any(ha:tC k mu env (e::es) Ps)(hs:∀a p,e≠ .Starred a p):(lj pos ((aH,dW e env)::fo es env)).any (·.1)=aH:=et hs▸ha.plain pos
theorem BM{id:String}(hf:PE k mu env (.Name x p) (.bi id))(ha:tC k mu env (e::es) Ps)(hs:∀a p,e≠ .Starred a p)(hA:Rm k A)(r:R Z (mu++fr) s)
 (h:∀{vs s' Z'},Z.le Z'->j3 Z' vs Ps->R Z' (mu++fr) s'->aS (aX G.prog G.w) A (ku (.builtin id) vs) Q E s'):aS (aX G.prog G.w) A (dW (.Call (.Name x p) (e::es) [] pos) env) Q E s:=by
 with_reducible refine gB ?_
 exact hf.c hA r λ{f s1 Z1} z1 q1 r1=>aj (aZ.biE q1 ..) (EX (ha.c hA r1 λ{z z z} z2 q2 r2=>h (z1.trans z2) q2 r2) (et hs) (ha.any hs))
theorem sy{T:String}(hf:PE k mu env (.Name x p) (.type T))(ha:tC k mu env (e::es) Ps)(hs:∀a p,e≠ .Starred a p)(hA:Rm k A)(r:R Z (mu++fr) s)
 (h:∀{vs s' Z'},Z.le Z'->j3 Z' vs Ps->R Z' (mu++fr) s'->aS (aX G.prog G.w) A (ku (.type T) vs) Q E s'):aS (aX G.prog G.w) A (dW (.Call (.Name x p) (e::es) [] pos) env) Q E s:=by
 with_reducible refine gB ?_
 exact hf.c hA r λ{f s1 Z1} z1 q1 r1=>aj (aZ.typeE q1 ..) (PyProof.Rows.callWith_type1 (ha.c hA r1 λ{z z z} z2 q2 r2=>h (z1.trans z2) q2 r2) (et hs) (ha.any hs))
theorem Ob{a:ay}{ob:o6}{fd:cm}(hf:PE k mu env (.Name x p) (.ref a))(h0:G.Z0 a=ae ob)(hd:ob.data= .func fd)(ha:tC k mu env (e::es) Ps)(hs:∀a p,e≠ .Starred a p)(hA:Rm k A)(r:R Z (mu++fr) s)
 (h:∀{vs s' Z'},Z.le Z'->j3 Z' vs Ps->R Z' (mu++fr) s'->aS (aX G.prog G.w) A (ku (.ref a) vs) Q E s'):aS (aX G.prog G.w) A (dW (.Call (.Name x p) (e::es) [] pos) env) Q E s:=by
 with_reducible refine gB ?_
 exact hf.c hA r λ{f s1 Z1} z1 q1 r1=>aj (aZ.refE q1 ..) (iJ hd (ha.c hA r1 λ{z z z} z2 q2 r2=>⟨r2.z0in _ _ h0,h (z1.trans z2) q2 r2⟩) (et hs))
theorem ek{id:String}(hf:PE k mu env (.Name x p) (.bi id))(ha:tC k mu env (e::es) Ps)(hF:Fn k mu (.builtin id) Ps S)(hs:∀a p,e≠ .Starred a p:=by intro z z h;cases h):
 EV k mu env (.Call (.Name x p) (e::es) [] pos) S:=⟨λ{z z z z z z} hA r q=>BM hf ha hs hA r λ{z z z} z2 q2 r2=>hF.c hA r2 q2 λ{z z z} z3=>q (z2.trans z3)⟩
theorem iZ{T:String}(hf:PE k mu env (.Name x p) (.type T))(ha:tC k mu env (e::es) Ps)(hF:Fn k mu (.type T) Ps S)(hs:∀a p,e≠ .Starred a p:=by intro z z h;cases h):
 EV k mu env (.Call (.Name x p) (e::es) [] pos) S:=⟨λ{z z z z z z} hA r q=>sy hf ha hs hA r λ{z z z} z2 q2 r2=>hF.c hA r2 q2 λ{z z z} z3=>q (z2.trans z3)⟩
theorem Kh{a:ay}{ob:o6}{fd:cm}(hf:PE k mu env (.Name x p) (.ref a))(h0:G.Z0 a=ae ob)(hd:ob.data= .func fd)(ha:tC k mu env (e::es) Ps)(hF:Fn k mu (.ref a) Ps S)(hs:∀a p,e≠ .Starred a p:=by intro z z h;cases h):
 EV k mu env (.Call (.Name x p) (e::es) [] pos) S:=⟨λ{z z z z z z} hA r q=>Ob hf h0 hd ha hs hA r λ{z z z} z2 q2 r2=>hF.c hA r2 q2 λ{z z z} z3=>q (z2.trans z3)⟩
structure Ty(mu:Mu)(P:Vw)(T:String):Prop where
 run:∀(Z:bI) (s:aq) (fr:Mu) (v:ai),R Z (mu++fr) s->P.p Z v->s.TypeIs v T/\∀a,v= .ref a->∃ob,s.heap.get? a=ae ob/\ob.dict=av
theorem mL{a:bb}:Ty mu (bZ (.str a)) "str":=⟨λZ s fr v r h=>aZ.strC h λz=>⟨rfl,λa e=>nomatch e⟩⟩
theorem Ty.at{T:String}{a:ay}{o:o6}(ho:s.heap.get? a=ae o)(hc:o.cls= .type T)(hd:o.dict=av):s.TypeIs (.ref a) T/\∀b,cY a= .ref b->∃ob,s.heap.get? b=ae ob/\ob.dict=av:=
 ⟨⟨_,ho,hc⟩,λb e=>⟨o,Value.ref.inj e▸ho,hd⟩⟩
theorem G7:Ty mu (me mu xs) "list":=⟨λZ s fr v r ⟨a,e,q⟩=>by
 exact eD (q Z s .rfl r.left) λvs n h1 h2=>e▸Ty.at h1 rfl rfl⟩
theorem tC.unstar(ha:tC k mu env (e::es) Ps):∀a p,e≠ .Starred a p:=λa p he=>by
 subst he;exact EY (ha.plain ⟨0,0,0,0⟩)
theorem BN{id T:String}{name:bb}{apos:jC}(ho:EV k mu env o P)(ht:Ty mu P T)(hpl:(lj pos (fo es env)).any (·.1)=aH)(pa:zr T)(slot:Slot T name id)
 (MW:jU (.builtin id)=dg (.type "method_descriptor")) (hl:(apos.endLine == pos.line)=aI) (hsz:es.length < 29) (sk:rn o name env (dW o env)=dW o env) (hA:Rm k A) (r:R Z (mu++fr) s)
 (h:∀{v s' Z'},Z.le Z'->P.p Z' v->R Z' (mu++fr) s'->aS (aX G.prog G.w) A (pE pos (.builtin id) [v] (lj pos (fo es env)) []) Q E s'):aS (aX G.prog G.w) A (dW (.Call (.Attribute o name apos) es [] pos) env) Q E s:=by
 with_reducible refine wpAny_Call_method sk ?_ hl pa slot MW ?_
 ·refine aj (show (lj pos (fo es env)).all (λx=>!x.1)=aI from fW.mpr λq hq=>by rw [CC,Bool.eq_false_iff];exact λh=>List.any_eq_false.mp hpl q hq h) ?_;exact decide_eq_true (show es.length+0+0 < 30 from cI hsz)
 exact ho.c hA r λ{ov s1 Z1} z1 q1 r1=>⟨(ht.run Z1 s1 fr ov r1 q1).1,(ht.run Z1 s1 fr ov r1 q1).2,h z1 q1 r1⟩
theorem Ki{id T:String}{name:bb}{apos:jC}(ho:EV k mu env o P)(ht:Ty mu P T)(ha:tC k mu env es Ps)(pa:zr T)(slot:Slot T name id)
 (MW:jU (.builtin id)=dg (.type "method_descriptor")) (hl:(apos.endLine == pos.line)=aI) (hsz:es.length < 29) (sk:rn o name env (dW o env)=dW o env) (hA:Rm k A) (r:R Z (mu++fr) s)
 (h:∀{v vs s' Z'},Z.le Z'->j3 Z' (v::vs) (P::Ps)->R Z' (mu++fr) s'->aS (aX G.prog G.w) A (ku (.builtin id) (v::vs)) Q E s'):aS (aX G.prog G.w) A (dW (.Call (.Attribute o name apos) es [] pos) env) Q E s:=by
 refine BN ho ht (ha.plain pos) pa slot MW hl hsz sk hA r λ{ov s1 Z1} z1 q1 r1=>callWith_builtin (ha.plain pos) ?_;have fin:∀{vs s2 Z2},Z1.le Z2->j3 Z2 vs Ps->R Z2 (mu++fr) s2->aS (aX G.prog G.w) A (ku (.builtin id) ([ov]++vs) []) Q E s2:=λ{z z z} z2 q2 r2=>h (z1.trans z2) (.cons (P.mono _ _ _ z2 q1) q2) r2;have hr:=ha.c (E:=E) (pos:=pos) hA r1 fin;cases es with
 |nil=>exact UB (fin .rfl (pC ha.len.symm▸.nil) r1)
 |cons e es=>rw [et ha.unstar] at hr ⊢;exact Jz hr
theorem f7{id T:String}{name:bb}{apos:jC}(ho:EV k mu env o P)(ht:Ty mu P T)(ha:tC k mu env es Ps)(hF:Fn k mu (.builtin id) (P::Ps) S)(pa:zr T)(slot:Slot T name id)
 (MW:jU (.builtin id)=dg (.type "method_descriptor")) (hl:(apos.endLine == pos.line)=aI) (hsz:autoParam (es.length < 29) aD) (sk:autoParam (rn o name env (dW o env)=dW o env) aR):
 EV k mu env (.Call (.Attribute o name apos) es [] pos) S:=⟨λ{z z z z z z} hA r q=>Ki ho ht ha pa slot MW hl hsz sk hA r λ{z z z z} z1 q1 r1=>hF.c hA r1 q1 λ{z z z} z2=>q (z1.trans z2)⟩
end
noncomputable def itWT(wr fp:List ay)(Zf:bI)(Fe:∀b∈fp,b∉wr->∃o,Zf b=ae o)(St:dH->Prop)
 (GE:∀h h',St h->(∀b∈fp,∀o,h.get? b=ae o->h'.get? b=ae o)->St h') (hl:∀h,St h->∀b∈wr,∃o,h.get? b=ae o):cX where
 own:=wr
 sat:=λZ h=>Zf.le Z/\St h
 mono:=λZ Z' h hz ⟨a,b⟩=>⟨bI.le_trans a hz,b⟩
 loc:=λZ h h' ⟨a,b⟩ hk hz MV=>⟨a,GE h h' b λc hc o e=>by
  by_cases hI:c∈wr
  ·exact hk c hI o e
  ·refine cJ (Fe c hc hI) λo' Uc=>?_;have h1:=hz c o' (a _ _ Uc);rw [e] at h1;(have lA:=aO h1;clear h1;subst lA);exact MV c _ (a _ _ Uc)⟩
 live:=λZ h ⟨a,b⟩ c hc=>hl h b c hc
theorem CR.ofWalksT{I:ay}{wr fp:List ay}{n:Nat}{Pt:Nat->Array ai->Prop}{St:Nat->dH->Prop}{Mid:Nat->ay->dH->Prop}{Zf:bI}{elts:List bH}{kk:Nat}
 (W:∀A:bh,A.handled=av->WalksT G.prog G.w A I fp wr n Pt St Mid) (hn:xs.length=n)
 (Fe:∀b∈fp,b∉wr->∃o,Zf b=ae o) (hP:∀i bB x,xs[i]? =ae x->Pt i bB->∃ys,x= .tup ys/\bW G Zf bB.toList ys)
 (hl:∀i h,St i h->∀b∈wr,∃o,h.get? b=ae o):
 CR I [] (.Tuple elts kk p) xs λi=>itWT wr fp Zf Fe (St i) ((W {} rfl).frame i) (hl i) where
 item:=λi x hx {A E Z s fr Q} hA z r q=>by
  have hs:=r.sat _ aa;refine (W A hA.hh).item i s _ E (hn▸(aB.mp hx).1) hs.2 λT bB h' tk hp hT hTup hMid hk=>q λ{E2 T2} p=>(W A hA.hh).go elts kk _ i T {s with heap:=h',toks:=tk} _ E2 hMid λh'' hst'' hk''=>aK (hP i bB x hx hp) λys dO hys=>?_;subst dO;obtain ⟨o,ho,hc,m,hd⟩:=hTup;exact p (bI.le_put (r.fresh hT)) (.tup (bI.put_self ..) hc hd (hys.mono (hs.1.trans (bI.le_put (r.fresh hT)))))
   (R.freeze (r.upd' (x':=itWT wr fp Zf Fe (St (i+1)) ((W {} rfl).frame _) (hl _)) (i:=0) (h':=h'') (tk:=tk) rfl rfl (λb o hb e=>hk'' b o hb (hk b o hb e)) ⟨hs.1,hst''⟩) (hk'' T o ((W A hA.hh).apart i T h' hMid) ho) (r.fresh hT) (r.notOwn hT))
 done:=λ{A E Z s fr Q} hA z r q=>by
  have hs:=r.sat _ aa;rw [hn] at hs;exact (W A hA.hh).done s _ E hs.2 λh' tk hk=>q .rfl (r.dropUpd hk)
 self:=λi {A E Z s fr Q} hA r q=>(W A hA.hh).self i s _ E (r.sat _ aa).2 (q r)
theorem R.addNew{Z:bI}{s:aq}{mu:Mu}{h':dH}{tk:Nat}(r:R Z mu s)(x:cX)(hk:∀b o,s.heap.get? b=ae o->h'.get? b=ae o)(hx:x.sat Z h')(hn:x.own.Nodup)(ho:∀b∈x.own,s.heap.objs.size<=b):
 R Z (x::mu) {s with heap:=h',toks:=tk}:=(r.keep hk).add x hx hn λb hb=>⟨r.notOwn (ho b hb),r.fresh (ho b hb)⟩
theorem R.swap{Z:bI}{s:aq}{mu:Mu}{h':dH}{tk i:Nat}{a:cX}(r:R Z mu s)(hi:mu[i]? =ae a)(x:cX)(hk:∀b o,b∉a.own->s.heap.get? b=ae o->h'.get? b=ae o)(hx:x.sat Z h')(hn:x.own.Nodup)(ho:∀b∈x.own,b∈a.own\/s.heap.objs.size<=b):
 R Z (mu.set i x) {s with heap:=h',toks:=tk}:=by
 have r1:R Z (a::(mu.take i++mu.drop (i+1))) s:=R.perm (gh hi▸r) cu;refine aj (j0 _ hi ..) (((r1.dropUpd hk).add x hx hn λb hb=>(ho b hb).elim (λh=>⟨λh2=>?_,r1.sep b (aE (gU _) h)⟩) λh=>⟨λh2=>r1.notOwn h (bL a.own h2),r1.fresh h⟩).perm cu.symm);exact (bP.mp (show (a.own++gU (mu.take i++mu.drop (i+1))).Nodup from r1.nodup)).2.2 b h b h2 rfl
theorem eg{a:ay}:[a].Nodup:=cg.mpr ⟨e7,.nil⟩
theorem kX{a b:ay}(h:b∈[a]):a<=b:=ll (aA.mp h).symm
theorem pN{Z:bI}{s:aq}{nu:Mu}{n:Nat}{P:Nat->ai->Prop}{St:Nat->dH->Prop}{c:String}{fp:List ay}{T:Prop}(r:R Z nu s)(W:∀A:bh,A.handled=av->Walks G.prog G.w A s.heap.objs.size fp [s.heap.objs.size] n P St)(hn:xs.length=n)
 (Fe:∀b∈fp,b≠s.heap.objs.size->∃o,Z b=ae o) (hP:∀i v x,xs[i]? =ae x->P i v->aZ G Z v x) (hc:∀i h,St i h->∃o,h.get? s.heap.objs.size=ae o/\o.cls= .type c) (hcn:BL.contains c=aH)
 {h':dH} (hk:∀b o,s.heap.get? b=ae o->h'.get? b=ae o) (h0:St 0 h') (q:∀{it:Nat->cX},CR s.heap.objs.size [] t xs it->R Z (it 0::nu) {s with heap:=h'}->T):T:=
 q (CR.ofWalks (Zf:=Z) W hn Fe hP hc hcn) (r.addNew (tk:=s.toks) _ hk ⟨.rfl,h0⟩ eg λz h=>kX h)
theorem vM{Z:bI}{I a:ay}{o:o6}(e:Z a=ae o):∀b∈[I,a],b≠I->∃o,Z b=ae o:=λb hb hn=>
 (aP.mp hb).elim (λq=>absurd q hn) λq=>⟨o,aA.mp q▸e⟩
theorem nC{Z:bI}{vs:Array ai}{i:Nat}{v:ai}{x:V}(hr:bW G Z vs.toList xs)(hx:xs[i]? =ae x)(hp:vs[i]? =ae v):aZ G Z v x:=by refine aK (hr.get hx) λv' h1 h2=>?_;cases hp.symm.trans (bV.symm.trans h1);exact h2
theorem b9{Z:bI}{vs:Array ai}(hr:bW G Z vs.toList xs):xs.length=vs.size:=hr.length.symm.trans eK
theorem Aw{Z:bI}{s:aq}{nu:Mu}{v:ai}{A:bh}{E Q:ai->aq->Prop}(r:R Z nu s)(h:aZ G Z v (.list xs))(q:∀{I it s'},CR I [] t xs it->R Z (it 0::nu) s'->Q (.ref I) s'):aS (aX G.prog G.w) A (ra v) Q E s:=by
 refine cE (rj.list h) λa vs n eT e1 hr=>?_;subst eT;have hL:s.heap.IsList a vs:=⟨_,r.zin _ _ e1,rfl,n,rfl⟩;exact lr hL (pN (c:="list_iterator") r (λA hh=>Walks.list hh s.heap.objs.size a (c8 (bN (r.zin _ _ e1))) vs) (b9 hr) (vM e1) (λi v x=>nC hr) (λi h hs=>hs.1.imp λz w=>⟨w.1,w.2.1⟩) (by decide)
  (λb o e=>az _ e) ⟨⟨_,aW _ rfl,rfl,rfl⟩,hL.at λo e=>az _ e⟩ q)
theorem dA(h:PE k mu env e (.list xs)):pd k mu env e t [] xs:=⟨λz h=>(eo h),λ{z z z z z z} hA r q=>h.c hA r λ{z z z} z1 q1 r1=>Aw r1 q1 λ{z z z} hit=>q hit z1⟩
theorem IsTuple.at{h h':dH}{a:ay}{vs:Array ai}(x:h.IsTuple a vs)(hk:∀o,h.get? a=ae o->h'.get? a=ae o):h'.IsTuple a vs:=x.imp λo w=>⟨hk o w.1,w.2⟩
theorem xA(h:PE k mu env e (.tup xs)):pd k mu env e t [] xs:=⟨λz h=>(eo h),λ{A E Z s fr Q} hA r q=>by
 refine h.c hA r λ{x s1 Z1} z1 q1 r1=>dK (aZ.tup_inv q1) λa o vs n gi e1 hc hd hr=>?_;subst gi;have hL:s1.heap.IsTuple a vs:=⟨_,r1.zin _ _ e1,hc,n,hd⟩;exact uk hL (pN (c:="tuple_iterator") r1 (λA hh=>Walks.tuple hh s1.heap.objs.size a (c8 (bN (r1.zin _ _ e1))) vs) (b9 hr) (vM e1) (λi v x=>nC hr) (λi h hs=>hs.1.imp λz w=>⟨w.1,w.2.1⟩) (by decide)
  (λb o e=>az _ e) ⟨⟨_,aW _ rfl,rfl,rfl⟩,IsTuple.at hL λo e=>az _ e⟩ λ{z} hit r'=>q hit z1 r')⟩
noncomputable def rC(a b:Int):List V:=(aN (b - a).toNat).map λ(i:Nat)=> .int (a+i)
theorem te(a b:Int):Builtin.Range.rangeSize a b 1=((b - a).toNat:Int):=by
 unfold Builtin.Range.rangeSize;refine aj (if_pos (by decide) ..) ?_
 split
 ·refine aj (Int.ediv_one ..) ?_;lia
 ·lia
theorem wM{a b:Int}(h1: -(2 ^ 60) < a)(h2:a < 2 ^ 60)(h3: -(2 ^ 60) < b)(h4:b < 2 ^ 60):EZ a b 1=aI:=by unfold EZ;refine aj (te ..) ?_;simp only [Builtin.Range.rangeFitsLong,dQ,jV,decide_eq_true_eq,beq_iff_eq];refine ⟨⟨⟨⟨⟨by lia,by exact ru (by assumption) (by decide)⟩,by lia,by exact ru (by assumption) (by decide)⟩,by lia,by lia⟩,by lia,by lia⟩,.inr ?_⟩;refine aj (if_pos (by decide) ..) ?_;simp only [dQ,decide_eq_true_eq];lia
theorem Od{I:ay}(a:Int)(n:Nat)(hl:xs.length=n)(hx:∀(i:Nat) (x:V),xs[i]? =ae x->x=V.int (a+i)){Zf:bI}:∃it:Nat->cX,CR I [] t xs it/\(it 0).own=[I]/\
 ∀(h:dH) (Z:bI),Zf.le Z->IsRangeIter h I a n 1->(it 0).sat Z h:=by
 refine ⟨_,CR.ofWalks (Zf:=Zf) (c:="range_iterator") (λA hh=>Walks.range hh I a 1 n) hl (λb hb hn=>absurd (aA.mp hb) hn) (λi v x h1 h2=>by
  refine cJ h2 λtk iC=>?_;clear h2;subst iC;(refine aj (hx i x h1 ..) ?_;refine aj (Int.mul_one ..) ?_);exact aZ.int _ _) (λi h hs=>⟨_,hs,rfl⟩) (by decide),rfl,λh Z hz hi=>⟨hz,?_⟩⟩
 show IsRangeIter h I (a+((0:Nat):Int)*1) ((n:Int) - ((0:Nat):Int)) 1;refine aj (show a+((0:Nat):Int)*1=a from P7 a) ?_;refine aj (show (n:Int) - ((0:Nat):Int)=n from Int.sub_zero _) ?_;exact hi
theorem FE(a b:Int):(rC a b).length=(b - a).toNat:=by exact (ak ..).trans fq
theorem FF(a b:Int):∀(i:Nat) (x:V),(rC a b)[i]? =ae x->x=V.int (a+i):=λi x h=>by
 unfold rC at h;rw [aJ] at h;refine aK (aL.mp h) λj hj kG=>?_;subst kG;have h2:=(aB.mp hj).2;simp at h2;subst h2;rfl
theorem xU{Z:bI}{s:aq}{nu:Mu}{a b:Int}{ob:o6}{A:bh}{E Q:ai->aq->Prop}{t1 t2 t3:HW}{tk:Nat}(r:R Z nu s)(ho:ob={cls:= .type "range",data:= .fields #[.int a t1,.int b t2,.int 1 t3]})
 (hs:EZ a b 1=aI) (q:∀{I it s'},CR I [] t (rC a b) it->R Z (it 0::nu) s'->Q (.ref I) s'):aS (aX G.prog G.w) A (ra (.ref s.heap.objs.size)) Q E {s with heap:=s.heap.push ob,toks:=tk}:=by
 subst ho;refine wpAny_pyIter_range (aW _ rfl) hs (aj (te ..) ?_);refine ef (Od (t:=t) (I:=(s.heap.push {cls:= .type "range",data:= .fields #[.int a t1,.int b t2,.int 1 t3]}).objs.size) a (b - a).toNat (FE a b) (FF a b) (Zf:=Z)) λit hit qe GD=>q hit (r.addNew (it 0) (λb o e=>az _ (az _ e)) (GD _ _ .rfl (aW _ rfl)) (qe▸eg) λb hb=>?_);rw [qe] at hb;(refine aj (aA.mp hb ..) ?_;refine aj (fN ..) ?_);exact jD _
theorem qw{e1 e2:bH}{x:bb}{a b:Int}(hf:PE k mu env (.Name x p) (.type "range"))(h1:PE k mu env e1 (.int a))(h2:PE k mu env e2 (.int b))(ha: -(2 ^ 60) < a/\a < 2 ^ 60)(hb: -(2 ^ 60) < b/\b < 2 ^ 60)
 (zi:∀a p,e1≠ .Starred a p:=by intro z z h;cases h) (GF:∀a p,e2≠ .Starred a p:=by intro z z h;cases h):
 pd k mu env (.Call (.Name x p) [e1,e2] [] pos) t [] (rC a b):=⟨λz h=>(eo h),λ{A E Z s fr Q} hA r q=>by
 refine sy hf (au h1 (au h2 aT GF) zi) zi hA r λ{vs s2 Z2} z2 q2 r2=>cC (q2.two) λv1 v2 ma q5 q6=>?_;subst ma;refine aZ.intC q5 λt1=>aZ.intC q6 λt2=>?_
 with_reducible refine call_range_2 ?_
 exact xU r2 rfl (wM ha.1 ha.2 hb.1 hb.2) λ{z z z} hit=>q hit z2⟩
theorem FG{e1:bH}{x:bb}{b:Int}(hf:PE k mu env (.Name x p) (.type "range"))(h1:PE k mu env e1 (.int b))(hb: -(2 ^ 60) < b/\b < 2 ^ 60)
 (zi:∀a p,e1≠ .Starred a p:=by intro z z h;cases h):pd k mu env (.Call (.Name x p) [e1] [] pos) t [] (rC 0 b):=⟨λz h=>(eo h),λ{A E Z s fr Q} hA r q=>by
 refine sy hf (au h1 aT zi) zi hA r λ{vs s2 Z2} z2 q2 r2=>aK (q2.one) λv1 mE q5=>?_;subst mE;refine aZ.intC q5 λt1=>?_
 with_reducible refine call_range_1 ?_
 exact xU r2 rfl (wM (by decide) (by decide) hb.1 hb.2) λ{z z z} hit=>q hit z2⟩
theorem fK{e1:bH}{x:bb}{b:Int}{n:Nat}(hf:PE k mu env (.Name x p) (.type "range"))(h1:PE k mu env e1 (.int b))(hn:b=n)(hb:n < 2 ^ 60)
 (zi:∀a p,e1≠ .Starred a p:=by intro z z h;cases h):pd k mu env (.Call (.Name x p) [e1] [] pos) t [] ((aN n).map λ(i:Nat)=>V.int i):=by
 have:=FG (t:=t) (pos:=pos) hf h1 (by lia) zi;subst hn;unfold rC at this;simpa using this
noncomputable def nD(x:bb):List V:=x.cps.toList.map λc=> .str ⟨#[c]⟩
theorem qx(x:bb):(x.cps.all (· < 128)=aI/\vp x="str_ascii_iterator")\/(x.cps.all (· < 128)=aH/\vp x="str_iterator"):=by
 unfold vp;cases h:x.cps.all (· < 128)
 ·exact .inr ⟨rfl,by rfl⟩
 ·exact .inl ⟨rfl,by rfl⟩
theorem Kj{A:bh}(hh:A.handled=av)(I:ay)(x:bb)(tk:HW):Walks G.prog G.w A I [I] [I] x.cps.size (SignAt x) (λi h=>h.IsStrIter I (vp x) x tk i):=by
 rcases qx x with ⟨_,e⟩|⟨_,e⟩ <;> refine aj (e ..) ?_
 ·exact Walks.strAscii hh I x tk
 ·exact Walks.strWide hh I x tk
theorem tD(x:bb){i:Nat}{y:V}{v:ai}{Z:bI}(h:(nD x)[i]? =ae y)(hs:SignAt x i v):aZ G Z v y:=by refine eD hs λc u hc q7=>?_;clear hs;subst q7;unfold nD at h;rw [aJ,bV,hc] at h;simp at h;subst h;exact aZ.str _ _
theorem Oe{x:bb}(h:PE k mu env e (.str x)):pd k mu env e t [] (nD x):=⟨λz h=>(eo h),λ{A E Z s fr Q} hA r q=>by
 exact h.c hA r λ{v s1 Z1} z1 q1 r1=>aZ.strC q1 λtk=>wpAny_pyIter_strU (pN (c:=vp x) r1 (λA hh=>Kj hh s1.heap.objs.size x tk) (by exact ak ..) (λb hb hn=>absurd (aA.mp hb) hn) (λi v y=>tD x)
  (λi h hs=>hs.imp λz w=>⟨w.1,w.2.1⟩) (by rcases qx x with ⟨_,e⟩|⟨_,e⟩ <;> refine aj (e ..) ?_ <;> decide) (λb o e=>az _ e) ⟨_,aW _ rfl,rfl,rfl⟩ λ{z} hit r'=>q hit z1 r')⟩
end
section
variable {k:Nat}{mu:Mu}{env:gP}{p pos:jC}{e t:bH}{xs:List V}
section
variable {tp:jC}{x:bb}{kk:Nat}{elts:List bH}
noncomputable def rD(xs:List V):List V:=xs.mapIdx λi x=> .tup [.int (i:Nat),x]
theorem H2(xs:List V):(rD xs).length=xs.length:=by simp [rD]
theorem H3(xs:List V){i:Nat}{y:V}(h:(rD xs)[i]? =ae y):∃x,xs[i]? =ae x/\y= .tup [.int (i:Nat),x]:=by unfold rD at h;rw [Tw] at h;exact aK (aL.mp h) λx h1 h2=>⟨x,h1,h2.symm⟩
def tE.S0(e0 it:ay)(fp:List ay)(St:Nat->dH->Prop)(Zf:bI)(_:Nat):Prop:=∀{tp:jC} {xs:List V} {kk:Nat} {elts:List bH} {n:Nat} {P:Nat->ai->Prop} (iP:e0≠it) (hfe:e0∉fp) (hif:it∈fp) (D:∀A:bh,A.handled=av->Draws G.prog G.w A it fp n P St) (hn:xs.length=n) (Fe:∀b∈fp,b≠it->∃o,Zf b=ae o) (hP:∀i v x,xs[i]? =ae x->P i v->aZ G Zf v x),∃I:Nat->cX,CR e0 [] (.Tuple elts kk tp) (rD xs) I/\(I 0).own=[e0,it]/\∀(h:dH) (Z:bI),Zf.le Z->IsEnum h e0 it 0 .none->St 0 h->(I 0).sat Z h
namespace tE
@[irreducible] def e0:=Fp cL cL gD s9 Rh eN S0
def e0_:=e0.1
def sA:=e0.2.1
def fp_:=e0.2.2.1
def St_:=e0.2.2.2.1
def Zf_:=e0.2.2.2.2.1
theorem T0:S0 e0_ sA fp_ St_ Zf_ e0.2.2.2.2.2:=by
 intro tp xs kk elts n P iP hfe hif D hn Fe hP;refine ⟨_,CR.ofWalksT (p:=tp) (elts:=elts) (kk:=kk) (Zf:=Zf_) (λA hh=>WalksT.enumerateD (D A.in1 hh) e0_ iP hfe hif) ((H2 xs).trans hn) (λb hb hn=>?_) (λi bB x hx hp=>?_) (λi h hs b hb=>?_),rfl,λh Z hz h1 h2=>⟨hz,⟨_,h1⟩,h2⟩⟩
 ·rcases aP.mp hb with rfl|hb
  ·exact absurd aa hn
  ·exact Fe b hb λq=>hn (q▸ab _ aa)
 ·refine aK (H3 xs hx) λy h1 dO=>?_;subst dO;refine eD hp λtk v hv eT=>?_;clear hp;subst eT;exact ⟨_,rfl,.cons (.int _ _) (.cons (hP i v y h1 hv) .nil)⟩
 ·rcases aP.mp hb with rfl|hb
  ·exact hs.1.elim λz ho=>⟨_,ho⟩
  ·exact aA.mp hb▸(D {} rfl).live i h hs.2
end tE
theorem tE{e0 it:ay}{fp:List ay}{St:Nat->dH->Prop}{Zf:bI}:tE.S0 e0 it fp St Zf 0:=by with_unfolding_all exact uD _ _ _ _ _ _ tE.S0 @tE.T0 e0 it fp St Zf 0
theorem vN{Z:bI}{s:aq}{nu:Mu}{fp:List ay}{n:Nat}{P:Nat->ai->Prop}{St:Nat->dH->Prop}{A:bh}{E Q:ai->aq->Prop}(r:R Z nu s)(D:∀A:bh,A.handled=av->Draws G.prog G.w A s.heap.objs.size fp n P St)
 (hfe:s.heap.objs.size+1∉fp) (hif:s.heap.objs.size∈fp) (hn:xs.length=n) (Fe:∀b∈fp,b≠s.heap.objs.size->∃o,Z b=ae o) (hP:∀i v x,xs[i]? =ae x->P i v->aZ G Z v x)
 {h':dH} (he:IsEnum h' (s.heap.objs.size+1) s.heap.objs.size 0 .none) (h0:St 0 h') (hk:∀b o,s.heap.get? b=ae o->h'.get? b=ae o)
 (q:∀{I it s'},CR I [] (.Tuple elts kk tp) (rD xs) it->R Z (it 0::nu) s'->Q (.ref I) s'):aS (aX G.prog G.w) A (ra (.ref (s.heap.objs.size+1))) Q E {s with heap:=h'}:=by
 with_reducible refine wpAny_pyIter_enum he ?_
 refine ef (tE (xs:=xs) (Zf:=Z) (elts:=elts) (kk:=kk) (tp:=tp) (ou _) hfe hif D hn Fe hP) λit hit qe GD=>q hit (r.addNew (tk:=s.toks) (it 0) hk (GD _ _ .rfl he h0) ?_ λb hb=>?_)
 ·refine aj (qe ..) ?_;exact cg.mpr ⟨λh=>ou _ (aA.mp h),eg⟩
 ·rw [qe] at hb;rcases aP.mp hb with q|hb
  ·refine aj (q ..) ?_;exact jD _
  ·exact kX hb
theorem G8{I a:ay}(h:a < I):I+1∉[I,a]:=λq=>(aP.mp q).elim (ou _) λq=>jJ (cI h) (aA.mp q)
theorem H4{e1:bH}(hf:PE k mu env (.Name x p) (.type "enumerate"))(h1:PE k mu env e1 (.list xs))(zi:∀a p,e1≠ .Starred a p:=by intro z z h;cases h):
 pd k mu env (.Call (.Name x p) [e1] [] pos) (.Tuple elts kk tp) [] (rD xs):=⟨λz h=>(eo h),λ{A E Z s fr Q} hA r q=>by
 refine sy hf (au h1 aT zi) zi hA r λ{vs s2 Z2} z2 q2 r2=>aK (q2.one) λv1 gi q5=>?_;subst gi;refine cE (rj.list q5) λa vs n iC e1 hr=>?_;subst iC;have hL:s2.heap.IsList a vs:=⟨_,r2.zin _ _ e1,rfl,n,rfl⟩;have SP:=bN (r2.zin _ _ e1);exact call_enumerate_list hL λh' he Ud hsz hk=>vN r2 (λA hh=>Draws.list hh s2.heap.objs.size a (c8 SP) vs) (G8 SP) aa (b9 hr) (vM e1) (λi v x=>nC hr) he ⟨Ud,hL.at λo e=>hk _ _ e⟩ hk λ{z z z} hit=>q hit z2⟩
theorem Kk{A:bh}(hh:A.handled=av)(I:ay)(x:bb)(tk:HW):Draws G.prog G.w A I [I] x.cps.size (λi v=>∃c u,x.cps[i]? =ae c/\v= .str ⟨#[c]⟩ u) (λi h=>h.IsStrIter I (vp x) x tk i):=by
 rcases qx x with ⟨_,e⟩|⟨_,e⟩ <;> refine aj (e ..) ?_
 ·exact Draws.strAscii hh I x tk
 ·exact Draws.strWide hh I x tk
theorem H5{e1:bH}{y:bb}(hf:PE k mu env (.Name x p) (.type "enumerate"))(h1:PE k mu env e1 (.str y))(zi:∀a p,e1≠ .Starred a p:=by intro z z h;cases h):
 pd k mu env (.Call (.Name x p) [e1] [] pos) (.Tuple elts kk tp) [] (rD (nD y)):=⟨λz h=>(eo h),λ{A E Z s fr Q} hA r q=>by
 refine sy hf (au h1 aT zi) zi hA r λ{vs s2 Z2} z2 q2 r2=>aK (q2.one) λv1 kG q5=>?_;subst kG;exact aZ.strC q5 λtk=>call_enumerate_str λh' he Ud hsz hk=>vN r2 (λA hh=>Kk hh s2.heap.objs.size y tk) (λh=>ou _ (aA.mp h)) aa (by exact ak ..) (λb hb hn=>absurd (aA.mp hb) hn) (λi v x=>tD y) he Ud hk λ{z z z} hit=>q hit z2⟩
theorem Ax{α:Type}(l:List α)(inj:α->V):rD (l.map inj)=l.zipIdx.map λq=>V.tup [.int (q.2:Nat),inj q.1]:=by refine List.ext_getElem? λi=>?_;unfold rD;refine aj (Tw ..) ?_;refine aj (aJ ..) ?_;refine aj (aJ ..) ?_;refine aj (Tz ..) ?_;cases l[i]? <;> simp
theorem sC{α:Type}{e1:bH}{l:List α}{inj:α->V}(hf:PE k mu env (.Name x p) (.type "enumerate"))(h1:PE k mu env e1 (.list (l.map inj)))(zi:∀a p,e1≠ .Starred a p:=by intro z z h;cases h):
 pd k mu env (.Call (.Name x p) [e1] [] pos) (.Tuple elts kk tp) [] (l.zipIdx.map λq=>V.tup [.int (q.2:Nat),inj q.1]):=by
 refine fZ (Ax ..) ?_;exact H4 hf h1 zi
theorem H7{e1:bH}{y:bb}(hf:PE k mu env (.Name x p) (.type "enumerate"))(h1:PE k mu env e1 (.str y))(zi:∀a p,e1≠ .Starred a p:=by intro z z h;cases h):
 pd k mu env (.Call (.Name x p) [e1] [] pos) (.Tuple elts kk tp) [] (y.cps.toList.zipIdx.map λq=>V.tup [.int (q.2:Nat),.str ⟨#[q.1]⟩]):=by
 have:=H5 (elts:=elts) (kk:=kk) (tp:=tp) (pos:=pos) hf h1 zi;unfold nD at this
 rwa [Ax] at this
def aZ.dict_inv.S0(Z:bI)(es:List (bb×V)):Prop:=∀{v:ai} (h:aZ G Z v (.dict es)),∃a o kvs,v= .ref a/\(a == lY)=aH/\Z a=ae o/\BD G o kvs/\kvs.map (·.1)=es.map (·.1)/\bW G Z (kvs.map (·.2)) (es.map (·.2))
namespace aZ.dict_inv
@[irreducible] def e0:=Qg Rh gD S0
def Z_:=e0.1
def es_:=e0.2
theorem T0:S0 Z_ es_:=by intro v h;cases h with|dict s e d k r=>exact ⟨_,_,_,rfl,s,e,d,k,r⟩
end aZ.dict_inv
theorem aZ.dict_inv{Z:bI}{es:List (bb×V)}:aZ.dict_inv.S0 Z es:=by with_unfolding_all exact Fo _ _ aZ.dict_inv.S0 @aZ.dict_inv.T0 Z es
theorem Kl{es:List (bb×V)}(h:PE k mu env e (.dict es)):pd k mu env e t [] (es.map λq=> .str q.1):=⟨λz h=>(eo h),λ{A E Z s fr Q} hA r q=>by
 refine h.c hA r λ{x s1 Z1} z1 q1 r1=>wH (aZ.dict_inv q1) λa o kvs ma hq e1 mE hk hr=>?_;subst ma;refine Aq mE λd1 ND ep d2 d3 d4 d5=>?_;clear mE;have ho:=r1.zin _ _ e1;refine wpAny_pyIter_dict hq (⟨o,ND,ho,d1,d2,d3,d4,d5⟩:s1.heap.DictAt (strKind G.prog G.w) a kvs ep) (pN (c:="dict_keyiterator") r1 (λA hh=>Walks.dictKeys (knd:=strKind G.prog G.w) hh s1.heap.objs.size a (c8 (bN ho)) kvs ep) ?_ (vM e1) (λi v x hx hp=>?_)
  (λi h hs=>hs.1.imp λz w=>⟨w.1,w.2.1⟩) (by decide) (λb o e=>az _ e) ⟨⟨_,aW _ rfl,rfl,rfl⟩,o,ND,az _ ho,d1,d2,d3,d4,d5⟩ λ{z} hit r'=>q hit z1 r')
 ·(refine aj (ak ..) ?_;refine fZ (ak (f:=(·.1)) ..) ?_;refine fZ (hk ..) ?_;refine aj (ak ..) ?_;rfl)
 ·refine eD hp λkey val h1 h2=>?_;clear hp;refine cJ (E0 (show Value.isStrOf key v=aI from h2)) λtk q7=>?_;subst q7;have h3:(es.map (·.1))[i]? =ae key:=by (refine fZ (hk ..) ?_;refine aj (aJ ..) ?_;refine aj (h1 ..) ?_);rfl
  rw [aJ] at h3 hx;refine aK (aL.mp h3) λq hq ue=>?_;subst ue;rw [hq] at hx
  (have lA:=aO hx;clear hx;subst lA)
  exact aZ.str _ _⟩
noncomputable def Km(I a:ay)(i:Nat):cX where
 own:=[I]
 sat:=λZ h=>h.IsListIter I a i
 mono:=λZ Z' h hz s=>s
 loc:=λZ h h' hs hk z z=>hs.at λo e=>hk I aa o e
 live:=λZ h ⟨o,ho,_⟩ c hc=>by simp at hc;subst hc;exact ⟨o,ho⟩
theorem xV{I a:ay}(iP:a≠I):CR I [bl a xs] t xs (Km I a) where
 item:=λi x hx {A E Z s fr Q} hA hc r q=>by
  exact eD (r.sat _ (ab _ (hc _ aa))) λvs n h1 h2=>aK (h2.get hx) λv h3 h4=>zt (show s.heap.IsListIter I a i from r.sat _ aa) (⟨_,h1,rfl,n,rfl⟩:s.heap.IsList a vs) (bV.symm.trans h3) λh' hit hsb=>q λ{E T} p=>ef (id hit) λo ho hcl z=>wL (s:={s with heap:=h'}) ho hcl (by decide) (p .rfl h4 (r.upd' (x':=Km I a (i+1)) (i:=0) (h':=h') (tk:=s.toks) rfl rfl (λb o hb e=>hsb.extBut b o (λq=>hb (q▸aa)) e) hit))
 done:=λ{A E Z s fr Q} hA hc r q=>by
  exact eD (r.sat _ (ab _ (hc _ aa))) λvs n h1 h2=>Ai hA.hh (show s.heap.IsListIter I a xs.length from r.sat _ aa) (⟨_,h1,rfl,n,rfl⟩:s.heap.IsList a vs) (P8 (ll (b9 h2).symm)) λh' hx=>q .rfl (r.dropUpd (tk:=s.toks) λb o hb e=>hx b o (λq=>hb (q▸aa)) e)
 self:=λi {A E Z s fr Q} hA r q=>wpAny_pyIter_listiter (r.sat _ aa) (q r)
theorem G9{a:ay}{A:bh}{E:ai->aq->Prop}{Z:bI}{s:aq}{fr:Mu}{Q:ai->aq->Prop}(h:PE k mu env e (.ref a))(hm:bl a xs∈mu)(hA:Rm k A)(r:R Z (mu++fr) s)
 (q:∀{I s' Z'},a≠I->Z.le Z'->R Z' (Km I a 0::(mu++fr)) s'->Q (.ref I) s'):aS (aX G.prog G.w) A (dW e env) (λx s1=>aS (aX G.prog G.w) A (ra x) Q E s1) E s:=by
 refine h.c hA r λ{x s1 Z1} z1 q1 r1=>aj (aZ.refE q1 ..) (eD (r1.sat _ (aE fr hm)) λvs n h1 h2=>?_);exact lr (⟨_,h1,rfl,n,rfl⟩:s1.heap.IsList a vs) (q (c8 (bN h1)) z1 (r1.addNew (tk:=s1.toks) (Km s1.heap.objs.size a 0) (λb o e=>az _ e) (⟨_,aW _ rfl,rfl,rfl⟩:(s1.heap.push _).IsListIter s1.heap.objs.size a 0) eg λz h=>kX h))
theorem Ay{a:ay}(h:PE k mu env e (.ref a))(hm:bl a xs∈mu):pd k mu env e t [bl a xs] xs:=⟨λo ho=>aA.mp ho▸hm,λ{z z z z z z} hA r q=>G9 h hm hA r λ{z z z} iP=>q (xV iP)⟩
end
variable {b:Bool}
noncomputable def Dd(target:bH)(ip:jC)(ifs:List bH)(ni fin:mF Fin)(it:ai)(env:gP):mF Fin:=do
 iE ip
 match <- l0 it with
 |none=>dg (.done .next)
 |some v=>
  kJ target it v
  wA target env v
  let mut ok:=aI
  for c in ifs do
   if ok then ok <- isTrue c env (dW c env)
  if ok then ni else fin
noncomputable def Ha(elt:bH)(acc:ai)(env:gP):mF Unit:=do let _ <- ku (.builtin "list.append") [acc,<- dW elt env]
noncomputable def Ko(ke ve:bH)(acc:ai)(env:gP):mF Unit:=do
 let kv <- dW ke env
 let vv <- eW [kv] (dW ve env)
 match acc with
 | .ref d=>do
  iE {ke.pos with endLine:=ve.pos.endLine,endCol:=ve.pos.endCol}
  eW [kv,vv] (dictSet d kv vv)
 |_=>unsupported "internal:dictcomp"
noncomputable def Qk(e iter:bH)(acc:ai)(env:gP)(fin:mF Fin):mF Fin:=do
 let x <- dW iter env
 iE iter.pos
 let x <- bw iter env x
 let _ <- runOwn (.compStart e 1 (<- eW [x] (ra x)) acc env) env
 fin
noncomputable def uI(e:bH)(d:Nat)(acc:ai)(env:gP)(em:mF Unit)(it:ai):mF Fin:=em >>=λz=>NN (.compLoop e d it acc env)
noncomputable def vO(e iter:bH)(acc:ai)(env:gP)(it:ai):mF Fin:=Qk e iter acc env (NN (.compLoop e 0 it acc env))
structure TU(env:gP)(e:bH)(d:Nat)(acc:ai)(t:bH)(ip:jC)(ifs:List bH)(ni:ai->mF Fin):Prop where
 tree:∀it,compTurn e d it acc env=Dd t ip ifs (ni it) (NN (.compLoop e d it acc env)) it env
 fr:∀it,(TA e d it acc env).isFrame=aH/\(Fj e d it acc env).isFrame=aH
 q:∀it,(Fj e d it acc env).quiet=aI
 u:∀(A:bh) it,A.under (.compStart e d it acc env)=A/\A.under (.compLoop e d it acc env)=A
theorem Kp{elt target iter:bH}{ifs:List bH}{scope:eU}{pos:jC}{acc:ai}{env:gP}:TU env (.ListComp elt [⟨target,iter,ifs,0⟩] scope pos) 0 acc target iter.pos ifs (uI (.ListComp elt [⟨target,iter,ifs,0⟩] scope pos) 0 acc env (Ha elt acc env)):=
 ⟨λz=>by rfl,λz=>⟨rfl,rfl⟩,λz=>rfl,λz z=>⟨rfl,rfl⟩⟩
theorem Of{elt target iter sM fc:bH}{ifs oh:List bH}{scope:eU}{pos:jC}{acc:ai}{env:gP}:TU env (.ListComp elt [⟨target,iter,ifs,0⟩,⟨sM,fc,oh,0⟩] scope pos) 0 acc target iter.pos ifs (vO (.ListComp elt [⟨target,iter,ifs,0⟩,⟨sM,fc,oh,0⟩] scope pos) fc acc env):=
 ⟨λz=>by rfl,λz=>⟨rfl,rfl⟩,λz=>rfl,λz z=>⟨rfl,rfl⟩⟩
theorem Og{elt target iter sM fc:bH}{ifs oh:List bH}{scope:eU}{pos:jC}{acc:ai}{env:gP}:TU env (.ListComp elt [⟨target,iter,ifs,0⟩,⟨sM,fc,oh,0⟩] scope pos) 1 acc sM fc.pos oh (uI (.ListComp elt [⟨target,iter,ifs,0⟩,⟨sM,fc,oh,0⟩] scope pos) 1 acc env (Ha elt acc env)):=
 ⟨λz=>by rfl,λz=>⟨rfl,rfl⟩,λz=>rfl,λz z=>⟨rfl,rfl⟩⟩
theorem Rq{ke ve target iter:bH}{ifs:List bH}{scope:eU}{pos:jC}{acc:ai}{env:gP}:TU env (.DictComp ke ve [⟨target,iter,ifs,0⟩] scope pos) 0 acc target iter.pos ifs (uI (.DictComp ke ve [⟨target,iter,ifs,0⟩] scope pos) 0 acc env (Ko ke ve acc env)):=
 ⟨λz=>by rfl,λz=>⟨rfl,rfl⟩,λz=>rfl,λz z=>⟨rfl,rfl⟩⟩
noncomputable def Ql(env:gP)(ifs:List bH):mF Bool:=forIn ifs aI λc r=>if r=aI then do let ok <- isTrue c env (dW c env);dg (GR ok) else dg (GR r)
abbrev xc(k:Nat)(mu:Mu)(env:gP)(ifs:List bH)(b:Bool):Prop:=WB k mu (Ql env ifs) b
theorem dk:xc k mu env [] aI:=⟨λ{z z z z z z} hA r q=>wpAny_tests_nil (q .rfl r)⟩
theorem fS{c:bH}(h:PT k mu env c b):xc k mu env [c] b:=⟨λ{z z z z z z} hA r q=>wpAny_tests_one (h.c hA r q)⟩
structure JQ(k:Nat)(mu:Mu)(env:gP)(e:bH)(d:Nat)(acc:ai)(t:bH)(ctx:Mu)(xs:List V)(Ψ:Mu->Prop):Prop where
 c:∀{A:bh} {Z:bI} {s:aq} {fr:Mu} {I:ay} {it:Nat->cX} {T:wD->aq->Prop},Rm k A->CR I ctx t xs it->(∀o∈ctx,o∈mu++fr)->R Z (it 0::(mu++fr)) s->
  (∀{s' Z' nu},Z.le Z'->R Z' (nu++fr) s'->Ψ nu->T (.ok .next) s')->iV (aX G.prog G.w) A (.compStart e d (.ref I) acc env) T s
theorem FH{prog:dG}{w:d8}{A:bh}{R:wD->aq->Prop}{s:aq}{e:bH}{d:Nat}{it acc:ai}{env:gP}{g:kS}(hg:(Ni e)[d]? =ae g)(ha:(g.is_async != 0)=aH)(iD:(TA e d it acc env).isFrame=aH)
 (h0:iV (aX prog w) A (.compLoop e d it acc env) R s) (h:∀E,aS (aX prog w) A (ra it) (λit' s'=>iV (aX prog w) A (.compLoop e d it' acc env) R s') E s) (hq:∀it',(Fj e d it' acc env).quiet=aI)
 (hu:A.under (.compStart e d it acc env)=A):iV (aX prog w) A (.compStart e d it acc env) R s:=by
 refine kK (aj (hu ..) ?_);show aS _ _ (if (TA e d it acc env).isFrame then (tx e d it acc env).onRaise (JA env) else (tx e d it acc env).onRaise (λx=>do noteFrame x env;iE theWindowsPlace)) _ _ s;refine aj (iD ..) ?_;refine aj (if_neg cF ..) ?_;refine wpAny_notedAt ?_;unfold tx;refine aj (hg ..) ?_;refine aj (if_neg (show ¬(_=aI) from λe=>absurd (ha.symm.trans e) cF) ..) ?_;show aS _ _ (ask >>=_) _ _ s;refine ag (gC (wpAny_ite ?_))
 split
 ·first
   |exact ag (ar (ar (NO (hq _) h0)))
   |exact ar (NO (hq _) h0)
 ·refine ag (oj ?_);refine ag (iH ?_);exact ag (eR (h _) (λit' s' h'=>ar (NO (hq _) h')) λz z x=>x)
abbrev WBf(k:Nat)(mu:Mu)(bf:mF Fin)(c:Code)(Ψ:Mu->Prop):Prop:=Wu k mu bf (.again c) Ψ
theorem WU.bf{d:Nat}{acc it:ai}{t:mF Unit}{Ψ:Mu->Prop}(h:WU k mu t Ψ):WBf k mu (uI e d acc env t it) (.compLoop e d it acc env) Ψ:=⟨λ{y y y y y y} hA r q=>ag (h.c hA r λ{y y y} z r w=>ar (q z r w))⟩
def Le(nu nu':Mu):Prop:=∀Z s fr,R Z (nu++fr) s->R Z (nu'++fr) s
theorem H8{prog:dG}{w:d8}{A:bh}{T:wD->aq->Prop}{s:aq}{d:Nat}{acc it:ai}{ip:jC}{ifs:List bH}{ni:ai->mF Fin}(K:TU env e d acc t ip ifs ni)(I:Nat->aq->Prop)
 (turn:∀n s,I n s->∀{E:ai->aq->Prop} {Q:Option ai->aq->Prop},(∀{s1},T (.ok .next) s1->Q av s1)->
  (∀{v s1},(∀{E:ai->aq->Prop} {F:Bool->aq->Prop},(∀{s2},aS (aX prog w) A (ni it) (λfin s3=>fin= .again (.compLoop e d it acc env)/\∃m,m < n/\I m s3) E s2->F aI s2)->(∀{s2},(∃m,m < n/\I m s2)->F aH s2)->
   aS (aX prog w) A (kJ t it v) (λz s2=>aS (aX prog w) A (wA t env v) (λz s3=>aS (aX prog w) A (Ql env ifs) F E s3) E s2) E s1)->Q (ae v) s1)->
  aS (aX prog w) A (l0 it) Q E s) (n:Nat) (h:I n s):iV (aX prog w) A (.compLoop e d it acc env) T s:=by
 refine codeAny_loop (K.q _) I (λn s h=>?_) n h;refine aj ((K.u A _).2) ?_;show aS _ A (if (Fj e d it acc env).isFrame then (compTurn e d it acc env).onRaise (JA env) else (compTurn e d it acc env).onRaise (λx=>do noteFrame x env;theTreesLotGoes x)) _ _ s;refine aj ((K.fr _).2) ?_;refine aj (if_neg cF ..) ?_;refine wpAny_noted (aj (K.tree ..) ?_);unfold Dd;refine ag (iH (ag (turn n s h (λ{z} h=>ar h) λ{v s1} h=>ag (eR (h (λ{s2} h=>?_) λ{s2} h=>?_) (λz s2 h=>ag (eR h (λz s3 h=>ag h) λz z e=>e)) λz z e=>e))))
 ·exact eR h (λfin s3 h=>h.1▸⟨rfl,h.2⟩) λz z e=>e
 ·exact ar ⟨rfl,h⟩
theorem rE{d:Nat}{acc:ai}{ip:jC}{ifs:List bH}{g:kS}{ctx:Mu}{Ψ:Mu->Prop}{ni:ai->mF Fin}(K:TU env e d acc t ip ifs ni)(hk:1<=k)(hg:(Ni e)[d]? =ae g)(ha:(g.is_async != 0)=aH)
 (Inv:Nat->Mu->Prop) (h0:Inv 0 mu) (qZ:∀i nu,Inv i nu->∀o∈ctx,o∈nu)
 (step:∀i x nu,xs[i]? =ae x->Inv i nu->mK k nu env t x λrt=>∃b,xc k rt env ifs b/\(b=aH->∃ud,Le rt ud/\Inv (i+1) ud)/\(b=aI->∀it,WBf k rt (ni it) (.compLoop e d it acc env) (Inv (i+1))))
 (fin:∀nu,Inv xs.length nu->Ψ nu):JQ k mu env e d acc t ctx xs Ψ:=⟨λ{A Z s fr I it T} hA hit hc r q=>by
 have loop:∀{s},R Z (it 0::(mu++fr)) s->iV (aX G.prog G.w) A (.compLoop e d (.ref I) acc env) T s:=λ{y} r=>by
  refine H8 K (BK Z Inv xs.length it fr) (λn s' h {E Q} hn hs=>?_) (xs.length+1) ⟨0,Z,mu,rfl,gp _,.rfl,r,h0⟩
  revert hs
  refine h.by ?_ ?_
  ·intro i Z' nu hi z r inv hs;refine hit.item i _ (bJ hi) (hA.le hk) (λo ho=>aE _ (qZ i nu inv o ho)) r λ{v s3} h3=>hs λ{E F} ft ff=>h3 λ{s4 Z4} z4 hv r4=>(step i _ nu (bJ hi) inv).c hA (r4.perm cu.symm) hv λ{s5 Z5 nu5} z5 r5 w5=>ef w5 λb hifs hf ht=>?_;clear w5;refine hifs.c hA r5 λ{s6 Z6} z6 r6=>?_;have zz:=z.trans (z4.trans (z5.trans z6));cases b with
   |false=>exact aK (hf rfl) λnu6 hle hf=>ff (BK.lt hi zz (hle _ _ _ r6) hf)
   |true=>exact ft ((ht rfl (.ref I)).c hA r6 λ{y y y} z7 r7 w7=>⟨rfl,BK.lt hi (zz.trans z7) r7 w7⟩)
  ·intro Z' nu z r inv y;exact hit.done (hA.le hk) (λo ho=>aE _ (qZ _ nu inv o ho)) r λ{y y} z3 r3=>hn (q (z.trans z3) r3 (fin nu inv))
 exact FH hg ha (K.fr _).1 (loop r) (λE'=>hit.self 0 (hA.le hk) r λ{y} r1=>loop r1) K.q (K.u A _).1⟩
theorem Az{A:bh}{E:ai->aq->Prop}{Z:bI}{s:aq}{fr nu:Mu}{v:ai}{a:ay}{ys:List V}{i:Nat}{y:V}{Q:ai->aq->Prop}(r:R Z (nu++fr) s)(hi:nu[i]? =ae (bl a ys))(hl:ys.length < 2 ^ 22)(hv:aZ G Z v y)
 (q:∀{s'},R Z (nu.set i (bl a (ys++[y]))++fr) s'->Q .none s'):aS (aX G.prog G.w) A (ku (.builtin "list.append") [.ref a,v]) Q E s:=by
 have hi':=cH (fr:=fr) hi;obtain ⟨vs,n,h2,h3⟩:=r.sat _ (ao hi');have hsz:vs.size<=er:=by refine fZ (b9 h3 ..) ?_;show _<=2 ^ 24;exact aw (eB (by assumption)) (by decide)
 refine wpAny_list_append_plain (⟨n,h2⟩:s.heap.PlainList a vs) (λh' hp hs=>q ?_) hsz;obtain ⟨m,hp⟩:=hp;exact fZ (gE hi ..) (r.upd' (tk:=s.toks) hi' rfl (λb o hb e=>hs.extBut b o (λq=>hb (q▸aa)) e) ⟨_,m,hp,by refine aj (CD ..) ?_;exact h3.snoc hv⟩)
theorem vP{a:ay}{ys:List V}{i:Nat}{elt:bH}{Ψ:Mu->Prop}(h:WE k mu env elt λy nu=>nu[i]? =ae (bl a ys)/\ys.length < 2 ^ 22/\Ψ (nu.set i (bl a (ys++[y])))):WU k mu (Ha elt (.ref a) env) Ψ:=⟨λ{A E Z s fr Q} hA r q=>by
 unfold Ha;exact ag (h.c hA r λ{z z z z z} z1 q1 r1 w=>ag (Az r1 w.1 w.2.1 q1 λ{z} r2=>ar (q z1 r2 w.2.2)))⟩
variable {Z:bI}{s:aq}
noncomputable def aM:Nat->List (bb×CE)->zL
 |_,[]=>[]
 |n,(x,.cell)::r=>(x,ae n)::aM (n+1) r
 |n,(x,.local)::r=>(x,av)::aM n r
 |n,(_,_)::r=>aM n r
noncomputable def nones(lay:zL):ej:=lay.map λz=>av
theorem mX(n:Nat)(x:bb)(kd:CE)(r:List (bb×CE)):aM n ((x,kd)::r)=if kd= .cell then (x,ae n)::aM (n+1) r else if kd= .local then (x,av)::aM n r else aM n r:=by cases kd <;> rfl
theorem tF(names:List (bb×CE)):∀(n:Nat),∀b∈(aM n names).filterMap (·.2),n<=b:=by
 induction names with
 |nil=>exact λz z h=>eo h
 |cons q r ih=>
  intro n b h;rw [mX] at h
  split at h
  ·rcases aP.mp (show b∈n::(aM (n+1) r).filterMap (·.2) from h) with rfl|h'
   ·exact bp _
   ·exact nj (ih (n+1) b h')
  ·split at h
   ·exact ih n b h
   ·exact ih n b h
theorem zM(names:List (bb×CE)):∀(n:Nat),((aM n names).filterMap (·.2)).Nodup:=by
 induction names with
 |nil=>exact λz=> .nil
 |cons q r ih=>
  intro n;refine aj (mX ..) ?_
  split
  ·exact cg.mpr ⟨λh=>TB n (tF r (n+1) n h),ih (n+1)⟩
  ·split
   ·exact ih n
   ·exact ih n
theorem zN(names:List (bb×CE)):∀n m:Nat,(aM n names).map (·.1)=(aM m names).map (·.1):=by
 induction names with
 |nil=>exact λz z=>rfl
 |cons q r ih=>
  intro n m;refine aj (mX ..) ?_;refine aj (mX ..) ?_
  split
  ·exact congrArg (List.cons q.1) (ih _ _)
  ·split
   ·exact congrArg (List.cons q.1) (ih _ _)
   ·exact ih n m
theorem zO{Z:bI}{m:bb->Option ai}(names:List (bb×CE)):∀(h:dH),ea Z (pushCells h names) m (aM h.objs.size names) (nones (aM h.objs.size names)):=by
 induction names with
 |nil=>exact λz z z z e=>gK e
 |cons q r ih=>
  intro h;obtain ⟨x,kd⟩:=q;cases kd
  case cell=>show ea Z (pushCells (h.push {cls:= .type "cell",data:= .cell av}) r) m ((x,ae h.objs.size)::aM (h.objs.size+1) r) (av::nones (aM (h.objs.size+1) r));have ih:=ih (h.push {cls:= .type "cell",data:= .cell av});rw [fN] at ih;exact .cons ⟨av,_,P9 r _ _ _ (aW _ rfl),rfl⟩ ih
  case «local»=>exact .cons (c:=av) (o:=av) trivial (ih h)
  all_goals exact ih h
section
variable {M:zE}{A:bh}{E:ai->aq->Prop}
theorem AA{scope:eU}{cls:String}(r:R Z mu s)(hnd:(aM 0 scope.names).nd):
 R Z (bq s.heap.objs.size (aM (s.heap.objs.size+1) scope.names) (nones (aM (s.heap.objs.size+1) scope.names))::mu)
  {s with heap:=pushCells (s.heap.push {cls:= .type cls,data:= .dict #[]}) scope.names}:=by
 have hsz:(s.heap.push {cls:= .type cls,data:= .dict #[]}).objs.size=s.heap.objs.size+1:=fN ..;refine r.addNew (tk:=s.toks) _ (λb o e=>P9 _ _ b o (az _ e)) ⟨?_,λz=>av,(Heap.Ns.new s.heap (.type cls)).keeps (P9 _ _),?_⟩ ?_ ?_
 ·unfold zL.nd;refine aj (zN _ _ 0 ..) ?_;exact hnd
 ·have:=zO (Z:=Z) (m:=λz=>av) scope.names (s.heap.push {cls:= .type cls,data:= .dict #[]});rw [hsz] at this;exact this
 ·refine cg.mpr ⟨λh=>?_,zM _ _⟩;exact TB _ (tF _ _ _ h)
 ·intro b hb;rcases aP.mp hb with rfl|hb
  ·exact bp _
  ·exact nj (tF _ _ _ hb)
theorem H9{scope:eU}{globals:ay}{cl:List (bb×ay)}{qual:bb}{env:gP}{Q:gP->aq->Prop}(r:R Z mu s)(hnd:(aM 0 scope.names).nd)
 (h:∀s',s'.toks=s.toks->R Z (bq s.heap.objs.size (aM (s.heap.objs.size+1) scope.names) (nones (aM (s.heap.objs.size+1) scope.names))::mu) s'->
  Q (newEnv scope s.heap.objs.size globals (xo (s.heap.objs.size+1) scope.names cl) qual av .none (ae env) builtinsNs) s'):
 aS M A (CF scope globals cl [] qual av .none (ae env)) Q E s:=by
 simp only [CF,Option.isSome_some,if_true];refine ag (vq ?_);refine ag (wpAny_layCells _ (λname kind cells=>by cases hkc:kind == NameKind.cell <;> simp [hkc]) _ _ _ _ ?_);refine aj (show ({s with heap:=s.heap.push {cls:= .type "dict",data:= .dict #[]}}:aq).heap.objs.size=s.heap.objs.size+1 from fN ..) (ag ?_);exact aj (List.forIn_nil ..) (ar (ar (h _ rfl (AA r hnd))))
inductive i9(env:gP)(L:ay)(lay:zL):List bb->List V->ej->ej->Prop
 |nil {bB:_}:i9 env L lay [] [] bB bB
 |cons {x j y xs ys bB vals':_}:Sl env L lay x j->(env.kindOf x == ae .free)=aH->i9 env L lay xs ys (bB.set j (ae y)) vals'->i9 env L lay (x::xs) (y::ys) bB vals'
theorem FI{L:ay}{lay:zL}(he:du env)(f:bb×ai->PUnit->mF (ForInStep PUnit))(hf:∀n v u,f (n,v) u=(do storeName env n v;dg (.yield ⟨⟩))){xs:List bb}{ys:List V}{bB vals':ej}{vs:List ai}{s:aq}{Q:PUnit->aq->Prop}
 (b:i9 env L lay xs ys bB vals') (hv:bW G Z vs ys) (r:R Z (bq L lay bB::mu) s) (h:∀s',R Z (bq L lay vals'::mu) s'->Q ⟨⟩ s'):aS (aX G.prog G.w) A (forIn (xs.zip vs) ⟨⟩ f) Q E s:=by
 induction b generalizing vs s with
 |nil=>refine aj (hv.nil_inv ..) ?_;show aS _ _ (forIn [] _ _) _ _ _;refine aj (List.forIn_nil ..) ?_;exact ar (h s r)
 |@cons x j y xs ys bB vals' sl Cz b ih=>obtain ⟨v,vs,rfl,hv,hr⟩:=hv.cons_inv;have Cz:env.kindOf x≠ae .free:=beq_eq_false_iff_ne.mp Cz;show aS _ _ (forIn ((x,v)::xs.zip vs) _ _) _ _ _;refine aj (List.forIn_cons ..) ?_;refine aj (hf ..) ?_;exact ag (ag (xR (fr:=mu) (i:=0) (mu:=[bq L lay _]) r he sl rfl Cz hv λs' r'=>ar (ih hr r' h)))
theorem pO{scope:eU}{globals:ay}{cl:List (bb×ay)}{qual:bb}{func:Option ay}{code:ai}{builtins:ay}{Q:gP->aq->Prop}{xs:List bb}{ys:List V}{vals':ej}{vs:List ai}(r:R Z mu s)(hnd:(aM 0 scope.names).nd)
 (he:du (newEnv scope s.heap.objs.size globals (xo (s.heap.objs.size+1) scope.names cl) qual func code av builtins)) (hv:bW G Z vs ys)
 (hb:i9 (newEnv scope s.heap.objs.size globals (xo (s.heap.objs.size+1) scope.names cl) qual func code av builtins) s.heap.objs.size (aM (s.heap.objs.size+1) scope.names) xs ys (nones (aM (s.heap.objs.size+1) scope.names)) vals')
 (h:∀s',R Z (bq s.heap.objs.size (aM (s.heap.objs.size+1) scope.names) vals'::mu) s'->
  Q (newEnv scope s.heap.objs.size globals (xo (s.heap.objs.size+1) scope.names cl) qual func code av builtins) s'):
 aS (aX G.prog G.w) A (CF scope globals cl (xs.zip vs) qual func code av builtins) Q E s:=by
 simp only [CF,Aj,dj,if_false];refine ag (vq ?_);refine ag (wpAny_layCells _ (λname kind cells=>by cases hkc:kind == NameKind.cell <;> simp [hkc]) _ _ _ _ ?_);exact aj (show ({s with heap:=s.heap.push {cls:= .type "frame",data:= .dict #[]}}:aq).heap.objs.size=s.heap.objs.size+1 from fN ..) (ag (FI (env:=newEnv scope s.heap.objs.size globals (xo (s.heap.objs.size+1) scope.names cl) qual func code av builtins) he _ (λz z z=>rfl) hb hv (AA r hnd) λs' r'=>ar (h s' r')))
end
variable {nu:Mu}{D:ay}{Θ:V->Mu->Prop}
structure fL(D:ay)(nu:Mu)(Θ:V->Mu->Prop):Prop where
 c:∀{Z:bI} {s:aq} {fr:Mu} {T:Prop},R Z (nu++fr) s->(∀{Z' y nu'},Z.le Z'->aZ G Z' (.ref D) y->R Z' (nu'++fr) s->Θ y nu'->T)->T
theorem fL.ref(h:Θ (.ref D) nu):fL D nu Θ:=⟨λ{z z z z} r q=>q .rfl (.ref D) r h⟩
theorem R.freezeHd{x:cX}{o:o6}(r:R Z (x::mu) s)(ha:s.heap.get? D=ae o)(hD:D∈x.own):R (Z.put D o) mu s/\Z.le (Z.put D o):=by have hz:Z D=av:=r.sep D (aE (gU mu) hD);refine ⟨r.drop.freeze ha hz λh=>?_,bI.le_put hz⟩;exact (bP.mp (show (x.own++gU mu).Nodup from r.nodup)).2.2 D hD D h rfl
theorem fL.list{ys:List V}(h:Θ (.list ys) mu):fL D (bl D ys::mu) Θ:=⟨λ{Z s fr T} r q=>by
 exact eD (r.sat _ aa) λvs n h1 h2=>dU (R.freezeHd (show R Z (bl D ys::(mu++fr)) s from r) h1 aa) λr' z'=>q z' (.list (bI.put_self ..) (h2.mono z')) r' h⟩
theorem fL.dict{es:List (bb×V)}(h:Θ (.dict es) mu):fL D (cD D es::mu) Θ:=⟨λ{Z s fr T} r q=>by
 refine qq (r.sat _ aa) λw kvs dO f g=>cE dO λo ND ep h1 d1 d=>?_;clear dO;exact dU (R.freezeHd (show R Z (cD D es::(mu++fr)) s from r) h1 aa) λr' z'=>q z' (.dict w (bI.put_self ..) ⟨d1,_,_,d⟩ f (g.mono z')) r' h⟩
noncomputable abbrev pf(scope:eU)(cl:List (bb×ay))(C:ay)(env:gP):gP:=compEnvC scope (xo (C+1) scope.names cl) C env
noncomputable abbrev nE(scope:eU)(C:ay)(bB:ej):cX:=bq C (aM (C+1) scope.names) bB
noncomputable abbrev uJ(scope:eU)(C:ay):cX:=nE scope C (nones (aM (C+1) scope.names))
structure Acc(pA:mF ai)(Ab:ay->cX):Prop where
 c:∀{A:bh} {E:ai->aq->Prop} {Z:bI} {s:aq} {mu:Mu} {Q:ai->aq->Prop},R Z mu s->(∀{D s'},R Z (Ab D::mu) s'->Q (.ref D) s')->aS (aX G.prog G.w) A pA Q E s
theorem uK:Acc (newList []) (λD=>bl D []):=⟨λ{A E Z s mu Q} r q=>
 jg (q (r.addNew (tk:=s.toks) _ (λb o e=>az _ e) ⟨#[],0,aW _ rfl,.nil⟩ eg λz h=>kX h))⟩
structure Fb(scope:eU)(env:gP)(cl:List (bb×ay)):Prop where
 clos:closureFor scope env=dg cl
 kind:scope.kind= .function
 names:∀x∈scope.names,x.2= .local->scope.names.lookup x.1=ae .local
 nd:(aM 0 scope.names).nd
theorem De{A:bh}{E:ai->aq->Prop}{fr:Mu}{scope:eU}{cl:List (bb×ay)}{g:kS}{gs:List kS}{pA:mF ai}{Ab:ay->cX}{ctx:Mu}{use:Option (ai->mF Unit)}{Q:ai->aq->Prop}{Ψ:ay->Mu->Prop}
 (hcl:Ni e=g::gs) (hs:∀x,bw g.iter env x=dg x) (sc:Fb scope env cl) (EO:Acc pA Ab) (src:pd k mu env g.iter t ctx xs)
 (body:∀C D,JQ k (uJ scope C::Ab D::mu) (pf scope cl C env) e 0 (.ref D) t ctx xs λnu=>∃bB nu',nu=nE scope C bB::nu'/\Ψ D nu')
 (hA:Rm k A) (r:R Z (mu++fr) s)
 (fin:∀{C D Z' bB nu' s'},Z.le Z'->Ψ D nu'->R Z' (nE scope C bB::(nu'++fr)) s'->compPost (aX G.prog G.w) A E use Q (.ref D) C (.ok .next) s'):
 aS (aX G.prog G.w) A (comprehension e scope env pos pA aH (dW g.iter env) use) Q E s:=by
 refine wpAny_comprehension_free hcl hs sc.clos sc.kind sc.names (src.c hA r λ{I it s2 Z2} hit z2 r2=>EO.c r2 λ{D s3} r3=>H9 r3 sc.nd λs4 z r4=>?_);refine (body s3.heap.objs.size D).c hA hit (λo ho=>aE fr (ab _ (ab _ (src.has o ho)))) (r4.perm (((jh _ _ _).cons _).trans (jh _ _ _))) λ{s5 Z5 nu} z5 r5 w5=>eD w5 λbB nu' eT w=>?_;clear w5;subst eT;have:=fin (z2.trans z5) w r5;cases use <;> exact this
theorem Kq{scope:eU}{C:ay}{bB:ej}(r:R Z (nE scope C bB::mu) s):∃m,s.heap.Ns C m:=(r.sat _ aa).2.imp λz w=>w.1
theorem Df{scope:eU}{C:ay}{bB:ej}{h':dH}(r:R Z (nE scope C bB::mu) s)(hs:ji C s.heap h'):R Z mu {s with heap:=h'}:=
 r.dropUpd (tk:=s.toks) λb o hb e=>hs.extBut b o (λq=>hb (q▸aa)) e
theorem xB{scope:eU}{cl:List (bb×ay)}{g:kS}{gs:List kS}{pA:mF ai}{Ab:ay->cX}{ctx:Mu}
 (hcl:Ni e=g::gs) (hs:∀x,bw g.iter env x=dg x) (sc:Fb scope env cl) (EO:Acc pA Ab) (src:pd k mu env g.iter t ctx xs)
 (body:∀C D,JQ k (uJ scope C::Ab D::mu) (pf scope cl C env) e 0 (.ref D) t ctx xs λnu=>∃bB nu',nu=nE scope C bB::nu'/\fL D nu' Θ):
 WV k mu (comprehension e scope env pos pA aH (dW g.iter env)) Θ:=⟨λ{A E Z s fr Q} hA r q=>
 De (use:=av) hcl hs sc EO src body hA r λ{C D Z' bB nu' s'} z' w r'=>by
  exact cJ (Kq r') λm hm=>⟨m,hm,λh' uc=>w.c (Df r' uc) λ{z z z} z2=>q (z'.trans z2)⟩⟩
theorem Hb{scope:eU}{cl:List (bb×ay)}{g:kS}{gs:List kS}{pA:mF ai}{Ab:ay->cX}{ctx:Mu}{y:bb}{py spos:jC}{Φ:AF->Mu->Prop}
 (SQ:xn e (ae (.Name y py)) spos.line env=dg aI)
 (hev:∀u,evalThenUse e env u=(do let _ <- comprehension e scope env pos pA aH (dW g.iter env) (ae u)))
 (hcl:Ni e=g::gs) (hs:∀x,bw g.iter env x=dg x) (sc:Fb scope env cl) (EO:Acc pA Ab) (src:pd k mu env g.iter t ctx xs)
 (body:∀C D,JQ k (uJ scope C::Ab D::mu) (pf scope cl C env) e 0 (.ref D) t ctx xs λnu=>∃bB nu',nu=nE scope C bB::nu'/\fL D nu' λv nu=>mK k nu env (.Name y py) v (Φ .next)):
 WX k mu env (.Assign [.Name y py] e spos) Φ:=⟨λ{A E Z s fr Q} hA r q=>by
 refine aj (exec_Assign_Name_used _ _ _ _ SQ ..) (ag (iH (ag ?_)));refine aj (hev ..) (ag (De (use:=ae (wA (.Name y py) env)) hcl hs sc EO src body hA r λ{C D Z' bB nu' s'} z' w r'=>?_));refine w.c (r'.perm cu.symm) λ{Z2 v ud} z2 q2 r2 w2=>w2.c hA r2 q2 λ{s3 Z3 Ue} z3 r3 w3=>?_;have r3':=r3.perm cu;exact cJ (Kq r3') λm hm=>⟨m,hm,λh' uc=>ar (ar (q (z'.trans (z2.trans z3)) .next (Df r3' uc) w3))⟩⟩
theorem Wu.weak{α:Type}{bf:mF α}{c:α}{Ψ Ψ':Mu->Prop}(h:Wu k mu bf c Ψ)(hi:∀nu,Ψ nu->∃nu',Le nu nu'/\Ψ' nu'):Wu k mu bf c Ψ':=⟨λ{y y y y y y} hA r q=>h.c hA r λ{y y y} z r w=>(hi _ w).elim λy l=>q z (l.1 _ _ _ r) l.2⟩
theorem ea.nones{h:dH}{m:bb->Option ai}{lay:zL}{bB:ej}(s:ea Z h m lay bB):ea Z h m lay (nones lay):=λj x c e=>(s j x c e).elim λz w=>⟨av,by unfold Mine.Internal.nones;(refine aj (aJ ..) ?_;refine aj (e ..) ?_);rfl,w.2.forget⟩
theorem Le.forget{L:ay}{lay:zL}{bB:ej}:Le (bq L lay bB::mu) (bq L lay (nones lay)::mu):=λZ s fr r=>by
 exact mI (r.sat _ aa) λhnd m hn hs=>r.upd' (x':=bq L lay (nones lay)) (i:=0) (h':=s.heap) (tk:=s.toks) rfl rfl (λz z z e=>e) ⟨hnd,m,hn,hs.nones⟩
theorem mK.mono{x:V}{Ψ Ψ':Mu->Prop}(h:mK k mu env t x Ψ)(hi:∀nu,Ψ nu->Ψ' nu):mK k mu env t x Ψ':=⟨λ{y y y y y y y} hA r v q=>h.c hA r v λ{y y y} z r w=>q z r (hi _ w)⟩
theorem tf{a b:cX}{fr:Mu}:List.Perm (a::b::mu++fr) (a::mu++(b::fr)):=(cu.symm).cons a
theorem WB.mid{a d:cX}{α:Type}{t:mF α}{b:α}(h:WB k (a::mu) t b):WB k (a::d::mu) t b:=⟨λ{y y y y y y} hA r q=>h.c hA (r.perm tf) λ{y y} z r=>q z (r.perm tf.symm)⟩
theorem EV.mid{a d:cX}{P:Vw}(h:EV k (a::mu) env e P):EV k (a::d::mu) env e P:=⟨λ{y y y y y y} hA r q=>h.c hA (r.perm tf) λ{y y y} z v r=>q z v (r.perm tf.symm)⟩
theorem mK.mid{a d:cX}{x:V}{Ψ:Mu->Prop}(h:mK k (a::mu) env t x λnu=>∃a',nu=a'::mu/\Ψ (a'::d::mu)):mK k (a::d::mu) env t x Ψ:=
 ⟨λ{y y y y y y y} hA r v q=>h.c hA (r.perm tf) v λ{y y y} z r w=>w.elim λy w=>q z (R.perm (w.1▸r) tf.symm) w.2⟩
structure zP(k:Nat)(mu:Mu)(scope:eU)(C:ay)(env:gP)(t:bH)(ifs:List bH)(elt:bH)(x:V)(b:Bool)(y:V):Prop where
 go:∃bB,mK k (uJ scope C::mu) env t x (λnu=>nu=nE scope C bB::mu)/\xc k (nE scope C bB::mu) env ifs b/\(b=aI->PE k (nE scope C bB::mu) env elt y)
theorem gk{α β:Type}{as:List α}{p:α->Bool}{g:α->β}{i:Nat}{a:α}(h:as[i]? =ae a):((as.take (i+1)).filter p).map g=((as.take i).filter p).map g++(if p a then [g a] else []):=by
 refine aj (dE ..) ?_;refine aj (h ..) ?_;simp [fX,hZ]
 split <;> simp
theorem Dg{α:Type}{scope:eU}{C:ay}{elt iter:bH}{ifs:List bH}{spos:jC}{ctx:Mu}{di:gP}(as:List α)(inj:α->V)(pp:α->Bool)(g:α->V)(hx:xs=as.map inj)(hk:1<=k)(hsz:as.length<=2 ^ 21)(qZ:∀o∈ctx,o∈mu)
 (turn:∀a∈as,zP k mu scope C di t ifs elt (inj a) (pp a) (g a)):
 JQ k (uJ scope C::bl D []::mu) di (.ListComp elt [⟨t,iter,ifs,0⟩] scope spos) 0 (.ref D) t ctx xs λnu=>∃bB nu',nu=nE scope C bB::nu'/\nu'=bl D ((as.filter pp).map g)::mu:=by
 subst hx;refine rE Kp hk rfl rfl
  (λi nu=>nu=uJ scope C::bl D (((as.take i).filter pp).map g)::mu) rfl (λi nu h o ho=>h▸ab _ (ab _ (qZ o ho))) (λi x nu hx h=>?_) (λnu h=>⟨_,_,h,by (refine aj (ak ..) ?_;refine aj (cK ..) ?_;rfl)⟩)
 subst h;rw [aJ] at hx;refine aK (aL.mp hx) λa ha gi=>?_;subst gi;refine ef ((turn a (ao ha)).go) λbB h1 h2 h3=>mK.mid (h1.mono λnu e=>⟨_,e,?_⟩);refine ⟨pp a,h2.mid,λhb=>⟨_,Le.forget,?_⟩,λhb it=>?_⟩
 ·(refine aj (gk ha ..) ?_;refine aj (hb ..) ?_);exact congrArg (λl=>_::bl D l::mu) (cy _).symm
 ·refine Wu.weak (Ψ:=λnu=>nu=nE scope C bB::bl D (((as.take (i+1)).filter pp).map g)::mu) (WU.bf (vP (i:=1) (cf (h3 hb).mid ⟨rfl,?_,?_⟩))) λnu h=>⟨_,h▸Le.forget,rfl⟩
  ·exact aj (ak ..) (b7 (aw (bu _ _) (aw (kL _ _) hsz)) (show 2 ^ 21 < 2 ^ 22 by decide))
  ·(refine aj (gk ha ..) ?_;refine aj (hb ..) ?_);rfl
variable {ctx:Mu}
theorem JQ.mono{d:Nat}{acc:ai}{Ψ Ψ':Mu->Prop}(h:JQ k mu env e d acc t ctx xs Ψ)(hi:∀nu,Ψ nu->Ψ' nu):JQ k mu env e d acc t ctx xs Ψ':=⟨λ{y y y y y y y} hA hit hc r q=>h.c hA hit hc r λ{y y y} z r w=>q z r (hi _ w)⟩
theorem WV.pe{y:V}(h:WV k mu (dW e env) λv nu=>v=y/\nu=mu):PE k mu env e y:=⟨λ{z z z z z z} hA r q=>h.c hA r λ{z z z z z} a b c w=>q a (w.1▸b) (w.2▸c)⟩
theorem Qm{α:Type}{scope:eU}{cl:List (bb×ay)}{elt iter:bH}{ifs:List bH}{spos:jC}(as:List α)(inj:α->V)(pp:α->Bool)(g:α->V)(sc:Fb scope env cl)(src:pd k mu env iter t ctx (as.map inj))(hk:1<=k)(hsz:as.length<=2 ^ 21)
 (turn:∀C a,a∈as->zP k mu scope C (pf scope cl C env) t ifs elt (inj a) (pp a) (g a)) (hΘ:∀D,fL D (bl D ((as.filter pp).map g)::mu) Θ) (hs:autoParam (∀x,bw iter env x=dg x) aR):
 WE k mu env (.ListComp elt [⟨t,iter,ifs,0⟩] scope spos) Θ:=by
 show WV k mu (dW _ _) Θ;exact aj (eval_ListComp ..) (xB (g:=⟨t,iter,ifs,0⟩) rfl hs sc uK src λC D=>(Dg as inj pp g rfl hk hsz src.has (turn C)).mono λnu=>bQ λbB=>bQ λnu' w=>⟨w.1,w.2▸hΘ D⟩)
theorem nF{α:Type}{scope:eU}{cl:List (bb×ay)}{elt iter:bH}{ifs:List bH}{spos:jC}(as:List α)(inj:α->V)(pp:α->Bool)(g:α->V)(sc:Fb scope env cl)(src:pd k mu env iter t ctx (as.map inj))(hk:1<=k)(hsz:as.length<=2 ^ 21)
 (turn:∀C a,a∈as->zP k mu scope C (pf scope cl C env) t ifs elt (inj a) (pp a) (g a)) (hs:autoParam (∀x,bw iter env x=dg x) aR):
 PE k mu env (.ListComp elt [⟨t,iter,ifs,0⟩] scope spos) (.list ((as.filter pp).map g)):=
 WV.pe (Qm as inj pp g sc src hk hsz turn (λD=>fL.list ⟨rfl,rfl⟩) hs)
theorem Qn{α:Type}{scope:eU}{cl:List (bb×ay)}{elt iter:bH}{ifs:List bH}{spos apos py:jC}{y:bb}{Φ:AF->Mu->Prop}(as:List α)(inj:α->V)(pp:α->Bool)(g:α->V)(sc:Fb scope env cl)(src:pd k mu env iter t ctx (as.map inj))(hk:1<=k)(hsz:as.length<=2 ^ 21)
 (turn:∀C a,a∈as->zP k mu scope C (pf scope cl C env) t ifs elt (inj a) (pp a) (g a))
 (SQ:xn (.ListComp elt [⟨t,iter,ifs,0⟩] scope spos) (ae (.Name y py)) apos.line env=dg aI)
 (hΘ:∀D,fL D (bl D ((as.filter pp).map g)::mu) λv nu=>mK k nu env (.Name y py) v (Φ .next)) (hs:autoParam (∀x,bw iter env x=dg x) aR):
 WX k mu env (.Assign [.Name y py] (.ListComp elt [⟨t,iter,ifs,0⟩] scope spos) apos) Φ:=
 Hb (g:=⟨t,iter,ifs,0⟩) (pos:=firstIterPos [⟨t,iter,ifs,0⟩] spos) SQ (λu=>rfl) rfl hs sc uK src λC D=>(Dg as inj pp g rfl hk hsz src.has (turn C)).mono λnu=>bQ λbB=>bQ λnu' w=>⟨w.1,w.2▸hΘ D⟩
theorem Ib{it:ai}{fc t2:bH}{acc:ai}{CA:Mu}{xs2:List V}{Ψ:Mu->Prop}(src:pd k mu env fc t2 CA xs2)(w:JQ k mu env e 1 acc t2 CA xs2 Ψ)(hs:autoParam (∀x,bw fc env x=dg x) aR):
 WBf k mu (vO e fc acc env it) (.compLoop e 0 it acc env) Ψ:=⟨λ{A E Z s fr Q} hA r q=>by
 delta vO Qk;refine ag (eR (src.c hA r λ{I it s2 Z2} hit z2 r2=>?_) (λx s1 h1=>ag (iH (ag (cM (hs x) (ag (bE h1)))))) λz z e=>e);exact ag (wpAny_runOwn (w.c (A:=A.mark av) hA hit (λo ho=>aE fr (src.has o ho)) r2 λ{z z z} z3 r3 w3=>ar (q (z2.trans z3) r3 w3)))⟩
structure Qo(k:Nat)(mu:Mu)(scope:eU)(C:ay)(bB:ej)(env:gP)(t:bH)(ifs:List bH)(elt:bH)(x:V)(b:Bool)(y:V):Prop where
 go:∃vals',mK k (nE scope C bB::mu) env t x (λnu=>nu=nE scope C vals'::mu)/\xc k (nE scope C vals'::mu) env ifs b/\(b=aI->PE k (nE scope C vals'::mu) env elt y)/\
  Le (nE scope C vals'::mu) (nE scope C bB::mu)
theorem Le.mid{a a' d:cX}(h:Le (a::mu) (a'::mu)):Le (a::d::mu) (a'::d::mu):=λZ s fr r=>(h Z s (d::fr) (r.perm tf)).perm tf.symm
theorem Ic{β:Type}{scope:eU}{C:ay}{elt iter fc t2:bH}{ifs oh:List bH}{spos:jC}{CA:Mu}{di:gP}{bB:ej}(ys:List V)(bs:List β)(inj:β->V)(pp:β->Bool)(g:β->V)(hx:xs=bs.map inj)(hk:1<=k)(hsz:ys.length+bs.length<=2 ^ 21)(qZ:∀o∈CA,o∈mu)
 (turn:∀a∈bs,Qo k mu scope C bB di t2 oh elt (inj a) (pp a) (g a)):
 JQ k (nE scope C bB::bl D ys::mu) di (.ListComp elt [⟨t,iter,ifs,0⟩,⟨t2,fc,oh,0⟩] scope spos) 1 (.ref D) t2 CA xs λnu=>nu=nE scope C bB::bl D (ys++(bs.filter pp).map g)::mu:=by
 subst hx;refine rE Og hk rfl rfl
  (λi nu=>nu=nE scope C bB::bl D (ys++((bs.take i).filter pp).map g)::mu) (by refine aj (xp ..) ?_;first|rfl|((refine aj (qf ..) ?_;refine aj (vf ..) ?_;refine aj (cy ..) ?_;rfl))) (λi nu h o ho=>h▸ab _ (ab _ (qZ o ho))) (λi x nu hx h=>?_) (λnu h=>by (refine aj (h ..) ?_;refine aj (ak ..) ?_;refine aj (cK ..) ?_;rfl))
 subst h;rw [aJ] at hx;refine aK (aL.mp hx) λa ha dO=>?_;subst dO;refine By ((turn a (ao ha)).go) λvals' h1 h2 h3 h4=>mK.mid (h1.mono λnu e=>⟨_,e,?_⟩);refine ⟨pp a,h2.mid,λhb=>⟨_,h4.mid,?_⟩,λhb it=>?_⟩
 ·(refine aj (gk ha ..) ?_;refine aj (hb ..) ?_);exact congrArg (λl=>_::bl D (_++l)::mu) (cy _).symm
 ·refine Wu.weak (Ψ:=λnu=>nu=nE scope C vals'::bl D (ys++((bs.take (i+1)).filter pp).map g)::mu) (WU.bf (vP (i:=1) (cf (h3 hb).mid ⟨rfl,?_,?_⟩))) λnu h=>⟨_,h▸h4.mid,rfl⟩
  ·(refine aj (ba ..) ?_;refine aj (ak ..) ?_)
   exact b7 (aw (qm (aw (bu _ _) (kL _ _)) _) hsz) (show 2 ^ 21 < 2 ^ 22 by decide)
  ·(refine aj (gk ha ..) ?_;refine aj (hb ..) ?_);exact congrArg (λl=>_::bl D l::mu) (bU ..)
structure AB(k:Nat)(mu:Mu)(scope:eU)(C:ay)(env:gP)(t elt fc t2:bH)(oh:List bH)(x:V){β:Type}(bs:List β)(inj:β->V)(pp:β->Bool)(g:β->V):Prop where
 go:∃bB CA,mK k (uJ scope C::mu) env t x (λnu=>nu=nE scope C bB::mu)/\pd k (nE scope C bB::mu) env fc t2 CA (bs.map inj)/\(∀o∈CA,o∈mu)/\
  ∀b∈bs,Qo k mu scope C bB env t2 oh elt (inj b) (pp b) (g b)
theorem pd.mid{a d:cX}(h:pd k (a::mu) env e t ctx xs):pd k (a::d::mu) env e t ctx xs:=
 ⟨λo ho=>(aP.mp (h.has o ho)).elim (λq=>q▸aa) λq=>ab _ (ab _ q),λ{y y y y y y} hA r q=>h.c hA (r.perm tf) λ{y y y y} hit z r=>q hit z (r.perm (tf.symm.cons _))⟩
theorem Ie{α β:Type}{scope:eU}{C:ay}{elt iter fc t2:bH}{oh:List bH}{spos:jC}{di:gP}(as:List α)(inj:α->V)(bs:α->List β)(zj:β->V)(pp:α->β->Bool)(g:α->β->V)(hx:xs=as.map inj)(hk:1<=k)
 (hsz:(as.flatMap bs).length<=2 ^ 21) (qZ:∀o∈ctx,o∈mu) (turn:∀a∈as,AB k mu scope C di t elt fc t2 oh (inj a) (bs a) zj (pp a) (g a)) (GF:∀x,bw fc di x=dg x):
 JQ k (uJ scope C::bl D []::mu) di (.ListComp elt [⟨t,iter,[],0⟩,⟨t2,fc,oh,0⟩] scope spos) 0 (.ref D) t ctx xs λnu=>∃bB nu',nu=nE scope C bB::nu'/\nu'=bl D (as.flatMap λa=>((bs a).filter (pp a)).map (g a))::mu:=by
 subst hx;refine rE Of hk rfl rfl
  (λi nu=>nu=uJ scope C::bl D ((as.take i).flatMap λa=>((bs a).filter (pp a)).map (g a))::mu) (by refine aj (xp ..) ?_;first|rfl|(rw [qf,vf,cy])) (λi nu h o ho=>h▸ab _ (ab _ (qZ o ho))) (λi x nu hx h=>?_) (λnu h=>⟨_,_,h,by (refine aj (ak ..) ?_;refine aj (cK ..) ?_;rfl)⟩)
 subst h;rw [aJ] at hx;refine aK (aL.mp hx) λa ha eT=>?_;subst eT;refine ir ((turn a (ao ha)).go) λbB CA h1 h2 h3 h4=>mK.mid (h1.mono λnu e=>⟨_,e,?_⟩);refine ⟨aI,dk,λhb=>(J2 hb),λhb it=>?_⟩;have hlen:((as.take i).flatMap λa=>((bs a).filter (pp a)).map (g a)).length+(bs a).length<=2 ^ 21:=by
  have e1:as.flatMap bs=(as.take i).flatMap bs++(bs a++(as.drop (i+1)).flatMap bs):=by
   conv=>lhs;rw [gh ha]
   simp
  have e2:((as.take i).flatMap λa=>((bs a).filter (pp a)).map (g a)).length<=((as.take i).flatMap bs).length:=by
   generalize as.take i=l;induction l with
   |nil=>simp
   |cons x l ih=>
    simp only [dF,ba,ak];have:=bu (pp x) (bs x)
    with_reducible exact Nat.add_le_add (by assumption) (by assumption)
  rw [e1] at hsz;simp only [ba] at hsz;lia
 refine Wu.weak (Ψ:=λnu=>nu=nE scope C bB::bl D ((as.take (i+1)).flatMap λa=>((bs a).filter (pp a)).map (g a))::mu) (Ib h2.mid ((Ic _ (bs a) zj (pp a) (g a) rfl hk hlen h3 h4).mono λnu e=>?_) GF) λnu h=>⟨_,h▸Le.forget,rfl⟩
 rw [e,dE,ha];simp
theorem Rt{α β:Type}{scope:eU}{cl:List (bb×ay)}{elt iter fc t2:bH}{oh:List bH}{spos:jC}(as:List α)(inj:α->V)(bs:α->List β)(zj:β->V)(pp:α->β->Bool)(g:α->β->V)(sc:Fb scope env cl)(src:pd k mu env iter t ctx (as.map inj))(hk:1<=k)(hsz:(as.flatMap bs).length<=2 ^ 21)
 (turn:∀C a,a∈as->AB k mu scope C (pf scope cl C env) t elt fc t2 oh (inj a) (bs a) zj (pp a) (g a)) (hΘ:∀D,fL D (bl D (as.flatMap λa=>((bs a).filter (pp a)).map (g a))::mu) Θ) (hs:autoParam (∀x,bw iter env x=dg x) aR)
 (GF:autoParam (∀C x,bw fc (pf scope cl C env) x=dg x) aR):
 WE k mu env (.ListComp elt [⟨t,iter,[],0⟩,⟨t2,fc,oh,0⟩] scope spos) Θ:=by
 show WV k mu (dW _ _) Θ;exact aj (eval_ListComp ..) (xB (g:=⟨t,iter,[],0⟩) rfl hs sc uK src λC D=>(Ie as inj bs zj pp g rfl hk hsz src.has (turn C) (GF C)).mono λnu=>bQ λbB=>bQ λnu' w=>⟨w.1,w.2▸hΘ D⟩)
theorem Kr{α β:Type}{scope:eU}{cl:List (bb×ay)}{elt iter fc t2:bH}{oh:List bH}{spos:jC}(as:List α)(inj:α->V)(bs:α->List β)(zj:β->V)(pp:α->β->Bool)(g:α->β->V)(sc:Fb scope env cl)(src:pd k mu env iter t ctx (as.map inj))(hk:1<=k)(hsz:(as.flatMap bs).length<=2 ^ 21)
 (turn:∀C a,a∈as->AB k mu scope C (pf scope cl C env) t elt fc t2 oh (inj a) (bs a) zj (pp a) (g a)) (hs:autoParam (∀x,bw iter env x=dg x) aR)
 (GF:autoParam (∀C x,bw fc (pf scope cl C env) x=dg x) aR):
 PE k mu env (.ListComp elt [⟨t,iter,[],0⟩,⟨t2,fc,oh,0⟩] scope spos) (.list (as.flatMap λa=>((bs a).filter (pp a)).map (g a))):=
 WV.pe (Rt as inj bs zj pp g sc src hk hsz turn (λD=>fL.list ⟨rfl,rfl⟩) hs GF)
noncomputable def jF(es:List (bb×V))(x:bb)(y:V):List (bb×V):=
 if es.any (λkv=>kv.1=x) then es.map (λkv=>if kv.1=x then (kv.1,y) else kv) else es++[(x,y)]
theorem Ks{α:Type}(x:bb){l:List (bb×α)}{r:List (bb×V)}(h:l.map (·.1)=r.map (·.1)):l.any (λkv=>kv.1=x)=r.any (λkv=>kv.1=x):=by
 have e:∀{β:Type} (l:List (bb×β)),l.any (λkv=>kv.1=x)=(l.map (·.1)).any (λy=>y=x):=λ{z} l=>by refine aj (CG ..) ?_;rfl
 refine aj (e ..) ?_;refine aj (h ..) ?_;refine fZ (e ..) ?_;rfl
theorem Dh{α:Type}(x:bb)(v:α)(l:List (bb×α)):(l.map (λkv=>if kv.1=x then (kv.1,v) else kv)).map (·.1)=l.map (·.1):=by refine aj (a0 ..) ?_;exact b5 λa z=>by show (if a.1=x then (a.1,v) else a).1=a.1;split <;> rfl
theorem Di{P:List (bb×ai)->List (bb×V)->Prop}(nil:P [] [])(cons:∀{x v y l r},aZ G Z v y->P l r->P ((x,v)::l) ((x,y)::r)){l:List (bb×ai)}:∀{r:List (bb×V)},l.map (·.1)=r.map (·.1)->bW G Z (l.map (·.2)) (r.map (·.2))->P l r:=by
 induction l with
 |nil=>intro r h z;cases r with
  |nil=>exact nil
  |cons=>exact Q9 h
 |cons a l ih=>intro r h w;cases r with
  |nil=>exact J3 h
  |cons c r=>obtain ⟨x,v⟩:=a;obtain ⟨y,u⟩:=c;refine dU (s7 h) λh1 h2=>?_;subst h1;exact cons w.uncons.1 (ih h2 w.uncons.2)
theorem Dj{kvs:List (bb×ai)}{es:List (bb×V)}{x:bb}{v:ai}{y:V}(hk:kvs.map (·.1)=es.map (·.1))(hr:bW G Z (kvs.map (·.2)) (es.map (·.2)))(hv:aZ G Z v y):
 (stored kvs x v).map (·.1)=(jF es x y).map (·.1)/\bW G Z ((stored kvs x v).map (·.2)) ((jF es x y).map (·.2)):=by
 delta stored jF;refine aj (Ks x hk ..) ?_
 split
 ·refine ⟨by (refine aj (Dh ..) ?_;refine aj (Dh ..) ?_;refine aj (hk ..) ?_;rfl),Di (P:=λl r=>bW G Z ((l.map (λkv=>if kv.1=x then (kv.1,v) else kv)).map (·.2)) ((r.map (λkv=>if kv.1=x then (kv.1,y) else kv)).map (·.2))) .nil (λ{z u w l r} h1 ih=>?_) hk hr⟩;rw [bA,bA,bA,bA];refine .cons ?_ ih;by_cases hx:z=x
  ·rw [if_pos hx,if_pos hx];exact hv
  ·rw [if_neg hx,if_neg hx];exact h1
 ·(refine aj (bj ..) ?_;refine aj (bj ..) ?_;refine aj (bj ..) ?_;refine aj (bj ..) ?_)
  exact ⟨congrArg (·++[x]) hk,hr.append (.cons hv .nil)⟩
theorem Dk{A:bh}{E:ai->aq->Prop}{Q:Unit->aq->Prop}{a:ay}{es:List (bb×V)}{i:Nat}{x:bb}{tk:HW}{v:ai}{y:V}(r:R Z mu s)(hi:mu[i]? =ae (cD a es))(hl:es.length<=er)(hv:aZ G Z v y)
 (h:∀s',R Z (mu.set i (cD a (jF es x y))) s'->Q () s'):aS (aX G.prog G.w) A (dictSet a (.str x tk) v) Q E s:=by
 refine qq (r.sat _ (ao hi)) λq kvs h1 h2 h3=>?_;have hlen:kvs.length=es.length:=by (refine fZ (ak (f:=(·.1)) ..) ?_;refine aj (h2 ..) ?_;refine aj (ak ..) ?_;rfl)
 refine wpAny_dictSet_pairs (knd:=strKind G.prog G.w) (k:=x) (zu G.prog G.w x tk) h1 (λh' hd hs=>h _ ?_) (hlen▸hl);exact r.upd' (x':=cD a (jF es x y)) hi rfl (λb o hb e=>hs.extBut b o (λq=>hb (q▸aa)) e) ⟨q,_,hd,Dj (x:=x) h2 h3 hv⟩
theorem Oh{a:ay}{es:List (bb×V)}{i:Nat}{ke ve:bH}{x:bb}{y:V}{Ψ:Mu->Prop}(h1:PE k mu env ke (.str x))(h2:PE k mu env ve y)(hi:mu[i]? =ae (cD a es))(hl:es.length<=er)(h:Ψ (mu.set i (cD a (jF es x y)))):
 WU k mu (Ko ke ve (.ref a) env) Ψ:=⟨λ{A E Z s fr Q} hA r q=>by
 delta Ko;refine ag (h1.c hA r λ{kv s1 Z1} z1 q1 r1=>ag (bE (h2.c hA r1 λ{vv s2 Z2} z2 q2 r2=>?_)));refine cJ (gV q1) λtk dO=>?_;subst dO;exact ag (iH (bE (Dk r2 (cH hi) hl q2 λs' r'=>q (z1.trans z2) (gE hi▸r') h)))⟩
theorem Oi(B:g7 G)(r:R Z mu s):(s.heap.objs.size == lY)=aH:=by exact cJ (B.sysm) λo ho=>beq_eq_false_iff_ne.mpr (jJ (bN (r.z0in _ _ ho)))
theorem vQ(B:g7 G){tk:Nat}(r:R Z mu s):R Z (cD s.heap.objs.size []::mu) {s with heap:=s.heap.push {cls:= .type "dict",data:= .dict #[]},toks:=tk}:=
 r.addNew (tk:=tk) _ (λb o e=>az _ e) ⟨Oi B r,[],Heap.DictOf.new s.heap,rfl,.nil⟩ eg λz h=>kX h
theorem Dl(B:g7 G):Acc newDict (λD=>cD D []):=⟨λ{A E Z s mu Q} r q=>jg (q (vQ B r))⟩
structure AC(k:Nat)(mu:Mu)(scope:eU)(C:ay)(env:gP)(t:bH)(ifs:List bH)(ke ve:bH)(x:V)(b:Bool)(kx:bb)(y:V):Prop where
 go:∃bB,mK k (uJ scope C::mu) env t x (λnu=>nu=nE scope C bB::mu)/\xc k (nE scope C bB::mu) env ifs b/\(b=aI->PE k (nE scope C bB::mu) env ke (.str kx)/\PE k (nE scope C bB::mu) env ve y)
noncomputable def rF(ps:List (bb×V)):List (bb×V):=ps.foldl (λes q=>jF es q.1 q.2) []
theorem Kt(es:List (bb×V))(x:bb)(y:V):(jF es x y).length<=es.length+1:=by
 delta jF
 split
 ·refine aj (ak ..) ?_;exact jD _
 ·refine aj (ba ..) ?_;exact bp _
theorem Ig(ps:List (bb×V)):(rF ps).length<=ps.length:=by
 have:∀(ps es:List (bb×V)),(ps.foldl (λes q=>jF es q.1 q.2) es).length<=es.length+ps.length:=by
  intro ps;induction ps with
  |nil=>intro es;exact bp _
  |cons q ps ih=>intro es;refine aw (ih (jF es q.1 q.2)) ?_;refine aj (bK ..) ?_;refine aj (Nat.add_comm ps.length ..) ?_;refine fZ (l5 ..) ?_;exact TC (Kt es q.1 q.2) _
 exact aw (this ps []) (ll (eC _))
theorem xW(ps:List (bb×V))(q:bb×V):rF (ps++[q])=jF (rF ps) q.1 q.2:=fu
theorem AD{α:Type}{scope:eU}{C:ay}{ke ve iter:bH}{ifs:List bH}{spos:jC}{di:gP}(as:List α)(inj:α->V)(pp:α->Bool)(g:α->bb×V)(hx:xs=as.map inj)(hk:1<=k)(hsz:as.length<=2 ^ 21)(qZ:∀o∈ctx,o∈mu)
 (turn:∀a∈as,AC k mu scope C di t ifs ke ve (inj a) (pp a) (g a).1 (g a).2):
 JQ k (uJ scope C::cD D []::mu) di (.DictComp ke ve [⟨t,iter,ifs,0⟩] scope spos) 0 (.ref D) t ctx xs λnu=>∃bB nu',nu=nE scope C bB::nu'/\nu'=cD D (rF ((as.filter pp).map g))::mu:=by
 subst hx;refine rE Rq hk rfl rfl
  (λi nu=>nu=uJ scope C::cD D (rF (((as.take i).filter pp).map g))::mu) rfl (λi nu h o ho=>h▸ab _ (ab _ (qZ o ho))) (λi x nu hx h=>?_) (λnu h=>⟨_,_,h,by (refine aj (ak ..) ?_;refine aj (cK ..) ?_;rfl)⟩)
 subst h;rw [aJ] at hx;refine aK (aL.mp hx) λa ha eT=>?_;subst eT;refine ef ((turn a (ao ha)).go) λbB h1 h2 h3=>mK.mid (h1.mono λnu e=>⟨_,e,?_⟩);refine ⟨pp a,h2.mid,λhb=>⟨_,Le.forget,?_⟩,λhb it=>?_⟩
 ·(refine aj (gk ha ..) ?_;refine aj (hb ..) ?_);exact congrArg (λl=>_::cD D (rF l)::mu) (cy _).symm
 ·refine Wu.weak (Ψ:=λnu=>nu=nE scope C bB::cD D (rF (((as.take (i+1)).filter pp).map g))::mu) (WU.bf (Oh (i:=1) (h3 hb).1.mid (h3 hb).2.mid rfl ?_ ?_)) λnu h=>⟨_,h▸Le.forget,rfl⟩
  ·refine aw (Ig _) (aj (ak ..) ?_);exact aw (bu _ _) (aw (kL _ _) (aw hsz (show 2 ^ 21<=2 ^ 24 by decide)))
  ·(refine aj (gk ha ..) ?_;refine aj (hb ..) ?_;refine aj (if_pos rfl ..) ?_;refine aj (xW ..) ?_);rfl
theorem WE_dc{α:Type}{scope:eU}{cl:List (bb×ay)}{ke ve iter:bH}{ifs:List bH}{spos:jC}(B:g7 G)(as:List α)(inj:α->V)(pp:α->Bool)(g:α->bb×V)(sc:Fb scope env cl)(src:pd k mu env iter t ctx (as.map inj))(hk:1<=k)(hsz:as.length<=2 ^ 21)
 (turn:∀C a,a∈as->AC k mu scope C (pf scope cl C env) t ifs ke ve (inj a) (pp a) (g a).1 (g a).2) (hΘ:∀D,fL D (cD D (rF ((as.filter pp).map g))::mu) Θ) (hs:autoParam (∀x,bw iter env x=dg x) aR):
 WE k mu env (.DictComp ke ve [⟨t,iter,ifs,0⟩] scope spos) Θ:=by
 show WV k mu (dW _ _) Θ;exact aj (arm_eval_DictComp ..) (xB (g:=⟨t,iter,ifs,0⟩) rfl hs sc (Dl B) src λC D=>(AD as inj pp g rfl hk hsz src.has (turn C)).mono λnu=>bQ λbB=>bQ λnu' w=>⟨w.1,w.2▸hΘ D⟩)
theorem WX_dc{α:Type}{scope:eU}{cl:List (bb×ay)}{ke ve iter:bH}{ifs:List bH}{spos apos py:jC}{y:bb}{Φ:AF->Mu->Prop}(B:g7 G)(as:List α)(inj:α->V)(pp:α->Bool)(g:α->bb×V)(sc:Fb scope env cl)(src:pd k mu env iter t ctx (as.map inj))(hk:1<=k)(hsz:as.length<=2 ^ 21)
 (turn:∀C a,a∈as->AC k mu scope C (pf scope cl C env) t ifs ke ve (inj a) (pp a) (g a).1 (g a).2)
 (SQ:xn (.DictComp ke ve [⟨t,iter,ifs,0⟩] scope spos) (ae (.Name y py)) apos.line env=dg aI)
 (hΘ:∀D,fL D (cD D (rF ((as.filter pp).map g))::mu) λv nu=>mK k nu env (.Name y py) v (Φ .next)) (hs:autoParam (∀x,bw iter env x=dg x) aR):
 WX k mu env (.Assign [.Name y py] (.DictComp ke ve [⟨t,iter,ifs,0⟩] scope spos) apos) Φ:=
 Hb (g:=⟨t,iter,ifs,0⟩) (pos:=firstIterPos [⟨t,iter,ifs,0⟩] spos) SQ (λu=>rfl) rfl hs sc (Dl B) src λC D=>(AD as inj pp g rfl hk hsz src.has (turn C)).mono λnu=>bQ λbB=>bQ λnu' w=>⟨w.1,w.2▸hΘ D⟩
variable {x y:V}{P Q S:Vw}
structure Gi(k:Nat)(mu:Mu)(P Q S:Vw):Prop where
 c:∀{A:bh} {E:ai->aq->Prop} {Z:bI} {s:aq} {fr:Mu} {v u:ai} {T:ai->aq->Prop},Rm k A->R Z (mu++fr) s->P.p Z v->Q.p Z u->(∀{w s' Z'},Z.le Z'->S.p Z' w->R Z' (mu++fr) s'->T w s')->
  (∃T id,iQ (.type T) "__getitem__"=dg (ae (.builtin id))/\s.TypeIs v T)/\aS (aX G.prog G.w) A (JB v u) T E s
noncomputable def Ru(lo hi st:Option Int):Vw:=
 ⟨λZ v=>∃a vl vu vs o,v= .ref a/\Z a=ae o/\o.cls= .type "slice"/\o.data= .fields #[vl,vu,vs]/\IsPart vl lo/\IsPart vu hi/\IsPart vs st,
  λZ Z' v h=>bQ λa=>bQ λvl=>bQ λvu=>bQ λvs=>bQ λo w=>⟨w.1,h _ _ w.2.1,w.2.2⟩⟩
theorem Ku{A:bh}{E T:ai->aq->Prop}{o i:bH}(hs:∀a b,∃ops,NP i aH a b=operate ops (JB a b))(he:aS (aX G.prog G.w) A (dW o env) (λv s1=>aS (aX G.prog G.w) A (dW i env) (λu s2=>∀(T':ai->aq->Prop),(∀{w s'},T w s'->T' w s')->
 (∃U id,iQ (.type U) "__getitem__"=dg (ae (.builtin id))/\s2.TypeIs v U)/\aS (aX G.prog G.w) A (JB v u) T' E s2) E s1) E s):aS (aX G.prog G.w) A (dW (.Subscript o i p) env) T E s:=by
 with_reducible refine PyProof.Rows.Subscript_ ?_
 refine eR he (λv s1 h1=>eR h1 (λu s2 h2=>?_) λz z e=>e) λz z e=>e;refine dU (h2 (λw s3=>aS (aX G.prog G.w) A (pF o v w >>=λz=>dg w) T E s3) λ{z z} h=>ag (wpAny_letTemporaryGo (ar h))) λdO hg=>eD dO λU id hl hT=>?_;clear dO;refine cJ (hs v u) λops hs=>?_;unfold PyProof.Rows.subscriptTail;refine ag (aj (getitemInPython_of_ne hT.not_modules ..) ?_);refine ag (h8 hT hl ?_)
 first
  |exact ar (ag (hs▸TF hg))
  |exact ag (ar (ag (hs▸TF hg)))
  |exact ag (hs▸TF hg)
theorem bF{o i:bH}(ho:EV k mu env o P)(hi:EV k mu env i Q)(g:Gi k mu P Q S)(hs:∀a b,∃ops,NP i aH a b=operate ops (JB a b):=by intro a b;exact ⟨_,rfl⟩):
 EV k mu env (.Subscript o i p) S:=⟨λ{z z z z z z} hA r q=>Ku hs (ho.c hA r λ{z z z} z1 q1 r1=>hi.c hA r1 λ{z z z} z2 q2 r2 T' t=>g.c hA r2 (P.mono _ _ _ z2 q1) q2 λ{z z z} z3 q3 r3=>t (q (z1.trans (z2.trans z3)) q3 r3))⟩
theorem me.at{v:ai}{fr:Mu}(h:(me mu xs).p Z v)(r:R Z (mu++fr) s):∃a vs n,v= .ref a/\s.heap.get? a=ae (oK vs n)/\bW G Z vs.toList xs:=
 h.imp λa w=>(w.2 Z s .rfl r.left).imp λvs=>bQ λn u=>⟨w.1,u⟩
noncomputable def j9(n:Nat)(i:Int):Nat:=if i < 0 then (i+n).toNat else i.toNat
theorem AE{n:Nat}{i:Int}(SR: -(n:Int)<=i)(hlt:j9 n i < n):Nj i n=ae (j9 n i):=by
 unfold Nj j9;unfold j9 at hlt
 split <;> rename_i hneg
 ·rw [if_pos hneg] at hlt;refine aj (if_pos (by simp;lia) ..) ?_;rfl
 ·rw [if_neg hneg] at hlt;refine aj (if_pos (by simp;lia) ..) ?_;rfl
theorem Rv{i:Int}(hx:xs[j9 xs.length i]? =ae y)(SR: -(xs.length:Int)<=i)(hhi:i < 2 ^ 62)(hn:xs.length < 2 ^ 62):Gi k mu (me mu xs) (bZ (.int i)) (bZ y):=⟨λ{A E Z s fr v u T} hA r hp hq q=>by
 refine cE (me.at hp r) λa vs n eT h1 h2=>?_;subst eT;refine cJ (gF hq) λtk gi=>?_;subst gi;have hL:s.heap.IsList a vs:=⟨_,h1,rfl,n,rfl⟩;refine aK (h2.get hx) λw h3 h4=>?_;rw [b9 h2] at h3 SR hn;rw [bV] at h3;refine ⟨⟨"list",_,E1,hL.typeIs⟩,?_⟩;unfold j9 at h3
 split at h3
 ·exact wpAny_getItem_list_neg hL ‹_› SR (by lia) h3 (q .rfl h4 r)
 ·exact wpAny_getItem_list hL (by exact Int.le_of_not_gt (by assumption)) (by exact ru (by assumption) (by decide)) h3 (q .rfl h4 r)⟩
theorem Kv{i:Int}(hx:xs[j9 xs.length i]? =ae y)(SR: -(xs.length:Int)<=i)(hhi:i < 2 ^ 62)(hn:xs.length < 2 ^ 62):Gi k mu (bZ (.tup xs)) (bZ (.int i)) (bZ y):=⟨λ{A E Z s fr v u T} hA r hp hq q=>by
 refine dK (aZ.tup_inv hp) λa o vs n iC e1 hc hd h2=>?_;subst iC;refine cJ (gF hq) λtk kG=>?_;subst kG;have hL:IsTup s.heap a vs:=⟨_,r.zin _ _ e1,hc,n,hd⟩;have hlt:=(aB.mp hx).1;refine aK (h2.get hx) λw h3 h4=>?_;rw [bV] at h3;exact ⟨⟨"tuple",_,PyProof.Rows.slot_tuple_getitem.lookup,hL.typeIs⟩,PyProof.Rows.getItem_tuple hL (by lia) (by exact ru (by assumption) (by decide)) (b9 h2▸AE SR hlt) h3 (q .rfl h4 r)⟩⟩
theorem gi_s{x:bb}{i:Int}{c:Nat}(hx:x.cps[j9 x.length i]? =ae c)(SR: -(x.length:Int)<=i)(hhi:i < 2 ^ 62)(hn:x.length < 2 ^ 62):Gi k mu (bZ (.str x)) (bZ (.int i)) (bZ (.str ⟨#[c]⟩)):=⟨λ{A E Z s fr v u T} hA r hp hq q=>by
 refine cJ (gV hp) λtk ma=>?_;subst ma;refine cJ (gF hq) λny mE=>?_;subst mE;refine ⟨⟨"str",_,PyProof.Rows.slot_str_getitem.lookup,rfl⟩,PyProof.Rows.getItem_str (c:=c) ?_ ?_ (q .rfl (aZ.str _ _) r.toks)⟩
 ·simp;lia
 ·refine aj (AE SR (rv.mp hx).1 ..) ?_;exact hx⟩
noncomputable def mf(es:List (bb×V))(x:bb):Option V:=(es.find? λkv=>kv.1=x).map (·.2)
theorem uL{x:bb}{l:List (bb×ai)}{r:List (bb×V)}(h:l.map (·.1)=r.map (·.1))(hr:bW G Z (l.map (·.2)) (r.map (·.2))){y:V}:mf r x=ae y->∃v,vr l x=ae v/\aZ G Z v y:=by
 refine Di (P:=λl r=>mf r x=ae y->∃v,vr l x=ae v/\aZ G Z v y) (λe=>gK e) (λ{z u w l r} h1 ih hy=>?_) h hr;unfold mf at hy;unfold vr;rw [jW] at hy ⊢;by_cases hx:z=x
 ·rw [show decide (z=x)=aI from decide_eq_true hx] at hy ⊢;exact ⟨u,rfl,aO hy▸h1⟩
 ·rw [show decide (z=x)=aH from decide_eq_false hx] at hy ⊢;exact ih hy
theorem tg{x:bb}{l:List (bb×ai)}{r:List (bb×V)}(h:l.map (·.1)=r.map (·.1))(hy:mf r x=av):vr l x=av:=by unfold mf at hy;unfold vr;rw [Qa,Ak] at hy ⊢;intro a ha;exact aK (aG.mp (h▸aG.mpr ⟨a,ha,rfl⟩:a.1∈r.map (·.1))) λc hc e=>e▸hy c hc
theorem NA.at{v:ai}{fr:Mu}{es:List (bb×V)}(h:(NA mu es).p Z v)(r:R Z (mu++fr) s):∃a kvs,v= .ref a/\(a == lY)=aH/\s.heap.DictOf (strKind G.prog G.w) a kvs/\kvs.map (·.1)=es.map (·.1)/\bW G Z (kvs.map (·.2)) (es.map (·.2)):=
 h.imp λa w=>(w.2 Z s .rfl r.left).2.imp λkvs u=>⟨w.1,(w.2 Z s .rfl r.left).1,u⟩
theorem mh{es:List (bb×V)}{x:bb}(hx:mf es x=ae y):Gi k mu (NA mu es) (bZ (.str x)) (bZ y):=⟨λ{A E Z s fr v u T} hA r hp hq q=>by
 refine Ar (NA.at hp r) λa kvs q7 EP h1 h2 h3=>?_;subst q7;refine cJ (gV hq) λtk ue=>?_;subst ue;exact aK (uL h2 h3 hx) λw h4 h5=>⟨⟨"dict",_,PySem.slot_dict_getitem.lookup,h1.typeIs⟩,wpAny_getItem_of (knd:=strKind G.prog G.w) (k:=x) (zu G.prog G.w x tk) h1.mapOf h4 (q .rfl h5 r.toks)⟩⟩
structure Dm(k:Nat)(mu:Mu)(env:gP)(oe:Option bH)(x:Option Int):Prop where
 c:∀{A:bh} {E:ai->aq->Prop} {Z:bI} {s:aq} {fr:Mu} {T:ai->aq->Prop},Rm k A->R Z (mu++fr) s->(∀{v s' Z'},IsPart v x->Z.le Z'->R Z' (mu++fr) s'->T v s')->aS (aX G.prog G.w) A (evalPart oe env) T E s
theorem dM:Dm k mu env av av:=⟨λ{z z z z z z} hA r q=>by refine aj (evalPart_none ..) ?_;exact ar (q .none .rfl r)⟩
theorem eO{i:Int}(h:PE k mu env e (.int i)):Dm k mu env (ae e) (ae i):=⟨λ{z z z z z z} hA r q=>by
 refine aj (evalPart_some ..) ?_;exact h.c hA r λ{z z z} z1 q1 r1=>q ((gF q1).elim λz e=>e▸.int _ _) z1 r1⟩
theorem jo{lo hi st:Option bH}{l h c:Option Int}(h1:Dm k mu env lo l)(h2:Dm k mu env hi h)(h3:Dm k mu env st c):EV k mu env (.Slice lo hi st p) (Ru l h c):=⟨λ{A E Z s fr T} hA r q=>by
 with_reducible refine wpAny_Slice ?_
 exact h1.c hA r λ{z z z} q1 z1 r1=>h2.c hA r1 λ{z z z} q2 z2 r2=>h3.c hA r2 λ{v3 s3 Z3} q3 z3 r3=>q (z1.trans (z2.trans (z3.trans (bI.le_put (r3.fresh (bp _)))))) ⟨_,_,_,v3,_,rfl,bI.put_self ..,rfl,rfl,q1,q2,q3⟩ r3.pushZ⟩
noncomputable def jq{α:Type}(xs:List α)(lo hi st:Option Int):List α:=
 (zv (c7 lo hi st xs.length).1 (c7 lo hi st xs.length).2.1 (c7 lo hi st xs.length).2.2).filterMap (xs[·]?)
theorem bW.picks{vs:List ai}{xs:List V}(h:bW G Z vs xs)(l:List Nat):bW G Z (l.filterMap (vs[·]?)) (l.filterMap (xs[·]?)):=by
 induction l with
 |nil=>exact .nil
 |cons i l ih=>
  refine aj (qo ..) ?_;refine aj (qo ..) ?_;cases hi:xs[i]? with
  |none=>refine aj (su.mpr (h.length▸su.mp hi) ..) ?_;exact ih
  |some x=>refine aK (h.get hi) λv h1 h2=>?_;refine aj (h1 ..) ?_;exact .cons h2 ih
theorem jr{α β:Type}(f:α->β)(xs:List α)(lo hi st:Option Int):jq (xs.map f) lo hi st=(jq xs lo hi st).map f:=by unfold jq;refine aj (ak ..) ?_;refine aj (List.map_filterMap ..) ?_;exact congrArg (List.filterMap · _) (funext λi=>aJ)
theorem AG{vs:Array ai}{lo hi st:Option Int}(h:bW G Z vs.toList xs):bW G Z (xq vs lo hi st).toList (jq xs lo hi st):=by have:=h.picks (zv (c7 lo hi st vs.size).1 (c7 lo hi st vs.size).2.1 (c7 lo hi st vs.size).2.2);refine aj (show (xq vs lo hi st).toList=(zv (c7 lo hi st vs.size).1 (c7 lo hi st vs.size).2.1 (c7 lo hi st vs.size).2.2).filterMap (vs.toList[·]?) from by unfold xq;simp) ?_;unfold jq;exact aj (b9 h ..) (this)
theorem pg{lo hi st:Option Int}(h0:st≠ae 0)(hn:xs.length<=2 ^ 23):Gi k mu (me mu xs) (Ru lo hi st) (bZ (.list (jq xs lo hi st))):=⟨λ{A E Z s fr v u T} hA r hp hq q=>by
 refine cE (me.at hp r) λa vs n mP h1 h2=>?_;subst mP;obtain ⟨b,vl,vu,vst,o,rfl,hz,hc,hd,p1,p2,p3⟩:=hq;have hL:s.heap.IsList a vs:=⟨_,h1,rfl,n,rfl⟩;have hlen:=b9 h2;refine ⟨⟨"list",_,E1,hL.typeIs⟩,?_⟩;refine wpAny_getItem_list_slice hL ⟨o,r.zin _ _ hz,hc,hd⟩ p1 p2 p3 h0 ?_ (hlen▸aw hn (show 2 ^ 23<=2 ^ 24 by decide));have zz:Z.le (Z.put s.heap.objs.size {cls:= .type "list",data:= .seq (xq vs lo hi st)}):=bI.le_put (r.fresh (bp _));exact q zz (aZ.list (n:=0) (vs:=xq vs lo hi st) (bI.put_self ..) (AG (h2.mono zz))) r.pushZ⟩
variable {ys:List V}
theorem j3.vrels{vs:List ai}(h:j3 Z vs (xs.map bZ:List (Vw))):bW G Z vs xs:=by
 induction xs generalizing vs with
 |nil=>cases h.none;exact .nil
 |cons x xs ih=>refine cC (h.cons_inv) λv vs dO a r=>?_;subst dO;exact .cons a (ih r)
theorem j3.len{vs:List ai}{Ps:List (Vw)}(h:j3 Z vs Ps):vs.length=Ps.length:=by
 induction h with
 |nil=>rfl
 |cons _ _ ih=>exact congrArg xm ih
theorem j3.size{vs:List ai}(h:j3 Z vs (xs.map bZ:List (Vw)))(hl:xs.length<=2 ^ 20):vs.length<=er:=by (refine aj (h.len ..) ?_;refine aj (ak ..) ?_);exact aw hl (show 2 ^ 20<=2 ^ 24 by decide)
theorem xX{vs:Array ai}{n tk:Nat}{T:Prop}(r:R Z mu s)(hr:bW G Z vs.toList xs)(q:∀{Z'},Z.le Z'->aZ G Z' (.ref s.heap.objs.size) (.list xs)->R Z' mu {s with heap:=s.heap.push {cls:= .type "list",data:= .seq vs n},toks:=tk}->T):T:=
 q (bI.le_put (r.fresh (bp _))) (aZ.list (vs:=vs) (n:=n) (bI.put_self ..) (hr.mono (bI.le_put (r.fresh (bp _))))) r.pushZ.toks
theorem f9{es:List bH}{kk:Nat}(h:tC k mu env es (xs.map bZ))(hl:xs.length<=2 ^ 20):PE k mu env (.Tuple es kk pos) (.tup xs):=⟨λ{A E Z s fr Q} hA r q=>by
 with_reducible refine E3 ?_
 refine h.c hA r λ{vs s1 Z1} z1 q1 r1=>⟨q1.size hl,?_⟩
 have z2:=bI.le_put (o:={cls:= .type "tuple",data:= .seq vs.toArray}) (r1.fresh (bp _));exact q (z1.trans z2) (aZ.tup (vs:=vs.toArray) (n:=0) (bI.put_self ..) rfl rfl (q1.vrels.mono z2)) r1.pushZ⟩
theorem ij{es:List bH}(h:tC k mu env es (xs.map bZ))(hl:xs.length<=2 ^ 20):PE k mu env (.List es pos) (.list xs):=⟨λ{A E Z s fr Q} hA r q=>by
 with_reducible refine wpAny_List_spliced ?_
 exact h.c hA r λ{z z z} z1 q1 r1=>⟨q1.size hl,xX r1 q1.vrels λ{z} z2=>q (z1.trans z2)⟩⟩
theorem sD{es:List bH}(h:tC k mu env es (xs.map bZ))(hl:xs.length<=2 ^ 20)(hΘ:∀D,fL D (bl D xs::mu) Θ):WE k mu env (.List es pos) Θ:=⟨λ{A E Z s fr Q} hA r q=>by
 with_reducible refine wpAny_List_spliced ?_
 exact h.c hA r λ{vs s1 Z1} z1 q1 r1=>⟨q1.size hl,(hΘ s1.heap.objs.size).c (r1.addNew (tk:=s1.toks) (bl s1.heap.objs.size xs) (λb o e=>az _ e) ⟨vs.toArray,0,aW _ rfl,q1.vrels⟩ eg λz h=>kX h) λ{z z z} z2=>q (z1.trans z2)⟩⟩
theorem xY(B:g7 G)(hΘ:∀D,fL D (cD D []::mu) Θ):WE k mu env (.Dict [] [] pos) Θ:=⟨λ{A E Z s fr Q} hA r q=>by
 with_reducible refine wpAny_Dict_empty ?_
 exact (hΘ s.heap.objs.size).c (fr:=fr) (vQ B r) q⟩
theorem uM(hl:xs.length+ys.length<=2 ^ 23):xP k mu .Add (me mu xs) (me mu ys) (bZ (.list (xs++ys))):=⟨λ{A E Z s fr v u T} hA r hp hq q=>by
 refine cE (me.at hp r) λa vs n eT h1 h2=>?_;subst eT;refine cE (me.at hq r) λb ws m gi h3 h4=>?_;subst gi;refine PySem.P.add_list (n:=n) (n2:=m) (items:=vs) (items2:=ws) h1 h3 ?_ (by (refine fZ (b9 h2 ..) ?_;refine fZ (b9 h4 ..) ?_);exact aw hl (show 2 ^ 23<=2 ^ 24 by decide));exact xX (tk:=s.toks) r (by refine aj (lB ..) ?_;exact h2.append h4) q⟩
theorem mi(hl:xs.length<=2 ^ 40):Fn k mu (.builtin "len") [me mu xs] (bZ (.int xs.length)):=⟨λ{A E Z s fr vs Q} hA r hq q=>by
 refine aK (hq.one) λv iC hp=>?_;subst iC;refine cE (me.at hp r) λa vs n kG h1 h2=>?_;subst kG;have l1:=b9 h2;exact call_len_list (⟨_,h1,rfl,n,rfl⟩:s.heap.IsList a vs) (by refine fZ (l1 ..) ?_;lia) (l1▸q .rfl (aZ.int _ _) r.toks)⟩
theorem AH(ns:List Int):∀n,n<=ns.length->preSum (λi=>ns.getD i 0) n=(ns.take n).sum:=by
 intro n;induction n with
 |zero=>intro z;rfl
 |succ n ih=>
  intro h;have h1:n < ns.length:=h
  (rewrite [preSum];refine aj (ih (by exact eB (by assumption)) ..) ?_)
  refine aj (dE ..) ?_;refine aj (bJ h1 ..) ?_;refine aj (vt ..) ?_;simp only [bR,bJ h1,Option.getD_some,Al,da,List.sum_nil,P7]
theorem Kw{ns:List Int}:Fn k mu (.builtin "sum") [me mu (ns.map .int)] (bZ (.int ns.sum)):=⟨λ{A E Z s fr vs Q} hA r hq q=>by
 refine aK (hq.one) λv ma hp=>?_;subst ma;refine cE (me.at hp r) λa vs n mE h1 h2=>?_;subst mE;have l1:ns.length=vs.size:=by (refine fZ (b9 h2 ..) ?_;refine aj (ak ..) ?_;rfl)
 have hL:s.heap.IsList a vs:=⟨_,h1,rfl,n,rfl⟩;refine call_sum_walkG (lr hL ?_);refine ⟨s.heap.objs.size,[s.heap.objs.size,a],[s.heap.objs.size],vs.size,_,_,λi=>ns.getD i 0,rfl,Walks.list (A:=A.in1) hA.hh s.heap.objs.size a (c8 (bN h1)) vs,⟨⟨_,aW _ rfl,rfl,rfl⟩,hL.at λo e=>az _ e⟩,?_,?_,?_⟩
 ·intro b hb;refine aj (fN ..) ?_;rcases aP.mp hb with rfl|hb
  ·exact jf _
  ·refine aj (aA.mp hb ..) ?_;exact cI (bN h1)
 ·intro i v hv;refine aK (h2.get' (bV.trans hv)) λx h3 h4=>?_;rw [aJ] at h3;refine aK (aL.mp h3) λm h5 q7=>?_;subst q7;refine cJ (gF h4) λtk ue=>?_;subst ue;exact ⟨tk,by show jT m tk=jT (ns.getD i 0) tk;(refine aj (bR ..) ?_;refine aj (h5 ..) ?_);rfl⟩
 ·intro h' tk t' hk;refine fZ (l1 ..) ?_;refine aj (AH ns _ (bp _) ..) ?_;refine aj (cK ..) ?_;exact q .rfl (aZ.int _ _) (r.keep (tk:=tk) λb o e=>hk b o (λh=>c8 (bN e) (aA.mp h)) (az _ e))⟩
theorem Fn.ix{f:ai}{i:Int}{S:Vw}(h:∀{A:bh} {E:ai->aq->Prop} {Z:bI} {s:aq} {t:HW} {fr:Mu} {Q:ai->aq->Prop},R Z (mu++fr) s->(∀{w s'},S.p Z w->R Z (mu++fr) s'->Q w s')->aS (aX G.prog G.w) A (ku f [.int i t]) Q E s):Fn k mu f [bZ (.int i)] S:=
 ⟨λ{z z z z z z z} hA r hq q=>by obtain ⟨v,rfl,p⟩:=hq.one;exact aZ.intC p λt=>h r (q .rfl)⟩
theorem rG{c:Bool}:Fn k mu (.type "int") [bZ (.bool c)] (bZ (.int (if c then 1 else 0))):=⟨λ{z z z z z z z} hA r hq q=>by
 refine aK (hq.one) λv mP p=>?_;subst mP;refine aj (aZ.boolE p ..) ?_;exact call_int_bool (q .rfl (aZ.int _ _) r.toks)⟩
theorem Ih{i:Int}:Fn k mu (.type "bool") [bZ (.int i)] (bZ (.bool (i != 0))):= .ix λ{z z z z z z z} r q=>call_bool_int (q (aZ.bool _) r)
theorem Rx{i:Int}(h0:0<=i)(h1:i<=1114111):Fn k mu (.builtin "chr") [bZ (.int i)] (bZ (.str ⟨#[i.toNat]⟩)):= .ix λ{z z z z z z z} r q=>PyProof.Rows.chr_of_range h0 h1 (q (aZ.str _ _) r.toks)
theorem Ry{c:Nat}:Fn k mu (.builtin "ord") [bZ (.str ⟨#[c]⟩)] (bZ (.int c)):=⟨λ{z z z z z z z} hA r hq q=>by
 refine aK (hq.one) λv so p=>?_;subst so;exact aZ.strC p λt=>PySem.P.ord_of_char (q .rfl (aZ.int _ _) r.toks)⟩
theorem Kx{i:Int}(h:(JC "0x" 16 i).length<=er):Fn k mu (.builtin "hex") [bZ (.int i)] (bZ (.str (JC "0x" 16 i))):= .ix λ{z z z z z z z} r q=>PySem.P.hex_of_int (q (aZ.str _ _) r.toks) h
theorem Ii{x:bb}(hl:x.cps.size<=er):Fn k mu (.type "list") [bZ (.str x)] (bZ (.list (nD x))):=⟨λ{A E Z s fr vs Q} hA r hq q=>by
 refine aK (hq.one) λv zk p=>?_;subst zk;refine cJ (gV p) λtk ER=>?_;subst ER;refine call_list_str hA.hh x tk (λh' ny SS c' hk hg hi=>?_) hl;have hz:=r.fresh (bp s.heap.objs.size);refine q (bI.le_put hz) (aZ.list (vs:=SS) (n:=c') (bI.put_self ..) (bW.ofGets ?_ λi v y hv hy=>?_)) (R.freeze (r.keep (tk:=ny) hk) hg hz (r.notOwn (bp _)))
 ·have:=hi.1;simp [nD];with_reducible assumption
 ·exact tD x hy (hi.2 i v (bV.symm.trans hv))⟩
mutual
noncomputable def Ky:V->Option wF
 | .none=>ae .none
 | .bool b=>ae (.bool b)
 | .int i=>ae (.int i)
 | .str x=>if pG x then ae (.str x) else av
 | .list xs=>(ph xs).map .list
 | .tup xs=>(ph xs).map .tuple
 |_=>av
noncomputable def ph:List V->Option (List wF)
 |[]=>ae []
 |x::xs=>(Ky x).bind λd=>(ph xs).map (d::·)
end
theorem xZ(hz:∀a o,Z a=ae o->s.heap.get? a=ae o):(∀{v x},aZ G Z v x->∀d,Ky x=ae d->(∃as,Reads s.heap v d as)/\d.canLay0=aI)/\∀{vs xs},bW G Z vs xs->∀ds,ph xs=ae ds->(∃as,ReadsAll s.heap vs ds as)/\JD ds=aI:=
 aZ.both (P:=λv x=>∀d,Ky x=ae d->(∃as,Reads s.heap v d as)/\d.canLay0=aI) (Q:=λvs xs=>∀ds,ph xs=ae ds->(∃as,ReadsAll s.heap vs ds as)/\JD ds=aI)
  (λd e=>aO e▸⟨⟨_,.none⟩,rfl⟩) (λb d e=>aO e▸⟨⟨_,.bool b⟩,rfl⟩) (λi t d e=>aO e▸⟨⟨_,.int i _⟩,rfl⟩)
  (λx t d e=>by
   have e:(if pG x then ae (PyData.str x) else av)=ae d:=e;by_cases hs:pG x
   ·exact aO ((if_pos hs).symm.trans e)▸⟨⟨_,.str x _⟩,hs⟩
   ·exact gK ((if_neg hs).symm.trans e))
  (λz z z e=>gK e) (λz z e=>gK e) (λz z e=>gK e) (λz z e=>gK e)
  (λ{a o vs n xs} e1 hc hd ih d e=>by
   refine aK (aL.mp e) λds h1 dO=>?_;subst dO;refine dU (ih ds h1) λeT h3=>cJ eT λas h2=>?_;clear eT;exact ⟨⟨_,.tuple (hz _ _ e1) hc hd h2⟩,h3⟩)
  (λ{a vs n xs} e1 ih d e=>by
   refine aK (aL.mp e) λds h1 gi=>?_;subst gi;refine dU (ih ds h1) λiC h3=>cJ iC λas h2=>?_;clear iC;exact ⟨⟨_,.list (hz _ _ e1) rfl rfl h2⟩,h3⟩)
  (λ{z z z z z} z z z z z e=>gK e) (λ{z z z z} z z z z z z e=>gK e)
  (λds e=>aO e▸⟨⟨_,.nil⟩,rfl⟩)
  (λ{v vs x xs} ih z ihs ds e=>by
   refine aK (dq.mp e) λd h1 h2=>aK (aL.mp h2) λds h3 kG=>?_;subst kG;refine dU (ih d h1) λma h5=>cJ ma λas h4=>?_;clear ma;refine dU (ihs ds h3) λmE h7=>cJ mE λbs h6=>?_;clear mE;exact ⟨⟨_,.cons h4 h6⟩,cn.mpr ⟨h5,h7⟩⟩)
theorem rH(hz:∀a o,Z a=ae o->s.heap.get? a=ae o)(x:V){v:ai}{d:wF}(h:aZ G Z v x)(e:Ky x=ae d):(∃as,Reads s.heap v d as)/\d.canLay0=aI:=(xZ hz).1 h d e
theorem wN(hz:∀a o,Z a=ae o->s.heap.get? a=ae o)(xs:List V){vs:List ai}{ds:List wF}(h:bW G Z vs xs)(e:ph xs=ae ds):(∃as,ReadsAll s.heap vs ds as)/\JD ds=aI:=(xZ hz).2 h ds e
theorem Rm.eq{A:bh}(hA:Rm k A){n:Nat}(h:n<=100):A.units+n < 9900:=by have:=hA.uni;lia
theorem Rz{dx dy:wF}(hx:Ky x=ae dx)(hy:Ky y=ae dy)(hd:min dx.depth dy.depth<=100):ta k mu .Eq (bZ x) (bZ y) (PyData.eqv dx dy):=⟨λ{A E Z s fr v u T} hA r hp hq q=>by
 refine dU (rH (s:=s) r.zin x hp hx) λq7 h2=>cJ q7 λas h1=>?_;clear q7;refine dU (rH (s:=s) r.zin y hq hy) λue h4=>cJ ue λbs h3=>?_;clear ue;exact SeqAt.compareEq_reads h1 h3 h2 h4 (hA.eq hd) (q .rfl (.bool _) r)⟩
theorem Kz{dx dy:wF}(hx:Ky x=ae dx)(hy:Ky y=ae dy)(hd:min dx.depth dy.depth<=100):ta k mu .NotEq (bZ x) (bZ y) (!PyData.eqv dx dy):=⟨λ{A E Z s fr v u T} hA r hp hq q=>by
 refine dU (rH (s:=s) r.zin x hp hx) λmP h2=>cJ mP λas h1=>?_;clear mP;refine dU (rH (s:=s) r.zin y hq hy) λso h4=>cJ so λbs h3=>?_;clear so;exact SeqAt.compareNe_reads h1 h3 h2 h4 (hA.eq hd) (q .rfl (.bool _) r)⟩
theorem Hc(ds:List wF):PyData.eqv (.list ds) (.list [])=ds.isEmpty:=by cases ds <;> rfl
theorem Dn{ds:List wF}(e:ph xs=ae ds):ds.length=xs.length:=by
 induction xs generalizing ds with
 |nil=>exact aO e▸rfl
 |cons x xs ih=>refine aK (dq.mp e) λd h1 h2=>aK (aL.mp h2) λds h3 zk=>?_;subst zk;exact congrArg xm (ih h3)
theorem ya{ds:List wF}(e:ph xs=ae ds):ds.isEmpty=xs.isEmpty:=by have:=Dn e;cases xs <;> cases ds <;> first|rfl|cases this
theorem Do{ds:List wF}(e:ph xs=ae ds):Ky (.list xs)=ae (.list ds):=congrArg (Option.map PyData.list) e
theorem AI{d:wF}:min d.depth (PyData.list []).depth<=100:=aw (ow _ _) (by decide)
theorem FJ(h:(ph xs).isSome=aI):ta k mu .Eq (bZ (.list xs)) (bZ (.list [])) xs.isEmpty:=by
 refine cJ (dI.mp h) λds hd=>?_;have:=Rz (k:=k) (mu:=mu) (y:= .list []) (Do hd) rfl AI
 rwa [Hc,ya hd] at this
theorem BO(h:(ph xs).isSome=aI):ta k mu .NotEq (bZ (.list xs)) (bZ (.list [])) (!xs.isEmpty):=by
 refine cJ (dI.mp h) λds hd=>?_;have:=Kz (k:=k) (mu:=mu) (y:= .list []) (Do hd) rfl AI
 rwa [Hc,ya hd] at this
theorem tG{vs:List ai}{ns:List Int}(h:bW G Z vs (ns.map .int)):um vs ns:=by
 induction ns generalizing vs with
 |nil=>cases h.nil_inv;exact .nil
 |cons n ns ih=>refine cC (h.cons_inv) λv vs ER a r=>?_;subst ER;exact aZ.intC (P:=λv=>um (v::vs) (n::ns)) a λt=> .cons _ _ (ih r)
theorem tH{vs:List ai}{ns:List bb}(h:bW G Z vs (ns.map .str)):StrsAre vs ns:=by
 induction ns generalizing vs with
 |nil=>cases h.nil_inv;exact .nil
 |cons n ns ih=>refine cC (h.cons_inv) λv vs MX a r=>?_;subst MX;exact aZ.strC (P:=λv=>StrsAre (v::vs) (n::ns)) a λt=> .cons _ _ (ih r)
theorem KA{f:ai->ai->mF ai}{i:Int}{ns:List Int}{b:Bool}(h:∀{A:bh} {E:ai->aq->Prop} {s:aq} {t:HW} {a:ay} {vs:List ai} {T:ai->aq->Prop},s.heap.IsList a vs.toArray->um vs ns->T (.bool b) s->aS (aX G.prog G.w) A (f (.int i t) (.ref a)) T E s):B2 k mu f (bZ (.int i)) (me mu (ns.map .int)) (bZ (.bool b)):=⟨λ{A E Z s fr v u T} hA r hp hq q=>by
 refine cJ (gF hp) λtk SU=>?_;subst SU;refine cE (me.at hq r) λa vs n SV h1 h2=>?_;subst SV;exact h (vs:=vs.toList) ⟨_,h1,rfl,n,rfl⟩ (tG h2) (q .rfl (.bool _) r)⟩
theorem KB{f:ai->ai->mF ai}{i:bb}{ns:List bb}{b:Bool}(h:∀{A:bh} {E:ai->aq->Prop} {s:aq} {t:HW} {a:ay} {vs:List ai} {T:ai->aq->Prop},s.heap.IsList a vs.toArray->StrsAre vs ns->T (.bool b) s->aS (aX G.prog G.w) A (f (.str i t) (.ref a)) T E s):B2 k mu f (bZ (.str i)) (me mu (ns.map .str)) (bZ (.bool b)):=⟨λ{A E Z s fr v u T} hA r hp hq q=>by
 refine cJ (gV hp) λtk PP=>?_;subst PP;refine cE (me.at hq r) λa vs n SW h1 h2=>?_;subst SW;exact h (vs:=vs.toList) ⟨_,h1,rfl,n,rfl⟩ (tH h2) (q .rfl (.bool _) r)⟩
theorem RA{i:Int}{ns:List Int}:ta k mu .In (bZ (.int i)) (me mu (ns.map .int)) (ns.any (· == i)):=KA λ{z z z z z z z} a b q=>PyProof.Rows.in_list_ints a b q
theorem Oj{i:Int}{ns:List Int}:ta k mu .NotIn (bZ (.int i)) (me mu (ns.map .int)) (!ns.any (· == i)):=KA λ{z z z z z z z} a b q=>PyProof.Rows.notin_list_ints a b q
theorem FK{i:bb}{ns:List bb}:ta k mu .In (bZ (.str i)) (me mu (ns.map .str)) (ns.any (· == i)):=KB λ{z z z z z z z} a b q=>PyProof.Rows.in_list_strs a b q
theorem BP{i:bb}{ns:List bb}:ta k mu .NotIn (bZ (.str i)) (me mu (ns.map .str)) (!ns.any (· == i)):=KB λ{z z z z z z z} a b q=>PyProof.Rows.notin_list_strs a b q
theorem zQ{x:bb}{l:List (bb×ai)}{r:List (bb×V)}(h:l.map (·.1)=r.map (·.1))(hr:bW G Z (l.map (·.2)) (r.map (·.2))):(vr l x).isSome=(mf r x).isSome:=by
 cases hd:mf r x with
 |none=>refine aj (tg h hd ..) ?_;rfl
 |some y=>obtain ⟨v,hv,_⟩:=uL h hr hd;refine aj (hv ..) ?_;rfl
theorem KC{i:bb}{es:List (bb×V)}:ta k mu .In (bZ (.str i)) (NA mu es) (mf es i).isSome:=⟨λ{A E Z s fr v u T} hA r hp hq q=>by
 refine cJ (gV hp) λtk q19z=>?_;subst q19z;refine Ar (NA.at hq r) λa kvs q20z EP h1 h2 h3=>?_;subst q20z;exact wpAny_in_of (zu G.prog G.w i tk) EP h1.mapOf (zQ h2 h3▸q .rfl (.bool _) r.toks)⟩
theorem Ol{l:List (bb×HW)}:bW G Z (strValues l) ((l.map (·.1)).map .str):=by
 induction l with
 |nil=>exact .nil
 |cons a l ih=>exact .cons (aZ.str _ _) ih
theorem Ij{vs:List ai}{ts:List bb}(h:StrsAre vs ts):∃l:List (bb×HW),vs=strValues l/\l.map (·.1)=ts:=by
 induction h with
 |nil=>exact ⟨[],rfl,rfl⟩
 |cons y t _ ih=>obtain ⟨l,h3,h4⟩:=ih;exact ⟨(y,t)::l,by refine aj (h3 ..) ?_;rfl,congrArg (List.cons y) h4⟩
theorem Hd{sep:bb}{ts:List bb}(hok:Nk sep ts=aI):Fn k mu (.builtin "str.join") [bZ (.str sep),me mu (ts.map .str)] (bZ (.str (fO sep ts))):=⟨λ{A E Z s fr vs Q} hA r hq q=>by
 refine cC (hq.two) λv u q21z q1 q2=>?_;subst q21z;refine cJ (gV q1) λtk q22z=>?_;subst q22z;refine cE (me.at q2 r) λa vs n q23z h1 h2=>?_;subst q23z;exact aK (Ij (tH h2)) λl hl ht=>SC.join (⟨_,h1,rfl,n,by (refine fZ (hl ..) ?_;rfl)⟩:s.heap.IsList a (strValues l).toArray) ht hok λt' k'=>q .rfl (aZ.str _ _) r.toks⟩
theorem rI{l:List (bb×HW)}{ts:List bb}{tk:Nat}{T:Prop}(r:R Z mu s)(e:l.map (·.1)=ts)(q:∀{Z'},Z.le Z'->aZ G Z' (.ref s.heap.objs.size) (.list (ts.map .str))->R Z' mu {s with heap:=s.heap.push {cls:= .type "list",data:= .seq (strValues l).toArray},toks:=tk}->T):T:=
 xX r (e▸Ol (l:=l)) q
theorem Ik{x:bb}(h1:x.length<=er)(h2:(Builtin.Str.spaceWords x (x.length+1)).length<=er):Fn k mu (.builtin "str.split") [bZ (.str x)] (bZ (.list ((Txt.words x).map .str))):=⟨λ{A E Z s fr vs Q} hA r hq q=>by
 refine aK (hq.one) λv q24z q1=>?_;subst q24z;refine cJ (gV q1) λtk q25z=>?_;subst q25z;refine l6 jX (TG _ _ _) vx (F.args_str_split_1 _) (meets_str_split_space x tk h1 h2) ?_;unfold Txt.words at q;cases hw:Builtin.Str.spaceWords x (x.length+1) == [(0,x.length)]
 ·simp only [hw,dj,if_false] at q ⊢;exact aj (strsFrom_eq ..) (rI r (numbered_texts ..) q)
 ·simp only [hw,if_true] at q ⊢;exact rI (l:=[(x,tk)]) r rfl q⟩
def ky.S0(x y:bb):Prop:=∀{k:Nat} {mu:Mu} (hy:(y.length == 0)=aH) (hx1:x.length<=er) (PQ:(Builtin.Str.partsBetween x (cZ x y 0 x.length (x.length+1)) y.length).length<=er),Fn k mu (.builtin "str.split") [bZ (.str x),bZ (.str y)] (bZ (.list ((Nl x y).map .str)))
namespace ky
@[irreducible] def e0:=Qg inferInstance inferInstance S0
def x_:=e0.1
def y_:=e0.2
theorem T0:S0 x_ y_:=λ{k} {mu} hy hx1 PQ=>⟨λ{A E Z s fr vs Q} hA r hq q=>by
 refine cC (hq.two) λv u q26z q1 q2=>?_;subst q26z;refine cJ (gV q1) λtk q27z=>?_;subst q27z;refine cJ (gV q2) λny q28z=>?_;subst q28z;unfold Nl at q;cases h1:(decide (x_.length < y_.length) || decide (mR x_ < mR y_))
 ·cases hf:(cZ x_ y_ 0 x_.length (x_.length+1)).isEmpty
  ·refine l6 jX (TG _ _ _) vx (GS _ _) (meets_str_split_sep x_ y_ tk ny h1 hy hf hx1 PQ) ?_;simp only [h1,hf,dj,if_false] at q;exact aj (strsFrom_eq ..) (rI r (numbered_texts ..) q)
  ·refine l6 jX (TG _ _ _) vx (GS _ _) (meets_str_split_not_found x_ y_ tk ny h1 hy hf) ?_;simp only [h1,hf,dj,if_false,if_true] at q;exact rI (l:=[(x_,tk)]) r rfl q
 ·refine l6 jX (TG _ _ _) vx (GS _ _) (meets_str_split_cannot_occur x_ y_ tk ny h1) ?_;simp only [h1,if_true] at q;exact rI (l:=[(x_,tk)]) r rfl q⟩
end ky
theorem ky{x y:bb}:ky.S0 x y:=by with_unfolding_all exact Fo _ _ ky.S0 @ky.T0 x y
theorem rJ{x y:bb}:Fn k mu (.builtin "str.count") [bZ (.str x),bZ (.str y)] (bZ (.int (Nm x y))):=⟨λ{z z z z z z z} hA r hq q=>by
 refine cC (hq.two) λv u q29z q1 q2=>?_;subst q29z;exact aZ.strC q1 λz=>aZ.strC q2 λz=>SC.count (q .rfl (aZ.int _ _) r.toks)⟩
theorem Dp(x:Int){vs:List ai}{ns:List Int}(h:um vs ns):vs.countP (isInt x)=ns.countP (· == x):=by
 induction h with
 |nil=>rfl
 |cons n t _ ih=>(refine aj (List.countP_cons ..) ?_;refine aj (List.countP_cons ..) ?_;refine aj (ih ..) ?_);rfl
theorem Dq{x:Int}{ns:List Int}:Fn k mu (.builtin "list.count") [me mu (ns.map .int),bZ (.int x)] (bZ (.int (ns.countP (· == x):Nat))):=⟨λ{A E Z s fr vs Q} hA r hq q=>by
 refine cC (hq.two) λv u q30z q1 q2=>?_;subst q30z;refine cE (me.at q1 r) λa ws n q31z h1 h2=>?_;subst q31z;refine cJ (gF q2) λny q32z=>?_;subst q32z;have hi:=tG h2;exact l6 F.slot_list_count (⟨_,h1,rfl⟩:s.TypeIs (.ref a) "list") F.entry_list_count (F.args_list_count_2 _ _) (MeetsSeq.list_count a ws n (.int x ny) (isInt x) (λy hy=>eq_isInt x ny hi y (pH.mpr hy)))
  ⟨h1,by refine aj (Dp x hi ..) ?_;exact q .rfl (aZ.int _ _) r.toks⟩⟩
theorem Ds{x:Int}{ns:List Int}{j:Nat}(hj:ns[j]? =ae x)(Bt:∀m,m < j->ns[m]? ≠ae x)(hl:ns.length<=2 ^ 40):Fn k mu (.builtin "list.index") [me mu (ns.map .int),bZ (.int x)] (bZ (.int j)):=⟨λ{A E Z s fr vs Q} hA r hq q=>by
 refine cC (hq.two) λv u q33z q1 q2=>?_;subst q33z;refine cE (me.at q1 r) λa ws n q34z h1 h2=>?_;subst q34z;refine cJ (gF q2) λny q35z=>?_;subst q35z;have hlen:ws.size=ns.length:=by (refine fZ (b9 h2 ..) ?_;refine aj (ak ..) ?_;rfl)
 have hjl:=(aB.mp hj).1;have key:∀(m:Nat) (hm:m < ws.size),isInt x ws[m]=decide (ns[m]? =ae x):=by intro m hm;refine aK (h2.get' (bV.trans (dY hm))) λy h4 h5=>?_;rw [aJ] at h4;refine aK (aL.mp h4) λc h6 q36z=>?_;subst q36z;refine cJ (gF h5) λtk h7=>?_;refine aj (h7 ..) ?_;refine aj (h6 ..) ?_;show decide (c=x)=_;refine gj (decide_eq_decide ..) ?_;exact ⟨λe=>e▸rfl,aO⟩
 have hi:=tG h2;exact l6 F.slot_list_index (⟨_,h1,rfl⟩:s.TypeIs (.ref a) "list") F.entry_list_index (F.args_list_index_2 _ _) (MeetsSeq.list_index a ws n (.int x ny) (isInt x) (λy hy=>eq_isInt x ny hi y (pH.mpr hy)) j (hlen▸hjl) (by lia) (by (refine aj (key _ (hlen▸hjl) ..) ?_;refine aj (hj ..) ?_);exact decide_eq_true rfl) (λm hm hlt=>by refine aj (key ..) ?_;exact decide_eq_false (Bt m hlt)))
  ⟨h1,q .rfl (aZ.int _ _) r.toks⟩⟩
variable {es:List bH}{Φ:V->Mu->Prop}
structure FW(k:Nat)(mu:Mu)(f:ai)(xs:List V)(Φ:V->Mu->Prop):Prop where
 c:∀{A:bh} {E:ai->aq->Prop} {Z:bI} {s:aq} {fr:Mu} {vs:List ai} {Q:ai->aq->Prop},Rm k A->R Z (mu++fr) s->bW G Z vs xs->
  (∀{w s' Z' y nu},Z.le Z'->aZ G Z' w y->R Z' (nu++fr) s'->Φ y nu->Q w s')->aS (aX G.prog G.w) A (ku f vs) Q E s
structure FC(k:Nat)(mu:Mu)(f:ai)(xs:List V)(Φ:V->Mu->Prop):Prop where
 c:∀{A:bh} {E:ai->aq->Prop} {Z:bI} {s:aq} {fr:Mu} {vs:List ai} {Q:ai->aq->Prop},Rm k A->R Z (mu++fr) s->bW G Z vs xs->
  (∀{w s' Z' y nu},Z.le Z'->aZ G Z' w y->R Z' (nu++fr) s'->Φ y nu->Q w s')->iV (aX G.prog G.w) A (.call f ⟨vs,[]⟩) (λr s'=>match r with| .ok (.ret v)=>Q v s'| .ok _=>False| .error e=>E e s') s
theorem FC.fw{k:Nat}{mu:Mu}{f:ai}{xs:List V}{Φ:V->Mu->Prop}(h:FC k mu f xs Φ):FW k mu f xs Φ:=⟨λ{z z z z z z z} hA r hv q=>eF (h.c hA r hv q)⟩
structure jK(y:V)(nu:Mu)(Φ:V->Mu->Prop):Prop where
 c:∀{Z:bI} {s:aq} {fr:Mu} {v:ai} {T:Prop},R Z (nu++fr) s->aZ G Z v y->(∀{Z' y' nu'},Z.le Z'->aZ G Z' v y'->R Z' (nu'++fr) s->Φ y' nu'->T)->T
noncomputable def lE(Φ:V->Mu->Prop):AF->Mu->Prop
 | .ret y,nu=>jK y nu Φ
 | .next,nu=>jK .none nu Φ
 |_,_=>False
def Kn(mu:Mu)(p:dH->Prop):Prop:=∀Z s,R Z mu s->p s.heap
noncomputable def mj(a:ay)(o:o6):cX where
 own:=[a]
 sat:=λZ h=>h.get? a=ae o
 mono:=λz z z z e=>e
 loc:=λZ h h' e hk z z=>hk a aa _ e
 live:=λZ h e b hb=>⟨_,aA.mp hb▸e⟩
noncomputable abbrev dT(fd:cm)(a L:ay):gP:=newEnv fd.scope L fd.globals (xo (L+1) fd.scope.names fd.closure) (fd.qualname++".<locals>.") (ae a) fd.code av fd.builtins
noncomputable abbrev vR(fd:cm)(L:ay)(bB:ej):cX:=bq L (aM (L+1) fd.scope.names) bB
theorem Kn.app{q:dH->Prop}(h:Kn mu q)(r:R Z (mu++nu) s):q s.heap:=h Z s r.left
theorem Kn.z0{a:ay}{o:o6}(h:G.Z0 a=ae o):Kn mu λhp=>hp.get? a=ae o:=λZ s r=>r.z0in _ _ h
theorem Kn.obj{a:ay}{o:o6}(h:mj a o∈mu):Kn mu λhp=>hp.get? a=ae o:=λZ s r=>r.sat _ h
theorem Kn.sub{q:dH->Prop}(h:Kn mu q)(hs:mu.Sublist nu):Kn nu q:=λZ s r=>h Z s (r.sublist hs)
theorem jK.keep(h:Φ y nu):jK y nu Φ:=⟨λ{z z z z z} r v q=>q .rfl v r h⟩
theorem jK.sub{nu':Mu}(hs:nu'.Sublist nu)(h:jK y nu' Φ):jK y nu Φ:=⟨λ{Z s fr v T} r w q=>h.c (r.sublist (hs.append (sR fr))) w q⟩
theorem jK.tail{a:cX}(h:jK y nu Φ):jK y (a::nu) Φ:=jK.sub (gW _ _) h
theorem Qp(B:g7 G){fd:cm}{a:ay}{ob:o6}{body:List ed}{names:List bb}{vals':ay->ej}(Bu:Kn mu λhp=>hp.get? a=ae ob)(hd:ob.data= .func fd)(hcd:Kn mu λhp=>hp.CodeRec fd.code fd.qualname)(sq:fd.body= .stmts body)
 (i0:∀vs,vs.length=xs.length->pI fd ⟨vs,[]⟩=dg (names.zip vs)) (hnd:(aM 0 fd.scope.names).nd) (he:∀L,du (dT fd a L))
 (hb:∀L,i9 (dT fd a L) L (aM (L+1) fd.scope.names) names xs (nones (aM (L+1) fd.scope.names)) (vals' L))
 (h:∀L,WS k (vR fd L (vals' L)::mu) (dT fd a L) body (lE Φ)) (wx:autoParam (fd.scope.isCoroutine=aH) aR) (mQ:autoParam (fd.scope.isGenerator=aH) aR):FC (k+1) mu (.ref a) xs Φ:=⟨λ{A E Z s fr vs Q} hA r hv q=>by
 refine qp hA.depth (Bu.app r) hd wx mQ sq (hcd.app r) (aj (i0 vs hv.length ..) ?_);refine ar (pO (vals':=vals' s.heap.objs.size) r hnd (he _) hv (hb _) λs' r'=>⟨B.lim _ r'.z0in,JE ?_⟩);refine (h s.heap.objs.size).c (hA.deeper _) r' λ{f s2 Z2 af ud} z2 f2 r2 w2=>?_
 revert w2
 exact o7.by f2 (λw=>jK.c (show jK .none ud Φ from w) r2 .none λ{z z z} z3=>q (z2.trans z3)) (λw=>w.elim) (λw=>w.elim) λv x hv w=>jK.c (show jK x ud Φ from w) r2 hv λ{z z z} z3=>q (z2.trans z3)⟩
theorem KD(B:g7 G){fd:cm}{a:ay}{ob:o6}{body:List ed}{names:List bb}{vals':ay->ej}(Bu:Kn mu λhp=>hp.get? a=ae ob)(hd:ob.data= .func fd)(hcd:Kn mu λhp=>hp.CodeRec fd.code fd.qualname)(sq:fd.body= .stmts body)
 (i0:∀vs,vs.length=xs.length->pI fd ⟨vs,[]⟩=dg (names.zip vs)) (hnd:(aM 0 fd.scope.names).nd) (he:∀L,du (dT fd a L))
 (hb:∀L,i9 (dT fd a L) L (aM (L+1) fd.scope.names) names xs (nones (aM (L+1) fd.scope.names)) (vals' L))
 (h:∀L,WS k (vR fd L (vals' L)::mu) (dT fd a L) body (lE Φ)) (wx:autoParam (fd.scope.isCoroutine=aH) aR) (mQ:autoParam (fd.scope.isGenerator=aH) aR):FW (k+1) mu (.ref a) xs Φ:=(Qp B Bu hd hcd sq i0 hnd he hb h wx mQ).fw
theorem FL(B:g7 G){fd:cm}{a:ay}{ob:o6}{body:bH}{names:List bb}{vals':ay->ej}(Bu:Kn mu λhp=>hp.get? a=ae ob)(hd:ob.data= .func fd)(hcd:Kn mu λhp=>hp.CodeRec fd.code fd.qualname)(sq:fd.body= .expr body)
 (i0:∀vs,vs.length=xs.length->pI fd ⟨vs,[]⟩=dg (names.zip vs)) (hnd:(aM 0 fd.scope.names).nd) (he:∀L,du (dT fd a L))
 (hb:∀L,i9 (dT fd a L) L (aM (L+1) fd.scope.names) names xs (nones (aM (L+1) fd.scope.names)) (vals' L))
 (h:∀L,WE k (vR fd L (vals' L)::mu) (dT fd a L) body λy nu=>jK y nu Φ) (wx:autoParam (fd.scope.isCoroutine=aH) aR) (mQ:autoParam (fd.scope.isGenerator=aH) aR):FW (k+1) mu (.ref a) xs Φ:=⟨λ{A E Z s fr vs Q} hA r hv q=>by
 refine eF (kla_callFunE hA.depth (Bu.app r) hd wx mQ sq (hcd.app r) ?_);refine aj (i0 vs hv.length ..) (ar (pO (vals':=vals' s.heap.objs.size) r hnd (he _) hv (hb _) λs' r'=>⟨B.lim _ r'.z0in,kla_codeExpr ?_⟩));exact (h s.heap.objs.size).c (hA.deeper _) r' λ{z z z z z} z2 f2 r2 w2=>w2.c r2 f2 λ{z z z} z3=>q (z2.trans z3)⟩
structure Dt(k:Nat)(mu:Mu)(env:gP)(es:List bH)(Ψ:List V->Mu->Prop):Prop where
 c:∀{A:bh} {E:ai->aq->Prop} {Z:bI} {s:aq} {fr:Mu} {pos:jC} {Q:List ai->aq->Prop},Rm k A->R Z (mu++fr) s->
  (∀{vs s' Z' ys nu},Z.le Z'->bW G Z' vs ys->R Z' (nu++fr) s'->Ψ ys nu->Q vs s')->aS (aX G.prog G.w) A (spliced (lj pos (fo es env))) Q E s
noncomputable def kh:List bH->Bool
 |[]=>aI
 | .Starred _ _::_=>aH
 |_::r=>kh r
theorem jt(h:kh (e::es)=aI):(∀a p,e≠ .Starred a p)/\kh es=aI:=by cases e <;> first|(refine ⟨λz z h=>(nomatch h),?_⟩;exact h)|exact (vK h)
theorem kY(h:kh es=aI)(pos:jC):(lj pos (fo es env)).any (·.1)=aH:=by
 induction es with
 |nil=>rfl
 |cons e es ih=>exact dU (jt h) λh1 h2=>aj (et h1 ..) (ih h2)
theorem e9{Ψ:List V->Mu->Prop}(h:Ψ [] mu):Dt k mu env [] Ψ:=⟨λ{z z z z z z z} hA r q=>ar (q .rfl .nil r h)⟩
theorem cA{Ψ:List V->Mu->Prop}(h:WE k mu env e λy nu=>Dt k nu env es λys nu'=>Ψ (y::ys) nu')(hs:∀a p,e≠ .Starred a p:=by intro z z h;cases h):Dt k mu env (e::es) Ψ:=⟨λ{A E Z s fr pos Q} hA r q=>by
 refine aj (et hs ..) ?_;show aS _ A (dW e env >>=λv=>eW [v] (spliced (lj pos (fo es env))) >>=λr=>dg ([v]++r)) Q E s;exact ag (h.c hA r λ{z z z z z} z1 q1 r1 w1=>ag (bE (w1.c hA r1 λ{z z z z z} z2 q2 r2 w2=>ar (q (z1.trans z2) (.cons (q1.mono z2) q2) r2 w2))))⟩
theorem tC.war{Ψ:List V->Mu->Prop}(h:tC k mu env es (ys.map bZ))(hΨ:Ψ ys mu):Dt k mu env es Ψ:=⟨λ{z z z z z z z} hA r q=>h.c hA r λ{z z z} z1 q1 r1=>q z1 q1.vrels r1 hΨ⟩
theorem He{A:bh}{E:ai->aq->Prop}{fr:Mu}{Q:ai->aq->Prop}{Ψ:List V->Mu->Prop}{a:ay}{ob:o6}{fd:cm}{first:List ai}(ha:Dt k mu env (e::es) Ψ)(wy:kh (e::es)=aI)(hA:Rm k A)(r:R Z (mu++fr) s)
 (h:∀{vs s' Z' ys nu},Z.le Z'->bW G Z' vs ys->R Z' (nu++fr) s'->Ψ ys nu->(s'.heap.get? a=ae ob/\ob.data= .func fd)/\aS (aX G.prog G.w) A (ku (.ref a) (first++vs) []) Q E s'):aS (aX G.prog G.w) A (pE pos (.ref a) first (lj pos (fo (e::es) env)) []) Q E s:=by
 refine callWith_function (o:=ob) (fd:=fd) ?_;have hr:=ha.c (E:=E) (pos:=pos) hA r h;rw [et (jt wy).1] at hr ⊢;exact Jz hr
theorem Hf{A:bh}{E:ai->aq->Prop}{fr:Mu}{Q:ai->aq->Prop}{id:String}{Ps:List (Vw)}{first:List ai}(ha:tC k mu env (e::es) Ps)(hA:Rm k A)(r:R Z (mu++fr) s)
 (h:∀{vs s' Z'},Z.le Z'->j3 Z' vs Ps->R Z' (mu++fr) s'->aS (aX G.prog G.w) A (ku (.builtin id) (first++vs) []) Q E s'):aS (aX G.prog G.w) A (pE pos (.builtin id) first (lj pos (fo (e::es) env)) []) Q E s:=by
 refine callWith_builtin (ha.plain pos) ?_;have hr:=ha.c (E:=E) (pos:=pos) hA r h;rw [et ha.unstar] at hr ⊢;exact Jz hr
theorem Hg{A:bh}{E:ai->aq->Prop}{fr:Mu}{Q:ai->aq->Prop}{Ψ:List V->Mu->Prop}{id:String}{first:List ai}(ha:Dt k mu env (e::es) Ψ)(wy:kh (e::es)=aI)(hA:Rm k A)(r:R Z (mu++fr) s)
 (h:∀{vs s' Z' ys nu},Z.le Z'->bW G Z' vs ys->R Z' (nu++fr) s'->Ψ ys nu->aS (aX G.prog G.w) A (ku (.builtin id) (first++vs) []) Q E s'):aS (aX G.prog G.w) A (pE pos (.builtin id) first (lj pos (fo (e::es) env)) []) Q E s:=by
 refine callWith_builtin (kY wy pos) ?_;have hr:=ha.c (E:=E) (pos:=pos) hA r h;rw [et (jt wy).1] at hr ⊢;exact Jz hr
theorem ml{f:bb}{a:ay}{ob:o6}{fd:cm}(hf:PE k mu env (.Name f p) (.ref a))(h0:G.Z0 a=ae ob)(hd:ob.data= .func fd)(ha:Dt k mu env (e::es) λys nu=>FW k nu (.ref a) ys Φ)(hs:∀a p,e≠ .Starred a p:=by intro z z h;cases h):
 WE k mu env (.Call (.Name f p) (e::es) [] pos) Φ:=⟨λ{A E Z s fr Q} hA r q=>by
 with_reducible refine gB ?_
 refine hf.c hA r λ{f s1 Z1} z1 q1 r1=>aj (aZ.refE q1 ..) ?_;exact iJ hd (ha.c hA r1 λ{z z z z z} z2 q2 r2 w2=>⟨r2.z0in _ _ h0,w2.c hA r2 q2 λ{z z z z z} z3=>q (z1.trans (z2.trans z3))⟩) (et hs)⟩
structure rK(G:Gd)(a:ay)(st:ed):Prop where
 go:∃ob pm cd doc,G.Z0 a=ae ob/\ob.data= .func (mz (md st) (wI st) (fR st) (bk st) pm cd doc)/\∀h:dH,(∀a o,G.Z0 a=ae o->h.get? a=ae o)->h.CodeRec cd (md st)
noncomputable def qz:List (Int×ai):=oJ.mapIdx λi n=>((2:Int) ^ i,.str n (254+2*i))
def Hy(G:Gd):Prop:=
 (g7 G)/\
 (G.mg "pretty_flags"=ae (.ref 72))/\
 (G.mg "COMPILER_FLAG_NAMES"=ae (.ref 65))/\
 (G.mg "_ExceptionTableEntry"=ae (.ref 162))/\
 (G.mg "_parse_varint"=ae (.ref 172))/\
 (G.mg "_parse_exception_table"=ae (.ref 179))/\
 (G.mg "_netrclex"=ae (.ref 217))/\
 (G.mg "TupleComp"=ae (.ref 245))/\
 (G.mg "add_func_stats"=ae (.ref 256))/\
 (G.mg "add_callers"=ae (.ref 263))/\
 (G.mg "count_calls"=ae (.ref 270))/\
 (G.mg "_law_given"=ae (.ref 275))/\
 (G.mg "_law_spelled"=ae (.ref 280))/\
 (G.mg "_law_octets"=ae (.ref 285))/\
 (G.mg "_law_back"=ae (.ref 290))/\
 (G.mg "_law_run"=ae (.ref 297))/\
 (G.mg "_law_hear"=ae (.ref 302))/\
 (G.mg "range"=av)/\
 (G.mg "len"=av)/\
 (G.mg "sum"=av)/\
 (G.mg "enumerate"=av)/\
 (G.mg "int"=av)/\
 (G.mg "bool"=av)/\
 (G.mg "list"=av)/\
 (G.mg "set"=av)/\
 (G.mg "sorted"=av)/\
 (G.mg "hex"=av)/\
 (G.mg "next"=av)/\
 (G.mg "iter"=av)/\
 (G.mg "ord"=av)/\
 (G.mg "chr"=av)/\
 (G.mg "bytes"=av)/\
 (G.mg "isinstance"=av)/\
 (G.mg "tuple"=av)/\
 (G.mg "StopIteration"=av)/\
 ((65 == lY)=aH/\∀h:dH,(∀a o,G.Z0 a=ae o->h.get? a=ae o)->h.DictOf (lu G.prog G.w) 65 qz)/\
 (rK G 72 (cN 4))/\
 (rK G 172 (cN 7))/\
 (rK G 179 (cN 8))/\
 (rK G 256 (cN 13))/\
 (rK G 263 (cN 14))/\
 (rK G 270 (cN 15))/\
 (rK G 275 (cN 17))/\
 (rK G 280 (cN 18))/\
 (rK G 285 (cN 19))/\
 (rK G 290 (cN 20))/\
 (rK G 297 (cN 21))/\
 rK G 302 (cN 22)
section
variable {G:Gd}(h:Hy G)
def Hy.B:=@h.1
def Hy.m_flags:=@h.2.1
def Hy.m_names:=@h.2.2.1
def Hy.m_entry:=@h.2.2.2.1
def Hy.m_varint:=@h.2.2.2.2.1
def Hy.m_table:=@h.2.2.2.2.2.1
def Hy.m_lex:=@h.2.2.2.2.2.2.1
def Hy.m_comp:=@h.2.2.2.2.2.2.2.1
def Hy.m_stats:=@h.2.2.2.2.2.2.2.2.1
def Hy.m_callers:=@h.2.2.2.2.2.2.2.2.2.1
def Hy.m_count:=@h.2.2.2.2.2.2.2.2.2.2.1
def Hy.m_given:=@h.2.2.2.2.2.2.2.2.2.2.2.1
def Hy.m_spelled:=@h.2.2.2.2.2.2.2.2.2.2.2.2.1
def Hy.m_octets:=@h.2.2.2.2.2.2.2.2.2.2.2.2.2.1
def Hy.m_back:=@h.2.2.2.2.2.2.2.2.2.2.2.2.2.2.1
def Hy.m_run:=@h.2.2.2.2.2.2.2.2.2.2.2.2.2.2.2.1
def Hy.m_hear:=@h.2.2.2.2.2.2.2.2.2.2.2.2.2.2.2.2.1
def Hy.b_range:=@h.2.2.2.2.2.2.2.2.2.2.2.2.2.2.2.2.2.1
def Hy.b_len:=@h.2.2.2.2.2.2.2.2.2.2.2.2.2.2.2.2.2.2.1
def Hy.b_sum:=@h.2.2.2.2.2.2.2.2.2.2.2.2.2.2.2.2.2.2.2.1
def Hy.b_enumerate:=@h.2.2.2.2.2.2.2.2.2.2.2.2.2.2.2.2.2.2.2.2.1
def Hy.b_int:=@h.2.2.2.2.2.2.2.2.2.2.2.2.2.2.2.2.2.2.2.2.2.1
def Hy.b_bool:=@h.2.2.2.2.2.2.2.2.2.2.2.2.2.2.2.2.2.2.2.2.2.2.1
def Hy.b_list:=@h.2.2.2.2.2.2.2.2.2.2.2.2.2.2.2.2.2.2.2.2.2.2.2.1
def Hy.b_set:=@h.2.2.2.2.2.2.2.2.2.2.2.2.2.2.2.2.2.2.2.2.2.2.2.2.1
def Hy.b_sorted:=@h.2.2.2.2.2.2.2.2.2.2.2.2.2.2.2.2.2.2.2.2.2.2.2.2.2.1
def Hy.b_hex:=@h.2.2.2.2.2.2.2.2.2.2.2.2.2.2.2.2.2.2.2.2.2.2.2.2.2.2.1
def Hy.b_next:=@h.2.2.2.2.2.2.2.2.2.2.2.2.2.2.2.2.2.2.2.2.2.2.2.2.2.2.2.1
def Hy.b_iter:=@h.2.2.2.2.2.2.2.2.2.2.2.2.2.2.2.2.2.2.2.2.2.2.2.2.2.2.2.2.1
def Hy.b_ord:=@h.2.2.2.2.2.2.2.2.2.2.2.2.2.2.2.2.2.2.2.2.2.2.2.2.2.2.2.2.2.1
def Hy.b_chr:=@h.2.2.2.2.2.2.2.2.2.2.2.2.2.2.2.2.2.2.2.2.2.2.2.2.2.2.2.2.2.2.1
def Hy.b_bytes:=@h.2.2.2.2.2.2.2.2.2.2.2.2.2.2.2.2.2.2.2.2.2.2.2.2.2.2.2.2.2.2.2.1
def Hy.b_isinstance:=@h.2.2.2.2.2.2.2.2.2.2.2.2.2.2.2.2.2.2.2.2.2.2.2.2.2.2.2.2.2.2.2.2.1
def Hy.b_tuple:=@h.2.2.2.2.2.2.2.2.2.2.2.2.2.2.2.2.2.2.2.2.2.2.2.2.2.2.2.2.2.2.2.2.2.1
def Hy.b_stop:=@h.2.2.2.2.2.2.2.2.2.2.2.2.2.2.2.2.2.2.2.2.2.2.2.2.2.2.2.2.2.2.2.2.2.2.1
def Hy.flagD:=@h.2.2.2.2.2.2.2.2.2.2.2.2.2.2.2.2.2.2.2.2.2.2.2.2.2.2.2.2.2.2.2.2.2.2.2.1
def Hy.f72:=@h.2.2.2.2.2.2.2.2.2.2.2.2.2.2.2.2.2.2.2.2.2.2.2.2.2.2.2.2.2.2.2.2.2.2.2.2.1
def Hy.f172:=@h.2.2.2.2.2.2.2.2.2.2.2.2.2.2.2.2.2.2.2.2.2.2.2.2.2.2.2.2.2.2.2.2.2.2.2.2.2.1
def Hy.f179:=@h.2.2.2.2.2.2.2.2.2.2.2.2.2.2.2.2.2.2.2.2.2.2.2.2.2.2.2.2.2.2.2.2.2.2.2.2.2.2.1
def Hy.f256:=@h.2.2.2.2.2.2.2.2.2.2.2.2.2.2.2.2.2.2.2.2.2.2.2.2.2.2.2.2.2.2.2.2.2.2.2.2.2.2.2.1
def Hy.f263:=@h.2.2.2.2.2.2.2.2.2.2.2.2.2.2.2.2.2.2.2.2.2.2.2.2.2.2.2.2.2.2.2.2.2.2.2.2.2.2.2.2.1
def Hy.f270:=@h.2.2.2.2.2.2.2.2.2.2.2.2.2.2.2.2.2.2.2.2.2.2.2.2.2.2.2.2.2.2.2.2.2.2.2.2.2.2.2.2.2.1
def Hy.f275:=@h.2.2.2.2.2.2.2.2.2.2.2.2.2.2.2.2.2.2.2.2.2.2.2.2.2.2.2.2.2.2.2.2.2.2.2.2.2.2.2.2.2.2.1
def Hy.f280:=@h.2.2.2.2.2.2.2.2.2.2.2.2.2.2.2.2.2.2.2.2.2.2.2.2.2.2.2.2.2.2.2.2.2.2.2.2.2.2.2.2.2.2.2.1
def Hy.f285:=@h.2.2.2.2.2.2.2.2.2.2.2.2.2.2.2.2.2.2.2.2.2.2.2.2.2.2.2.2.2.2.2.2.2.2.2.2.2.2.2.2.2.2.2.2.1
def Hy.f290:=@h.2.2.2.2.2.2.2.2.2.2.2.2.2.2.2.2.2.2.2.2.2.2.2.2.2.2.2.2.2.2.2.2.2.2.2.2.2.2.2.2.2.2.2.2.2.1
def Hy.f297:=@h.2.2.2.2.2.2.2.2.2.2.2.2.2.2.2.2.2.2.2.2.2.2.2.2.2.2.2.2.2.2.2.2.2.2.2.2.2.2.2.2.2.2.2.2.2.2.1
def Hy.f302:=@h.2.2.2.2.2.2.2.2.2.2.2.2.2.2.2.2.2.2.2.2.2.2.2.2.2.2.2.2.2.2.2.2.2.2.2.2.2.2.2.2.2.2.2.2.2.2.2
end
theorem th(H:Hy G){a:ay}{st:ed}(F:rK G a st){names:List bb}{vals':ay->ej}
 (i0:∀pm cd doc vs,vs.length=xs.length->pI (xy st pm cd doc) ⟨vs,[]⟩=dg (names.zip vs)) (hnd:(aM 0 (bk st).names).nd) (hk:(bk st).kind= .function)
 (hb:∀pm cd doc L,i9 (dT (xy st pm cd doc) a L) L (aM (L+1) (bk st).names) names xs (nones (aM (L+1) (bk st).names)) (vals' L))
 (h:∀pm cd doc L,du (dT (xy st pm cd doc) a L)->WS k (bq L (aM (L+1) (bk st).names) (vals' L)::mu) (dT (xy st pm cd doc) a L) (fR st) (lE Φ)) (wx:autoParam ((bk st).isCoroutine=aH) aR) (mQ:autoParam ((bk st).isGenerator=aH) aR):
 FW (k+1) mu (.ref a) xs Φ:=by
 exact cq (F.go) λob pm cd doc h0 hd hcd=>KD H.B (names:=names) (vals':=vals') (Kn.z0 h0) hd (λZ s r=>hcd _ r.z0in) rfl (i0 pm cd doc) hnd (λL=>⟨hk,rfl,rfl⟩) (hb pm cd doc) (λL=>h pm cd doc L ⟨hk,rfl,rfl⟩) wx mQ
theorem iN(H:Hy G)(he:du env){x:bb}{n:String}(hm:G.mg x=av)(hk:env.kindOf x=ae .globalImplicit)(hb:autoParam (Jx x=ae (.type n)) aR)(hn:autoParam (x≠"__name__") aD)(hd:autoParam ((x == ("__debug__":bb))=aH) aD):PE k mu env (.Name x p) (.type n):=
 Qi H.B he hk hm hb (aZ.type n) hn hd
theorem j4(H:Hy G)(he:du env){x:bb}{n:String}(hm:G.mg x=av)(hk:env.kindOf x=ae .globalImplicit)(hb:autoParam (Jx x=ae (.builtin n)) aR)(hn:autoParam (x≠"__name__") aD)(hd:autoParam ((x == ("__debug__":bb))=aH) aD):PE k mu env (.Name x p) (.bi n):=
 Qi H.B he hk hm hb (aZ.bi n) hn hd
theorem mn(H:Hy G)(he:du env){x:bb}{a:ay}(hm:G.mg x=ae (.ref a))(hk:env.kindOf x=ae .globalImplicit)(hd:autoParam ((x == ("__debug__":bb))=aH) aD):PE k mu env (.Name x p) (.ref a):=
 N8 H.B he hk hm (aZ.ref a) hd
section
variable {v:V}{scope:eU}{C:ay}{cl:List (bb×ay)}
theorem du.comp(h:du env)(hk:autoParam (scope.kind= .function) aR):du (pf scope cl C env):=⟨hk,h.globals,h.builtins⟩
theorem bM(h:PE k mu env e x)(e1:x=y):PE k mu env e y:=e1▸h
noncomputable abbrev TV(scope:eU)(C:ay)(j:Nat)(v:V):cX:=nE scope C ((nones (aM (C+1) scope.names)).set j (ae v))
noncomputable abbrev RB(scope:eU)(C:ay)(i j:Nat)(v u:V):cX:=nE scope C (((nones (aM (C+1) scope.names)).set i (ae v)).set j (ae u))
theorem qA{di:gP}{t:bb}{j:Nat}{bB:ej}(he:du di)(sl:Sl di C (aM (C+1) scope.names) t j)(hf:autoParam ((di.kindOf t == ae .free)=aH) aR):
 mK k (nE scope C bB::mu) di (.Name t p) v λnu=>nu=nE scope C (bB.set j (ae v))::mu:=aQ (i:=0) he sl rfl rfl hf
theorem xC{di:gP}{t u:bb}{i j kk:Nat}{p1 p2:jC}{bB:ej}(he:du di)(s1:Sl di C (aM (C+1) scope.names) t i)(s2:Sl di C (aM (C+1) scope.names) u j)
 (hf:autoParam ((di.kindOf t == ae .free)=aH) aR) (hf':autoParam ((di.kindOf u == ae .free)=aH) aR):
 mK k (nE scope C bB::mu) di (.Tuple [.Name t p1,.Name u p2] kk p) (.tup [v,x]) λnu=>nu=nE scope C ((bB.set i (ae v)).set j (ae x))::mu:=
 i7 (cv rfl rfl (aQ (i:=0) he s1 rfl (cv rfl rfl (aQ (i:=0) he s2 rfl (iX rfl) hf')) hf))
theorem iu{di:gP}{t:bb}{ifs:List bH}{elt:bH}(j:Nat)(he:du di)(sl:Sl di C (aM (C+1) scope.names) t j)(hi:xc k (TV scope C j v::mu) di ifs b)(h:b=aI->PE k (TV scope C j v::mu) di elt y)
 (hf:autoParam ((di.kindOf t == ae .free)=aH) aR):zP k mu scope C di (.Name t p) ifs elt v b y:=⟨_,qA he sl hf,hi,h⟩
theorem tI{di:gP}{t u:bb}{ifs:List bH}{elt:bH}{kk:Nat}{p1 p2:jC}(i j:Nat)(he:du di)(s1:Sl di C (aM (C+1) scope.names) t i)(s2:Sl di C (aM (C+1) scope.names) u j)
 (hi:xc k (RB scope C i j v x::mu) di ifs b) (h:b=aI->PE k (RB scope C i j v x::mu) di elt y)
 (hf:autoParam ((di.kindOf t == ae .free)=aH) aR) (hf':autoParam ((di.kindOf u == ae .free)=aH) aR):zP k mu scope C di (.Tuple [.Name t p1,.Name u p2] kk p) ifs elt (.tup [v,x]) b y:=⟨_,xC he s1 s2 hf hf',hi,h⟩
theorem BQ{di:gP}{t:bb}{ifs:List bH}{ke ve:bH}{kx:bb}(j:Nat)(he:du di)(sl:Sl di C (aM (C+1) scope.names) t j)(hi:xc k (TV scope C j v::mu) di ifs b)(h1:b=aI->PE k (TV scope C j v::mu) di ke (.str kx))(h2:b=aI->PE k (TV scope C j v::mu) di ve y)
 (hf:autoParam ((di.kindOf t == ae .free)=aH) aR):AC k mu scope C di (.Name t p) ifs ke ve v b kx y:=⟨_,qA he sl hf,hi,λh=>⟨h1 h,h2 h⟩⟩
theorem KF{di:gP}{t u:bb}{ifs:List bH}{ke ve:bH}{kx:bb}{kk:Nat}{p1 p2:jC}(i j:Nat)(he:du di)(s1:Sl di C (aM (C+1) scope.names) t i)(s2:Sl di C (aM (C+1) scope.names) u j)
 (hi:xc k (RB scope C i j v x::mu) di ifs b) (h1:b=aI->PE k (RB scope C i j v x::mu) di ke (.str kx)) (h2:b=aI->PE k (RB scope C i j v x::mu) di ve y)
 (hf:autoParam ((di.kindOf t == ae .free)=aH) aR) (hf':autoParam ((di.kindOf u == ae .free)=aH) aR):AC k mu scope C di (.Tuple [.Name t p1,.Name u p2] kk p) ifs ke ve (.tup [v,x]) b kx y:=⟨_,xC he s1 s2 hf hf',hi,λh=>⟨h1 h,h2 h⟩⟩
theorem kz{α:Type}(as:List α):as.filter (λz=>aI)=as:=by
 induction as with
 |nil=>rfl
 |cons a l ih=>(refine aj (hZ ..) ?_;refine aj (if_pos rfl ..) ?_;refine aj (ih ..) ?_;rfl)
theorem jP{α:Type}{elt iter t:bH}{spos:jC}(as:List α)(inj g:α->V)(sc:Fb scope env cl)(src:pd k mu env iter t ctx (as.map inj))(hk:1<=k)(hsz:as.length<=2 ^ 21)
 (turn:∀C a,a∈as->zP k mu scope C (pf scope cl C env) t [] elt (inj a) aI (g a)) (hs:autoParam (∀x,bw iter env x=dg x) aR):
 PE k mu env (.ListComp elt [⟨t,iter,[],0⟩] scope spos) (.list (as.map g)):=by
 have:=nF (spos:=spos) as inj (λz=>aI) g sc src hk hsz turn hs
 rwa [kz] at this
theorem RC{α:Type}{elt iter t:bH}{spos:jC}(as:List α)(inj g:α->V)(sc:Fb scope env cl)(src:pd k mu env iter t ctx (as.map inj))(hk:1<=k)(hsz:as.length<=2 ^ 21)
 (turn:∀C a,a∈as->zP k mu scope C (pf scope cl C env) t [] elt (inj a) aI (g a)) (hΘ:∀D,fL D (bl D (as.map g)::mu) Φ) (hs:autoParam (∀x,bw iter env x=dg x) aR):
 WE k mu env (.ListComp elt [⟨t,iter,[],0⟩] scope spos) Φ:=
 Qm (spos:=spos) as inj (λz=>aI) g sc src hk hsz turn (λD=>by refine aj (kz ..) ?_;exact hΘ D) hs
theorem FM{α:Type}{elt iter t:bH}{spos apos py:jC}{z:bb}{Ψ:AF->Mu->Prop}(as:List α)(inj g:α->V)(sc:Fb scope env cl)(src:pd k mu env iter t ctx (as.map inj))(hk:1<=k)(hsz:as.length<=2 ^ 21)
 (turn:∀C a,a∈as->zP k mu scope C (pf scope cl C env) t [] elt (inj a) aI (g a))
 (SQ:xn (.ListComp elt [⟨t,iter,[],0⟩] scope spos) (ae (.Name z py)) apos.line env=dg aI)
 (hΘ:∀D,fL D (bl D (as.map g)::mu) λv nu=>mK k nu env (.Name z py) v (Ψ .next)) (hs:autoParam (∀x,bw iter env x=dg x) aR):
 WX k mu env (.Assign [.Name z py] (.ListComp elt [⟨t,iter,[],0⟩] scope spos) apos) Ψ:=
 Qn (spos:=spos) as inj (λy=>aI) g sc src hk hsz turn SQ (λD=>by refine aj (kz ..) ?_;exact hΘ D) hs
noncomputable def vw(mu:Mu):V->Vw
 | .list xs=>me mu xs
 | .dict es=>NA mu es
 |y=>bZ y
theorem cP(h:PE k mu env e y):EV k mu env e (vw mu y):=by cases y <;> first|exact h|exact dD h|exact pM h
theorem tJ{a:Int}(h:a.natAbs < 2 ^ 64):sQ a<=64:=by
 unfold sQ
 split
 ·with_reducible exact gp _
 ·rename_i h0;have h0':a≠0:=by simpa using h0
  have:a.natAbs.log2 < 64:=(Nat.log2_lt (by lia)).mpr h;lia
theorem mY{a c:Int}(h: -(2 ^ 63) < a/\a < 2 ^ 63):xP k mu .Mult (bZ (.int a)) (bZ (.int c)) (bZ (.int (a*c))):=Ke (IntMulOk.of_left (tJ (by lia)))
theorem sE{a c:Int}(h: -(2 ^ 63) < c/\c < 2 ^ 63):xP k mu .Mult (bZ (.int a)) (bZ (.int c)) (bZ (.int (a*c))):=Ke (IntMulOk.of_right (tJ (by lia)))
theorem l9{a c:Int}(h:0 < c/\c < 2 ^ 30):xP k mu .FloorDiv (bZ (.int a)) (bZ (.int c)) (bZ (.int (a / c))):=by
 have:=Rl (k:=k) (mu:=mu) (a:=a) (b:=c) (by lia) (PyProof.noPylong_small (by lia))
 rwa [JF _ (by lia)] at this
theorem fk{a c:Int}(h:0 < c):xP k mu .Mod (bZ (.int a)) (bZ (.int c)) (bZ (.int (a % c))):=by
 have:=Rk (k:=k) (mu:=mu) (a:=a) (b:=c) (by lia)
 rwa [Int.fmod_eq_emod_of_nonneg _ (by exact Int.le_of_lt (by assumption))] at this
theorem Hh{a c:Int}(h:0<=c):xP k mu .RShift (bZ (.int a)) (bZ (.int c)) (bZ (.int (a / 2 ^ c.toNat))):=by
 have:=Ro (k:=k) (mu:=mu) (a:=a) (b:=c) h
 rwa [JF _ (Int.pow_nonneg (by decide))] at this
theorem BR{a c:Int}(ha:0<=a/\a < 2 ^ 63)(h:0<=c/\c<=1000):xP k mu .Pow (bZ (.int a)) (bZ (.int c)) (bZ (.int (a ^ c.toNat))):=Rn h.1 (by
 have:=tJ (a:=a) (by lia);have h2:(sQ a:Int)*c<=64*1000:=Int.mul_le_mul (by lia) h.2 h.1 (by lia);have:(64*1000:Int)<=2 ^ 27:=by decide
 with_reducible exact Int.le_trans (by assumption) (by decide))
theorem RD{t a f:bH}{i j:Int}(ht:PT k mu env t b)(ha:b=aI->PE k mu env a (.int i))(hf:b=aH->PE k mu env f (.int j)):PE k mu env (.IfExp t a f p) (.int (if b then i else j)):=
 uH ht (λh=>by refine aj (if_pos h ..) ?_;exact ha h) (λh=>by refine aj (if_neg (by rw [h];decide) ..) ?_;exact hf h)
theorem BS{t a f:bH}{i j:bb}(ht:PT k mu env t b)(ha:b=aI->PE k mu env a (.str i))(hf:b=aH->PE k mu env f (.str j)):PE k mu env (.IfExp t a f p) (.str (if b then i else j)):=
 uH ht (λh=>by refine aj (if_pos h ..) ?_;exact ha h) (λh=>by refine aj (if_neg (by rw [h];decide) ..) ?_;exact hf h)
theorem rL{α:Type}{l:List α}{f:α->bb}{sep:bb}(hok:Nk sep (l.map f)=aI):Fn k mu (.builtin "str.join") [bZ (.str sep),me mu (l.map λa=>V.str (f a))] (bZ (.str (fO sep (l.map f)))):=by
 have:=Hd (k:=k) (mu:=mu) (sep:=sep) (ts:=l.map f) hok
 rwa [a0] at this
theorem uN{α:Type}{l:List α}{f:α->Int}:Fn k mu (.builtin "sum") [me mu (l.map λa=>V.int (f a))] (bZ (.int (l.map f).sum)):=by
 have:=Kw (k:=k) (mu:=mu) (ns:=l.map f)
 rwa [a0] at this
theorem KG(c:Nat):(⟨#[c]⟩:bb).length<=2 ^ 22:=by show 1<=2 ^ 22;decide
theorem uO{a c:bb}(h1:a.length<=2 ^ 22)(h2:c.length<=2 ^ 22):xP k mu .Add (bZ (.str a)) (bZ (.str c)) (bZ (.str (a++c))):=FB (by show _<=2 ^ 24;lia)
theorem Qq{i:Int}(h0:0<=i)(h1:i < (xs.length:Int))(hn:xs.length < 2 ^ 60):Gi k mu (bZ (.tup xs)) (bZ (.int i)) (bZ (xs.getD i.toNat .none)):=
 Kv (by unfold j9;refine aj (if_neg (by exact Int.not_lt.mpr (by assumption)) ..) ?_;refine aj (bR ..) ?_;refine aj (bJ (by lia) ..) ?_;rfl) (by lia) (by lia) (by exact cb (by assumption) (by decide))
theorem ki{y:V}{a:cX}(h:Φ y mu):lE Φ (.ret y) (a::mu):=jK.tail (jK.keep h)
end
section
variable {α:Type}{M:List α->Prop}{vs:List α}
@[elab_as_elim] theorem uP(h:vs.length=1)(f:∀a,M [a]):M vs:=by obtain ⟨a,rfl⟩:=List.length_eq_one_iff.mp h;exact f a
theorem rM{n:Nat}(h:vs.length=n+1)(f:∀a t,t.length=n->M (a::t)):M vs:=by
 cases vs with
 |nil=>cases h
 |cons a t=>exact f a t (Nat.succ.inj h)
@[elab_as_elim] theorem zR(h:vs.length=2)(f:∀a b,M [a,b]):M vs:=rM h λa t h=>uP (M:=λt=>M (a::t)) h (f a)
@[elab_as_elim] theorem Om(h:vs.length=3)(f:∀a b c,M [a,b,c]):M vs:=rM h λa t h=>zR (M:=λt=>M (a::t)) h (f a)
@[elab_as_elim] theorem RF(h:vs.length=4)(f:∀a b c d,M [a,b,c,d]):M vs:=rM h λa t h=>Om (M:=λt=>M (a::t)) h (f a)
@[elab_as_elim] theorem len5(h:vs.length=5)(f:∀a b c d e,M [a,b,c,d,e]):M vs:=rM h λa t h=>RF (M:=λt=>M (a::t)) h (f a)
@[elab_as_elim] theorem len6(h:vs.length=6)(f:∀a b c d e g,M [a,b,c,d,e,g]):M vs:=rM h λa t h=>len5 (M:=λt=>M (a::t)) h (f a)
end
structure BU(k:Nat)(mu:Mu)(f:ai)(Ps:List (Vw))(Φ:V->Mu->Prop):Prop where
 c:∀{A:bh} {E:ai->aq->Prop} {Z:bI} {s:aq} {fr:Mu} {vs:List ai} {Q:ai->aq->Prop},Rm k A->R Z (mu++fr) s->j3 Z vs Ps->
  (∀{w s' Z' y nu},Z.le Z'->aZ G Z' w y->R Z' (nu++fr) s'->Φ y nu->Q w s')->aS (aX G.prog G.w) A (ku f vs) Q E s
section
variable {o:bH}{Ps:List (Vw)}{i:Nat}
theorem j5(hm:bl D xs∈mu):Ty mu (bZ (.ref D)) "list":=⟨λZ s fr v r h=>by
 refine eD (r.sat _ (aE fr hm)) λvs n h1 h2=>aj (aZ.refE h ..) ?_;exact Ty.at h1 rfl rfl⟩
theorem mZ{id T:String}{name:bb}{apos:jC}(ho:EV k mu env o P)(ht:Ty mu P T)(ha:tC k mu env (e::es) Ps)(hF:BU k mu (.builtin id) (P::Ps) Φ)(pa:zr T)(slot:Slot T name id)
 (MW:jU (.builtin id)=dg (.type "method_descriptor")) (hl:(apos.endLine == pos.line)=aI) (wy:autoParam (kh (e::es)=aI) aR) (hsz:autoParam ((e::es).length < 29) aD) (sk:autoParam (rn o name env (dW o env)=dW o env) aR):
 WE k mu env (.Call (.Attribute o name apos) (e::es) [] pos) Φ:=⟨λ{z z z z z z} hA r q=>Ki ho ht ha pa slot MW hl hsz sk hA r λ{z z z z} z1 q1 r1=>hF.c hA r1 q1 λ{z z z z z} z2=>q (z1.trans z2)⟩
theorem kA(hi:mu[i]? =ae (bl D xs))(hl:xs.length < 2 ^ 22)(h:Φ .none (mu.set i (bl D (xs++[y])))):BU k mu (.builtin "list.append") [bZ (.ref D),bZ y] Φ:=⟨λ{z z z z z z z} hA r hq q=>by
 refine cC (hq.two) λv u dO q1 q2=>?_;subst dO;refine aj (aZ.refE q1 ..) ?_;exact Az r hi hl q2 λ{z} r2=>q .rfl .none r2 h⟩
theorem yb{fr:Mu}{h':dH}{vs:Array ai}{n tk:Nat}{ys:List V}(r:R Z (mu++fr) s)(hi:mu[i]? =ae (bl D xs))(hk:∀b o,b≠D->s.heap.get? b=ae o->h'.get? b=ae o)(h:h'.get? D=ae (oK vs n))(hr:bW G Z vs.toList ys):
 R Z (mu.set i (bl D ys)++fr) {s with heap:=h',toks:=tk}:=
 gE hi▸r.upd' (tk:=tk) (cH (fr:=fr) hi) rfl (λb o hb e=>hk b o (λq=>hb (q▸aa)) e) ⟨_,_,h,hr⟩
theorem wO{a b:Nat}(h:a+b < 2 ^ 22):wG (a+b)=aH:=by unfold wG;have:er=2 ^ 24:=rfl;simp;exact aw (eB (by assumption)) (by decide)
theorem Il(hi:mu[i]? =ae (bl D xs))(hl:xs.length+ys.length < 2 ^ 22)(h:Φ .none (mu.set i (bl D (xs++ys)))):BU k mu (.builtin "list.extend") [bZ (.ref D),bZ (.list ys)] Φ:=⟨λ{A E Z s fr vs Q} hA r hq q=>by
 refine cC (hq.two) λv u eT q1 q2=>?_;subst eT;refine aj (aZ.refE q1 ..) (cE (rj.list q2) λb ws m gi e1 hr=>?_);subst gi;refine eD (r.sat _ (ao (cH (fr:=fr) hi))) λvs n h2 h3=>?_;have l1:=b9 h3;have l2:=b9 hr;rw [l1,l2] at hl;refine l6 F.slot_list_extend (⟨_,h2,rfl⟩:s.TypeIs (.ref D) "list") F.entry_list_extend (F.args_list_extend_2 _ _) (AutoSeq1.list_extend_list_list_0 D vs n b ws m ?_ (by show _<=2 ^ 24;lia) (by show _<=2 ^ 24+1;exact aw (eB (by assumption)) (by decide))) ⟨h2,r.zin _ _ e1,?_⟩
 ·refine aj (wO hl ..) ?_;simp
 ·have hm:=NQ vs ws n av #[];exact q .rfl .none (yb r hi (λc o hb e=>(bY ..).extBut c o hb e) ((bS _ h2 (by refine aj (hm ..) ?_;rfl)).trans (congrArg ae hm)) (by refine aj (lB ..) ?_;exact h3.append hr)) h⟩
theorem On(hi:mu[i]? =ae (bl D (y::xs)))(hl:xs.length < 2 ^ 22)(h:Φ y (mu.set i (bl D xs))):BU k mu (.builtin "list.pop") [bZ (.ref D),bZ (.int 0)] Φ:=⟨λ{A E Z s fr vs Q} hA r hq q=>by
 refine cC (hq.two) λv u iC q1 q2=>?_;subst iC;refine aj (aZ.refE q1 ..) (cJ (gF q2) λtk kG=>?_);subst kG;refine eD (r.sat _ (ao (cH (fr:=fr) hi))) λvs n h2 h3=>?_;have l1:xs.length+1=vs.size:=b9 h3;refine cC (h3.cons_inv) λw ws h6 h5 hr=>?_;have h4':vs[0]? =ae w:=bV.symm.trans (by refine aj (h6 ..) ?_;rfl);refine l6 F.slot_list_pop (⟨_,h2,rfl⟩:s.TypeIs (.ref D) "list") F.entry_list_pop (F.args_list_pop_2 _ _) (MeetsSeq.list_pop_at D vs n 0 tk 0 w (by decide) (by unfold Nj;refine fZ (l1 ..) ?_;simp) h4' (by refine fZ (l1 ..) ?_;show _<=2 ^ 24;lia)) ⟨h2,?_⟩;have hm:=PyProof.Rows.mapSeq_erase vs n 0 (by refine fZ (l1 ..) ?_;exact Nat.succ_pos _);exact q .rfl h5 (yb r hi (λc o hb e=>(bY ..).extBut c o hb e) ((bS _ h2 (by refine aj (hm ..) ?_;rfl)).trans (congrArg ae hm)) (by (refine aj (gQ ..) ?_;refine aj (h6 ..) ?_);exact hr)) h⟩
structure ForM(Z:bI)(Inv:Nat->Nat->List V->Mu->Prop)(it:Nat->cX)(fr:Mu)(m:Nat)(s':aq):Prop where
 ex:∃i xs Z' nu,Z.le Z'/\R Z' (it i::(nu++fr)) s'/\Inv m i xs nu
theorem Hi{zl:jC}{body orelse:List ed}{Ψ:AF->Mu->Prop}(Inv:Nat->Nat->List V->Mu->Prop)(he:PE k mu env e (.ref D))(hk:1<=k)(m0:Nat)(xs0:List V)(h0:Inv m0 0 xs0 mu)(ql:∀m i xs nu,Inv m i xs nu->bl D xs∈nu)
 (step:∀m i xs nu x,Inv m i xs nu->xs[i]? =ae x->mK k nu env t x λrt=>WS k rt env body (kW (λud=>∃m' Ug,m' < m/\Inv m' (i+1) Ug ud) Ψ))
 (fin:∀m i xs nu,Inv m i xs nu->xs.length=i->WS k nu env orelse Ψ) (hlen:∀m i xs nu,Inv m i xs nu->i<=xs.length) (hf:autoParam (∀x,bw e env x=dg x) aR):WX k mu env (.For t e body orelse zl) Ψ:=⟨λ{A E Z s fr Q} hA r q=>by
 with_reducible refine wpAny_For ?_ hf
 refine G9 he (ql m0 0 xs0 mu h0) hA r λ{I s1 Z1} iP z1 r1=>BJ (ForM Z Inv (Km I D) fr) (λm s' h=>?_) m0 ⟨0,xs0,Z1,mu,z1,r1,h0⟩;refine cq (h.ex) λi xs Z' nu z r inv=>?_;have hc:∀o∈[bl D xs],o∈nu++fr:=λo ho=>aA.mp ho▸aE fr (ql m i xs nu inv);rcases Nat.lt_or_eq_of_le (hlen m i xs nu inv) with hi|rfl
 ·refine ⟨λ{y y} hn hs=>(xV iP).item i _ (bJ hi) (hA.le hk) hc r λ{v s3} h3=>hs (h3 λ{s4 Z4} z4 hv r4=>?_)⟩;exact (step m i xs nu _ inv (bJ hi)).c hA (r4.perm cu.symm) hv λ{s5 Z5 nu5} z5 r5 w5=>w5.c hA r5 λ{f s6 Z6 a nu6} z6 f6 r6 w6=>oN.of (fr:=fr) f6 w6 (λ⟨m',Ug,w7,w8⟩=>⟨m',w7,i+1,Ug,Z6,nu6,z.trans (z4.trans (z5.trans z6)),r6.perm cu,w8⟩) λ{y y} hg=>q (z.trans (z4.trans (z5.trans z6))) hg (R.drop (r6.perm cu))
 ·exact ⟨λ{y y} hn hs=>(xV (t:=t) iP).done (hA.le hk) hc r λ{y y} z3 r3=>hn ((fin m _ xs nu inv rfl).c hA r3 λ{y y y y y} z4=>q (z.trans (z3.trans z4)))⟩⟩
noncomputable abbrev nV(n:Nat):V:= .int n
theorem Dv(l:List Nat):(l.map nV)=(l.map fB).map V.int:=by refine aj (a0 ..) ?_;rfl
theorem Hj(l:List Nat)(n:Nat):(l.map fB).any (· == (n:Int))=decide (n∈l):=by
 refine gj (cj ..) ?_;simp only [cS,aG,beq_iff_eq,decide_eq_true_eq];constructor
 ·intro ma;refine aK ma λz mE h=>?_;clear ma;refine aK mE λa ha q7=>?_;clear mE;subst q7;have:a=n:=Nn h;exact this▸ha
 ·exact λh=>⟨_,⟨n,h,rfl⟩,rfl⟩
theorem KH{n:Nat}{l:List Nat}:ta k mu .In (bZ (.int n)) (me mu (l.map nV)) (decide (n∈l)):=by
 have:=RA (k:=k) (mu:=mu) (i:=(n:Int)) (ns:=l.map fB)
 rwa [Hj,<- Dv] at this
theorem Hk{n:Nat}{l:List Nat}:ta k mu .NotIn (bZ (.int n)) (me mu (l.map nV)) (!decide (n∈l)):=by
 have:=Oj (k:=k) (mu:=mu) (i:=(n:Int)) (ns:=l.map fB)
 rwa [Hj,<- Dv] at this
theorem ew{α:Type}{as:List α}{inj:α->V}{j:Nat}{a:α}(h:as[j]? =ae a)(hn:as.length < 2 ^ 60):Gi k mu (me mu (as.map inj)) (bZ (.int (j:Nat))) (bZ (inj a)):=
 have hj:=(aB.mp h).1
 Rv (by unfold j9;refine aj (if_neg (by lia) ..) ?_;refine aj (aJ ..) ?_;show as[((j:Nat):Int).toNat]?.map inj=_;(refine aj (b8 ..) ?_;refine aj (h ..) ?_);rfl) (by lia) (by lia) (by simp;exact cb (by assumption) (by decide))
theorem xD{α:Type}{as:List α}{inj:α->V}{a:α}(h:as.getLast? =ae a)(hn:as.length < 2 ^ 60):Gi k mu (me mu (as.map inj)) (bZ (.int (-1))) (bZ (inj a)):=by
 have iP:as≠[]:=by intro e;subst e;simp at h
 have hp:0 < as.length:=zw.mpr iP;refine Rv ?_ (by simp;lia) (by decide) (by simp;exact cb (by assumption) (by decide));unfold j9;refine aj (if_pos (by decide) ..) ?_;refine aj (ak ..) ?_;refine aj (aJ ..) ?_;refine aj (show ((-1:Int)+(as.length:Nat)).toNat=as.length - 1 by lia) ?_;refine fZ (List.getLast?_eq_getElem? ..) ?_;refine aj (h ..) ?_;rfl
theorem FW.fn{f:ai}(h:FW k mu f xs λv nu=>v=y/\nu=mu):Fn k mu f (xs.map bZ) (bZ y):=⟨λ{x x x x x x x} hA r hq q=>h.c hA r hq.vrels λ{x x x x x} z w r e=>q z (e.1▸w) (e.2▸r)⟩
theorem FW.mono{Ψ:V->Mu->Prop}{f:ai}(h:FW k mu f xs Φ)(hi:∀y nu,Φ y nu->Ψ y nu):FW k mu f xs Ψ:=⟨λ{x x x x x x x} hA r hv q=>h.c hA r hv λ{x x x x x} z w r u=>q z w r (hi _ _ u)⟩
theorem FW.le{j:Nat}{f:ai}(h:FW j mu f xs Φ)(hj:j<=k):FW k mu f xs Φ:=⟨λ{z z z z z z z} hA=>h.c (hA.le hj)⟩
theorem jK.tell{nu':Mu}(h:fL D nu λy nu=>nu'.Sublist nu/\Φ y nu'):jK (.ref D) nu Φ:=⟨λ{x x x x x} r v q=>h.c r λ{x x x} z w r e=>q z ((aZ.refE v).symm▸w) (r.sublist (e.1.append (sR _))) e.2⟩
theorem jK.list{nu':Mu}(hs:nu'.Sublist mu)(h:Φ (.list xs) nu'):jK (.ref D) (bl D xs::mu) Φ:=jK.tell (fL.list ⟨hs,h⟩)
theorem jK.dict{nu':Mu}{es:List (bb×V)}(hs:nu'.Sublist mu)(h:Φ (.dict es) nu'):jK (.ref D) (cD D es::mu) Φ:=jK.tell (fL.dict ⟨hs,h⟩)
end
end
section
variable {k i j kk:Nat}{mu nu:Mu}{env:gP}{p pos tp:jC}{e t o:bH}{xs ys:List V}{b:Bool}{Z:bI}{s:aq}{y:V}{P S:Vw}{D:ay}{elts:List bH}
noncomputable def Im(cl:String)(es:List (bb×V)):Vw:=
 ⟨λZ v=>∃a d o,v= .ref a/\Z a=ae o/\o.cls= .type cl/\o.data= .fields #[.ref d]/\aZ G Z (.ref d) (.dict es),
  λZ Z' v h=>bQ λa=>bQ λd=>bQ λo w=>⟨w.1,h _ _ w.2.1,w.2.2.1,w.2.2.2.1,w.2.2.2.2.mono h⟩⟩
theorem uQ{i j:String}{b:Builtin}(h1:CX i=av)(h2:i.cutAt '#'=[i])(h3:PySem.W.S.canonicalZ (String.map (λc=>if (c.isAlphanum || c == '_' || c == '.')=aI then c else '_') i)++""=j)(h4:CX j=ae b):uo TI i=ae b:=
 entryFor_alias ((fastTable_eq_tree i).trans h1) h2 (PySem.W.S.canonicalZ_eq▸h3) ((fastTable_eq_tree j).trans h4)
theorem yc:uo TI "dict_itemiterator.__iter__"=ae Builtin.«dict_keyiterator.__iter__»:=
 uQ (j:="dict_keyiterator.__iter__") (by kernel_rfl) rfl (by kernel_rfl) (by kernel_rfl)
section
variable {es:List (bb×V)}{x:bb}{Φ:AF->Mu->Prop}
theorem m7{v:ai}(r:R Z mu s)(h:aZ G Z v (.dict es)):∃d kvs ep,v= .ref d/\(d == lY)=aH/\s.heap.DictAt (strKind G.prog G.w) d kvs ep/\s.heap.DictOf (strKind G.prog G.w) d kvs/\kvs.map (·.1)=es.map (·.1)/\bW G Z (kvs.map (·.2)) (es.map (·.2))/\(∃o,Z d=ae o)/\
 (∀h:dH,(∀a o,Z a=ae o->h.get? a=ae o)->h.DictAt (strKind G.prog G.w) d kvs ep):=by
 refine wH (aZ.dict_inv h) λa o kvs dO hq e1 eT hk hr=>?_;subst dO;refine vI eT λd1 ND ep d=>?_;clear eT;have ho:=r.zin _ _ e1;exact ⟨a,kvs,ep,rfl,hq,⟨o,ND,ho,d1,d⟩,⟨o,ND,ep,ho,d1,d⟩,hk,hr,⟨_,e1⟩,λh hz=>⟨o,ND,hz _ _ e1,d1,d⟩⟩
theorem rN:Ty mu (bZ (.dict es)) "dict":=⟨λZ s fr v r h=>by
 refine g6 (aZ.dict_inv h) λa o kvs gi hq e1 d z=>?_;subst gi;exact Ty.at (r.zin _ _ e1) d.1.1 d.1.2.1⟩
theorem Dw{d:ay}{cl:String}{T:Prop}(r:R Z mu s)(h:aZ G Z (.ref d) (.dict es))(q:∀{Z'},Z.le Z'->(Im cl es:Vw).p Z' (.ref s.heap.objs.size)->R Z' mu {s with heap:=s.heap.push {cls:= .type cl,data:= .fields #[.ref d]}}->T):T:=
 have z:=bI.le_put (o:={cls:= .type cl,data:= .fields #[.ref d]}) (r.fresh (bp _))
 q z ⟨_,d,_,rfl,bI.put_self ..,rfl,rfl,h.mono z⟩ r.pushZ
theorem AJ:Fn k mu (.builtin "dict.values") [bZ (.dict es)] (Im "dict_values" es):=⟨λ{A E Z s fr vs Q} hA r hq q=>by
 refine aK (hq.one) λv iC p=>?_;subst iC;refine g6 (m7 r p) λd kvs ep kG hs hD hO z=>?_;subst kG;exact JG F.slot_dict_values hO.typeIs F.entry_dict_values (F.args_dict_values_1 _) (meets_dict_values (strKind G.prog G.w) d hs) ⟨⟨_,hO⟩,Dw r p q⟩⟩
theorem Dx:Fn k mu (.builtin "dict.items") [bZ (.dict es)] (Im "dict_items" es):=⟨λ{A E Z s fr vs Q} hA r hq q=>by
 refine aK (hq.one) λv ma p=>?_;subst ma;refine g6 (m7 r p) λd kvs ep mE hs hD hO z=>?_;subst mE;exact JG JH hO.typeIs F.entry_dict_items (F.args_dict_items_1 _) (meets_dict_items (strKind G.prog G.w) d hs) ⟨⟨_,hO⟩,Dw r p q⟩⟩
theorem KI(h:EV k mu env e (Im "dict_values" es)):pd k mu env e t [] (es.map (·.2)):=⟨λz h=>(eo h),λ{A E Z s fr Q} hA r q=>by
 refine h.c hA r λ{v s1 Z1} z1 q1 r1=>g6 q1 λa d o q7 hz hc hd p=>?_;clear q1;subst q7;refine jZ (m7 r1 p) λd' kvs ep e1 hs hD hO hk hr ue PR=>cJ ue λod hod=>?_;clear ue;cases e1;refine wpAny_pyIter_values (⟨o,r1.zin _ _ hz,hc,hd⟩:s1.heap.IsValuesView a d) hD (pN (c:="dict_valueiterator") r1 (λA hh=>Walks.dictValues (knd:=strKind G.prog G.w) hh s1.heap.objs.size d (c8 (bN (r1.zin _ _ hod))) kvs ep) ?_ (vM hod) (λi v x hx hp=>?_)
  (λi h hs=>hs.1.imp λz w=>⟨w.1,w.2.1⟩) (by decide) (λb o e=>az _ e) ⟨⟨_,aW _ rfl,rfl,rfl⟩,PR _ λa o e=>az _ (r1.zin _ _ e)⟩ λ{z} hit r'=>q hit z1 r')
 ·(refine aj (ak ..) ?_;refine fZ (ak (f:=(·.1)) ..) ?_;refine fZ (hk ..) ?_;refine aj (ak ..) ?_;rfl)
 ·refine cJ hp λkey h1=>?_;clear hp;obtain ⟨x',h3,h4⟩:=hr.get' (show (kvs.map (·.2))[i]? =ae v by (refine aj (aJ ..) ?_;refine aj (h1 ..) ?_);rfl);cases h3.symm.trans hx;exact h4⟩
end
variable {L:ay}{op:CB}
noncomputable def Hl(I d:ay)(Zf:bI)(n ep i:Nat):cX where
 own:=[I]
 sat:=λZ h=>Zf.le Z/\∃ok ov,IsItemIter h I d i n ep ok ov
 mono:=λZ Z' h hz w=>⟨w.1.trans hz,w.2⟩
 loc:=λZ h h' w hk z z=>⟨w.1,w.2.imp λz=>bQ λz b=>hk I aa _ b⟩
 live:=λZ h w c hc=>w.2.elim λz w=>w.elim λz b=>⟨_,aA.mp hc▸b⟩
abbrev NB(k:Nat)(mu:Mu)(op:CB)(P Q S:Vw):Prop:=B2 k mu (inplaceOp op) P Q S
section
variable {es:List (bb×V)}{x:bb}{Φ:AF->Mu->Prop}{lay:zL}{bB:ej}
theorem Io{I d:ay}{kvs:List (bb×ai)}{ep:Nat}{Zf:bI}(hk:kvs.map (·.1)=es.map (·.1))(hr:bW G Zf (kvs.map (·.2)) (es.map (·.2)))
 (PR:∀h:dH,(∀a o,Zf a=ae o->h.get? a=ae o)->h.DictAt (strKind G.prog G.w) d kvs ep):CR I [] (.Tuple elts kk tp) (es.map λq=> .tup [.str q.1,q.2]) (Hl I d Zf kvs.length ep) where
 item:=λi x hx {A E Z s fr Q} hA z r q=>by
  refine vI (r.sat _ aa) λhz ok ov hit=>?_;rw [aJ] at hx;refine aK (aL.mp hx) λw hq dO=>?_;subst dO;obtain ⟨v,h3,h4⟩:=hr.get (show (es.map (·.2))[i]? =ae w.2 by (refine aj (aJ ..) ?_;refine aj (hq ..) ?_);rfl);have h1:(es.map (·.1))[i]? =ae w.1:=by (refine aj (aJ ..) ?_;refine aj (hq ..) ?_);rfl
  rw [<- hk,aJ] at h1;refine aK (aL.mp h1) λkv h5 h6=>?_;rw [aJ,h5] at h3
  (have lA:=aO h3;clear h3;subst lA)
  refine wpAny_pyNext_items_item (knd:=strKind G.prog G.w) (k:=kv.1) (v:=kv.2) hit (PR _ λa o e=>r.zin _ _ (hz _ _ e)) h5 λkey h' hkey GG htup hsz hkeep=>q λ{E T} p=>wpAny_letOwnedTupleGo_items (s:={s with heap:=h'}) GG λh'' hit'' hsame=>cJ (E0 (show Value.isStrOf kv.1 key=aI from hkey)) λtk eT=>?_;subst eT;have iD:=r.fresh (bp s.heap.objs.size);exact p (bI.le_put iD) (aZ.tup (bI.put_self ..) rfl rfl (.cons (h6▸aZ.str _ _) (.cons ((h4.mono hz).mono (bI.le_put iD)) .nil)))
   (R.freeze (r.upd' (x':=Hl I d Zf kvs.length ep (i+1)) (i:=0) (h':=h'') (tk:=s.toks) rfl rfl (λc o hc e=>have hc:c≠I:=λq=>hc (q▸aa);hsame.extBut c o hc (hkeep c o hc e)) ⟨hz,_,_,hit''⟩) (hsame.extBut _ _ (jJ (bN hit)) htup) iD (r.notOwn (bp _)))
 done:=λ{A E Z s fr Q} hA z r q=>by
  rw [show (es.map λq=>V.tup [.str q.1,q.2]).length=kvs.length by (refine aj (ak ..) ?_;refine fZ (ak (f:=(·.1)) ..) ?_;refine fZ (hk ..) ?_;refine aj (ak ..) ?_;rfl)] at r;exact vI (r.sat _ aa) λhz ok ov hit=>wpAny_pyNext_items_end (knd:=strKind G.prog G.w) hA.hh hit (PR _ λa o e=>r.zin _ _ (hz _ _ e)) (il (bp _)) λh' he=>q .rfl (r.dropUpd (tk:=s.toks) λc o hc e=>he c o (λq=>hc (q▸aa)) e)
 self:=λi {A E Z s fr Q} hA r q=>by
  refine vI (r.sat _ aa) λhz ok ov hit=>?_;have hT:s.TypeIs (.ref I) "dict_itemiterator":=⟨_,hit,rfl⟩;refine vy hT NR (dp NR hT yc ?_ (F.args_dict_itemiterator_iter_1 _));show aS _ _ (vm (.ref I)) _ _ s;exact ar ⟨_,rfl,"dict_itemiterator",_,hT,F.slot_dict_itemiterator_next.lookup,q r⟩
theorem AK(h:EV k mu env e (Im "dict_items" es)):pd k mu env e (.Tuple elts kk tp) [] (es.map λq=> .tup [.str q.1,q.2]):=⟨λz h=>(eo h),λ{A E Z s fr Q} hA r q=>by
 refine h.c hA r λ{v s1 Z1} z1 q1 r1=>g6 q1 λa d o gi hz hc hd p=>?_;clear q1;subst gi;refine jZ (m7 r1 p) λd' kvs ep e1 hs hD hO hk hr hzd PR=>?_;cases e1;exact wpAny_pyIter_items (⟨o,r1.zin _ _ hz,hc,hd⟩:s1.heap.IsItemsView a d) hD (q (Io hk hr PR) z1 (r1.addNew (tk:=s1.toks) _ (λb o e=>az _ e) ⟨.rfl,_,_,aW _ rfl⟩ eg λz h=>kX h))⟩
theorem FN{A:bh}{E Q:ai->aq->Prop}(he:du env)(sl:Sl env L lay x j)(hf:bq L lay bB∈mu)(GI:bB[j]? =ae (ae y))(r:R Z mu s)(q:∀{v},aZ G Z v y->Q v s):aS (aX G.prog G.w) A (loadName env x) Q E s:=by
 cases sl with
 |loc hk hL hl hd=>subst hL;obtain ⟨m,hn,w,hw,hr⟩:=r.slot hf hl GI;exact wpAny_loadName_local he.kind hk hn hw (q hr)
 |cell c z hk hc hl hd=>obtain ⟨m,hn,w,hw,hr⟩:=r.slot hf hl GI;exact wpAny_loadName_cell he.kind hk hc hw (q hr)
 |free c z hk hc hl hd hd'=>obtain ⟨m,hn,w,hw,hr⟩:=r.slot hf hl GI;exact wpAny_loadName_free he.kind hk hc hw (q hr) hd'
theorem rO{v:bH}(he:du env)(sl:Sl env L lay x j)(hi:mu[i]? =ae (bq L lay bB))(GI:bB[j]? =ae (ae y))(hv:EV k mu env v P){y':V}(ho:NB k mu op (bZ y) P (bZ y'))(h:Φ .next (mu.set i (bq L lay (bB.set j (ae y')))))(Cz:autoParam ((env.kindOf x == ae .free)=aH) aR):
 WX k mu env (.AugAssign (.Name x p) op v pos) Φ:=⟨λ{A E Z s fr Q} hA r q=>by
 with_reducible refine wpAny_AugAssign_Name ?_
 exact FN he sl (aE fr (ao hi)) GI r λ{z} q1=>hv.c hA r λ{z z z} z2 q2 r2=>ho.c hA r2 (q1.mono z2) q2 λ{z z z} z3 q3 r3=>xR r3 he sl hi (beq_eq_false_iff_ne.mp Cz) q3 λs' r'=>q (z2.trans z3) .next r' h⟩
section
variable {a b:Int}
theorem FO:NB k mu .Add (bZ (.int a)) (bZ (.int b)) (bZ (.int (a+b))):= .ii PyProof.Rows.iadd_int
theorem Qr:NB k mu .BitOr (bZ (.int a)) (bZ (.int b)) (bZ (.int (Builtin.bitOr a b))):= .ii PyProof.Rows.ior_int
theorem RG:NB k mu .BitXor (bZ (.int a)) (bZ (.int b)) (bZ (.int (Builtin.bitXor a b))):= .ii PyProof.Rows.ixor_int
theorem RI(h:0<=b)(h2:b<=1000000)(ha:a.natAbs < 2 ^ 64):NB k mu .LShift (bZ (.int a)) (bZ (.int b)) (bZ (.int (a*2 ^ b.toNat))):= .ii (PyProof.Rows.ilshift_int_small h h2 ha)
end
theorem RK{a b:bb}(h:a.length+b.length<=er):NB k mu .Add (bZ (.str a)) (bZ (.str b)) (bZ (.str (a++b))):=
 ⟨λ{z z z z z z z z} hA R hp hq q=>aZ.strC hp λt=>aZ.strC hq λu=>PyProof.Rows.iadd_str (λt' tk=>q .rfl (aZ.str _ _) R.toks) h⟩
end
variable {v:bH}
section
variable {ie:bH}{es:List (bb×V)}{x:bb}{Φ:AF->Mu->Prop}
theorem wQ{A:bh}{E:ai->aq->Prop}{Q:Unit->aq->Prop}{tk:HW}{w:ai}(r:R Z mu s)(hi:mu[i]? =ae (cD D es))(hl:es.length<=er)(hv:aZ G Z w y)
 (h:∀s',R Z (mu.set i (cD D (jF es x y))) s'->Q () s'):aS (aX G.prog G.w) A (setItem (.ref D) (.str x tk) w) Q E s:=by
 refine qq (r.sat _ (ao hi)) λq kvs h1 h2 h3=>?_;have hlen:kvs.length=es.length:=by (refine fZ (ak (f:=(·.1)) ..) ?_;refine aj (h2 ..) ?_;refine aj (ak ..) ?_;rfl)
 exact wpAny_setItem_pairs (knd:=strKind G.prog G.w) (k:=x) (zu G.prog G.w x tk) h1 (λh' hd hs=>h _ (r.upd' (x':=cD D (jF es x y)) hi rfl (λb o hb e=>hs.extBut b o (λq=>hb (q▸aa)) e) ⟨q,_,hd,Dj (x:=x) h2 h3 hv⟩)) (hlen▸hl)
theorem KJ{Θ:V->Mu->Prop}(hv:WE k mu env v λy nu=>∃i D es x,PE k nu env o (.ref D)/\PE k nu env ie (.str x)/\nu[i]? =ae (cD D es)/\es.length<=er/\Φ .next (nu.set i (cD D (jF es x y))))
 (hs:autoParam (xn v (ae (.Subscript o ie p)) pos.line env=dg aH) aR):WX k mu env (.Assign [.Subscript o ie p] v pos) Φ:=⟨λ{A E Z s fr Q} hA r q=>by
 with_reducible refine wpAny_Assign_Subscript ?_ hs
 refine hv.c hA r λ{w s1 Z1 y nu} z1 q1 r1 u=>dK u λi D es x ho hx hi hl h=>?_;clear u;refine ho.c hA r1 λ{ov s2 Z2} z2 q2 r2=>hx.c hA r2 λ{iv s3 Z3} z3 q3 r3=>aj (aZ.refE q2 ..) ?_;exact aZ.strC q3 λtk=>wQ r3 (cH hi) hl (q1.mono (z2.trans z3)) λs' r'=>q (z1.trans (z2.trans z3)) .next (gE hi▸r') h⟩
theorem qB(hv:PE k mu env v y)(ho:PE k mu env o (.ref D))(hx:PE k mu env ie (.str x))(hi:mu[i]? =ae (cD D es))(hl:es.length<=er)(h:Φ .next (mu.set i (cD D (jF es x y))))
 (hs:autoParam (xn v (ae (.Subscript o ie p)) pos.line env=dg aH) aR):WX k mu env (.Assign [.Subscript o ie p] v pos) Φ:=
 KJ (Θ:=λz z=>True) (cf hv ⟨i,D,es,x,ho,hx,hi,hl,h⟩) hs
theorem Oo{y0 y1:V}(ho:PE k mu env o (.ref D))(hx:PE k mu env ie (.str x))(hi:mu[i]? =ae (cD D es))(hg:mf es x=ae y0)(hv:EV k mu env v P)(hop:NB k mu op (bZ y0) P (bZ y1))(hl:es.length<=er)(h:Φ .next (mu.set i (cD D (jF es x y1))))
 (hau:autoParam (∀ov iv new,augStore ie ov iv new=(do eW [new,ov,iv] (setItem ov iv new);release [new,ov,iv] [];dg .next)) aR):WX k mu env (.AugAssign (.Subscript o ie p) op v pos) Φ:=⟨λ{A E Z s fr Q} hA r q=>by
 with_reducible refine wpAny_AugAssign_SubscriptAny ?_ hau
 refine ho.c hA r λ{ov s1 Z1} z1 q1 r1=>hx.c hA r1 λ{iv s2 Z2} z2 q2 r2=>aj (aZ.refE q1 ..) (((mh (k:=k) (mu:=mu) hg).c hA r2 ⟨D,rfl,λZ' s' hz r'=>r'.sat _ (ao hi)⟩ q2 λ{z z z} z3 q3 r3=>hv.c hA r3 λ{z z z} z4 q4 r4=>hop.c hA r4 (q3.mono z4) q4 λ{w s5 Z5} z5 q5 r5=>?_).2);exact aZ.strC q2 λtk=>wQ r5 (cH hi) hl q5 λs' r'=>q (z1.trans (z2.trans (z3.trans (z4.trans z5)))) .next (gE hi▸r') h⟩
theorem BV{n:Int}:Fn k mu (.builtin "isinstance") [bZ (.int n),bZ (.type "tuple")] (bZ (.bool aH)):=⟨λ{A E Z s fr vs Q} hA r hq q=>by
 refine cC (hq.two) λv u dO q1 q2=>?_;subst dO;refine aj (aZ.typeE q2 ..) ?_;exact aZ.intC q1 λtk=>call_isinstance (isinstance_false_int (by decide) (by rfl) (by refine aj (iR ..) ?_;kernel_rfl)) (q .rfl (aZ.bool _) r.toks)⟩
theorem BX{c:Bool}:Fn k mu (.builtin "isinstance") [bZ (.bool c),bZ (.type "bool")] (bZ (.bool aI)):=⟨λ{A E Z s fr vs Q} hA r hq q=>by
 refine cC (hq.two) λv u eT q1 q2=>?_;subst eT;refine aj (aZ.typeE q2 ..) ?_;refine aj (aZ.boolE q1 ..) ?_;exact call_isinstance_yes (Tx:="bool") rfl (by rfl) (by refine aj (iR ..) ?_;kernel_rfl) (q .rfl (aZ.bool _) r)⟩
end
variable {x:V}{Φ:V->Mu->Prop}
noncomputable abbrev cV(c:List (bb×Int)):V:= .dict (c.map λq=>(q.1,V.int q.2))
theorem Oq(c:List (bb×Int)):(c.map λq=>(q.1,V.int q.2)).map (·.2)=(c.map (·.2)).map V.int:=by (refine aj (a0 ..) ?_;refine aj (a0 ..) ?_);rfl
theorem Hn(H:Hy G){c:List (bb×Int)}:FW (k+2) mu (.ref 270) [cV c] λy nu=>nu=mu/\y= .int (c.map (·.2)).sum:=by
 refine th H H.f270 (names:=["callers"]) (vals':=λL=>[ae (cV c),av,av]) (λpm cd doc vs h=>?_) (by decide+kernel) rfl (λpm cd doc L=>?_) (λpm cd doc L he=>?_)
 ·exact uP h λa=>rfl
 ·exact .cons (j:=0) .loc rfl .nil
 refine aC (ig (cf cO ?_));refine aC (bX aU (aQ (i:=0) (j:=1) he .loc rfl ?_) rfl rfl);refine aC (jO (ctx:=[]) (xs:=(c.map (·.2)).map V.int) (λi nu=>∃o,nu=bq L (aM (L+1) (bk (cN 15)).names) [ae (cV c),ae (.int ((c.map (·.2)).take i).sum),o]::mu)
  (by refine fZ (Oq ..) ?_;exact KI (f7 (ah (j:=0) he .loc aa rfl) rN aT AJ (by exact vz) (by exact F.slot_dict_values) (by exact F.type_dict_values) rfl)) (by lia) ⟨av,rfl⟩ (λi nu h o ho=>(eo ho)) ?_ ?_)
 ·intro i x nu hx dO;refine cJ dO λo eT=>?_;clear dO;subst eT;rw [aJ] at hx;refine aK (aL.mp hx) λn hn gi=>?_;subst gi;refine aQ (i:=0) (j:=2) he .loc rfl (aC (rO (i:=0) (j:=1) he .loc rfl rfl (ah (j:=2) he .loc aa rfl) FO ?_));refine bC ⟨ae (.int n),?_⟩;have e1:((c.map (·.2)).take (i+1)).sum=((c.map (·.2)).take i).sum+n:=by
   refine aj (dE ..) ?_;refine aj (hn ..) ?_;refine aj (vt ..) ?_;simp only [Al,da,List.sum_nil,P7]
  refine aj (e1 ..) ?_;rfl
 ·intro nu iC;refine cJ iC λo kG=>?_;clear iC;subst kG;refine bC (aC (gw (cf (bM (ah (j:=1) he .loc aa rfl) (by (refine aj (ak ..) ?_;refine aj (cK ..) ?_;rfl))) (ki ⟨rfl,rfl⟩))))
noncomputable def uR(c:List (bb×Int))(q:bb×Int):List (bb×Int):=
 if c.any (λp=>p.1=q.1) then c.map (λp=>if p.1=q.1 then (p.1,p.2+q.2) else p) else c++[q]
theorem Dy{c:List (bb×Int)}{x:bb}{n:Int}(h:x∉c.map (·.1)):jF (c.map λq=>(q.1,V.int q.2)) x (.int n)=(c++[(x,n)]).map λq=>(q.1,V.int q.2):=by
 delta jF;rw [if_neg]
 ·simp
 ·intro h2;rw [cS] at h2;refine aK h2 λq hq hx=>?_;clear h2;refine aK (aG.mp hq) λp hp ma=>?_;subst ma;exact h (aG.mpr ⟨p,hp,by simpa using hx⟩)
theorem BY{c:List (bb×Int)}{x:bb}:mf (c.map λq=>(q.1,V.int q.2)) x=(c.find? λp=>p.1=x).map λp=>V.int p.2:=by
 delta mf;induction c with
 |nil=>rfl
 |cons a c ih=>
  refine aj (bA ..) ?_;refine aj (jW ..) ?_;refine aj (jW ..) ?_;by_cases h:a.1=x
  ·simp [h]
  ·simp only [h,decide_false];exact ih
noncomputable def oO(a b:List (bb×Int)):List (bb×Int):=b.foldl uR a
theorem Ip(c:List (bb×Int))(q:bb×Int):(uR c q).map (·.1)=if c.any (λp=>p.1=q.1) then c.map (·.1) else c.map (·.1)++[q.1]:=by
 delta uR
 split
 ·refine aj (a0 ..) ?_;congr 1;funext p;simp only [l7]
  split <;> rfl
 ·simp
theorem FP{c:List (bb×Int)}{q:bb×Int}(h:(c.map (·.1)).Nodup):((uR c q).map (·.1)).Nodup:=by
 refine aj (Ip ..) ?_
 split
 ·exact h
 ·rename_i hn;refine gj (bP ..) (⟨h,by simp,λa ha b hb e=>?_⟩);rw [aA.mp hb] at e;exact aK (aG.mp ha) λp hp hp2=>hn (cS.mpr ⟨p,hp,by simp [hp2,e]⟩)
theorem KL{c:List (bb×Int)}{q p0:bb×Int}(hn:(c.map (·.1)).Nodup)(hf:c.find? (λp=>p.1=q.1)=ae p0):jF (c.map λq=>(q.1,V.int q.2)) q.1 (.int (p0.2+q.2))=(uR c q).map λq=>(q.1,V.int q.2):=by
 have GJ:c.any (λp=>p.1=q.1)=aI:=cS.mpr ⟨p0,List.mem_of_find?_eq_some hf,by have:=List.find?_some hf;exact this⟩;delta jF uR;refine aj (if_pos GJ ..) ?_;refine aj (if_pos (by rw [CG];exact GJ) ..) ?_;refine aj (a0 ..) ?_;refine aj (a0 ..) ?_;refine b5 λp hp=>?_;simp only [l7];by_cases h:p.1=q.1
 ·(refine aj (if_pos h ..) ?_;refine aj (if_pos h ..) ?_)
  have:p=p0:=by
   have h0:=List.find?_some hf;simp at h0;clear GJ;induction c with
   |nil=>exact eo hp
   |cons a c ih=>
    simp only [bA,cg] at hn;rw [jW] at hf;by_cases ha:a.1=q.1
    ·simp [ha] at hf;subst hf;rcases aP.mp hp with rfl|hp
     ·rfl
     ·exact absurd (aG.mpr ⟨p,hp,h.trans ha.symm⟩) hn.1
    ·simp [ha] at hf;rcases aP.mp hp with rfl|hp
     ·exact absurd h ha
     ·exact ih hn.2 hf hp
  refine aj (this ..) ?_;rfl
 ·(refine aj (if_neg h ..) ?_;refine aj (if_neg h ..) ?_;rfl)
theorem KM(c:List (bb×Int))(q:bb×Int):(uR c q).length<=c.length+1:=by
 delta uR
 split <;> simp
theorem Iq(a b:List (bb×Int)):(oO a b).length<=a.length+b.length:=by
 delta oO;induction b generalizing a with
 |nil=>simp
 |cons q b ih=>have h1:=ih (uR a q);have h2:=KM a q;simp only [fF,bK];lia
theorem Dz{a b:List (bb×Int)}(h:(a.map (·.1)).Nodup):((oO a b).map (·.1)).Nodup:=by
 delta oO;induction b generalizing a with
 |nil=>exact h
 |cons q b ih=>exact ih (FP h)
def lI.S0(k:Nat)(mu:Mu)(a b:List (bb×Int)):Prop:=∀(H:Hy G) (ha:(a.map (·.1)).Nodup) (SP:a.length<=1000) (hlb:b.length<=1000),FW (k+2) mu (.ref 263) [cV a,cV b] λy nu=>nu=mu/\y=cV (oO a b)
namespace lI
@[irreducible] def e0:=G1 eN gD gD gD S0
def k_:=e0.1
def fb:=e0.2.1
def a_:=e0.2.2.1
def b_:=e0.2.2.2
theorem T0:S0 k_ fb a_ b_:=by
 intro H ha SP hlb;refine th H H.f263 (names:=["target","source"]) (vals':=λL=>[ae (cV a_),ae (cV b_),av,av,av]) (λpm cd doc vs h=>?_) (by decide+kernel) rfl (λpm cd doc L=>?_) (λpm cd doc L he=>?_)
 ·exact zR h λa_ b_=>rfl
 ·exact .cons (j:=0) .loc rfl (.cons (j:=1) .loc rfl .nil)
 refine aC (ig (cf cO ?_));refine aC (b4 (xY H.B (λD=>fL.ref (aQ (i:=1) (j:=2) he .loc rfl ?_))) rfl rfl);have SX:∀n,n<=4000->n<=er:=λn h=>by show _<=2 ^ 24;exact aw (by assumption) (by decide)
 refine aC (jO (ctx:=[]) (xs:=(a_.map λq=>(q.1,V.int q.2)).map λq=> .tup [.str q.1,q.2]) (λi nu=>∃o1 o2,nu=cD D ((a_.take i).map λq=>(q.1,V.int q.2))::bq L (aM (L+1) (bk (cN 14)).names) [ae (cV a_),ae (cV b_),ae (.ref D),o1,o2]::fb)
  (AK (f7 (ah (j:=0) he .loc (ab _ aa) rfl) rN aT Dx (by exact vz) (by exact JH) (by exact F.type_dict_items) rfl)) (by lia) ⟨av,av,rfl⟩ (λi nu h o ho=>(eo ho)) ?_ ?_)
 ·intro i x nu hx mE;refine oz mE λo1 o2 q7=>?_;clear mE;subst q7;rw [aJ,aJ] at hx;refine aK (aL.mp hx) λq' EP ue=>?_;subst ue;refine aK (aL.mp EP) λq hq mP=>?_;subst mP;refine i7 (cv rfl rfl (aQ (i:=1) (j:=3) he .loc rfl (cv rfl rfl (aQ (i:=1) (j:=4) he .loc rfl (iX ?_)))));have PS:q.1∉(a_.take i).map (·.1):=λh=>by
   have e1:a_=a_.take i++q::a_.drop (i+1):=gh hq;rw [e1,bj,bA,bP] at ha;exact ha.2.2 _ h _ aa rfl
  refine aC (qB (i:=0) (ah (j:=4) he .loc (ab _ aa) rfl) (ah (j:=2) he .loc (ab _ aa) rfl) (ah (j:=3) he .loc (ab _ aa) rfl) rfl (SX _ (by simp;lia)) ?_);refine bC ⟨ae (.str q.1),ae (.int q.2),?_⟩;refine aj (Dy PS ..) ?_;refine aj (dE ..) ?_;refine aj (hq ..) ?_;rfl
 ·intro nu so;refine oz so λo1 o2 zk=>?_;clear so;subst zk;refine bC ?_;refine aj (ak ..) ?_;refine aj (ak ..) ?_;refine aj (cK ..) ?_;refine aC (jO (ctx:=[]) (xs:=(b_.map λq=>(q.1,V.int q.2)).map λq=> .tup [.str q.1,q.2]) (λi nu=>∃o1 o2,nu=cD D ((oO a_ (b_.take i)).map λq=>(q.1,V.int q.2))::bq L (aM (L+1) (bk (cN 14)).names) [ae (cV a_),ae (cV b_),ae (.ref D),o1,o2]::fb)
   (AK (f7 (ah (j:=1) he .loc (ab _ aa) rfl) rN aT Dx (by exact vz) (by exact JH) (by exact F.type_dict_items) rfl)) (by lia) ⟨o1,o2,rfl⟩ (λi nu h o ho=>(eo ho)) ?_ ?_)
  ·intro i x nu hx ER;refine oz ER λo1 o2 MX=>?_;clear ER;subst MX;rw [aJ,aJ] at hx;refine aK (aL.mp hx) λq' EP SU=>?_;subst SU;refine aK (aL.mp EP) λq hq SV=>?_;subst SV;have hlc:(oO a_ (b_.take i)).length<=2000:=by
    have:=Iq a_ (b_.take i);have h3:(b_.take i).length<=b_.length:=by refine aj (dR ..) ?_;exact ow _ _
    lia
   have hnd:=Dz (b:=b_.take i) ha;have MY:oO a_ (b_.take (i+1))=uR (oO a_ (b_.take i)) q:=by (refine aj (dE ..) ?_;refine aj (hq ..) ?_);simp [oO]
   generalize oO a_ (b_.take i)=c at hlc hnd MY ⊢;refine i7 (cv rfl rfl (aQ (i:=1) (j:=3) he .loc rfl (cv rfl rfl (aQ (i:=1) (j:=4) he .loc rfl (iX ?_)))));refine aC (iY (c9 (ah (j:=3) he .loc (ab _ aa) rfl) (wJ (ah (j:=2) he .loc (ab _ aa) rfl) aa) KC) (λh=>?_) λh=>?_)
   ·rw [BY] at h;obtain ⟨p0,JV⟩:∃p0,c.find? (λp=>p.1=q.1)=ae p0:=by
     cases hc:c.find? (λp=>p.1=q.1) with
     |none=>rw [hc] at h;exact vK h
     |some p0=>exact ⟨p0,rfl⟩
    refine aC (iY (kU (ek (j4 H he H.b_isinstance rfl) (au (ah (j:=4) he .loc (ab _ aa) rfl) (au (iN H he H.b_tuple rfl) aT)) BV) qv) (λh=>(vK h)) λz=>?_);refine aC (Oo (i:=0) (y0:= .int p0.2) (ah (j:=2) he .loc (ab _ aa) rfl) (ah (j:=3) he .loc (ab _ aa) rfl) rfl (by (refine aj (BY ..) ?_;refine aj (JV ..) ?_);rfl) (ah (j:=4) he .loc (ab _ aa) rfl) FO (SX _ (by simp;exact aw (by assumption) (by decide))) ?_);refine bC (bC (bC ⟨ae (.str q.1),ae (.int q.2),?_⟩));refine aj (KL hnd JV ..) ?_;refine aj (MY ..) ?_;rfl
   ·rw [BY] at h;have hnone:c.find? (λp=>p.1=q.1)=av:=by
     cases hc:c.find? (λp=>p.1=q.1) with
     |none=>rfl
     |some p0=>rw [hc] at h;exact J2 h
    refine aC (qB (i:=0) (ah (j:=4) he .loc (ab _ aa) rfl) (ah (j:=2) he .loc (ab _ aa) rfl) (ah (j:=3) he .loc (ab _ aa) rfl) rfl (SX _ (by simp;exact aw (by assumption) (by decide))) ?_);refine bC (bC ⟨ae (.str q.1),ae (.int q.2),?_⟩);have hnot:q.1∉c.map (·.1):=λh=>by
     refine aK (aG.mp h) λp hp hp2=>?_;have:=Ak.mp hnone p hp;simp [hp2] at this
    refine aj (Dy hnot ..) ?_;refine aj (MY ..) ?_;have:uR c q=c++[q]:=by delta uR;rw [if_neg];intro h;exact aK (cS.mp h) λp hp hp2=>hnot (aG.mpr ⟨p,hp,by simpa using hp2⟩)
    refine aj (this ..) ?_;rfl
  ·intro nu PP;refine oz PP λo1 o2 SW=>?_;clear PP;subst SW;refine bC ?_;refine aj (ak ..) ?_;refine aj (ak ..) ?_;refine aj (cK ..) ?_;refine aC (gw (cf (ah (j:=2) he .loc (ab _ aa) rfl) ?_));exact jK.dict (gW _ _) ⟨rfl,rfl⟩
end lI
theorem lI{a b:List (bb×Int)}:lI.S0 k mu a b:=by with_unfolding_all exact vJ _ _ _ _ lI.S0 @lI.T0 k mu a b
variable {es:List bH}
theorem ju{f:bb}{a:ay}{ob:o6}{fd:cm}(hf:PE k mu env (.Name f p) (.ref a))(h0:G.Z0 a=ae ob)(hd:ob.data= .func fd)(ha:tC k mu env (e::es) (ys.map bZ))(hF:FW k mu (.ref a) ys λv nu=>v=y/\nu=mu)(hs:∀a p,e≠ .Starred a p:=by intro z z h;cases h):
 PE k mu env (.Call (.Name f p) (e::es) [] pos) y:=Kh hf h0 hd ha hF.fn hs
noncomputable abbrev Qs(a b c d:Int)(q:List (bb×Int)):V:= .tup [.int a,.int b,.int c,.int d,cV q]
theorem Os(H:Hy G){a b c d a' b' c' d':Int}{q q':List (bb×Int)}(hn:(q.map (·.1)).Nodup)(hl:q.length<=1000)(hl':q'.length<=1000):
 FW (k+3) mu (.ref 256) [Qs a b c d q,Qs a' b' c' d' q'] λy nu=>y=Qs (a'+a) (b'+b) (c'+c) (d'+d) (oO q q')/\nu=mu:=by
 refine th H H.f256 (names:=["target","source"]) (vals':=λL=>[ae (Qs a b c d q),ae (Qs a' b' c' d' q'),av,av,av,av,av,av,av,av,av,av]) (λpm cd doc vs h=>?_) (by decide+kernel) rfl (λpm cd doc L=>?_) (λpm cd doc L he=>?_)
 ·exact zR h λa b=>rfl
 ·exact .cons (j:=0) .loc rfl (.cons (j:=1) .loc rfl .nil)
 refine aC (ig (cf cO ?_));refine aC (bX (ah (j:=1) he .loc aa rfl) (i7 (cv rfl rfl (aQ (i:=0) (j:=2) he .loc rfl (cv rfl rfl (aQ (i:=0) (j:=3) he .loc rfl (cv rfl rfl (aQ (i:=0) (j:=4) he .loc rfl (cv rfl rfl (aQ (i:=0) (j:=5) he .loc rfl (cv rfl rfl (aQ (i:=0) (j:=6) he .loc rfl (iX ?_)))))))))))) rfl rfl);refine aC (bX (ah (j:=0) he .loc aa rfl) (i7 (cv rfl rfl (aQ (i:=0) (j:=7) he .loc rfl (cv rfl rfl (aQ (i:=0) (j:=8) he .loc rfl (cv rfl rfl (aQ (i:=0) (j:=9) he .loc rfl (cv rfl rfl (aQ (i:=0) (j:=10) he .loc rfl (cv rfl rfl (aQ (i:=0) (j:=11) he .loc rfl (iX ?_)))))))))))) rfl rfl);refine cq (H.f263.go) λob Uh cd' Jp h0 hd z=>aC (gw (cf (f9 (xs:=[.int (a'+a),.int (b'+b),.int (c'+c),.int (d'+d),cV (oO q q')]) (au (br (cP (ah (j:=2) he .loc aa rfl)) (cP (ah (j:=7) he .loc aa rfl)) (by exact fC)) (au (br (cP (ah (j:=3) he .loc aa rfl)) (cP (ah (j:=8) he .loc aa rfl)) (by exact fC)) (au (br (cP (ah (j:=4) he .loc aa rfl)) (cP (ah (j:=9) he .loc aa rfl)) (by exact fC)) (au (br (cP (ah (j:=5) he .loc aa rfl)) (cP (ah (j:=10) he .loc aa rfl)) (by exact fC)) (au (ju (ys:=[cV q,cV q']) (mn H he H.m_callers rfl) h0 hd (au (ah (j:=11) he .loc aa rfl) (au (ah (j:=6) he .loc aa rfl) aT)) ((lI H hn hl hl').mono λy nu h=>⟨h.2,h.1⟩)) aT))))) (bg rfl)) (ki ⟨rfl,rfl⟩)))
noncomputable def nG(m:Nat):List Nat:=(aN 33).filter m.testBit
noncomputable def iw(m i:Nat):List Nat:=(aN i).filter m.testBit
noncomputable def lF(m i:Nat):Nat:=m / 2 ^ i*2 ^ i
theorem FQ(m:Nat):lF m 0=m:=by simp [lF]
theorem DA(m i:Nat):m / 2 ^ i=2*(m / 2 ^ (i+1))+(m.testBit i).toNat:=by
 have h1:m / 2 ^ (i+1)=m / 2 ^ i / 2:=by rw [CH,Nat.div_div_eq_div_mul]
 have h2:(m.testBit i).toNat=m / 2 ^ i % 2:=by rw [fx];have:=JI (m / 2 ^ i);rcases this with h|h <;> simp [h]
 rw [h1,h2];lia
theorem yd(m i:Nat):lF m i=lF m (i+1)+(m.testBit i).toNat*2 ^ i:=by unfold lF;rw [DA m i,iS,CH];congr 1;rw [rb 2,jY,rb 2]
theorem KN(a i:Nat):a &&& 2 ^ i=(a.testBit i).toNat*2 ^ i:=by
 apply xr;intro j;rw [GT,lC];by_cases Bs:i=j
 ·subst Bs;cases h:a.testBit i
  ·simp
  ·simp [lC]
 ·cases h:a.testBit i
  ·simp [Bs]
  ·simp [Bs,lC]
theorem Ir(m i:Nat):lF m i &&& 2 ^ i=(m.testBit i).toNat*2 ^ i:=by rw [KN];congr 2;unfold lF;rw [rb,NS];simp;rw [fx]
theorem oP(m i:Nat):iw m (i+1)=iw m i++(if m.testBit i then [i] else []):=by
 unfold iw;rw [qg,fX];congr 1;rw [hZ]
 split <;> simp
theorem DB{m i:Nat}(hi:i<=33)(h:m / 2 ^ i=0):iw m i=nG m:=by
 have:∀n,iw m (i+n)=iw m i:=by
  intro n;induction n with
  |zero=>rfl
  |succ n ih=>
   have hz:m.testBit (i+n)=aH:=by
    rw [fx];have:m < 2 ^ i:=by
     rcases gX m (2 ^ i) with h'|h'
     ·exact h'
     ·have:=Nat.div_pos h' (qh i);lia
    have h2:m / 2 ^ (i+n)=0:=Nat.div_eq_of_lt (cb this (e8 (by decide) (by exact dC _ _)));simp [h2]
   rw [<- l5,oP,hz,ih];simp
 have h2:=this (33 - i);rw [show i+(33 - i)=33 by lia] at h2;exact h2.symm
noncomputable def cB(i:Nat):bb:=if i < 10 then oJ.getD i "" else JC "0x" 16 ((2 ^ i:Nat):Int)
noncomputable def rP(m:Nat):bb:=fO ", " ((nG m).map cB)
theorem BZ:∀i,i < 33->(cB i).length<=20:=by decide+kernel
theorem FR:∀i,i < 33->(vr qz ((1:Int)*2 ^ ((i:Nat):Int).toNat)).isSome=decide (i < 10)/\(i < 10->vr qz ((1:Int)*2 ^ ((i:Nat):Int).toNat)=ae (.str (cB i) (254+2*i))):=by decide+kernel
theorem RL(i:Nat)(h:¬i < 10):JC "0x" 16 ((1:Int)*2 ^ ((i:Nat):Int).toNat)=cB i:=by
 unfold cB;refine aj (if_neg h ..) ?_;refine aj (sS ..) ?_;refine aj (b8 ..) ?_
 norm_cast
theorem RM(i:Nat)(h:i < 32):(JC "0x" 16 ((1:Int)*2 ^ ((i:Nat):Int).toNat)).length<=er:=by
 have:∀i,i < 32->(JC "0x" 16 ((1:Int)*2 ^ ((i:Nat):Int).toNat)).length<=20:=by decide+kernel
 exact aw (this i h) (by show _<=2 ^ 24;decide)
theorem B1(m:Nat):Nk ", " ((nG m).map cB)=aI:=by
 refine joinOk_of ?_;have h1:∀l:List Nat,(∀i∈l,i < 33)->((l.map cB).map (·.length)).sum<=l.length*20:=by
  intro l;induction l with
  |nil=>intro z;simp
  |cons a l ih=>intro h;have:=ih λi hi=>h i (ab _ hi);have:=BZ a (h a aa);simp only [bA,da,bK];lia
 have h2:=h1 (nG m) λi hi=>aY.mp (bo.mp hi).1;have h3:(nG m).length<=33:=by have:=bu m.testBit (aN 33);exact this
 have h4:(", ":bb).length=2:=rfl;refine aj (ak ..) ?_;refine aj (h4 ..) ?_;lia
theorem FS(H:Hy G){i:Nat}(hi:i < 32){d:bb}(hd:¬i < 10->d=cB i):Fn k mu (.builtin "dict.get") [bZ (.ref 65),bZ (.int (1*2 ^ ((i:Nat):Int).toNat)),bZ (.str d)] (bZ (.str (cB i))):=⟨λ{A E Z s fr vs Q} hA r hq q=>by
 refine lG (hq.three) λv u w dO q1 q2 q3=>?_;subst dO;refine aj (aZ.refE q1 ..) (cJ (gF q2) λtk eT=>?_);subst eT;refine cJ (gV q3) λny gi=>?_;subst gi;have hD:=H.flagD.2 s.heap r.z0in;refine JG F.slot_dict_get hD.typeIs F.entry_dict_get (F.args_dict_get_3 _ _ _) (meets_dict_get_default (knd:=lu G.prog G.w) (d:=65) (hkey:=GU G.prog G.w _ tk) (hd:=H.flagD.1) (dflt:=_)) ⟨_,hD.mapOf,?_⟩;refine dU (FR i (cI hi)) λh1 h2=>?_;by_cases h:i < 10
 ·exact aj (h2 h ..) (q .rfl (aZ.str _ _) r.toks)
 ·have:vr qz ((1:Int)*2 ^ ((i:Nat):Int).toNat)=av:=by
   cases hv:vr qz ((1:Int)*2 ^ ((i:Nat):Int).toNat) with
   |none=>rfl
   |some _=>rw [hv] at h1;exact absurd (of_decide_eq_true h1.symm) h
  refine aj (this ..) ?_;refine aj (hd h ..) ?_;exact q .rfl (aZ.str _ _) r.toks⟩
theorem KP(H:Hy G):Ty mu (bZ (.ref 65)) "dict":=⟨λZ s fr v r h=>by
 exact cE (H.flagD.2 s.heap r.z0in) λo es ep h1 h2 z=>aZ.refE h▸Ty.at h1 h2.1 h2.2.1⟩
theorem ye(m i:Nat):lZ ((lF m i:Nat):Int) (1*2 ^ ((i:Nat):Int).toNat)=(((m.testBit i).toNat*2 ^ i:Nat):Int):=by
 have h:(1:Int)*2 ^ ((i:Nat):Int).toNat=((2 ^ i:Nat):Int):=by (refine aj (sS ..) ?_;refine aj (b8 ..) ?_);norm_cast
 refine aj (h ..) ?_;refine aj (bitAnd_pp (dJ _) (dJ _) ..) ?_;refine aj (b8 ..) ?_;refine aj (b8 ..) ?_;refine aj (Ir ..) ?_;rfl
theorem KQ{m i:Nat}(h:m.testBit i=aI):Builtin.bitXor ((lF m i:Nat):Int) (1*2 ^ ((i:Nat):Int).toNat)=((lF m (i+1):Nat):Int):=by
 refine aj (bitXor_and ..) ?_;refine aj (ye ..) ?_;refine aj (h ..) ?_;have h2:(1:Int)*2 ^ ((i:Nat):Int).toNat=((2 ^ i:Nat):Int):=by (refine aj (sS ..) ?_;refine aj (b8 ..) ?_);norm_cast
 have h3:=yd m i;rw [h] at h3;refine aj (h2 ..) ?_;simp only [GV,xt] at h3 ⊢;lia
noncomputable abbrev pfFr(L:ay)(f:Int)(D:ay)(o1 o2:Option V):cX:=bq L (aM (L+1) (bk (cN 4)).names) [ae (.int f),ae (.ref D),o1,o2]
noncomputable abbrev It(l:List Nat):List V:=l.map λi=>V.str (cB i)
def oQ.S0(k:Nat)(mu:Mu)(m _:Nat):Prop:=∀(H:Hy G) (h0:m≠0) (hm:m < 2 ^ 33),FW (k+2) mu (.ref 72) [nV m] λy nu=>y= .str (rP m)/\nu=mu
namespace oQ
@[irreducible] def e0:=G1 eN gD eN eN S0
def k_:=e0.1
def fb:=e0.2.1
def m_:=e0.2.2.1
theorem T0:S0 k_ fb m_ e0.2.2.2:=by
 intro H h0 hm;refine th H H.f72 (names:=["flags"]) (vals':=λL=>[ae (nV m_),av,av,av]) (λpm cd doc vs h=>?_) (by decide+kernel) rfl (λpm cd doc L=>?_) (λpm cd doc L he=>?_)
 ·exact uP h λa=>rfl
 ·exact .cons (j:=0) .loc rfl .nil
 have fm:∀{a b:cX} {l:Mu},b∈a::b::l:=ab _ aa;have fin:∀D f o1 o2,WS (k_+1) (bl D (It (nG m_))::pfFr L f D o1 o2::fb) (dT (xy (cN 4) pm cd doc) 72 L) ((fR (cN 4)).drop 3) (lE λy nu=>y= .str (rP m_)/\nu=fb):=λD f o1 o2=>by
  refine aC (gw (cf (y:= .str (rP m_)) (f7 (cP cO) (by exact mL) (au (uG (ah (j:=1) he .loc fm rfl) aa) aT) (by exact rL (f:=cB) (B1 m_)) (by exact eM) (by exact nz) (by exact nA) rfl) ?_));exact jK.tail (jK.tail (jK.keep ⟨rfl,rfl⟩))
 refine aC (ig (cf cO ?_));refine aC (b4 (sD (xs:=[]) aT (bg rfl) (λD=>fL.ref (aQ (i:=1) (j:=1) he .loc rfl ?_))) rfl rfl);refine aC (jO (ctx:=[]) (xs:=(aN 32).map λ(i:Nat)=>V.int i) (λi nu=>m_ / 2 ^ i≠0/\∃o1 o2,nu=bl D (It (iw m_ i))::pfFr L (lF m_ i:Nat) D o1 o2::fb)
  (fK (iN H he H.b_range rfl) aU rfl (by decide)) (by lia) ⟨by simpa using h0,av,av,by refine aj (FQ ..) ?_;rfl⟩ (λi nu h o ho=>(eo ho)) ?_ ?_)
 ·intro i x nu hx iC;refine vI iC λhnz o1 o2 kG=>?_;clear iC;subst kG;rw [aJ] at hx;refine aK (aL.mp hx) λi' hi' ma=>?_;subst ma;refine cJ (aB.mp hi') λhlt he2=>?_;have hii:i'=i:=by refine fZ (he2 ..) ?_;simp
  subst hii;have hi32:i' < 32:=by exact hlt
  have hlb:(iw m_ i').length<=32:=by have:=bu m_.testBit (aN i');simp [iw] at this ⊢;lia
  refine aQ (i:=1) (j:=2) he .loc rfl (aC (bX (br (cP aU) (cP (ah (j:=2) he .loc fm rfl)) (by exact Kf (by exact dJ _) (by lia) (by decide))) (aQ (i:=1) (j:=3) he .loc rfl ?_) rfl rfl));refine aC (iY (kU (cP (br (cP (ah (j:=0) he .loc fm rfl)) (cP (ah (j:=3) he .loc fm rfl)) (by exact qt))) (by exact xQ)) (λh=>?_) λh=>?_)
  ·rw [ye] at h;have hb:m_.testBit i'=aI:=by
    cases hb:m_.testBit i'
    ·rw [hb] at h;simp at h
    ·rfl
   refine aC (ig (mZ (ah (j:=1) he .loc fm rfl) (j5 (xs:=It (iw m_ i')) aa) (au (f7 (mn H he H.m_names rfl) (KP H) (au (ah (j:=3) he .loc fm rfl) (au (ek (j4 H he H.b_hex rfl) (au (ah (j:=3) he .loc fm rfl) aT) (by exact Kx (RM i' hi32))) aT)) (by exact FS H hi32 (λh=>RL i' h)) (by exact vz) (by exact F.slot_dict_get) (by exact F.type_dict_get) rfl) aT) (kA (i:=0) (y:= .str (cB i')) rfl (by simp;exact b7 (by assumption) (by decide)) ?_) (by exact fP) (by exact iT) (by exact iU) rfl));refine aC (rO (i:=1) (j:=0) he .loc rfl rfl (ah (j:=3) he .loc fm rfl) RG ?_);refine aj (KQ hb ..) ?_;have Ui:iw m_ (i'+1)=iw m_ i'++[i']:=by (refine aj (oP ..) ?_;refine aj (hb ..) ?_);rfl
   have hdv:m_ / 2 ^ (i'+1)=0↔lF m_ (i'+1)=0:=by
    unfold lF;have:=qh (i'+1);constructor
    ·intro h;refine aj (h ..) ?_;simp
    ·intro h;rcases Nat.mul_eq_zero.mp h with h|h
     ·exact h
     ·lia
   refine aC (iY (Fy (kU (ah (j:=0) he .loc fm rfl) xQ)) (λh2=>?_) λh2=>?_)
   ·have hz:lF m_ (i'+1)=0:=by simpa using h2
    refine aC (Rp ?_);have hb2:=DB (m:=m_) (i:=i'+1) (by lia) (hdv.mpr hz);show WS (k_+1) (bl D (It (iw m_ i')++[.str (cB i')])::_::fb) _ _ _;refine aj (show It (iw m_ i')++[.str (cB i')]=It (nG m_) by rw [<- hb2,Ui];simp [It]) ?_;exact fin D _ _ _
   ·refine bC (bC (bC ⟨λh3=>?_,ae (.int i'),ae (.int (1*2 ^ ((i':Nat):Int).toNat)),?_⟩))
    ·have:=hdv.mp h3;rw [this] at h2;simp at h2
    ·refine aj (Ui ..) ?_;simp only [It,bj];rfl
  ·rw [ye] at h;have hb:m_.testBit i'=aH:=by
    cases hb:m_.testBit i'
    ·rfl
    ·rw [hb] at h;have h4:=qh i';simp only [GV,xt,bne_eq_false_iff_eq] at h;have h5:=Int.natCast_eq_zero.mp h;lia
   have hr:=yd m_ i';have hd:=DA m_ i';rw [hb] at hr hd;refine bC (bC ⟨λh3=>hnz (by (refine aj (hd ..) ?_;refine aj (h3 ..) ?_);rfl),ae (.int i'),ae (.int (1*2 ^ ((i':Nat):Int).toNat)),?_⟩);refine aj (oP ..) ?_;refine aj (hb ..) ?_;refine aj (show lF m_ (i'+1)=lF m_ i' by simpa using hr.symm) ?_;simp only [dj,if_false,cy];rfl
 ·intro nu mE;refine vI mE λhnz o1 o2 q7=>?_;clear mE;subst q7;have hlen:((aN 32).map λ(i:Nat)=>V.int i).length=32:=by rfl
  rw [hlen] at hnz ⊢;have h1:m_ / 2 ^ 32=1:=by have:m_ / 2 ^ 32 < 2:=Nat.div_lt_of_lt_mul (by assumption);lia
  have hrm:lF m_ 32=2 ^ 32:=by unfold lF;(refine aj (h1 ..) ?_;rfl)
  have hb:m_.testBit 32=aI:=by (refine aj (fx ..) ?_;refine aj (h1 ..) ?_);rfl
  have Ui:nG m_=iw m_ 32++[32]:=by show iw m_ 33=_;(refine aj (oP ..) ?_;refine aj (hb ..) ?_);rfl
  have hlb:(iw m_ 32).length<=32:=by have:=bu m_.testBit (aN 32);exact this
  refine aj (hrm ..) (aC (ig (mZ (ah (j:=1) he .loc fm rfl) (j5 (xs:=It (iw m_ 32)) aa) (au (ek (j4 H he H.b_hex rfl) (au (ah (j:=0) he .loc fm rfl) aT) (by exact Kx (by decide+kernel))) aT) (kA (i:=0) (y:= .str (cB 32)) rfl (by simp;exact b7 (by assumption) (by decide)) ?_) (by exact fP) (by exact iT) (by exact iU) rfl)));refine bC ?_;show WS (k_+1) (bl D (It (iw m_ 32)++[.str (cB 32)])::_::fb) _ _ _;refine aj (show It (iw m_ 32)++[.str (cB 32)]=It (nG m_) by rw [Ui];simp [It]) ?_;exact fin D _ _ _
end oQ
theorem oQ{m:Nat}:oQ.S0 k mu m 0:=by with_unfolding_all exact vJ _ _ _ _ oQ.S0 @oQ.T0 k mu m 0
section
open PySem.StrLaws
noncomputable def glue:List (List Nat)->List Nat
 |[]=>[]
 |[t]=>t
 |t::u::r=>t++[44,32]++glue (u::r)
theorem yf(sep:List Nat):∀(ts:List (List Nat)) (acc:List Nat),ts.foldl (λacc p=>acc++sep++p) acc=acc++(ts.flatMap λp=>sep++p)
 |[],acc=>by simp
 |t::ts,acc=>by (refine aj (fF ..) ?_;refine aj (yf sep ts ..) ?_);simp
theorem Ho:∀(t:List Nat) (ts:List (List Nat)),glue (t::ts)=t++(ts.flatMap λp=>[44,32]++p)
 |t,[]=>(cy t).symm
 |t,u::r=>by
  show t++[44,32]++glue (u::r)=_;refine aj (Ho u r ..) ?_;exact (bU ..).trans (congrArg (t++·) (bU [44,32] u _).symm)
theorem yg(t:bb)(ts:List bb):(fO ", " (t::ts)).cps.toList=glue ((t::ts).map (·.cps.toList)):=by
 have h:∀(ts:List bb) (acc:Array Nat),(ts.foldl (λacc p=>acc++(", ":bb).cps++p.cps) acc).toList=(ts.map (·.cps.toList)).foldl (λacc p=>acc++[44,32]++p) acc.toList:=by
  intro ts;induction ts with
  |nil=>intro acc;rfl
  |cons u ts ih=>
   intro acc;refine aj (fF ..) ?_;refine aj (ih ..) ?_;refine aj (bA ..) ?_;refine aj (fF ..) ?_;have:(acc++(", ":bb).cps++u.cps).toList=acc.toList++[44,32]++u.cps.toList:=by simp;rfl
   refine aj (this ..) ?_;rfl
 show ((ts.foldl (λacc p=>acc++(", ":bb).cps++p.cps) t.cps).toList)=_;refine aj (h ..) ?_;refine aj (yf ..) ?_;refine aj (bA ..) ?_;refine aj (Ho ..) ?_;rfl
theorem DC{x:bb}{i:Nat}(h:At x ", " x.length i):x.cps.toList[i]? =ae 44:=by
 refine dU h λh1 h2=>?_;clear h;have hl:(", ":bb).length=2:=rfl;unfold Builtin.Str.subAt at h2;have h3:=jE h2;rw [hl] at h3 h1;have h4:(x.cps.extract i (i+2))[0]? =ae 44:=by refine aj (h3 ..) ?_;rfl
 rw [Array.getElem?_extract] at h4
 split at h4
 ·simpa using h4
 ·exact gK h4
theorem at_of{x:bb}{i:Nat}{r:List Nat}(h:x.cps.toList.drop i=44::32::r):At x ", " x.length i:=by
 have hl:(", ":bb).length=2:=rfl;have hlen:x.length=x.cps.toList.length:=rfl;have h0:=congrArg kM h;rw [fY] at h0;simp only [bK] at h0;refine ⟨by (refine aj (hl ..) ?_;refine aj (hlen ..) ?_);lia,?_⟩;unfold Builtin.Str.subAt;refine aj (hl ..) ?_;have:(x.cps.extract i (i+2)).toList=[44,32]:=by refine aj (xu ..) ?_;simp only [JY];refine aj (h ..) (aj (show i+2 - i=2 by lia) ?_);rfl
 exact gj (beq_iff_eq ..) (uq.mp (this.trans rfl))
theorem rQ(x:bb)(a c:Nat):(fj x a c).cps.toList=(x.cps.toList.drop a).take (c - a):=by unfold fj;refine aj (xu ..) ?_;refine aj (JY ..) ?_;rfl
theorem yh(x:bb):∀(ts:List bb) (a:Nat) (Jq:List Nat) (f:Nat),ts≠[]->(∀t∈ts,44∉t.cps.toList)->a<=x.length->x.cps.toList.drop a=glue (ts.map (·.cps.toList))->
 ChainG x ", " x.length a Jq f->(∀k,f<=k->¬At x ", " x.length k)->partsFrom x 2 a Jq=ts
 |[],_,_,_,h,_,_,_,_,_=>absurd rfl h
 |[t],a,Jq,f,_,hc,ha,hd,QQ,hf=>by
  have Bt:∀k,a<=k->¬At x ", " x.length k:=λk hk hA=>by
   have h1:=DC hA;have h2:(x.cps.toList.drop a)[k - a]? =ae 44:=by (refine aj (Am ..) ?_;refine aj (show a+(k - a)=k by lia) ?_);exact h1
   rw [hd] at h2;exact hc t aa (ao h2)
  cases Jq with
  |cons c r=>exact absurd QQ.2.1 (Bt c QQ.1)
  |nil=>
   show [fj x a x.length]=[t];congr 1;have:(fj x a x.length).cps.toList=t.cps.toList:=by refine aj (rQ ..) ?_;refine aj (hd ..) ?_;show t.cps.toList.take _=_;refine d6 ?_;have h0:=congrArg kM hd;rw [fY] at h0;have h9:x.length=x.cps.toList.length:=rfl;have h0:_=t.cps.toList.length:=h0;lia
   cases t;exact congrArg Str.mk (uq.mp this)
 |t::u::ts,a,Jq,f,_,hc,ha,hd,QQ,hf=>by
  have hxl:x.length=x.cps.toList.length:=rfl;have hd':x.cps.toList.drop a=t.cps.toList++(44::32::glue ((u::ts).map (·.cps.toList))):=by exact hd.trans (bU ..)
  have hd2:x.cps.toList.drop (a+t.cps.toList.length)=44::32::glue ((u::ts).map (·.cps.toList)):=by refine fZ (JJ ..) ?_;refine aj (hd' ..) ?_;refine aj (List.drop_left ..) ?_;rfl
  have hA:=at_of hd2;have Bt:∀k,a<=k->k < a+t.cps.toList.length->¬At x ", " x.length k:=λk h1 h2 hA=>by
   have h3:=DC hA;have h4:(x.cps.toList.drop a)[k - a]? =ae 44:=by (refine aj (Am ..) ?_;refine aj (show a+(k - a)=k by lia) ?_);exact h3
   rw [hd',eE (by lia)] at h4;exact hc t aa (ao h4)
  cases Jq with
  |nil=>have:f=a:=QQ;exact absurd hA (hf _ (by lia))
  |cons c r=>
   have hca:c=a+t.cps.toList.length:=by
    rcases sO c (a+t.cps.toList.length) with h|h|h
    ·exact absurd QQ.2.1 (Bt c QQ.1 h)
    ·exact h
    ·exact absurd hA (QQ.2.2.1 _ (by exact dC _ _) h)
   subst hca;have hd3:x.cps.toList.drop (a+t.cps.toList.length+2)=glue ((u::ts).map (·.cps.toList)):=by (refine fZ (JJ ..) ?_;refine aj (hd2 ..) ?_);rfl
   have hle:a+t.cps.toList.length+2<=x.length:=hA.1;show fj x a (a+t.cps.toList.length)::partsFrom x 2 (a+t.cps.toList.length+2) r=t::u::ts;refine aj (yh x (u::ts) _ r f (by simp) (λv hv=>hc v (ab _ hv)) hle hd3 QQ.2.2.2 hf ..) ?_;congr 1;have:(fj x a (a+t.cps.toList.length)).cps.toList=t.cps.toList:=by refine aj (rQ ..) ?_;refine aj (hd' ..) ?_;refine aj (show a+t.cps.toList.length - a=t.cps.toList.length by lia) ?_;refine aj (List.take_left ..) ?_;rfl
   cases t;exact congrArg Str.mk (uq.mp this)
theorem vS{ts:List bb}(h0:ts≠[])(hc:∀t∈ts,44∉t.cps.toList):Nl (fO ", " ts) ", "=ts:=by
 obtain ⟨t,PU,rfl⟩:∃t PU,ts=t::PU:=by cases ts with|nil=>exact absurd rfl h0|cons t PU=>exact ⟨t,PU,rfl⟩
 refine aK (occ_tight (fO ", " (t::PU)) ", " (by decide)) λf h1 h2=>?_;have h3:=yh (fO ", " (t::PU)) (t::PU) 0 _ f h0 hc (gp _) (by (refine aj (fy ..) ?_;refine aj (yg ..) ?_;rfl)) h1 h2;generalize fO ", " (t::PU)=x at h1 h2 h3 ⊢;have whole:fj x 0 x.length=x:=by
  have:(fj x 0 x.length).cps.toList=x.cps.toList:=by refine aj (rQ ..) ?_;exact d6 (bp _)
  cases x;exact congrArg Str.mk (uq.mp this)
 unfold Nl;have MZ:(cZ x ", " 0 x.length (x.length+1))=[]->[x]=t::PU:=λh=>by
  rw [h] at h3;refine fZ (h3 ..) ?_;show [x]=[fj x 0 x.length];refine aj (whole ..) ?_;rfl
 split
 ·rename_i hk;refine MZ ?_;cases hcut:cZ x ", " 0 x.length (x.length+1) with
  |nil=>rfl
  |cons c r=>
   rw [hcut] at h1;have h4:=h1.2.1.1;have hl:(", ":bb).length=2:=rfl;have hs:mR (", ":bb)=1:=by decide+kernel
   have hx1:¬mR x < 1:=by unfold mR;split <;> (try split) <;> lia
   rw [hl] at h4;rw [hl,hs] at hk;simp only [jV,decide_eq_true_eq] at hk;lia
 ·split
  ·rename_i hk;exact MZ (by simpa using hk)
  ·refine aj (partsBetween_eq ..) ?_;exact h3
end
theorem qC:∀i,i < 33->∀j,j < 33->cB i=cB j->i=j:=by decide+kernel
theorem Iu:∀i,i < 33->44∉(cB i).cps.toList:=by decide+kernel
noncomputable def eZ(S:Nat):List Nat:=(aN 6).filter S.testBit
noncomputable def iy(low S:Nat):bb:=fO ", " ((eZ S).map λb=>cB (low+b))
noncomputable def AL(p:Nat->Bool):Nat:=(p 0).toNat+(p 1).toNat*2+(p 2).toNat*4+(p 3).toNat*8+(p 4).toNat*16+(p 5).toNat*32
theorem DD:∀a b c d e f:Bool,((a.toNat+b.toNat*2+c.toNat*4+d.toNat*8+e.toNat*16+f.toNat*32).testBit 0=a/\(a.toNat+b.toNat*2+c.toNat*4+d.toNat*8+e.toNat*16+f.toNat*32).testBit 1=b/\(a.toNat+b.toNat*2+c.toNat*4+d.toNat*8+e.toNat*16+f.toNat*32).testBit 2=c/\
 (a.toNat+b.toNat*2+c.toNat*4+d.toNat*8+e.toNat*16+f.toNat*32).testBit 3=d/\(a.toNat+b.toNat*2+c.toNat*4+d.toNat*8+e.toNat*16+f.toNat*32).testBit 4=e/\(a.toNat+b.toNat*2+c.toNat*4+d.toNat*8+e.toNat*16+f.toNat*32).testBit 5=f)/\
 a.toNat+b.toNat*2+c.toNat*4+d.toNat*8+e.toNat*16+f.toNat*32 < 64:=by decide
def kB.S0(p:Nat->Bool)(_:Nat):Prop:=∀{b:Nat} (h:b < 6),(AL p).testBit b=p b
namespace kB
@[irreducible] def e0:=Qg inferInstance eN S0
def p_:=e0.1
theorem T0:S0 p_ e0.2:=by intro b h;refine dU (DD (p_ 0) (p_ 1) (p_ 2) (p_ 3) (p_ 4) (p_ 5)) λdO z=>J0 dO λh0 h1 h2 h3 h4 h5=>?_;clear dO;delta AL;rcases (show b=0\/b=1\/b=2\/b=3\/b=4\/b=5 by lia) with rfl|rfl|rfl|rfl|rfl|rfl <;> assumption
end kB
theorem kB(p:Nat->Bool):kB.S0 p 0:=by with_unfolding_all exact Fo _ _ kB.S0 @kB.T0 p 0
theorem DE(p:Nat->Bool):AL p < 64:=(DD (p 0) (p 1) (p 2) (p 3) (p 4) (p 5)).2
theorem DF(p:Nat->Bool)(f:Nat->Nat):∀l:List Nat,((l.filter p).map f).sum=(l.map λb=>(p b).toNat*f b).sum
 |[]=>rfl
 |a::l=>by
  refine aj (hZ ..) ?_;refine aj (bA ..) ?_;refine aj (da ..) ?_;refine fZ (DF p f l ..) ?_;cases p a
  ·(refine aj (if_neg cF ..) ?_;refine aj (Bool.toNat_false ..) ?_;refine aj (rg ..) ?_;refine aj (eC ..) ?_;rfl)
  ·(refine aj (if_pos rfl ..) ?_;refine aj (bA ..) ?_;refine aj (da ..) ?_;refine aj (GV ..) ?_;refine aj (xt ..) ?_;rfl)
theorem Iv(p:Nat->Bool)(low:Nat):(((aN 6).filter p).map λb=>2 ^ (low+b)).sum=AL p*2 ^ low:=by
 refine aj (DF ..) ?_;delta AL;show (p 0).toNat*2 ^ (low+0)+((p 1).toNat*2 ^ (low+1)+((p 2).toNat*2 ^ (low+2)+((p 3).toNat*2 ^ (low+3)+((p 4).toNat*2 ^ (low+4)+((p 5).toNat*2 ^ (low+5)+0)))))=_;have e:∀i,2 ^ (low+i)=2 ^ i*2 ^ low:=λi=>by (refine aj (Nat.pow_add ..) ?_;refine aj (rb ..) ?_;rfl)
 rw [e,e,e,e,e,e,<- jY,<- jY,<- jY,<- jY,<- jY,<- jY,Nat.add_zero,<- iS,<- iS,<- iS,<- iS,<- iS];refine congrArg (·*2 ^ low) ?_;show (p 0).toNat*1+((p 1).toNat*2+((p 2).toNat*4+((p 3).toNat*8+((p 4).toNat*16+(p 5).toNat*32))))=_;rw [Nat.mul_one,<- l5,<- l5,<- l5,<- l5]
theorem B3{S low:Nat}(hS:S < 64)(hl:low < 28):nG (S*2 ^ low)=(eZ S).map (low+·):=by
 delta nG eZ;have h33:(33:Nat)=low+(6+(27 - low)):=by lia
 have QR:∀i,(S*2 ^ low).testBit i=(decide (low<=i) && S.testBit (i - low)):=λi=>by (refine aj (rb ..) ?_;refine aj (NS ..) ?_;rfl)
 refine aj (h33 ..) ?_;refine aj (List.range_add ..) ?_;refine aj (List.range_add ..) ?_;refine aj (bj ..) ?_;refine aj (fX ..) ?_;refine aj (fX ..) ?_;have h1:(aN low).filter (S*2 ^ low).testBit=[]:=by refine gj (gY ..) ?_;intro i hi;refine aj (QR ..) ?_;refine aj (decide_eq_false (by have:=aY.mp hi;exact Nat.not_le.mpr (by assumption)) ..) ?_;simp
 have h3:(((aN (27 - low)).map (6+·)).map (low+·)).filter (S*2 ^ low).testBit=[]:=by refine gj (gY ..) ?_;intro i hi;refine aK (aG.mp hi) λj hj eT=>?_;subst eT;refine aK (aG.mp hj) λj' z gi=>?_;subst gi;refine aj (QR ..) ?_;refine aj (show low+(6+j') - low=6+j' by lia) ?_;have:S.testBit (6+j')=aH:=vg (cb hS (by refine aj (show (64:Nat)=2 ^ 6 from rfl) ?_;exact e8 (by decide) (by exact dC _ _)));refine aj (this ..) ?_;simp
 refine aj (h1 ..) ?_;refine aj (h3 ..) ?_;refine aj (qi ..) ?_;refine aj (cy ..) ?_;refine aj (List.filter_map ..) ?_;congr 1;refine fz λb hb=>?_;simp only [l7];refine aj (QR ..) ?_;refine aj (show low+b - low=b by lia) ?_;simp
theorem rR{S low:Nat}(hS:S < 64)(hl:low < 28):rP (S*2 ^ low)=iy low S:=by delta rP iy;refine aj (B3 hS hl ..) ?_;refine aj (a0 ..) ?_;rfl
theorem vT{S b:Nat}(h:b∈eZ S):b < 6:=aY.mp (bo.mp h).1
theorem B4{S:Nat}(hS:S < 64)(h0:S≠0):eZ S≠[]:=by
 have:∀S,S < 64->S≠0->eZ S≠[]:=by decide+kernel
 exact this S hS h0
theorem oR{S low:Nat}(hS:S < 64)(h0:S≠0)(hl:low < 28):Nl (iy low S) ", "=(eZ S).map λb=>cB (low+b):=by
 refine vS ?_ ?_
 ·intro h;exact B4 hS h0 (jc.mp h)
 ·intro t ht;refine aK (aG.mp ht) λb hb iC=>?_;subst iC;exact Iu _ (by have:=vT hb;lia)
theorem DG:∀ts:List (List Nat),(glue ts).length<=(ts.map (·.length)).sum+2*ts.length
 |[]=>by decide
 |[t]=>by simp [glue]
 |t::u::r=>by
  have:=DG (u::r);rw [glue];simp only [ba,bK,GW,bA,da] at this ⊢;lia
theorem KR:∀ts:List bb,(fO ", " ts).length<=(ts.map (·.length)).sum+2*ts.length
 |[]=>by show (0:Nat)<=_;exact gp _
 |t::ts=>by
  have h1:=DG ((t::ts).map (·.cps.toList));rw [<- yg] at h1;rw [a0,ak] at h1;exact h1
theorem vU{S low:Nat}(hl:low < 28):(iy low S).length<=200:=by
 delta iy;have h1:=KR ((eZ S).map λb=>cB (low+b));have h2:∀l:List Nat,(∀b∈l,b < 6)->((l.map λb=>cB (low+b)).map (·.length)).sum<=l.length*20:=by
  intro l;induction l with
  |nil=>intro z;simp
  |cons a l ih=>intro h;have:=ih λi hi=>h i (ab _ hi);have:=BZ (low+a) (by have:=h a aa;lia);simp only [bA,da,bK];lia
 have h3:=h2 (eZ S) λb hb=>vT hb;have h4:(eZ S).length<=6:=by have:=bu S.testBit (aN 6);exact this
 rw [ak] at h1;lia
noncomputable def bD(low:Nat)(l:List Nat)(f:Nat->V):List (bb×V):=l.map λb=>(cB (low+b),f b)
theorem gb{low:Nat}{l:List Nat}{f:Nat->V}{b:Nat}(hl:low < 28)(h6:∀c∈l,c < 6)(hb:b∈l):mf (bD low l f) (cB (low+b))=ae (f b):=by
 delta mf bD;induction l with
 |nil=>exact eo hb
 |cons c l ih=>
  refine aj (bA ..) ?_;refine aj (jW ..) ?_;by_cases hc:c=b
  ·subst hc;simp
  ·have iP:cB (low+c)≠cB (low+b):=λe=>by
    have h1:=h6 c aa;have h2:=h6 b hb;have:=qC (low+c) (by lia) (low+b) (by lia) e;lia
   simp only [iP,decide_false];exact ih (λc hc=>h6 c (ab _ hc)) (by rcases aP.mp hb with h|h;exact absurd h.symm hc;exact h)
theorem FT{low:Nat}{l:List Nat}{f:Nat->V}{b:Nat}{v:V}(hl:low < 28)(h6:∀c∈l,c < 6)(hb:b∈l):jF (bD low l f) (cB (low+b)) v=bD low l λc=>if c=b then v else f c:=by
 delta jF bD;refine aj (if_pos (by rw [CG,cS];exact ⟨b,hb,by simp⟩) ..) ?_;refine aj (a0 ..) ?_;refine b5 λc hc=>?_;simp only [l7];by_cases h:c=b
 ·subst h;simp
 ·have iP:cB (low+c)≠cB (low+b):=λe=>by
   have h1:=h6 c hc;have h2:=h6 b hb;have:=qC (low+c) (by lia) (low+b) (by lia) e;lia
  refine aj (if_neg iP ..) ?_;refine aj (if_neg h ..) ?_;rfl
theorem KU(low:Nat)(l:List Nat)(f:Nat->V):(bD low l f).length=l.length:=by exact ak ..
theorem pP{α:Type}{l:List α}{f:α->bb×V}(h:PE k mu env e (.dict (l.map f))):pd k mu env e t [] (l.map λa=> .str (f a).1):=by
 have:=Kl (t:=t) h
 rwa [a0] at this
theorem nk{α:Type}(l:List α)(f:α->Int):(ph (l.map λa=>V.int (f a))).isSome=aI:=by
 induction l with
 |nil=>rfl
 |cons a l ih=>show (Option.map (PyData.int (f a)::·) (ph (l.map λa=>V.int (f a)))).isSome=aI;exact (Option.isSome_map ..).trans ih
noncomputable abbrev Cs:=List (Nat×Int)
noncomputable def FU(low:Nat)(c:Cs):V:= .dict (c.map λq=>(cB (low+q.1),V.int q.2))
structure Rw where
 a:Nat->Int
 b:Nat->Int
 c:Nat->Int
 d:Nat->Int
 cs:Nat->Cs
theorem RN:Nonempty Rw:=⟨⟨λz=>0,λz=>0,λz=>0,λz=>0,λz=>[]⟩⟩
noncomputable abbrev rq(low:Nat)(B:Rw)(b:Nat):V:= .tup [.int (B.a b),.int (B.b b),.int (B.c b),.int (B.d b),FU low (B.cs b)]
noncomputable def fT(low:Nat)(B:Rw):List (bb×V):=bD low [1,2,3,4,5] (rq low B)
noncomputable def qD(low:Nat):List (bb×V):=bD low (aN 6) λb=>nV (2 ^ (low+b))
noncomputable def ot(low:Nat)(S:Nat->Nat):List (bb×V):=bD low (aN 6) λb=> .str (iy low (S b))
noncomputable def cU(S:Nat->Nat)(cs:Nat->Cs)(j:Nat):Nat:=AL λo=>o == j || (cs j).all λc=>(S c.1).testBit o
theorem Ot:∀S,S < 64->∀S',S' < 64->eZ S=eZ S'->S=S':=by decide+kernel
theorem Iw{low S S':Nat}(hl:low < 28)(h:S < 64/\S≠0)(h':S' < 64/\S'≠0)(e:iy low S=iy low S'):S=S':=by
 have e1:=oR h.1 h.2 hl;rw [e,oR h'.1 h'.2 hl] at e1;refine Ot S h.1 S' h'.1 ?_;have key:∀l m:List Nat,(∀b∈l,b < 6)->(∀b∈m,b < 6)->(l.map λb=>cB (low+b))=(m.map λb=>cB (low+b))->l=m:=by
  intro l;induction l with
  |nil=>intro m z z h;exact (jc.mp h.symm).symm
  |cons a l ih=>
   intro m h1 h2 h3;cases m with
   |nil=>exact J3 h3
   |cons c m=>simp only [bA,GP] at h3;have ha:=h1 a aa;have hc:=h2 c aa;have:=qC (low+a) (by lia) (low+c) (by lia) h3.1;refine aj (ih m (λb hb=>h1 b (ab _ hb)) (λb hb=>h2 b (ab _ hb)) h3.2 ..) ?_;congr 1;lia
 exact key _ _ (λb hb=>vT hb) (λb hb=>vT hb) e1.symm
theorem DH(S:Nat->Nat)(cs:Nat->Cs){j:Nat}(hj:j < 6):cU S cs j≠0:=by intro h;have:=kB (λo=>o == j || (cs j).all λc=>(S c.1).testBit o) hj;unfold cU at h;rw [h] at this;simp at this
theorem vV{low S o:Nat}(hl:low < 28)(ho:o < 6):((eZ S).map λb=>cB (low+b)).any (· == cB (low+o))=S.testBit o:=by
 refine gj (cj ..) ?_;refine gj (cS ..) ?_;constructor
 ·intro dO;refine aK dO λz h1 h2=>?_;clear dO;refine aK (aG.mp h1) λb hb eT=>?_;subst eT;have h6:=vT hb;have:=qC (low+b) (by lia) (low+o) (by lia) (by simpa using h2);have hbo:b=o:=by lia
  subst hbo;exact (bo.mp hb).2
 ·intro h;exact ⟨cB (low+o),aG.mpr ⟨o,bo.mpr ⟨aY.mpr ho,h⟩,rfl⟩,by simp⟩
theorem rS{low a b:Nat}(hl:low < 28)(ha:a < 6)(hb:b < 6):(cB (low+a) == cB (low+b))=(a == b):=by
 refine gj (cj ..) ?_;simp only [beq_iff_eq];constructor
 ·intro h;have:=qC (low+a) (by lia) (low+b) (by lia) h;lia
 ·rintro rfl;rfl
theorem yi{low S:Nat}(hl:low < 28):(Builtin.Str.partsBetween (iy low S) (cZ (iy low S) ", " 0 (iy low S).length ((iy low S).length+1)) (", ":bb).length).length<=er:=by refine aj (length_partsBetween ..) ?_;have h1:=StrLaws.occ_length_le (iy low S) ", " 0 (iy low S).length ((iy low S).length+1);have h2:=vU (S:=S) hl;show _<=2 ^ 24;lia
theorem tK{a b c d e:V}:Gi k mu (bZ (.tup [a,b,c,d,e])) (bZ (.int 4)) (bZ e):=Kv rfl (by show -((5:Nat):Int)<=4;decide) (by decide) (by show 5 < 2 ^ 62;decide)
def tL.S0(k:Nat)(mu:Mu)(low:Nat)(T:ay)(i:Nat)(S:Nat->Nat)(B:Rw)(j:Nat):Prop:=∀(H:Hy G) (hl:low < 28) (hi:mu[i]? =ae (cD T (ot low S))) (hS:∀b,S b < 64/\S b≠0) (QS:∀b,∀c∈B.cs b,c.1 < 6) (hlen:∀b,(B.cs b).length<=1000) (hj:j∈[1,2,3,4,5]),FW (k+4) mu (.ref 302) [.dict (fT low B),.ref T,.dict (qD low),.str (cB (low+j))] λy nu=>
 (cU S B.cs j=S j/\y= .list []/\nu=mu)\/(cU S B.cs j≠S j/\y= .list (([1,2,3,4,5].filter λo=>(B.cs o).any λc=>c.1 == j).map λo=> .str (cB (low+o)))/\nu=mu.set i (cD T (ot low λb=>if b=j then cU S B.cs j else S b)))
namespace tL
@[irreducible] def e0:=Nz eN gD eN cL eN inferInstance RN eN S0
def k_:=e0.1
def fb:=e0.2.1
def gc:=e0.2.2.1
def T_:=e0.2.2.2.1
def i_:=e0.2.2.2.2.1
def S_:=e0.2.2.2.2.2.1
def B_:=e0.2.2.2.2.2.2.1
def j_:=e0.2.2.2.2.2.2.2
theorem T0:S0 k_ fb gc T_ i_ S_ B_ j_:=by
 intro H hl hi hS QS hlen hj;refine th H H.f302 (names:=["book","table","flags","name"]) (vals':=λL=>[ae (.dict (fT gc B_)),ae (.ref T_),ae (.dict (qD gc)),ae (.str (cB (gc+j_))),av,av]) (λpm cd doc vs h=>?_) (by decide+kernel) rfl (λpm cd doc L=>?_) (λpm cd doc L he=>?_)
 ·exact RF h λa b c d=>rfl
 ·exact .cons (j:=0) (.cell (L+1) "book") rfl (.cons (j:=1) (.cell (L+2) "table") rfl (.cons (j:=2) (.cell (L+3) "flags") rfl (.cons (j:=3) (.cell (L+4) "name") rfl .nil)))
 have h56:∀c∈[1,2,3,4,5],c < 6:=by decide
 have CU:∀c∈aN 6,c < 6:=λc hc=>aY.mp hc;have HS:j_ < 6:=h56 j_ hj;have hbk:∀o∈[1,2,3,4,5],mf (fT gc B_) (cB (gc+o))=ae (rq gc B_ o):=λo ho=>gb hl h56 ho;have QR:∀o,o < 6->mf (ot gc S_) (cB (gc+o))=ae (.str (iy gc (S_ o))):=λo ho=>gb hl CU (aY.mpr ho);have PV:∀o,o < 6->mf (qD gc) (cB (gc+o))=ae (nV (2 ^ (gc+o))):=λo ho=>gb hl CU (aY.mpr ho);have hT:=ao hi;refine aC (bX (y:= .list ((B_.cs j_).map λc=> .list ((eZ (S_ c.1)).map λb=> .str (cB (gc+b))))) (jP _ _ _ ⟨rfl,rfl,by decide+kernel,by decide+kernel⟩ (pP (l:=B_.cs j_) (f:=λq=>(cB (gc+q.1),V.int q.2)) (bF (bF (pM (ah (j:=0) he (.cell (L+1) "book") aa rfl)) (ah (j:=3) he (.cell (L+4) "name") aa rfl) (mh (hbk j_ hj))) aU tK)) (by lia) (by have:=hlen j_;exact aw (by assumption) (by decide))
  (λC1 a ha=>iu 1 he.comp .loc dk (λhb=>bM (f7 (bF (wJ (ah (j:=1) he.comp (.cell (L+2) "table") (ab _ aa) rfl) (ab _ (ab _ hT))) (ah (j:=1) he.comp .loc aa rfl) (mh (QR a.1 (QS j_ a ha)))) mL (au cO aT) (ky rfl (by have:=vU (S:=S_ a.1) hl;show _<=2 ^ 24;exact aw (by assumption) (by decide)) (yi hl)) (by exact eM) (by exact jX) (by exact Np) rfl)
   (by (refine aj (oR (hS a.1).1 (hS a.1).2 hl ..) ?_;refine aj (a0 ..) ?_);rfl)))) (aQ (i:=0) (j:=4) he (.cell (L+5) "words") rfl ?_) rfl rfl)
 have SY:((((aN 6).filter λo=>o == j_ || (B_.cs j_).all λc=>(S_ c.1).testBit o).map λb=>((2 ^ (gc+b):Nat):Int)).sum)=((cU S_ B_.cs j_*2 ^ gc:Nat):Int):=by
  unfold cU;refine fZ (Iv ..) ?_;generalize (aN 6).filter _=l;induction l with
  |nil=>rfl
  |cons a l ih=>(refine aj (bA ..) ?_;refine aj (da ..) ?_;refine aj (ih ..) ?_;refine aj (bA ..) ?_;refine aj (da ..) ?_;refine aj (Int.natCast_add ..) ?_;rfl)
 have SZ:cU S_ B_.cs j_ < 64:=DE _;have M0:=DH S_ B_.cs HS;have h33:cU S_ B_.cs j_*2 ^ gc < 2 ^ 33:=by
  have h1:2 ^ gc<=2 ^ 27:=e8 (by decide) (by exact CI (by assumption));have h2:=JK (show cU S_ B_.cs j_<=63 by exact CI (by assumption)) h1
  with_reducible exact b7 (by assumption) (by decide)
 have hne0:cU S_ B_.cs j_*2 ^ gc≠0:=by have:=qh gc;exact Nat.mul_ne_zero M0 (by exact jJ (by assumption))
 refine cq (H.f72.go) λob Uh cd' Jp h0 hd z=>?_;have M1:∀nu:Mu,FW (k_+3) nu (.ref 72) [nV (cU S_ B_.cs j_*2 ^ gc)] λy nu'=>y= .str (iy gc (cU S_ B_.cs j_))/\nu'=nu:=λnu=>by
  have:=oQ (k:=k_+1) (mu:=nu) H hne0 h33
  rwa [rR SZ hl] at this
 have htest:∀o,o < 6->((o == j_) || ((((B_.cs j_).filter λc=>!((eZ (S_ c.1)).map λb=>cB (gc+b)).any (· == cB (gc+o))).map λz=>V.int 1).isEmpty || false))=(o == j_ || (B_.cs j_).all λc=>(S_ c.1).testBit o):=λo ho=>by
  congr 1;refine aj (zF ..) ?_;refine aj (List.isEmpty_map ..) ?_;refine gj (cj ..) ?_;refine gj (ur ..) ?_;refine gj (gY ..) ?_;refine gj (fW ..) ?_;constructor
  ·intro h c hc;have:=h c hc;rw [vV hl ho] at this;simpa using this
  ·intro h c hc;refine aj (vV hl ho ..) ?_;refine aj (h c hc ..) ?_;decide
 refine aC (bX (y:= .str (iy gc (cU S_ B_.cs j_))) (ju (ys:=[nV (cU S_ B_.cs j_*2 ^ gc)]) (mn H he H.m_flags rfl) h0 hd (au (bM (ek (j4 H he H.b_sum rfl) (au (dD (nF (aN 6) (λb=>V.str (cB (gc+b))) (λo=>o == j_ || (B_.cs j_).all λc=>(S_ c.1).testBit o) (λb=>V.int ((2 ^ (gc+b):Nat):Int)) ⟨rfl,rfl,by decide+kernel,by decide+kernel⟩ (pP (l:=aN 6) (f:=λb=>(cB (gc+b),nV (2 ^ (gc+b)))) (ah (j:=2) he (.cell (L+3) "flags") aa rfl)) (by lia) (by decide)
  (λC2 a ha=>by
   have PW:=aY.mp ha;refine fZ (htest a PW ..) ?_;refine iu 1 he.comp (.cell (C2+1) "other") (fS (oM (iM ?_ (λh=>(iM (c9 (nF (B_.cs j_) (λc=>V.list ((eZ (S_ c.1)).map λb=> .str (cB (gc+b)))) (λc=>!((eZ (S_ c.1)).map λb=>cB (gc+b)).any (· == cB (gc+a))) (λz=>V.int 1) ⟨rfl,rfl,by decide+kernel,by decide+kernel⟩ (dA (ah (j:=4) he.comp (.cell (L+5) "words") (ab _ aa) rfl)) (by lia) (by have:=hlen j_;exact aw (by assumption) (by decide)) (λC3 c hc=>iu 1 he.comp.comp .loc (fS (c9 (ah (j:=1) he.comp.comp (.cell (C2+1) "other") (ab _ aa) rfl) (dD (bM (ah (j:=1) he.comp.comp .loc aa rfl) (by refine aj (a0 ..) ?_;rfl))) BP)) (λhb=>aU))) (ij (xs:=[]) aT (bg rfl)) (FJ (nk _ _))) (λh=>jn)))))) (λhb=>bF (pM (ah (j:=2) he.comp (.cell (L+3) "flags") (ab _ aa) rfl)) (ah (j:=1) he.comp (.cell (C2+1) "other") aa rfl) (mh (PV a PW)));refine fZ (rS hl PW HS ..) ?_;exact c9 (ah (j:=1) he.comp (.cell (C2+1) "other") aa rfl) (ah (j:=3) he.comp (.cell (L+4) "name") (ab _ aa) rfl) rB))) aT) uN) (congrArg V.int SY)) aT) (M1 _)) (aQ (i:=0) (j:=5) he .loc rfl ?_) rfl rfl)
 refine aC (iY (c9 (ah (j:=5) he .loc aa rfl) (bF (wJ (ah (j:=1) he (.cell (L+2) "table") aa rfl) (ab _ hT)) (ah (j:=3) he (.cell (L+4) "name") aa rfl) (mh (QR j_ HS))) rB) (λh=>?_) λh=>?_)
 ·have h2:cU S_ B_.cs j_=S_ j_:=Iw hl ⟨SZ,M0⟩ (hS j_) (by simpa using h);exact aC (gw (cf (ij (xs:=[]) aT (bg rfl)) (ki (.inl ⟨h2,rfl,rfl⟩))))
 ·have h2:cU S_ B_.cs j_≠S_ j_:=λe=>by rw [e] at h;simp at h
  refine bC ?_;refine aC (qB (i:=i_+1) (ah (j:=5) he .loc aa rfl) (ah (j:=1) he (.cell (L+2) "table") aa rfl) (ah (j:=3) he (.cell (L+4) "name") aa rfl) (es:=ot gc S_) hi (by show (ot gc S_).length<=2 ^ 24;unfold ot;refine aj (KU ..) ?_;decide) ?_);have S1:jF (ot gc S_) (cB (gc+j_)) (.str (iy gc (cU S_ B_.cs j_)))=ot gc λb=>if b=j_ then cU S_ B_.cs j_ else S_ b:=by unfold ot;refine aj (FT hl CU (aY.mpr HS) ..) ?_;unfold bD;refine b5 λc hc=>?_;by_cases hcj:c=j_ <;> simp [hcj]
  refine aj (S1 ..) ?_;refine aC (gw (cf (nF [1,2,3,4,5] (λb=>V.str (cB (gc+b))) (λo=>(B_.cs o).any λc=>c.1 == j_) (λo=>V.str (cB (gc+o))) ⟨rfl,rfl,by decide+kernel,by decide+kernel⟩ (pP (l:=[1,2,3,4,5]) (f:=λb=>(cB (gc+b),rq gc B_ b)) (ah (j:=0) he (.cell (L+1) "book") aa rfl)) (by lia) (by decide) (λC4 a ha=>?_)) (ki (.inr ⟨h2,rfl,rfl⟩))));have hhas:(mf ((B_.cs a).map λq=>(cB (gc+q.1),V.int q.2)) (cB (gc+j_))).isSome=(B_.cs a).any λc=>c.1 == j_:=by
   refine gj (cj ..) ?_;unfold mf;refine aj (Option.isSome_map ..) ?_;refine gj (List.find?_isSome ..) ?_;refine gj (cS ..) ?_;constructor
   ·intro gi;refine aK gi λq hq PX=>?_;clear gi;refine aK (aG.mp hq) λc hc iC=>?_;subst iC;refine ⟨c,hc,?_⟩;refine fZ (rS hl (QS a c hc) HS ..) ?_;exact PX
   ·intro kG;refine aK kG λc hc hc2=>?_;clear kG;refine ⟨_,aG.mpr ⟨c,hc,rfl⟩,?_⟩;rw [<- rS hl (QS a c hc) HS] at hc2;exact hc2
  refine fZ (hhas ..) ?_;exact iu 1 he.comp .loc (fS (c9 (ah (j:=3) he.comp (.cell (L+4) "name") (ab _ aa) rfl) (pM (bF (bF (pM (ah (j:=0) he.comp (.cell (L+1) "book") (ab _ aa) rfl)) (ah (j:=1) he.comp .loc aa rfl) (mh (hbk a ha))) aU tK)) KC)) (λhb=>ah (j:=1) he.comp .loc aa rfl)
end tL
theorem tL{low:Nat}{T:ay}{i:Nat}{S:Nat->Nat}{B:Rw}{j:Nat}:tL.S0 k mu low T i S B j:=by with_unfolding_all exact Bz _ _ _ _ _ _ _ _ tL.S0 @tL.T0 k mu low T i S B j
variable {name:bb}{fs:List (bb×V)}{K:fl}
structure FV(G:Gd)(K:fl):Prop where
 inn:∀h:dH,(∀a o,G.Z0 a=ae o->h.get? a=ae o)->K.In h
noncomputable def gM(Z:bI):List gA->List (bb×V)->Prop
 |[],[]=>True
 |e::es,q::fs=>(∃t,e.key= .str q.1 t)/\aZ G Z e.val q.2/\gM Z es fs
 |_,_=>False
@[elab_as_elim] theorem gM.ind{Z:bI}{P:List gA->List (bb×V)->Prop}{es:List gA}{fs:List (bb×V)}(h:gM Z es fs)(nil:P [] [])
 (cons:∀{e es q fs},e.refKey=aH->(∃t,e.key= .str q.1 t)->aZ G Z e.val q.2->P es fs->P (e::es) (q::fs)):P es fs:=by
 induction es generalizing fs with
 |nil=>cases fs with
  |nil=>exact nil
  |cons=>exact h.elim
 |cons e es ih=>cases fs with
  |nil=>exact h.elim
  |cons q fs=>exact cons (h.1.elim λt w=>by unfold DictEntry.refKey;(refine aj (w ..) ?_;rfl)) h.1 h.2.1 (ih h.2.2)
theorem gM.mono{Z Z':bI}(hz:Z.le Z'){es:List gA}{fs:List (bb×V)}(h:gM Z es fs):gM Z' es fs:=h.ind trivial λ{z z z z} z k v r=>⟨k,v.mono hz,r⟩
noncomputable def gH(x C dx:ay)(fs:List (bb×V)):cX where
 own:=[x,dx]
 sat:=λZ h=>h.get? x=ae (Af C dx)/\∃es n,h.get? dx=ae (i3 es n)/\gM Z es fs
 mono:=λZ Z' h hz w=>⟨w.1,w.2.imp λz=>bQ λz u=>⟨u.1,u.2.mono hz⟩⟩
 loc:=λZ h h' w hk z z=>⟨hk x aa _ w.1,w.2.imp λz=>bQ λz u=>⟨hk dx (ab _ aa) _ u.1,u.2⟩⟩
 live:=λZ h w y hy=>(aP.mp hy).elim (λe=>⟨_,e▸w.1⟩) λe=>w.2.elim λz u=>u.elim λz u=>⟨_,aA.mp e▸u.1⟩
noncomputable def zS:List (bb×V)->bb->V->List (bb×V)
 |[],x,y=>[(x,y)]
 |q::fs,x,y=>if q.1=x then (x,y)::fs else q::zS fs x y
theorem AM{e:gA}{x name:bb}(h:∃t,e.key= .str x t):e.key.isStr name=decide (x=name):=by obtain ⟨t,h⟩:=h;refine aj (h ..) ?_;show (x == name)=_;exact cj.mpr (beq_iff_eq.trans decide_eq_true_iff.symm)
section
variable {es:List gA}
theorem AN{e:gA}{x:bb}(hr:e.refKey=aH)(hk:∃t,e.key= .str x t):getL name (e::es)=if x=name then ae (ae e.val) else getL name es:=by
 unfold getL;refine aj (jW ..) ?_;refine aj (AM hk ..) ?_;refine aj (zG ..) ?_;refine aj (hr ..) ?_;refine aj (Bool.false_or ..) ?_;by_cases hx:x=name
 ·(refine aj (decide_eq_true hx ..) ?_;refine aj (if_pos hx ..) ?_;rfl)
 ·(refine aj (decide_eq_false hx ..) ?_;refine aj (if_neg hx ..) ?_;rfl)
theorem gM.none(h:gM Z es fs):name∉fs.map (·.1)->getL name es=ae av:=
 h.ind (λz=>rfl) λ{e es q fs} hr hk z ih hn=>by
  refine aj (AN hr hk ..) ?_;refine aj (if_neg λw:q.1=name=>hn (w▸aa) ..) ?_;exact ih λhm=>hn (ab _ hm)
theorem gM.some(h:gM Z es fs):(fs.map (·.1)).Nodup->(name,y)∈fs->∃v,getL name es=ae (ae v)/\aZ G Z v y:=
 h.ind (λz hm=>eo hm) λ{e es q fs} hr hk hv ih hnd hm=>by
  rw [bA,cg] at hnd;refine aj (AN hr hk ..) ?_;by_cases hq:q.1=name
  ·refine aj (if_pos hq ..) ?_;rcases aP.mp hm with rfl|hm
   ·exact ⟨e.val,rfl,hv⟩
   ·exact absurd (aG.mpr ⟨_,hm,hq.symm⟩) hnd.1
  ·refine aj (if_neg hq ..) ?_;rcases aP.mp hm with rfl|hm
   ·exact absurd rfl hq
   ·exact ih hnd.2 hm
theorem gM.put{v:ai}{vk:Int}{tk:HW}(hv:aZ G Z v y)(h:gM Z es fs):gM Z (putL name vk (.str name tk) v es) (zS fs name y):=by
 have:=(h.ind (P:=λes fs=>gM Z es fs/\gM Z (putL name vk (.str name tk) v es) (zS fs name y)) ⟨trivial,⟨tk,rfl⟩,hv,trivial⟩ λ{e es q fs} hr hk GI ih=>?_).2
 ·exact this
 ·refine ⟨⟨hk,GI,ih.1⟩,?_⟩;unfold putL zS;refine aj (AM hk ..) ?_;by_cases hq:q.1=name
  ·(refine aj (decide_eq_true hq ..) ?_;refine aj (if_pos rfl ..) ?_;refine aj (if_pos hq ..) ?_)
   exact ⟨hq▸hk,hv,ih.1⟩
  ·(refine aj (decide_eq_false hq ..) ?_;refine aj (if_neg cF ..) ?_;refine aj (if_neg hq ..) ?_)
   exact ⟨hk,GI,ih.2⟩
theorem gM.len(h:gM Z es fs):es.length=fs.length:=h.ind rfl λ{z z z z} z z z ih=>congrArg xm ih
theorem gM.noRef(h:gM Z es fs):es.any (·.refKey)=aH:=h.ind rfl λ{z z z z} hr z z ih=>by (refine aj (zG ..) ?_;refine aj (hr ..) ?_;refine aj (ih ..) ?_);rfl
end
section
variable {apos:jC}{x C dx f:ay}
theorem xE(r:R Z mu s)(hm:gH x C dx fs∈mu):∃es n,InstAt s.heap x (Af C dx) C (ae (i3 es n))/\s.heap.get? dx=ae (i3 es n)/\gM Z es fs:=by exact uC (r.sat _ hm) λa es n b c=>⟨es,n,⟨a,rfl,rfl,b⟩,b,c⟩
theorem m8{v:ai}(h:aZ G Z v y)(hy:∀n,y≠ .bi n):handedIn v=aI:=by cases v <;> first|rfl|(cases h;exact absurd rfl (hy _))
theorem DI{cd:ClassData}{es:List gA}{n:Nat}{v:ai}(hcd:clsIn K C=ae cd)(h2:fH K (.ref C) name=ae av)(ES:cd.hasDict=aI)(hv:getL name es=ae (ae v)):findObj K C (ae (i3 es n)) name=ae (.value v):=by delta findObj;refine aj (hcd ..) ?_;refine aj (h2 ..) ?_;show (W.ownOf cd (ae (i3 es n)) name).bind _=_;refine aj (show W.ownOf cd (ae (i3 es n)) name=ae (ae v) from (if_pos ES).trans ((QZ ..).trans hv)) ?_;rfl
theorem Hp{A:bh}{E Q:ai->aq->Prop}{b:Bool}(KO:FV G K)(hp:eS K C name=aI)(r:R Z mu s)(hm:gH x C dx fs∈mu)(hnd:(fs.map (·.1)).Nodup)(hq:(name,y)∈fs)(hy:∀n,y≠ .bi n)
 (q:∀{v tk},aZ G Z v y->R Z mu {s with toks:=tk}->Q v {s with toks:=tk}):aS (aX G.prog G.w) A (s8 (.ref x) name b) Q E s:=by
 refine cC (xE r hm) λes n I z he=>aK (he.some hnd hq) λv hv hr=>dU (cn.mp hp) λS2 h3=>dU (cn.mp S2) λh1 h2=>aK (any_some h1) λcd hcd ES=>get_value (KO.inn _ r.z0in) I (jE h3) ?_ (m8 hr hy) (q hr r.toks);exact DI hcd (jE h2) ES hv
theorem oS(KO:FV G K)(hp:eS K C name=aI)(ho:PE k mu env o (.ref x))(hm:gH x C dx fs∈mu)(hnd:(fs.map (·.1)).Nodup)(hq:(name,y)∈fs)(hy:∀n,y≠ .bi n)
 (he:autoParam (dW (.Attribute o name p) env=(do let ov <- dW o env;iE p.atName;let r <- eW [ov] (s8 ov name aI);pF o ov r;dg r)) aR):PE k mu env (.Attribute o name p) y:=⟨λ{A E Z s fr Q} hA r q=>by
 refine gZ ?_ he;refine ho.c hA r λ{ov s1 Z1} z1 q1 r1=>aj (aZ.refE q1 ..) ?_;exact Hp KO hp r1 (aE fr hm) hnd hq hy λ{z z} hr r2=>q z1 hr r2⟩
theorem yj{A:bh}{E:ai->aq->Prop}{Q:ai×List ai->aq->Prop}{pl:mF Bool}(KO:FV G K)(hp:jm K C f name=aI)(r:R Z mu s)(hm:gH x C dx fs∈mu)(hn:name∉fs.map (·.1))(h:Q (.ref f,[.ref x]) s):aS (aX G.prog G.w) A (mB (.ref x) name pl) Q E s:=by exact cC (xE r hm) λes n I z he=>dU (cn.mp hp) λS3 h4=>dU (cn.mp S3) λS2 h3=>dU (cn.mp S2) λh1 h2=>method_fn (KO.inn _ r.z0in) I (jE h1) (jE h2) (jE h3) (jE h4) (by show (lookIn name (i3 es n)).map (·.isSome)=ae aH;(refine aj (QZ ..) ?_;refine aj (he.none hn ..) ?_);rfl) h
theorem pQ{ob:o6}{fd:cm}{pl:mF Bool}(KO:FV G K)(hp:jm K C f name=aI)(ho:PE k mu env o (.ref x))(hm:gH x C dx fs∈mu)(hn:name∉fs.map (·.1))(h0:G.Z0 f=ae ob)(hd:ob.data= .func fd)
 (hF:FW k mu (.ref f) [.ref x] Φ)
 (he:autoParam (dW (.Call (.Attribute o name apos) [] [] pos) env=(do let ov <- dW o env;iE apos.atName;let (f,first) <- eW [ov] (mB ov name pl);pE pos f first (lj pos (fo [] env)) [])) aR):
 WE k mu env (.Call (.Attribute o name apos) [] [] pos) Φ:=⟨λ{A E Z s fr Q} hA r q=>by
 refine i5 (pl:=pl) ?_ he;refine ho.c hA r λ{ov s1 Z1} z1 q1 r1=>aj (aZ.refE q1 ..) ?_;refine yj KO hp r1 (aE fr hm) hn ?_;refine callWith_function (o:=ob) (fd:=fd) ?_;exact UB ⟨⟨r1.z0in _ _ h0,hd⟩,hF.c hA r1 (.cons (.ref x) .nil) λ{z z z z z} z3=>q (z1.trans z3)⟩⟩
theorem B5{a:bH}{rest:List bH}{ob:o6}{fd:cm}{pl:mF Bool}(KO:FV G K)(hp:jm K C f name=aI)(ho:PE k mu env o (.ref x))(hm:gH x C dx fs∈mu)(hn:name∉fs.map (·.1))(h0:G.Z0 f=ae ob)(hd:ob.data= .func fd)
 (ha:Dt k mu env (a::rest) λys nu=>FW k nu (.ref f) (.ref x::ys) Φ) (wy:autoParam (kh (a::rest)=aI) aR)
 (he:autoParam (dW (.Call (.Attribute o name apos) (a::rest) [] pos) env=(do let ov <- dW o env;iE apos.atName;let (f,first) <- eW [ov] (mB ov name pl);pE pos f first (lj pos (fo (a::rest) env)) [])) aR):
 WE k mu env (.Call (.Attribute o name apos) (a::rest) [] pos) Φ:=⟨λ{A E Z s fr Q} hA r q=>by
 refine i5 (pl:=pl) ?_ he;refine ho.c hA r λ{ov s1 Z1} z1 q1 r1=>aj (aZ.refE q1 ..) (yj KO hp r1 (aE fr hm) hn ?_);exact He (ob:=ob) (fd:=fd) ha wy hA r1 λ{z z z z z} z2 q2 r2 w2=>⟨⟨r2.z0in _ _ h0,hd⟩,w2.c hA r2 (.cons (.ref x) q2) λ{z z z z z} z3=>q (z1.trans (z2.trans z3))⟩⟩
theorem KV(name:bb)(vk:Int)(key v:ai)(l:List gA):(putL name vk key v l).length<=l.length+1:=by
 induction l with
 |nil=>exact bp _
 |cons a l ih=>
  unfold putL
  split
  ·exact jD _
  ·exact E4 ih
def qE.S0(x C dx:ay)(name:bb)(s:aq)(A:bh)(Rr:wD->aq->Prop)(v:ai)(de:List gA)(_:Nat):Prop:=∀{K:fl} {tk:HW} {n:Nat} (X:K.In s.heap) (I:InstAt s.heap x (Af C dx) C (ae (i3 de n))) (D:s.heap.get? dx=ae (i3 de n)) (h2:plainOver K C=aI) (h3:takerIn K C name=ae av) (h4:(clsIn K C).any (·.hasDict)=aI) (hr:(de.any (·.refKey))=aH) (hz:de.length<=500) (h:∀(vk:Int) ny,Rr (.ok (.ret .none)) {s with heap:=s.heap.update dx (om name vk (.str name ny) v),toks:=s.toks+1}),iV (aX G.prog G.w) A (.call (.builtin "object.__setattr__") ⟨[.ref x,.str name tk,v],[]⟩) Rr s
namespace qE
@[irreducible] def e0:=zJ cL cL cL inferInstance zK Fu s9 gL gD eN S0
def x_:=e0.1
def C_:=e0.2.1
def dx_:=e0.2.2.1
def iz:=e0.2.2.2.1
def s_:=e0.2.2.2.2.1
def A_:=e0.2.2.2.2.2.1
def Rr_:=e0.2.2.2.2.2.2.1
def v_:=e0.2.2.2.2.2.2.2.1
def Ou:=e0.2.2.2.2.2.2.2.2.1
theorem T0:S0 x_ C_ dx_ iz s_ A_ Rr_ v_ Ou e0.2.2.2.2.2.2.2.2.2:=by
 intro K tk n X I D h2 h3 h4 hr hz h;refine osa_open X I h2 h3 λb=>aK (any_some h4) λcd hc hd'=>?_;have hx:=I.at_;refine ag (ar (ag (ag (pJ hx (ag ((looks_clsIn X hc).here ?_))))));refine aj (hd' ..) (ar (a:=ae dx_) (ag (ar (ag ?_))));unfold nsSet;refine ag (ag (gC (ar (ag (JL (ag (pJ D ?_)))))));show aS _ _ (if sT iz Ou.toArray=aI then _ else _) _ _ _;have c:sT iz Ou.toArray=aH:=by refine aj (aRefKeyMayBeTheName_at ..) ?_;refine fZ (uu ..) ?_;refine fZ (uu ..) ?_;show (_ && Ou.any (·.refKey))=aH;refine aj (hr ..) ?_;refine aj (kN ..) ?_;rfl
 refine aj (c ..) ?_;refine aj (if_neg (by decide) ..) ?_;refine wpAny_updatePart D ?_;have hm:∀vk ny,om iz vk (.str iz ny) v_ (i3 Ou n)=i3 (putL iz vk (.str iz ny) v_ Ou) (putN iz Ou n):=λvk ny=>mS ..;refine ag (wpAny_lookBehind (o:=i3 (putL iz _ (.str iz _) v_ Ou) (putN iz Ou n)) ((bS _ D (by refine aj (hm ..) ?_;rfl)).trans (congrArg ae (hm _ _))) (pastItsLine_dict ?_) ?_)
 ·exact aj (sU ..) (aw (KV ..) (E4 (aw hz (show 500<=2 ^ 24 by decide))))
 ·exact ar (h _ _)
end qE
theorem qE{A:bh}{Rr:wD->aq->Prop}{v:ai}{de:List gA}:qE.S0 x C dx name s A Rr v de 0:=by with_unfolding_all exact uE _ _ _ _ _ _ _ _ _ _ qE.S0 @qE.T0 x C dx name s A Rr v de 0
theorem wR{A:bh}{E:ai->aq->Prop}{Q:Unit->aq->Prop}{v:ai}(KO:FV G K)(hp:fh K C name=aI)(r:R Z mu s)(hi:mu[i]? =ae (gH x C dx fs))(hl:fs.length<=500)(hv:aZ G Z v y)
 (h:∀s',R Z (mu.set i (gH x C dx (zS fs name y))) s'->Q () s'):aS (aX G.prog G.w) A (setAttr (.ref x) name v) Q E s:=by
 refine cC (xE r (ao hi)) λde n I D he=>?_;have hx:=I.at_;refine dU (cn.mp hp) λS3 h4=>dU (cn.mp S3) λS2 h3=>dU (cn.mp S2) λh1 h2=>set_plain (KO.inn _ r.z0in) I (jE h1) ?_;have iP:x≠dx:=by exact λe=>(cg.mp (r.ownNodup hi)).1 (aA.mpr e)
 refine qE (s:={s with toks:=s.toks+1}) (KO.inn _ r.z0in) I D h2 (jE h3) h4 he.noRef (he.len▸hl) λvk ny=>h _ ?_;have hs:=bY s.heap dx (om name vk (.str name ny) v);refine r.upd' (x':=gH x C dx (zS fs name y)) hi rfl (λb o hb e=>hs.extBut b o (λq=>hb (q▸ab _ aa)) e) ⟨hs.extBut _ _ iP hx,_,_,(bS _ D (by refine aj (mS ..) ?_;rfl)).trans (congrArg ae (mS ..)),he.put hv⟩
theorem rU(KO:FV G K)(hp:fh K C name=aI)(ho:PE k mu env o (.ref x))(hi:mu[i]? =ae (gH x C dx fs))(hl:fs.length<=500){Ψ:Mu->Prop}(h:Ψ (mu.set i (gH x C dx (zS fs name y))))
 (he:autoParam (∀v,wA (.Attribute o name p) env v=(do let ov <- eW [v] (dW o env);iE p.atName;eW [v,ov] (setAttr ov name v);release [v,ov] [])) aR):mK k mu env (.Attribute o name p) y Ψ:=⟨λ{A E Z s fr v Q} hA r hv q=>by
 refine aj (he ..) ?_;refine ag (bE (ho.c hA r λ{ov s1 Z1} z1 q1 r1=>?_));refine aj (aZ.refE q1 ..) ?_;exact ag (iH (ag (bE (wR KO hp r1 (cH hi) hl (hv.mono z1) λs' r'=>wpAny_release (q z1 (gE hi▸r') h)))))⟩
end
variable {Ψ:AF->Mu->Prop}
section
variable {y':V}
structure nH(G:Gd)(a:ay)(st:ed)(qual:bb):Prop where
 go:∃ob pm cd doc,G.Z0 a=ae ob/\ob.data= .func (Au st qual pm cd doc)/\∀h:dH,(∀a o,G.Z0 a=ae o->h.get? a=ae o)->h.CodeRec cd qual
theorem DJ(H:Hy G){a:ay}{st:ed}{qual:bb}(F:nH G a st qual){names:List bb}{vals':ay->ej}
 (i0:∀pm cd doc vs,vs.length=xs.length->pI (Au st qual pm cd doc) ⟨vs,[]⟩=dg (names.zip vs)) (hnd:(aM 0 (bk st).names).nd) (hk:(bk st).kind= .function)
 (hb:∀pm cd doc L,i9 (dT (Au st qual pm cd doc) a L) L (aM (L+1) (bk st).names) names xs (nones (aM (L+1) (bk st).names)) (vals' L))
 (h:∀pm cd doc L,du (dT (Au st qual pm cd doc) a L)->WS k (bq L (aM (L+1) (bk st).names) (vals' L)::mu) (dT (Au st qual pm cd doc) a L) (fR st) (lE Φ)) (wx:autoParam ((bk st).isCoroutine=aH) aR) (mQ:autoParam ((bk st).isGenerator=aH) aR):
 FW (k+1) mu (.ref a) xs Φ:=by
 exact cq (F.go) λob pm cd doc h0 hd hcd=>KD H.B (names:=names) (vals':=vals') (Kn.z0 h0) hd (λZ s r=>hcd _ r.z0in) rfl (i0 pm cd doc) hnd (λL=>⟨hk,rfl,rfl⟩) (hb pm cd doc) (λL=>h pm cd doc L ⟨hk,rfl,rfl⟩) wx mQ
theorem Ov{lx C dx:ay}{fs:List (bb×V)}{name:bb}(KO:FV G K)(hp:eS K C name=aI)(hs:fh K C name=aI)(ho:PE k mu env o (.ref lx))(hi:mu[i]? =ae (gH lx C dx fs))(hnd:(fs.map (·.1)).Nodup)(hq:(name,y)∈fs)(hy:∀n,y≠ .bi n)(hl:fs.length<=500)
 (hv:EV k mu env v P) (hop:NB k mu op (bZ y) P (bZ y')) (h:Ψ .next (mu.set i (gH lx C dx (zS fs name y')))):WX k mu env (.AugAssign (.Attribute o name p) op v pos) Ψ:=⟨λ{A E Z s fr Q} hA r q=>by
 refine wpAny_AugAssign_AttributeAny ?_;refine ho.c hA r λ{ov s1 Z1} z1 q1 r1=>aj (aZ.refE q1 ..) ?_;exact Hp KO hp r1 (aE fr (ao hi)) hnd hq hy λ{z z} hr r2=>hv.c hA r2 λ{z z z} z2 q2 r2=>hop.c hA r2 (hr.mono z2) q2 λ{z z z} z3 q3 r3=>wR KO hs r3 (cH hi) hl q3 λs' r'=>q (z1.trans (z2.trans z3)) .next (gE hi▸r') h⟩
def fM(G:Gd)(K:fl):Prop:=
 (FV G K)/\
 (eS K 217 "pushback"=aI)/\
 (eS K 217 "lineno"=aI)/\
 (eS K 217 "instream"=aI)/\
 (eS K 217 "whitespace"=aI)/\
 (fh K 217 "pushback"=aI)/\
 (fh K 217 "lineno"=aI)/\
 (fh K 217 "instream"=aI)/\
 (fh K 217 "whitespace"=aI)/\
 (jm K 217 200 "_read_char"=aI)/\
 (jm K 217 207 "get_token"=aI)/\
 (jm K 217 214 "push_token"=aI)/\
 (nH G 193 (jl 10 0) "_netrclex.__init__")/\
 (nH G 200 (jl 10 1) "_netrclex._read_char")/\
 (nH G 207 (jl 10 2) "_netrclex.get_token")/\
 (nH G 214 (jl 10 3) "_netrclex.push_token")/\
 (eS K 245 "comp_select_list"=aI)/\
 (fh K 245 "comp_select_list"=aI)/\
 (jm K 245 242 "compare"=aI)/\
 (nH G 235 (jl 12 1) "TupleComp.__init__")/\
 nH G 242 (jl 12 2) "TupleComp.compare"
section
variable {G:Gd}(h:fM G K)
def fM.KO:=@h.1
def fM.p_push:=@h.2.1
def fM.p_line:=@h.2.2.1
def fM.p_in:=@h.2.2.2.1
def fM.p_ws:=@h.2.2.2.2.1
def fM.s_push:=@h.2.2.2.2.2.1
def fM.s_line:=@h.2.2.2.2.2.2.1
def fM.s_in:=@h.2.2.2.2.2.2.2.1
def fM.s_ws:=@h.2.2.2.2.2.2.2.2.1
def fM.m_read:=@h.2.2.2.2.2.2.2.2.2.1
def fM.m_get:=@h.2.2.2.2.2.2.2.2.2.2.1
def fM.m_put:=@h.2.2.2.2.2.2.2.2.2.2.2.1
def fM.f193:=@h.2.2.2.2.2.2.2.2.2.2.2.2.1
def fM.f200:=@h.2.2.2.2.2.2.2.2.2.2.2.2.2.1
def fM.f207:=@h.2.2.2.2.2.2.2.2.2.2.2.2.2.2.1
def fM.f214:=@h.2.2.2.2.2.2.2.2.2.2.2.2.2.2.2.1
def fM.p_comp:=@h.2.2.2.2.2.2.2.2.2.2.2.2.2.2.2.2.1
def fM.s_comp:=@h.2.2.2.2.2.2.2.2.2.2.2.2.2.2.2.2.2.1
def fM.m_comp:=@h.2.2.2.2.2.2.2.2.2.2.2.2.2.2.2.2.2.2.1
def fM.f235:=@h.2.2.2.2.2.2.2.2.2.2.2.2.2.2.2.2.2.2.2.1
def fM.f242:=@h.2.2.2.2.2.2.2.2.2.2.2.2.2.2.2.2.2.2.2.2
end
theorem RO(H:Hy G)(LH:fM G K){lx dx pb:ay}{fs:List (bb×V)}(hm:gH lx 217 dx fs∈mu)(hnd:(fs.map (·.1)).Nodup)(hq:(("pushback":bb),V.ref pb)∈fs)(hi:mu[i]? =ae (bl pb xs))(hl:xs.length < 2 ^ 20):
 FW (k+2) mu (.ref 214) [.ref lx,y] λr nu=>r= .none/\nu=mu.set i (bl pb (xs++[y])):=by
 refine DJ H LH.f214 (names:=["self","token"]) (vals':=λL=>[ae (.ref lx),ae y]) (λpm cd doc vs h=>?_) (by decide+kernel) rfl (λpm cd doc L=>?_) (λpm cd doc L he=>?_)
 ·exact zR h λa b=>rfl
 ·exact .cons (j:=0) .loc rfl (.cons (j:=1) .loc rfl .nil)
 refine aC (ig (mZ (oS LH.KO LH.p_push (ah (j:=0) he .loc aa rfl) (ab _ hm) hnd hq (λn e=>by cases e)) (j5 (xs:=xs) (ab _ (ao hi))) (au (ah (j:=1) he .loc aa rfl) aT) (kA (i:=i+1) hi (by exact cb (by assumption) (by decide)) ?_) (by exact fP) (by exact iT) (by exact iU) rfl));exact bC (jK.tail (jK.keep ⟨rfl,rfl⟩))
end
variable {z z':V}
noncomputable def DK:V:= .list [.tup [.int 0,.int (-1)],.tup [.int 1,.int (-2)],.tup [.int 2,.int (-3)]]
noncomputable def vW(a b:Nat->Int):Int:=if a 0 < b 0 then 1 else if b 0 < a 0 then -1 else if a 1 < b 1 then 2 else if b 1 < a 1 then -2 else if a 2 < b 2 then 3 else if b 2 < a 2 then -3 else 0
theorem Ow{a b:Nat->Int}{i:Nat}(h3:i < 3)(heq:∀c,c < i->a c=b c)(d:Int):(a i < b i->d=1+(i:Nat)->d=vW a b)/\(b i < a i->d= -1 - (i:Nat)->d=vW a b):=by
 refine TS (P:=λi=>(∀c,c < i->a c=b c)->(a i < b i->d=1+(i:Nat)->d=vW a b)/\(b i < a i->d= -1 - (i:Nat)->d=vW a b)) h3 (λheq=>?_) (λheq=>?_) (λheq=>?_) heq
 ·unfold vW;exact ⟨λh e=>by refine aj (if_pos h ..) ?_;lia,λh e=>by (refine aj (if_neg (by lia) ..) ?_;refine aj (if_pos h ..) ?_);lia⟩
 ·unfold vW;have h0:=heq 0 (by decide);exact ⟨λh e=>by (refine aj (if_neg (by lia) ..) ?_;refine aj (if_neg (by lia) ..) ?_;refine aj (if_pos h ..) ?_);lia,λh e=>by (refine aj (if_neg (by lia) ..) ?_;refine aj (if_neg (by lia) ..) ?_;refine aj (if_neg (by lia) ..) ?_;refine aj (if_pos h ..) ?_);lia⟩
 ·unfold vW;have h0:=heq 0 (by decide);have h1:=heq 1 (by decide);exact ⟨λh e=>by (refine aj (if_neg (by lia) ..) ?_;refine aj (if_neg (by lia) ..) ?_;refine aj (if_neg (by lia) ..) ?_;refine aj (if_neg (by lia) ..) ?_;refine aj (if_pos h ..) ?_);lia,λh e=>by (refine aj (if_neg (by lia) ..) ?_;refine aj (if_neg (by lia) ..) ?_;refine aj (if_neg (by lia) ..) ?_;refine aj (if_neg (by lia) ..) ?_;refine aj (if_neg (by lia) ..) ?_;refine aj (if_pos h ..) ?_);lia⟩
def lJ.S0(k:Nat)(mu:Mu)(z z':V)(cx:ay)(a b:Nat->Int)(_:Nat):Prop:=∀{K:fl} {dx:ay} {fs:List (bb×V)} (H:Hy G) (LH:fM G K) (hm:gH cx 245 dx fs∈mu) (hnd:(fs.map (·.1)).Nodup) (hq:(("comp_select_list":bb),DK)∈fs),FW (k+2) mu (.ref 242) [.ref cx,.tup [.int (a 0),.int (a 1),.int (a 2),z],.tup [.int (b 0),.int (b 1),.int (b 2),z']] λr nu=>r= .int (vW a b)/\nu=mu
namespace lJ
@[irreducible] def e0:=Nz eN gD neV neV cL inferInstance inferInstance eN S0
def k_:=e0.1
def fb:=e0.2.1
def z_:=e0.2.2.1
def z'_:=e0.2.2.2.1
def vX:=e0.2.2.2.2.1
def a_:=e0.2.2.2.2.2.1
def b_:=e0.2.2.2.2.2.2.1
theorem T0:S0 k_ fb z_ z'_ vX a_ b_ e0.2.2.2.2.2.2.2:=by
 intro K dx fs H LH hm hnd hq;refine DJ H LH.f242 (names:=["self","left","right"]) (vals':=λL=>[ae (.ref vX),ae (.tup [.int (a_ 0),.int (a_ 1),.int (a_ 2),z_]),ae (.tup [.int (b_ 0),.int (b_ 1),.int (b_ 2),z'_]),av,av,av,av]) (λpm cd doc vs h=>?_) (by decide+kernel) rfl (λpm cd doc L=>?_) (λpm cd doc L he=>?_)
 ·exact Om h λa_ b_ c=>rfl
 ·exact .cons (j:=0) .loc rfl (.cons (j:=1) .loc rfl (.cons (j:=2) .loc rfl .nil))
 refine aC (jO (ctx:=[]) (xs:=[.tup [.int 0,.int (-1)],.tup [.int 1,.int (-2)],.tup [.int 2,.int (-3)]]) (λi nu=>(∀c,c < i->a_ c=b_ c)/\∃o1 o2 o3 o4,nu=bq L (aM (L+1) (bk (jl 12 2)).names) [ae (.ref vX),ae (.tup [.int (a_ 0),.int (a_ 1),.int (a_ 2),z_]),ae (.tup [.int (b_ 0),.int (b_ 1),.int (b_ 2),z'_]),o1,o2,o3,o4]::fb)
  (dA (oS LH.KO LH.p_comp (ah (j:=0) he .loc aa rfl) (ab _ hm) hnd hq (λn e=>by cases e))) (by lia) ⟨λc h=>absurd h (GX _),av,av,av,av,rfl⟩ (λi nu h o ho=>(eo ho)) ?_ ?_)
 ·intro i x nu hx dO;refine CY dO λheq o1 o2 o3 o4 eT=>?_;clear dO;subst eT;have hi3:i < 3:=(aB.mp hx).1;have hxe:x= .tup [.int (i:Nat),.int (-((i:Nat):Int) - 1)]:=by
   exact TS (P:=λi=>([V.tup [.int 0,.int (-1)],.tup [.int 1,.int (-2)],.tup [.int 2,.int (-3)]]:List V)[i]? =ae x->x= .tup [.int (i:Nat),.int (-((i:Nat):Int) - 1)]) hi3 (λe=>(aO e).symm) (λe=>(aO e).symm) (λe=>(aO e).symm) hx
  subst hxe;have gl:Gi (k_+1) (bq L (aM (L+1) (bk (jl 12 2)).names) [ae (.ref vX),ae (.tup [.int (a_ 0),.int (a_ 1),.int (a_ 2),z_]),ae (.tup [.int (b_ 0),.int (b_ 1),.int (b_ 2),z'_]),ae (.int (i:Nat)),ae (.int (-((i:Nat):Int) - 1)),o3,o4]::fb) (bZ (.tup [.int (a_ 0),.int (a_ 1),.int (a_ 2),z_])) (bZ (.int (i:Nat))) (bZ (.int (a_ i))):=Kv (by exact TS hi3 rfl rfl rfl) (by show -((4:Nat):Int)<=_;lia) (by lia) (by show 4 < 2 ^ 62;decide)
  have gr:∀l',Gi (k_+1) l' (bZ (.tup [.int (b_ 0),.int (b_ 1),.int (b_ 2),z'_])) (bZ (.int (i:Nat))) (bZ (.int (b_ i))):=λl'=>Kv (by exact TS hi3 rfl rfl rfl) (by show -((4:Nat):Int)<=_;lia) (by lia) (by show 4 < 2 ^ 62;decide)
  have res:=λd=>Ow hi3 heq d;refine i7 (cv rfl rfl (aQ (i:=0) (j:=3) he .loc rfl (cv rfl rfl (aQ (i:=0) (j:=4) he .loc rfl (iX ?_)))));refine aC (bX (bF (ah (j:=1) he .loc aa rfl) (ah (j:=3) he .loc aa rfl) gl) (aQ (i:=0) (j:=5) he .loc rfl ?_) rfl rfl);refine aC (bX (bF (ah (j:=2) he .loc aa rfl) (ah (j:=3) he .loc aa rfl) (gr _)) (aQ (i:=0) (j:=6) he .loc rfl ?_) rfl rfl);refine aC (iY (c9 (ah (j:=5) he .loc aa rfl) (ah (j:=6) he .loc aa rfl) Da) (λh=>?_) λh=>?_)
  ·have h':=of_decide_eq_true h;exact aC (gw (cf (o8 (ah (j:=4) he .loc aa rfl)) (ki ⟨congrArg V.int ((res _).1 h' (by lia)),rfl⟩)))
  refine bC ?_;have h1:=of_decide_eq_false h;refine aC (iY (c9 (ah (j:=5) he .loc aa rfl) (ah (j:=6) he .loc aa rfl) G3) (λh=>?_) λh=>?_)
  ·have h':=of_decide_eq_true h;exact aC (gw (cf (ah (j:=4) he .loc aa rfl) (ki ⟨congrArg V.int ((res _).2 h' (by lia)),rfl⟩)))
  have h2:=of_decide_eq_false h;refine bC (bC ⟨λc hc=>?_,ae (.int (i:Nat)),ae (.int (-((i:Nat):Int) - 1)),ae (.int (a_ i)),ae (.int (b_ i)),rfl⟩);rcases gX c i with h3|h3
  ·exact heq c h3
  ·have:c=i:=by lia
   subst this;lia
 ·intro nu gi;refine CY gi λheq o1 o2 o3 o4 iC=>?_;clear gi;subst iC;have h0:=heq 0 (by decide);have h1:=heq 1 (by decide);have h2:=heq 2 (by decide);refine bC (aC (gw (cf aU (ki ⟨?_,rfl⟩))));unfold vW;refine aj (if_neg (by lia) ..) ?_;refine aj (if_neg (by lia) ..) ?_;refine aj (if_neg (by lia) ..) ?_;refine aj (if_neg (by lia) ..) ?_;refine aj (if_neg (by lia) ..) ?_;refine aj (if_neg (by lia) ..) ?_;rfl
end lJ
theorem lJ{cx:ay}{a b:Nat->Int}:lJ.S0 k mu z z' cx a b 0:=by with_unfolding_all exact Bz _ _ _ _ _ _ _ _ lJ.S0 @lJ.T0 k mu z z' cx a b 0
theorem RP(H:Hy G)(LH:fM G K){lx dx pb:ay}{fs:List (bb×V)}(hm:gH lx 217 dx fs∈mu)(hnd:(fs.map (·.1)).Nodup)(hq:(("pushback":bb),V.ref pb)∈fs)(hi:mu[i]? =ae (bl pb (y::xs)))(hl:xs.length < 2 ^ 20):
 FW (k+2) mu (.ref 207) [.ref lx] λr nu=>r=y/\nu=mu.set i (bl pb xs):=by
 refine DJ H LH.f207 (names:=["self"]) (vals':=λL=>[ae (.ref lx),av,av,av]) (λpm cd doc vs h=>?_) (by decide+kernel) rfl (λpm cd doc L=>?_) (λpm cd doc L he=>?_)
 ·exact uP h λa=>rfl
 ·exact .cons (j:=0) .loc rfl .nil
 have hL:=ao hi;refine aC (iY (kU (uG (oS LH.KO LH.p_push (ah (j:=0) he .loc aa rfl) (ab _ hm) hnd hq (λn e=>by cases e)) (ab _ hL)) (G4 (by simp;lia))) (λh=>?_) λh=>(J2 h));refine aC (gw (mZ (oS LH.KO LH.p_push (ah (j:=0) he .loc aa rfl) (ab _ hm) hnd hq (λn e=>by cases e)) (j5 (xs:=y::xs) (ab _ hL)) (au aU aT) (On (i:=i+1) hi (by exact cb (by assumption) (by decide)) ?_) (by exact fP) (by exact F.slot_list_pop) (by exact F.type_list_pop) rfl));exact jK.tail (jK.keep ⟨rfl,rfl⟩)
theorem Ox{zl:jC}{body orelse:List ed}(hk:1<=k)
 (he:WE k mu env e λy nu=>∃(xs:List V) (Inv:Nat->Mu->Prop),y= .list xs/\Inv 0 nu/\(∀i x nu,xs[i]? =ae x->Inv i nu->mK k nu env t x λrt=>WS k rt env body (kW (Inv (i+1)) Ψ))/\∀nu,Inv xs.length nu->WS k nu env orelse Ψ)
 (hf:autoParam (∀x,bw e env x=dg x) aR):WX k mu env (.For t e body orelse zl) Ψ:=⟨λ{A E Z s fr Q} hA r q=>by
 with_reducible refine wpAny_For ?_ hf
 refine he.c hA r λ{v s1 Z1 y nu} z1 q1 r1 w=>ir w λxs Inv dO h0 step fin=>?_;clear w;subst dO;exact Aw r1 q1 λ{z z z} hit r2=>G6 Inv hit hk h0 (λz z z z ho=>eo ho) step fin hA z1 r2 q⟩
theorem KW{f:bb}{a:ay}{ob:o6}{fd:cm}(hf:PE k mu env (.Name f p) (.ref a))(hd:ob.data= .func fd)(ha:Dt k mu env (e::es) λys nu=>(Kn nu λhp=>hp.get? a=ae ob)/\FW k nu (.ref a) ys Φ)(hs:∀a p,e≠ .Starred a p:=by intro z z h;cases h):
 WE k mu env (.Call (.Name f p) (e::es) [] pos) Φ:=⟨λ{A E Z s fr Q} hA r q=>by
 with_reducible refine gB ?_
 refine hf.c hA r λ{f s1 Z1} z1 q1 r1=>?_;rw [aZ.refE q1];exact iJ hd (ha.c hA r1 λ{z z z z z} z2 q2 r2 w=>⟨w.1.app r2,w.2.c hA r2 q2 λ{z z z z z} z3=>q (z1.trans (z2.trans z3))⟩) (et hs)⟩
end
section
variable {k i:Nat}{mu nu:Mu}{env:gP}{e t:bH}{es:List bH}{p pos:jC}{xs ys:List V}{Φ:V->Mu->Prop}{Ψ:AF->Mu->Prop}{x y z z':V}{K:fl}{lx dx pb W fd L:ay}{fs:List (bb×V)}{ob:o6}{NG:cm}{pm cd doc:ai}
section
variable {l r:bH}{CT:CmpOp}
theorem FW.cons{f:ai}(a:cX)(h:FW k mu f xs Φ):FW k (a::mu) f xs λy nu=>∃nu',nu=a::nu'/\Φ y nu':=⟨λ{x x x x x x x} hA r hv q=>h.c hA (r.perm cu.symm) hv λ{x x x x x} z v r w=>q z v (r.perm cu) ⟨_,rfl,w⟩⟩
theorem FW.up{f:ai}{a:cX}(h:FW k mu f xs λy nu=>Φ y (a::nu)):FW k (a::mu) f xs Φ:=⟨λ{x x x x x x x} hA r hv q=>h.c hA (r.perm cu.symm) hv λ{x x x x x} z v r w=>q z v (r.perm cu) w⟩
theorem Oy{β:Type}{S:Nat->β->Mu}{b0:β}{zl:jC}{ctx:Mu}{body orelse:List ed}(I:Nat->β->Prop)(h0:I 0 b0)(src:pd k (S 0 b0) env e t ctx xs)(hk:1<=k)(qZ:∀i b,∀o∈ctx,o∈S i b)
 (step:∀T i x b,xs[i]? =ae x->I i b->(∀b',I (i+1) b'->T (S (i+1) b'))->mK k (S i b) env t x λrt=>WS k rt env body (kW T Ψ))
 (fin:∀b,I xs.length b->WS k (S xs.length b) env orelse Ψ) (hf:autoParam (∀x,bw e env x=dg x) aR):WX k (S 0 b0) env (.For t e body orelse zl) Ψ:=
 jO (λi nu=>∃b,nu=S i b/\I i b) src hk ⟨b0,rfl,h0⟩ (λi nu h o ho=>by obtain ⟨b,rfl,_⟩:=h;exact qZ i b o ho) (λi x nu hx h=>by obtain ⟨b,rfl,h⟩:=h;exact step _ i x b hx h λb' h=>⟨b',rfl,h⟩) (λnu h=>by obtain ⟨b,rfl,h⟩:=h;exact fin b h) hf
theorem KY{β:Type}{zl:jC}{body orelse:List ed}(hk:1<=k)
 (he:WE k mu env e λy nu=>∃(xs:List V) (S:Nat->β->Mu) (b0:β),y= .list xs/\nu=S 0 b0/\(∀T i x b,xs[i]? =ae x->(∀b',T (S (i+1) b'))->mK k (S i b) env t x λrt=>WS k rt env body (kW T Ψ))/\∀b,WS k (S xs.length b) env orelse Ψ)
 (hf:autoParam (∀x,bw e env x=dg x) aR):WX k mu env (.For t e body orelse zl) Ψ:=
 Ox hk ⟨λ{u u u u u u} hA r q=>he.c hA r λ{u u u u u} z v r w=>by
  refine lG w λxs S b0 e1 e2 h1 h2=>?_;clear w;exact q z v r ⟨xs,λi nu=>∃b,nu=S i b,e1,⟨b0,e2⟩,λi x nu hx h=>by obtain ⟨b,rfl⟩:=h;exact h1 _ i x b hx λb'=>⟨b',rfl⟩,λnu h=>by obtain ⟨b,rfl⟩:=h;exact h2 b⟩⟩ hf
theorem KZ{A B C D:Type}{S:Nat->A->B->C->D->Mu}{X:C->List V}{m0:Nat}{Q:ay}{zl:jC}{body orelse:List ed}(I:Nat->Nat->C->D->Prop){a:A}{b:B}{c:C}{d:D}(h0:I m0 0 c d)(he:PE k (S 0 a b c d) env e (.ref Q))(hk:1<=k)(ql:∀{i a b c d},bl Q (X c)∈S i a b c d)(hlen:∀m i c d,I m i c d->i<=(X c).length)
 (step:∀T m i a b c d x,I m i c d->(X c)[i]? =ae x->(∀m' a b c d,m' < m->I m' (i+1) c d->T (S (i+1) a b c d))->mK k (S i a b c d) env t x λrt=>WS k rt env body (kW T Ψ))
 (fin:∀m a b c d,I m (X c).length c d->WS k (S (X c).length a b c d) env orelse Ψ) (hf:autoParam (∀x,bw e env x=dg x) aR):WX k (S 0 a b c d) env (.For t e body orelse zl) Ψ:=
 Hi (λm i xs nu=>∃a b c d,xs=X c/\nu=S i a b c d/\I m i c d) he hk m0 (X c) ⟨a,b,c,d,rfl,rfl,h0⟩ (λm i xs nu h=>by obtain ⟨a,b,c,d,rfl,rfl,_⟩:=h;exact ql)
  (λm i xs nu x h hx=>by obtain ⟨a,b,c,d,rfl,rfl,h⟩:=h;exact step _ m i a b c d x h hx λm' a b c d hm h=>⟨m',X c,hm,a,b,c,d,rfl,rfl,h⟩)
  (λm i xs nu h hx=>by obtain ⟨a,b,c,d,rfl,rfl,h⟩:=h;subst hx;exact fin m a b c d h) (λm i xs nu h=>by obtain ⟨a,b,c,d,rfl,rfl,h⟩:=h;exact hlen m i c d h) hf
theorem Hq(h:WE k mu env l λy nu=>∃(Q:Vw) (b:Bool),EV k nu env r Q/\ta k nu CT (bZ y) Q b/\Φ (.bool b) nu)(hm:wz CT r=aH:=by with_unfolding_all rfl):WE k mu env (.Compare l [CT] [r] p) Φ:=⟨λ{z z z z z z} hA R q=>by
 with_reducible refine wpAny_Compare1 ?_ hm
 exact h.c hA R λz1 q1 r1 ⟨Q,b,hr,ho,w⟩=>hr.c hA r1 λ{z z z} z2 p2 r2=>ho.c hA r2 (q1.mono z2) p2 λ{z z z} z3 p3 r3=>q (z1.trans (z2.trans z3)) p3 r3 w⟩
theorem Hr{Θ:Bool->Mu->Prop}(h:WE k mu env l λy nu=>∃(Q:Vw) (b:Bool),EV k nu env r Q/\ta k nu CT (bZ y) Q b/\Θ b nu)(hm:wz CT r=aH:=by with_unfolding_all rfl):WT k mu env (.Compare l [CT] [r] p) Θ:=⟨λ{z z z z z z} hA R q=>by
 with_reducible refine Ag ?_ hm
 exact h.c hA R λz1 q1 r1 ⟨Q,b,hr,ho,w⟩=>hr.c hA r1 λ{z z z} z2 p2 r2=>ho.c hA r2 (q1.mono z2) p2 λ{z z z} z3 p3 r3=>(aZ.boolE p3)▸eV (q (z1.trans (z2.trans z3)) r3 w)⟩
def rV(k:Nat){α σ:Type}(nm:α->bb)(lx dx pb W fd:ay)(fs:List (bb×V))(ob:o6)(NG:cm)(ρ:σ->Mu)(out:σ->List α->α->σ×List α)(J:Nat->Nat->List α->σ->Prop)(fin:bb->Mu->List α->σ->Prop):Prop:=
 (∀s:σ,gH lx 217 dx fs∈ρ s)/\
 ((fs.map (·.1)).Nodup)/\
 ((("pushback":bb),V.ref pb)∈fs)/\
 (("get_token":bb)∉fs.map (·.1))/\
 (("push_token":bb)∉fs.map (·.1))/\
 (ob.data= .func NG)/\
 (∀(s:σ) (ws q:List α),Kn (bl W (ws.map λw=>V.str (nm w))::bl pb (q.map λw=>V.str (nm w))::ρ s) λhp=>hp.get? fd=ae ob)/\
 (∀m i (ws:List α) (s:σ),J m i ws s->ws.length<=2000/\i<=ws.length)/\
 (∀m i (ws:List α) (s:σ) (w:α),J m i ws s->ws[i]? =ae w->FW (k+3) (bl W (ws.map λw=>V.str (nm w))::bl pb ((ws.drop (i+1)).map λw=>V.str (nm w))::ρ s) (.ref fd) [.str (nm w)] λy nu=>
  y= .list ((out s ws w).2.map λw=>V.str (nm w))/\nu=bl W (ws.map λw=>V.str (nm w))::bl pb ((ws.drop (i+1)).map λw=>V.str (nm w))::ρ (out s ws w).1)/\
 (∀m i (ws:List α) (s:σ) (w:α),J m i ws s->ws[i]? =ae w->∃m',m' < m/\J m' (i+1) (ws++(out s ws w).2) (out s ws w).1)/\
 ∀m (ws:List α) (s:σ),J m ws.length ws s->FW (k+3) (bl W (ws.map λw=>V.str (nm w))::bl pb []::ρ s) (.ref 207) [.ref lx] λy nu=>∃c,y= .str c/\fin c nu ws s
section
variable {α σ:Type}{nm:α->bb}{ρ:σ->Mu}{out:σ->List α->α->σ×List α}{J:Nat->Nat->List α->σ->Prop}{fin:bb->Mu->List α->σ->Prop}(h:rV k nm lx dx pb W fd fs ob NG ρ out J fin)
def rV.lex:=@h.1
def rV.nd:=@h.2.1
def rV.hpb:=@h.2.2.1
def rV.ng:=@h.2.2.2.1
def rV.np:=@h.2.2.2.2.1
def rV.fn:=@h.2.2.2.2.2.1
def rV.kn:=@h.2.2.2.2.2.2.1
def rV.len:=@h.2.2.2.2.2.2.2.1
def rV.deed:=@h.2.2.2.2.2.2.2.2.1
def rV.step:=@h.2.2.2.2.2.2.2.2.2.1
def rV.last:=@h.2.2.2.2.2.2.2.2.2.2
end
noncomputable abbrev rnFr(L lx W fd:ay)(close:bb)(o1 o2:Option V):cX:=bq L (aM (L+1) (bk (cN 21)).names) [ae (.ref lx),ae (.ref W),ae (.str close),ae (.ref fd),o1,o2]
noncomputable abbrev ti(pm cd doc:ai)(L:ay):gP:=dT (xy (cN 21) pm cd doc) 297 L
noncomputable abbrev RQ{α σ:Type}(nm:α->bb)(L lx W fd pb:ay)(close:bb)(ρ:σ->Mu)(o1 o2:Option V)(ws q:List α)(s:σ):Mu:=rnFr L lx W fd close o1 o2::bl W (ws.map λw=>V.str (nm w))::bl pb (q.map λw=>V.str (nm w))::ρ s
def CS(k:Nat){α σ:Type}(nm:α->bb)(lx dx W fd:ay)(fs:List (bb×V))(ob:o6)(out:σ->List α->α->σ×List α)(J:Nat->Nat->List α->σ->Prop)(Φ:V->Mu->Prop)(st:Option V->Option V->List α->List α->σ->Mu)(pm cd doc:ai)(L:ay):Prop:=
 (∀{o1 o2 ws q s p},PE (k+3) (st o1 o2 ws q s) (ti pm cd doc L) (.Name "lexer" p) (.ref lx))/\
 (∀{o1 o2 ws q s p},PE (k+3) (st o1 o2 ws q s) (ti pm cd doc L) (.Name "line" p) (.ref W))/\
 (∀{o1 o2 ws q s p},PE (k+3) (st o1 o2 ws q s) (ti pm cd doc L) (.Name "deed" p) (.ref fd))/\
 (∀{v o2 ws q s p},PE (k+3) (st (ae v) o2 ws q s) (ti pm cd doc L) (.Name "name" p) v)/\
 (∀{v o1 ws q s p},PE (k+3) (st o1 (ae v) ws q s) (ti pm cd doc L) (.Name "other" p) v)/\
 (∀{v o1 o2 ws q s p} {Ψ:Mu->Prop},Ψ (st (ae v) o2 ws q s)->mK (k+3) (st o1 o2 ws q s) (ti pm cd doc L) (.Name "name" p) v Ψ)/\
 (∀{v o1 o2 ws q s p} {Ψ:Mu->Prop},Ψ (st o1 (ae v) ws q s)->mK (k+3) (st o1 o2 ws q s) (ti pm cd doc L) (.Name "other" p) v Ψ)/\
 (∀{o1 o2 ws q s},gH lx 217 dx fs∈st o1 o2 ws q s)/\
 (∀{o1 o2 ws q s},bl W (ws.map λw=>V.str (nm w))∈st o1 o2 ws q s)/\
 (∀{o1 o2 ws q s},Kn (st o1 o2 ws q s) λhp=>hp.get? fd=ae ob)/\
 (∀{o1 o2 ws q s w} {Ψ:V->Mu->Prop},q.length<=4000->Ψ .none (st o1 o2 ws (q++[w]) s)->FW (k+3) (st o1 o2 ws q s) (.ref 214) [.ref lx,.str (nm w)] Ψ)/\
 (∀{o1 o2 ws q s w} {Ψ:V->Mu->Prop},q.length<=4000->Ψ (.str (nm w)) (st o1 o2 ws q s)->FW (k+3) (st o1 o2 ws (w::q) s) (.ref 207) [.ref lx] Ψ)/\
 (∀{o1 o2 ws q s w} {Ψ:V->Mu->Prop},ws.length<=4000->Ψ .none (st o1 o2 (ws++[w]) q s)->BU (k+3) (st o1 o2 ws q s) (.builtin "list.append") [bZ (.ref W),bZ (.str (nm w))] Ψ)/\
 (∀{m i o1 o2 ws s w} {Ψ:V->Mu->Prop},J m i ws s->ws[i]? =ae w->Ψ (.list ((out s ws w).2.map λw=>V.str (nm w))) (st o1 o2 ws (ws.drop (i+1)) (out s ws w).1)->FW (k+3) (st o1 o2 ws (ws.drop (i+1)) s) (.ref fd) [.str (nm w)] Ψ)/\
 ∀{m o1 o2 ws s},J m ws.length ws s->WS (k+3) (st o1 o2 ws [] s) (ti pm cd doc L) ((fR (cN 21)).drop 2) (lE Φ)
section
variable {α σ:Type}{nm:α->bb}{out:σ->List α->α->σ×List α}{J:Nat->Nat->List α->σ->Prop}{st:Option V->Option V->List α->List α->σ->Mu}(h:CS k nm lx dx W fd fs ob out J Φ st pm cd doc L)
def CS.vl:=@h.1
def CS.vw:=@h.2.1
def CS.vd:=@h.2.2.1
def CS.n1:=@h.2.2.2.1
def CS.n2:=@h.2.2.2.2.1
def CS.a1:=@h.2.2.2.2.2.1
def CS.a2:=@h.2.2.2.2.2.2.1
def CS.im:=@h.2.2.2.2.2.2.2.1
def CS.lm:=@h.2.2.2.2.2.2.2.2.1
def CS.kn:=@h.2.2.2.2.2.2.2.2.2.1
def CS.push:=@h.2.2.2.2.2.2.2.2.2.2.1
def CS.take:=@h.2.2.2.2.2.2.2.2.2.2.2.1
def CS.app:=@h.2.2.2.2.2.2.2.2.2.2.2.2.1
def CS.deed:=@h.2.2.2.2.2.2.2.2.2.2.2.2.2.1
def CS.last:=@h.2.2.2.2.2.2.2.2.2.2.2.2.2.2
end
section
variable {α σ:Type}{nm:α->bb}{ρ:σ->Mu}{out:σ->List α->α->σ×List α}{J:Nat->Nat->List α->σ->Prop}{fin:bb->Mu->List α->σ->Prop}{close:bb}{m0:Nat}{NI:List α}{s0:σ}{st:Option V->Option V->List α->List α->σ->Mu}
theorem rn_ok(H:Hy G)(LH:fM G K)(RH:rV k nm lx dx pb W fd fs ob NG ρ out J fin)(he:du (ti pm cd doc L))(hΦ:∀m ws s c nu,J m ws.length ws s->fin c nu ws s->Φ (.bool (c == close)) nu):CS k nm lx dx W fd fs ob out J Φ (RQ nm L lx W fd pb close ρ) pm cd doc L:=by
 have im:∀{a b c:cX} {s},gH lx 217 dx fs∈a::b::c::ρ s:=ab _ (ab _ (ab _ (RH.lex _)));refine ⟨?_,?_,?_,?_,?_,?_,?_,?_,?_,?_,?_,?_,?_,?_,?_⟩
 ·intro o1 o2 ws q s p;exact ah (j:=0) he .loc aa rfl
 ·intro o1 o2 ws q s p;exact ah (j:=1) he .loc aa rfl
 ·intro o1 o2 ws q s p;exact ah (j:=3) he .loc aa rfl
 ·intro v o2 ws q s p;exact ah (j:=4) he .loc aa rfl
 ·intro v o2 ws q s p;exact ah (j:=5) he .loc aa rfl
 ·intro v o1 o2 ws q s p Ψ h;exact aQ (i:=0) (j:=4) he .loc rfl h
 ·intro v o1 o2 ws q s p Ψ h;exact aQ (i:=0) (j:=5) he .loc rfl h
 ·intro o1 o2 ws q s;exact im
 ·intro o1 o2 ws q s;exact ab _ aa
 ·intro o1 o2 ws q s;exact (RH.kn s ws q).sub (gW _ _)
 ·intro o1 o2 ws q s w Ψ hq h;refine ((RO (k:=k) (i:=2) (y:= .str (nm w)) H LH im RH.nd RH.hpb rfl (by refine aj (ak ..) ?_;exact b7 (by assumption) (by decide))).le (jD _)).mono λr nu e=>?_;refine aj (e.1 ..) ?_;refine aj (e.2 ..) ?_;unfold RQ at h;rw [bj] at h;exact h
 ·intro o1 o2 ws q s w Ψ hq h;refine ((RP (k:=k) (i:=2) (y:= .str (nm w)) (xs:=q.map λw=>V.str (nm w)) H LH im RH.nd RH.hpb rfl (by refine aj (ak ..) ?_;exact b7 (by assumption) (by decide))).le (jD _)).mono λr nu e=>?_;refine aj (e.1 ..) ?_;refine aj (e.2 ..) ?_;exact h
 ·intro o1 o2 ws q s w Ψ hq h;refine kA (i:=1) rfl (by refine aj (ak ..) ?_;show _ < 2 ^ 22;exact b7 (by assumption) (by decide)) ?_;unfold RQ at h;rw [bj] at h;exact h
 ·intro m i o1 o2 ws s w Ψ hJ hw h;refine FW.up ((RH.deed m i ws s w hJ hw).mono λy nu e=>?_);refine aj (e.1 ..) ?_;refine aj (e.2 ..) ?_;exact h
 ·intro m o1 o2 ws s hJ;refine cq (LH.f207.go) λobg pmg cdg docg PY S5 z=>aC (gw (Hq (pQ LH.KO LH.m_get (ah (j:=0) he .loc aa rfl) im RH.ng PY S5 (FW.up ((RH.last m ws s hJ).mono λy nu hq=>?_)))));refine aK hq λc e2 e3=>?_;clear hq;exact aj (e2 ..) (⟨bZ (.str close),(c == close),ah (j:=2) he .loc aa rfl,rB,ki (hΦ m ws s c nu hJ e3)⟩)
def qF.S0(k:Nat)(Φ:V->Mu->Prop)(pm cd doc:ai)(L:ay):Prop:=∀{K:fl} {α σ:Type} {nm:α->bb} {lx dx pb W fd:ay} {fs:List (bb×V)} {ob:o6} {NG:cm} {ρ:σ->Mu} {out:σ->List α->α->σ×List α} {J:Nat->Nat->List α->σ->Prop} {fin:bb->Mu->List α->σ->Prop} {m0:Nat} {NI:List α} {s0:σ} {st:Option V->Option V->List α->List α->σ->Mu} (LH:fM G K) (RH:rV k nm lx dx pb W fd fs ob NG ρ out J fin) (T:CS k nm lx dx W fd fs ob out J Φ st pm cd doc L) (h0:J m0 0 NI s0),WS (k+3) (st av av NI [] s0) (ti pm cd doc L) (fR (cN 21)) (lE Φ)
namespace qF
@[irreducible] def e0:=Fp eN s9 gL gL gL cL S0
def k_:=e0.1
def Φ_:=e0.2.1
def pj:=e0.2.2.1
def cd_:=e0.2.2.2.1
def g8:=e0.2.2.2.2.1
def L_:=e0.2.2.2.2.2
theorem T0:S0 k_ Φ_ pj cd_ g8 L_:=by
 intro K α σ nm lx dx pb W fd fs ob NG ρ out J fin m0 NI s0 st LH RH T h0;refine cq (LH.f214.go) λobp pmp cdp docp JV hpd z=>cq (LH.f207.go) λobg pmg cdg docg PY S5 z=>?_;have hk:1<=k_+3:=Nat.le_add_left 1 (k_+2);have tl:∀{l:List α} {j n:Nat},l.length+n<=4000->(l.take j).length+n<=4000:=λ{z z z} h=>aw (TC (kL ..) _) h;refine aC (Oy (S:=λj o=>st o av NI (NI.take j) s0) (b0:=av) (xs:=NI.map λw=>V.str (nm w)) (λz z=>True) trivial (Ay T.vw T.lm) hk (λi b o ho=>aA.mp ho▸T.lm) (λI i x b hx z hI=>?_) λb z=>?_)
 ·rw [aJ] at hx;refine aK (aL.mp hx) λw hw dO=>?_;subst dO;have hI:=hI (ae (.str (nm w))) trivial;rw [dE,hw] at hI;exact T.a1 (aC (ig (B5 LH.KO LH.m_put T.vl T.im RH.np JV hpd (cA (cf T.n1 (e9 (T.push (tl (n:=0) (aw (RH.len _ _ _ _ h0).1 (by decide))) (bC hI))))))))
 refine aj (ak ..) ?_;refine aj (cK ..) ?_;refine bC (aC (KZ (S:=λi o1 o2 ws s=>st o1 o2 ws (ws.drop i) s) (X:=λws=>ws.map λw=>V.str (nm w)) (a:=b) (b:=av) (c:=NI) (d:=s0) J h0 T.vw hk T.lm (λm i ws s h=>by refine aj (ak ..) ?_;exact (RH.len _ _ _ _ h).2) (λI m i o1 o2 ws s x hJ hx hI=>?_) λm o1 o2 ws s hJ=>?_))
 ·rw [aJ] at hx;refine aK (aL.mp hx) λw hw eT=>?_;subst eT;have hlt:i < ws.length:=(aB.mp hw).1;have SO:=(RH.len _ _ _ _ hJ).1;refine T.a1 (aj (show ws.drop i=w::ws.drop (i+1) by rw [dZ hlt,(aB.mp hw).2]) ?_);have Ff:(ws.drop (i+1)).length<=2000:=by refine aj (fY ..) ?_;lia
  refine aC (xS (Hr (pQ LH.KO LH.m_get T.vl T.im RH.ng PY S5 (T.take (aw Ff (by decide)) ⟨bZ (.str (nm w)),(nm w != nm w),T.n1,tB,?_⟩))));refine aj (show (nm w != nm w)=aH by simp) (bC ?_);refine aK (RH.step m i ws s w hJ hw) λm' hm' Uj=>?_;have hl':=(RH.len _ _ _ _ Uj).1;rw [ba] at hl';refine aC (KY hk (KW T.vd RH.fn (cA (cf T.n1 (e9 ⟨T.kn,T.deed hJ hw ⟨_,λj o2=>st (ae (.str (nm w))) o2 (ws++(out s ws w).2.take j) (ws.drop (i+1)++(out s ws w).2.take j) (out s ws w).1,o2,rfl,?_,λI' j x o2 hx hI'=>?_,λo2=>?_⟩⟩)))))
  ·dsimp only;refine aj (xp ..) ?_;refine aj (cy ..) ?_;refine aj (cy ..) ?_;rfl
  ·rw [aJ] at hx;refine aK (aL.mp hx) λu hu gi=>?_;subst gi;have hI':=hI' (ae (.str (nm u)));dsimp only at hI';rw [dE,hu,Al,<- bU,<- bU] at hI';have htk:((out s ws w).2.take j).length<=(out s ws w).2.length:=kL ..;exact T.a2 (aC (ig (B5 LH.KO LH.m_put T.vl T.im RH.np JV hpd (cA (cf T.n2 (e9 (T.push (by refine aj (ba ..) ?_;lia) (aC (ig (mZ T.vw (j5 T.lm) (au T.n2 aT) (T.app (by refine aj (ba ..) ?_;lia) (bC hI')) (by exact fP) (by exact iT) (by exact iU) rfl))))))))))
  ·have hI:=hI m' (ae (.str (nm w))) o2 _ _ hm' Uj;rw [gq hlt] at hI;dsimp only;refine aj (ak ..) ?_;refine aj (cK ..) ?_;exact bC (bC hI)
 ·rw [ak] at hJ ⊢;refine bC (aj (ox ..) ?_);exact T.last hJ
end qF
theorem qF:qF.S0 k Φ pm cd doc L:=by with_unfolding_all exact uD _ _ _ _ _ _ qF.S0 @qF.T0 k Φ pm cd doc L
theorem Qt(H:Hy G)(LH:fM G K)(RH:rV k nm lx dx pb W fd fs ob NG ρ out J fin)(h0:J m0 0 NI s0)(hΦ:∀m ws s c nu,J m ws.length ws s->fin c nu ws s->Φ (.bool (c == close)) nu):
 FW (k+4) (bl W (NI.map λw=>V.str (nm w))::bl pb []::ρ s0) (.ref 297) [.ref lx,.ref W,.str close,.ref fd] Φ:=
 th H H.f297 (names:=["lexer","line","close","deed"]) (vals':=λL=>[ae (.ref lx),ae (.ref W),ae (.str close),ae (.ref fd),av,av]) (λpm cd doc vs h=>RF h λa b c d=>rfl) (by decide+kernel) rfl
  (λpm cd doc L=> .cons (j:=0) .loc rfl (.cons (j:=1) .loc rfl (.cons (j:=2) .loc rfl (.cons (j:=3) .loc rfl .nil)))) (λpm cd doc L he=>qF LH RH (rn_ok H LH RH he hΦ) h0)
end
end
variable {o:bH}{P:Vw}
section
variable {v:bH}{y':V}{C:ay}
theorem K0(H:Hy G){a:ay}{st:ed}{qual:bb}(F:nH G a st qual){names:List bb}{vals':ay->ej}
 (i0:∀pm cd doc vs,vs.length=xs.length->pI (Au st qual pm cd doc) ⟨vs,[]⟩=dg (names.zip vs)) (hnd:(aM 0 (bk st).names).nd) (hk:(bk st).kind= .function)
 (hb:∀pm cd doc L,i9 (dT (Au st qual pm cd doc) a L) L (aM (L+1) (bk st).names) names xs (nones (aM (L+1) (bk st).names)) (vals' L))
 (h:∀pm cd doc L,du (dT (Au st qual pm cd doc) a L)->WS k (bq L (aM (L+1) (bk st).names) (vals' L)::mu) (dT (Au st qual pm cd doc) a L) (fR st) (lE Φ)) (wx:autoParam ((bk st).isCoroutine=aH) aR) (mQ:autoParam ((bk st).isGenerator=aH) aR):
 FC (k+1) mu (.ref a) xs Φ:=by
 exact cq (F.go) λob pm cd doc h0 hd hcd=>Qp H.B (names:=names) (vals':=vals') (Kn.z0 h0) hd (λZ s r=>hcd _ r.z0in) rfl (i0 pm cd doc) hnd (λL=>⟨hk,rfl,rfl⟩) (hb pm cd doc) (λL=>h pm cd doc L ⟨hk,rfl,rfl⟩) wx mQ
theorem K1{fI:ay}(KO:FV G K)(hm:makesIn K C=aI)(hi:fH K (.ref C) "__init__"=ae (ae (.ref fI)))(hf:typeIn K (.ref fI)=ae (.type "function"))
 (h:∀x dx,FC k (gH x C dx []::mu) (.ref fI) (.ref x::xs) λy nu=>y= .none/\Φ (.ref x) nu):FW (k+1) mu (.ref C) xs Φ:=⟨λ{A E Z s fr vs Q} hA r hv q=>by
 obtain ⟨hh,g,d,t,os⟩:=s;have X:K.In hh:=KO.inn _ r.z0in;refine eF (make_core (makes_of X hm) (mT X hi) (λself=>bind_fn X self hf) (.inl rfl) ?_);have r2:R Z (gH (hh.objs.size+1) C hh.objs.size []::(mu++fr)) ⟨(hh.push emptyDict).push (Af C hh.objs.size),g,d,t,os⟩:=r.addNew (tk:=t) _ (λb o e=>az _ (az _ e)) ⟨by heap_get,[],0,by heap_get,trivial⟩ (cg.mpr ⟨λhm=>absurd (aA.mp hm) (ou _),eg⟩) λb hb=>(aP.mp hb).elim (λe=>e▸jD _) λhb=>kX hb;have hA':Rm k (A.under (.builtin "type.__call__" ⟨.ref C::vs,[]⟩)):=⟨hA.hh,by have:=hA.dep;show A.depth+1+k<=900;lia,by have:=hA.uni;show A.units+1+10*k<=9000;lia⟩;refine codeAny_mono ((h _ _).c (E:=E) (Q:=λw s'=>w= .none/\Q (.ref (hh.objs.size+1)) s') hA' r2 (.cons (.ref _) hv) λ{u u u u u} z hy r' w=>⟨aZ.noneE (w.1▸hy),q z (.ref _) r' w.2⟩) λres s' z=>?_;rcases res with e|(v|_|_|_) <;> first|exact z|exact (show False from z).elim⟩
theorem B6{f:bb}(KO:FV G K)(hk:keepIn K (.ref C)=aI)(hf:PE k mu env (.Name f p) (.ref C))(ha:Dt k mu env (e::es) λys nu=>FW k nu (.ref C) ys Φ)(hs:autoParam (kh (e::es)=aI) aR):
 WE k mu env (.Call (.Name f p) (e::es) [] pos) Φ:=⟨λ{A E Z s fr Q} hA r q=>by
 with_reducible refine gB ?_
 refine hf.c hA r λ{f s1 Z1} z1 q1 r1=>?_;rw [aZ.refE q1];exact callWith_K (KO.inn _ r1.z0in) hk (ha.c hA r1 λ{z z z z z} z2 q2 r2 w2=>⟨KO.inn _ r2.z0in,w2.c hA r2 q2 λ{z z z z z} z3=>q (z1.trans (z2.trans z3))⟩) (et (jt hs).1) (kY (jt hs).2 pos)⟩
end
def uS(K:fl):Prop:=
 (makesIn K 217=aI)/\
 (fH K (.ref 217) "__init__"=ae (ae (.ref 193)))/\
 (typeIn K (.ref 193)=ae (.type "function"))/\
 (keepIn K (.ref 217)=aI)/\
 (makesIn K 245=aI)/\
 (fH K (.ref 245) "__init__"=ae (ae (.ref 235)))/\
 (typeIn K (.ref 235)=ae (.type "function"))/\
 keepIn K (.ref 245)=aI
section
variable (h:uS K)
def uS.mk217:=@h.1
def uS.i217:=@h.2.1
def uS.t193:=@h.2.2.1
def uS.k217:=@h.2.2.2.1
def uS.mk245:=@h.2.2.2.2.1
def uS.i245:=@h.2.2.2.2.2.1
def uS.t235:=@h.2.2.2.2.2.2.1
def uS.k245:=@h.2.2.2.2.2.2.2
end
noncomputable def tj(n:Int)(fp:V)(pb:ay):List (bb×V):=[("lineno",.int n),("instream",fp),("whitespace",.str "\n\t\r "),("pushback",.ref pb)]
def RU(fp:V)(mu:Mu)(y:V)(nu:Mu):Prop:=∃lx dx pb,y= .ref lx/\nu=bl pb []::gH lx 217 dx (tj 1 fp pb)::mu
theorem K2(H:Hy G)(LH:fM G K)(NH:uS K):FW (k+3) mu (.ref 217) [x] (RU x mu):=by
 refine K1 LH.KO NH.mk217 NH.i217 NH.t193 λlx dx=>K0 H LH.f193 (names:=["self","fp"]) (vals':=λL=>[ae (.ref lx),ae x]) (λpm cd doc vs h=>?_) (by decide+kernel) rfl (λpm cd doc L=>?_) (λpm cd doc L he=>?_)
 ·exact zR h λa b=>rfl
 ·exact .cons (j:=0) .loc rfl (.cons (j:=1) .loc rfl .nil)
 refine aC (bX aU (rU LH.KO LH.s_line (ah (j:=0) he .loc aa rfl) (i:=1) rfl (by decide) ?_) rfl rfl);refine aC (bX (ah (j:=1) he .loc aa rfl) (rU LH.KO LH.s_in (ah (j:=0) he .loc aa rfl) (i:=1) rfl (bg rfl) ?_) rfl rfl);refine aC (bX cO (rU LH.KO LH.s_ws (ah (j:=0) he .loc aa rfl) (i:=1) rfl (bg rfl) ?_) rfl rfl);refine aC (b4 (sD (xs:=[]) aT (bg rfl) (λT=>fL.ref (rU LH.KO LH.s_push (ah (j:=0) he .loc (ab _ aa) rfl) (i:=2) rfl (bg rfl) ?_))) rfl rfl);refine bC (jK.sub (nu':=bl T []::gH lx 217 dx (tj 1 x T)::mu) ?_ (jK.keep ⟨rfl,lx,dx,T,rfl,rfl⟩));exact .cons_cons _ (.cons _ (.refl (gH lx 217 dx (tj 1 x T)::mu)))
def Oz(x:V)(mu:Mu)(y:V)(nu:Mu):Prop:=∃ax dx,y= .ref ax/\nu=gH ax 245 dx [("comp_select_list",x)]::mu
theorem Iy(H:Hy G)(LH:fM G K)(NH:uS K):FW (k+3) mu (.ref 245) [x] (Oz x mu):=by
 refine K1 LH.KO NH.mk245 NH.i245 NH.t235 λlx dx=>K0 H LH.f235 (names:=["self","comp_select_list"]) (vals':=λL=>[ae (.ref lx),ae x]) (λpm cd doc vs h=>?_) (by decide+kernel) rfl (λpm cd doc L=>?_) (λpm cd doc L he=>?_)
 ·exact zR h λa b=>rfl
 ·exact .cons (j:=0) .loc rfl (.cons (j:=1) .loc rfl .nil)
 refine aC (bX (ah (j:=1) he .loc aa rfl) (rU LH.KO LH.s_comp (ah (j:=0) he .loc aa rfl) (i:=1) rfl (by decide) ?_) rfl rfl);exact bC (jK.tail (jK.keep ⟨rfl,lx,dx,rfl,rfl⟩))
variable {prog:dG}{w:d8}{A:bh}{E Q:ai->aq->Prop}{s:aq}
theorem FX{it l:ay}{i:Nat}{items:Array ai}{x d:ai}(hit:s.heap.IsListIter it l i)(hl:s.heap.IsList l items)(hx:items[i]? =ae x)(hQ:∀h',h'.IsListIter it l (i+1)->ji it s.heap h'->Q x {s with heap:=h'}):
 aS (aX prog w) A (ku (.builtin "next") [.ref it,d]) Q E s:=by
 refine gv (by decide+kernel) (by decide+kernel) E5 (kdk_args_next2 _ _) ?_;unfold Builtin.«next»
 refine ag (m:=CJ "next" 1 2 _) (cM (a:=[cY it,d]) (by first|rfl|kernel_rfl!) ?_);dsimp only;refine ag (h8 (name:=fQ "__next__") hit.typeIs slot_listiter_next.lookup ?_);refine f5 (λxa=>absurd xa (by decide)) (λz=>?_);refine ag (zt hit hl hx λh' h1 h2=>?_);exact ar ⟨_,rfl,hQ h' h1 h2⟩
theorem Iz{it l:ay}{i:Nat}{items:Array ai}{d:ai}(hh:A.handled=av)(hit:s.heap.IsListIter it l i)(hl:s.heap.IsList l items)(hx:items[i]? =av)(hQ:∀h',rx it s.heap h'->Q d {s with heap:=h'}):
 aS (aX prog w) A (ku (.builtin "next") [.ref it,d]) Q E s:=by
 refine gv (by decide+kernel) (by decide+kernel) E5 (kdk_args_next2 _ _) ?_;unfold Builtin.«next»
 refine ag (m:=CJ "next" 1 2 _) (cM (a:=[cY it,d]) (by first|rfl|kernel_rfl!) ?_);dsimp only;refine ag (h8 (name:=fQ "__next__") hit.typeIs slot_listiter_next.lookup ?_);refine f5 (λxa=>absurd xa (by decide)) (λz=>?_);refine ag (Ai hh hit hl hx λh' h1=>?_);exact ar ⟨_,rfl,hQ h' h1⟩
structure B7(h h':dH)(e:ay):Prop where
 keeps:∀b o,h.get? b=ae o->h'.get? b=ae o
 new:h.get? e=av
 there:∃t,h'.get? e=ae {cls:= .type "StopIteration",data:= .fields (#[.ref t,.none,.none,.none,.bool aH,.none]++ownMembersOf (.type "StopIteration") [])}/\h.get? t=av/\h'.get? t=ae {cls:= .type "tuple",data:= .seq #[]}
noncomputable abbrev tup0:o6:={cls:= .type "tuple",data:= .seq #[]}
noncomputable abbrev stopO(t:ay):o6:={cls:= .type "StopIteration",data:= .fields (#[.ref t,.none,.none,.none,.bool aH,.none]++ownMembersOf (.type "StopIteration") [])}
theorem nI{α:Type}{prog:dG}{w:d8}{A:bh}{Q:α->aq->Prop}{E:ai->aq->Prop}{s:aq}(hh:A.handled=av)
 (h:E (.ref (s.heap.push tup0).objs.size) {s with heap:=(s.heap.push tup0).push (stopO s.heap.objs.size)}):aS (aX prog w) A (TJ (.type "StopIteration") [] >>=raiseNew) Q E s:=by
 refine ag ?_;delta TJ newTuple;refine ag (jg ?_ (by size_fits));refine ag (m:=firstArgMember _ _) (cM (a:=eG) rfl ?_);refine jg ?_ (by size_fits);delta raiseNew;refine ag (wpAny_handled ?_);refine aj (hh ..) ?_;exact ag (ar (wpAny_throw h))
theorem FY{it:ay}{b:Array UInt8}{t:HW}{i:Nat}{c:UInt8}(hit:Bw s.heap it b t i)(hx:b[i]? =ae c)
 (hQ:∀h',Bw h' it b t (i+1)->ji it s.heap h'->Q (.int (c.toNat:Int) s.toks) {s with heap:=h',toks:=s.toks+1}):aS (aX prog w) A (ku (.builtin "next") [.ref it]) Q E s:=by
 refine gv (by decide+kernel) (by decide+kernel) E5 (kdk_args_next _) ?_;unfold Builtin.«next»
 refine ag (m:=CJ "next" 1 2 _) (cM (a:=[cY it]) (by first|rfl|kernel_rfl!) ?_);dsimp only;refine ag (h8 (name:=fQ "__next__") (oo hit) rz.lookup ?_);refine f5 (λxa=>absurd xa (by decide)) (λz=>?_);refine ef (id hit) λo ho hc hd=>ag (dX (name:=An "__next__") (oo hit) rz
  (dp rz (oo hit) KBw.entry_next ?_ (KBw.args_next _)))
 show aS _ _ (vG (.ref it) 0 >>=_) _ _ s;refine ag (dS ho hd (x:= .bytes b t) rfl ?_);show aS _ _ (if (CL b t == eG)=aI then _ else _) _ _ s;refine aj (if_neg (show ¬((CL b t == eG)=aI) from cF)) ?_;show aS _ _ (vG (.ref it) 1 >>=_) _ _ s;refine ag (dS ho hd (x:= .int i 0) rfl ?_);refine ag (cM (a:=b) rfl ?_);simp only [b8,hx];refine ag (eH ho hd (by exact bp _) (ag (wpAny_mkInt (ar ⟨_,rfl,ar ⟨_,rfl,hQ _ ?_ (bY ..)⟩⟩))));exact ⟨_,bS _ ho (iW (dP hd _)),(pK ..).trans hc,by refine aj (dP hd ..) ?_;simp [pD]⟩
theorem IA{it:ay}{b:Array UInt8}{t:HW}{i:Nat}(hh:A.handled=av)(hit:Bw s.heap it b t i)(hx:b[i]? =av)
 (hE:∀h1 h' e,rx it s.heap h1->B7 h1 h' e->E (.ref e) {s with heap:=h'}):aS (aX prog w) A (ku (.builtin "next") [.ref it]) Q E s:=by
 refine gv (by decide+kernel) (by decide+kernel) E5 (kdk_args_next _) ?_;unfold Builtin.«next»
 refine ag (m:=CJ "next" 1 2 _) (cM (a:=[cY it]) (by first|rfl|kernel_rfl!) ?_);dsimp only;refine ag (h8 (name:=fQ "__next__") (oo hit) rz.lookup ?_);refine f5 (λxa=>absurd xa (by decide)) (λz=>?_);refine ef (id hit) λo ho hc hd=>ag (dX (name:=An "__next__") (oo hit) rz
  (dp rz (oo hit) KBw.entry_next ?_ (KBw.args_next _)))
 show aS _ _ (vG (.ref it) 0 >>=_) _ _ s;refine ag (dS ho hd (x:= .bytes b t) rfl ?_);show aS _ _ (if (CL b t == eG)=aI then _ else _) _ _ s;refine aj (if_neg (show ¬((CL b t == eG)=aI) from cF)) ?_;show aS _ _ (vG (.ref it) 1 >>=_) _ _ s;refine ag (dS ho hd (x:= .int i 0) rfl ?_);refine ag (cM (a:=b) rfl ?_);simp only [b8,hx];refine ag (oj (ag (eH ho hd (by simp) ?_)));show aS _ _ (TJ (.type "StopIteration") [] >>=_) _ _ _;refine nI hh ?_;refine hE (s.heap.update it _) _ _ (bY ..).extBut ⟨λb o e=>az _ (az _ e),Heap.get?_none_of_le (by refine aj (fN ..) ?_;exact jD _),(s.heap.update it _).objs.size,aW _ rfl,Heap.get?_none_of_le (bp _),az _ (aW _ rfl)⟩
theorem B7.made{h h':dH}{e:ay}(S:B7 h h' e):TK h h' e (.type "StopIteration") []:=
 ⟨S.keeps,S.new,let ⟨t,h1,h2,h3⟩:=S.there;⟨t,h1,h2,h3⟩⟩
variable {it:ay}{bs:List Nat}
section
variable {c:Nat}
noncomputable def jL(it:ay)(bs:List Nat):cX where
 own:=[it]
 sat:=λZ h=>∃b t i,Bw h it b t i/\(b.toList.drop i).map pL=bs
 mono:=λZ Z' h hz a=>a
 loc:=λZ h h' w hk z z=>w.imp λb=>bQ λt=>bQ λi u=>⟨u.1.imp λo v=>⟨hk it aa o v.1,v.2⟩,u.2⟩
 live:=λZ h w a ha=>w.elim λb w=>w.elim λt w=>w.elim λi u=>u.1.elim λo v=>⟨o,aA.mp ha▸v.1⟩
theorem AO{α:Type}{l:List α}{j:Nat}{a:α}{r:List α}(h:l.drop j=a::r):l[j]? =ae a/\l.drop (j+1)=r:=
 ⟨by (refine fZ (List.head?_drop ..) ?_;refine aj (h ..) ?_);rfl,by (refine fZ (JJ ..) ?_;refine aj (h ..) ?_);rfl⟩
theorem DL{α:Type}{l:Array α}{j:Nat}(h:l.toList.drop j=[]):l[j]? =av:=P8 (eK▸List.drop_eq_nil_iff.mp h)
theorem uT(hi:mu[i]? =ae (jL it (c::bs)))(h:Φ (.int c) (mu.set i (jL it bs))):BU k mu (.builtin "next") [bZ (.ref it)] Φ:=⟨λ{A E Z s fr vs Q} hA r hq q=>by
 refine aK (hq.one) λv dO q1=>?_;subst dO;refine aj (aZ.refE q1 ..) ?_;have hi':=cH (fr:=fr) hi;refine oH (r.sat _ (ao hi')) λb t j I e=>?_;cases hd:b.toList.drop j with
 |nil=>rw [hd] at e;exact Q9 e
 |cons u l=>
 rw [hd] at e;exact dU (s7 e) λe1 e2=>dU (AO hd) λhx hd=>FY I (bV.symm.trans hx) λh' I' hs=>q .rfl (e1▸aZ.int _ _) (gE hi▸r.upd' hi' rfl (λa o hb e=>hs.extBut a o (λq=>hb (q▸aa)) e) ⟨b,t,j+1,I',hd▸e2⟩) h⟩
noncomputable def mU(it:ay)(xs:List V):cX where
 own:=[it]
 sat:=λZ h=>∃l vs n i,h.IsListIter it l i/\Z l=ae (oK vs n)/\bW G Z (vs.toList.drop i) xs
 mono:=λZ Z' h hz w=>w.imp λl=>bQ λvs=>bQ λn=>bQ λi u=>⟨u.1,hz _ _ u.2.1,u.2.2.mono hz⟩
 loc:=λZ h h' w hk z z=>w.imp λl=>bQ λvs=>bQ λn=>bQ λi u=>⟨u.1.imp λo v=>⟨hk it aa o v.1,v.2⟩,u.2⟩
 live:=λZ h w a ha=>w.elim λl w=>w.elim λvs w=>w.elim λn w=>w.elim λi u=>u.1.elim λo v=>⟨o,aA.mp ha▸v.1⟩
theorem K3(hi:mu[i]? =ae (mU it (x::xs)))(h:Φ x (mu.set i (mU it xs))):BU k mu (.builtin "next") [bZ (.ref it),bZ y] Φ:=⟨λ{A E Z s fr vs Q} hA r hq q=>by
 refine cC (hq.two) λv u eT q1 q2=>?_;subst eT;refine aj (aZ.refE q1 ..) ?_;have hi':=cH (fr:=fr) hi;exact cq (r.sat _ (ao hi')) λl vs n j I hl hr=>cC (hr.cons_inv) λw ws hd h1 h2=>dU (AO hd) λhx hd=>FX I (⟨_,r.zin _ _ hl,rfl,n,rfl⟩:s.heap.IsList l vs) (bV.symm.trans hx) λh' I' hs=>q .rfl h1 (gE hi▸r.upd' (tk:=s.toks) hi' rfl (λa o hb e=>hs.extBut a o (λq=>hb (q▸aa)) e) ⟨l,vs,n,j+1,I',hl,hd▸h2⟩) h⟩
end
noncomputable def pR:cX where
 own:=[]
 sat:=λz z=>True
 mono:=λz z z z z=>trivial
 loc:=λz z z z z z z=>trivial
 live:=λz z z z hb=>eo hb
theorem R.dead{Z:bI}{s:aq}{h':dH}{tk:Nat}{a:cX}(r:R Z mu s)(hi:mu[i]? =ae a)(hk:∀b o,b∉a.own->s.heap.get? b=ae o->h'.get? b=ae o):R Z (mu.set i (pR)) {s with heap:=h',toks:=tk}:=r.swap hi (pR) hk trivial .nil λb hb=>eo hb
theorem IB(hi:mu[i]? =ae (mU it []))(h:Φ y (mu.set i (pR))):BU k mu (.builtin "next") [bZ (.ref it),bZ y] Φ:=⟨λ{A E Z s fr vs Q} hA r hq q=>by
 refine cC (hq.two) λv u gi q1 q2=>?_;subst gi;refine aj (aZ.refE q1 ..) ?_;have hi':=cH (fr:=fr) hi;exact cq (r.sat _ (ao hi')) λl vs n j I hl hr=>Iz hA.hh I (⟨_,r.zin _ _ hl,rfl,n,rfl⟩:s.heap.IsList l vs) (DL hr.nil_inv) λh' hs=>q .rfl q2 (gE hi▸R.dead (tk:=s.toks) r hi' λa o hb e=>hs a o (λq=>hb (q▸aa)) e) h⟩
variable {v:ai}{Z:bI}{fr:Mu}{M:zE}
section
variable {Z':bI}{l outer:List gP}
theorem DM{x y:cX}{b:ay}{mu:Mu}(hn:(gU mu).Nodup)(hx:x∈mu)(hy:y∈mu)(bx:b∈x.own)(by':b∈y.own):x=y:=by
 induction mu with
 |nil=>exact eo hx
 |cons z mu ih=>
  have SN:=bP.mp (show (z.own++gU mu).Nodup from hn);have ql:∀w:cX,w∈mu->b∈w.own->b∈gU mu:=λw hw hb=>bG.mpr ⟨w,hw,hb⟩;rcases aP.mp hx with h1|h1 <;> rcases aP.mp hy with h2|h2
  ·exact h1.trans h2.symm
  ·exact absurd rfl (SN.2.2 b (h1▸bx) b (ql _ h2 by'))
  ·exact absurd rfl (SN.2.2 b (h2▸by') b (ql _ h1 bx))
  ·exact ih SN.2.1 h1 h2
def zT(env:gP)(mu:Mu):Prop:=∃lay bB,bq env.locals lay bB∈mu
structure FrOK(env:gP)(mu:Mu):Prop where
 kind:env.scope.kind≠ .module
 frame:env.frame=ae env.locals
 has:zT env mu
def ia(l:List gP)(mu:Mu):Prop:=∀env∈l,FrOK env mu
theorem zT.mono(h:zT env mu)(hs:∀x∈mu,x∈nu):zT env nu:=let ⟨a,b,c⟩:=h;⟨a,b,hs _ c⟩
theorem ia.mono(h:ia l mu)(hs:∀x∈mu,x∈nu):ia l nu:=λe he=>⟨(h e he).kind,(h e he).frame,(h e he).has.mono hs⟩
theorem ia.right(h:ia l fr):ia l (nu++fr):=h.mono λx hx=>bL _ hx
theorem ia.cons(h:ia l mu)(he:FrOK env mu):ia (env::l) mu:=λe hm=>by
 rcases aP.mp hm with rfl|hm
 ·exact he
 ·exact h e hm
theorem ia.tail(h:ia (env::l) mu):ia l mu:=λe hm=>h e (ab _ hm)
structure Up(l:List gP)(Z:bI)(mu:Mu)(base h0 h:dH):Prop where
 keepZ:∀a o,Z a=ae o->base.get? a=ae o
 keepO:∀b∈gU mu,b∉l.filterMap (·.frame)->∀o,h0.get? b=ae o->base.get? b=ae o
 up:h0.UpToSlots h
theorem Up.on{base h0 h h':dH}(U:Up l Z mu base h0 h)(hu:h.UpToSlots h'):Up l Z mu base h0 h':=⟨U.keepZ,U.keepO,U.up.trans hu⟩
theorem R.reslot{h0 base:dH}{tw:Nat}(r:R Z mu {s with heap:=h0,toks:=tw})(U:Up l Z mu base h0 s.heap)(GE:base.StaysIn s.heap)(hf:ia l mu):R Z mu s where
 z0:=r.z0
 zin:=λa o e=>GE a o (U.keepZ a o e)
 sat:=λx hx=>by
  have hz:∀a o,Z a=ae o->s.heap.get? a=ae o:=λa o e=>GE a o (U.keepZ a o e);by_cases hm:∃b∈x.own,b∈l.filterMap (·.frame)
  ·refine aK hm λb hb hl=>?_;clear hm;refine aK (fV.mp hl) λenv he hb'=>?_;obtain ⟨_,h2,lay,bB,h3⟩:=hf env he;rw [h2] at hb';injection hb' with hb'
   have hxe:x=bq env.locals lay bB:=DM r.nodup hx h3 hb (by refine fZ (hb' ..) ?_;exact aa);subst hxe;refine mI (r.sat _ hx) λnd m hn hs=>⟨nd,m,U.up.ns hn,hs.loc (λc hc o ho=>?_) λz z=>rfl⟩
   have qe:(env.locals::lay.filterMap (·.2)).Nodup:=by exact cJ (Ts hx) λi hi=>r.ownNodup hi
   have wx:c∈gU mu:=bG.mpr ⟨_,hx,ab _ hc⟩;refine GE c o (U.keepO c wx (λQT=>?_) o ho);refine aK (fV.mp QT) λM3 he2 hc2=>?_;obtain ⟨_,h5,S6,vals2,h6⟩:=hf M3 he2;rw [h5] at hc2;injection hc2 with hc2
   have hxe2:bq env.locals lay bB=bq M3.locals S6 vals2:=DM r.nodup hx h6 (ab _ hc) (by refine fZ (hc2 ..) ?_;exact aa);have hoo:(bq env.locals lay bB).own=(bq M3.locals S6 vals2).own:=by (refine aj (hxe2 ..) ?_;rfl)
   have hL:env.locals=M3.locals:=(s7 (show env.locals::lay.filterMap (·.2)=M3.locals::S6.filterMap (·.2) from hoo)).1;exact (cg.mp qe).1 (by (refine aj (hL ..) ?_;refine aj (hc2 ..) ?_);exact hc)
  ·refine x.loc _ _ _ (r.sat x hx) (λb hb o ho=>GE b o (U.keepO b (bG.mpr ⟨x,hx,hb⟩) (λhl=>hm ⟨b,hb,hl⟩) o ho)) r.zin hz
 nodup:=r.nodup
 sep:=r.sep
 gens:=r.gens
 os:=r.os
noncomputable abbrev K4:ai:= .type "StopIteration"
def Qu(Z:bI)(mu:Mu)(v:ai)(s:aq):Prop:=∃e h0 tw,v= .ref e/\R Z mu {s with heap:=h0,toks:=tw}/\TK h0 s.heap e K4 []
def IC(l:List gP)(L:ay)(Z:bI)(mu:Mu)(v:ai)(s:aq):Prop:=∃e t base h0 tw,v= .ref e/\R Z mu {s with heap:=h0,toks:=tw}/\Up l Z mu base h0 s.heap/\Heap.HeldW base l e K4 (.ref t) L s.heap
def jQ(l:List gP)(Z:bI)(mu:Mu)(v:ai)(s:aq):Prop:=∃e t base h0 tw,v= .ref e/\R Z mu {s with heap:=h0,toks:=tw}/\Up l Z mu base h0 s.heap/\Heap.FlyingW base l e K4 (.ref t) s.heap
def Exn(l:List gP)(L:ay)(Z:bI)(mu:Mu)(v:ai)(s:aq):Prop:=Qu Z mu v s\/IC l L Z mu v s\/jQ l Z mu v s
theorem R.funs{h0:dH}{tw:Nat}(r:R Z mu {s with heap:=h0,toks:=tw}){l:List gP}(hf:ia l mu)(as:List ay)(ql:∀e∈l,∀a,e.frame=ae a->a∈as):h0.FunFrames (UC h0 as) l:=by
 induction l with
 |nil=>trivial
 |cons env l ih=>obtain ⟨h1,h2,lay,bB,h3⟩:=hf env aa;refine mI (r.sat _ h3) λnd m hn hs=>cE hn λo es ep ho hd z=>?_;clear hn;exact ⟨h1,⟨env.locals,o,h2,hideAll_none _ (ql env aa _ h2),ho,λvs q=>by rw [hd] at q;cases q⟩,ih hf.tail λe he=>ql e (ab _ he)⟩
theorem R.up0{h0:dH}{tw:Nat}(r:R Z mu {s with heap:=h0,toks:=tw})(hf:ia l mu):Up l Z mu (UC h0 (l.filterMap (·.frame))) h0 h0 where
 keepZ:=λa o e=>hideAll_get _ (r.zin a o e) λhm=>by
  refine aK (fV.mp hm) λenv he hf'=>?_;obtain ⟨_,h2,lay,bB,h3⟩:=hf env he;rw [h2] at hf';injection hf' with hf'
  have:=r.sep a (bG.mpr ⟨_,h3,by refine fZ (hf' ..) ?_;exact aa⟩);rw [this] at e;exact gK e
 keepO:=λb hb hn o ho=>hideAll_get _ ho hn
 up:=Heap.UpToSlots.refl _
section
variable {Q:Unit->aq->Prop}
theorem K5{h h':dH}{e:ay}{cls:ai}{args:List ai}(x:TK h h' e cls args):∃t,h'.get? e=ae {cls:=cls,data:= .fields #[.ref t,.none,.none,.none,.bool aH,.none]}/\h.get? t=av/\h'.get? t=ae {cls:= .type "tuple",data:= .seq args.toArray}:=x.there
theorem Up.leave{base h0 h:dH}(iD:env.frame=ae env.locals)(U:Up (env::l) Z mu base h0 h)(hs:nu.Sublist mu)(hL:env.locals∉gU nu){h':dH}(hu:h0.UpToSlots h'):Up l Z nu base h0 h':=
 ⟨U.keepZ,λb hb hn o ho=>U.keepO b (bG.mpr ((bG.mp hb).imp λx w=>⟨hs.subset w.1,w.2⟩)) (λhm=>by
  rw [qo,iD] at hm;exact (aP.mp hm).elim (λe=>hL (e▸hb)) hn) o ho,hu⟩
theorem DN(hA:A.frames=ae (env::l))(hf:ia (env::l) mu)(h:Qu Z mu v s)(hs:nu.Sublist mu)(hL:env.locals∉gU nu)(hQ:∀s',jQ l Z nu v s'->Q () s'):aS M A (JA env v) Q E s:=by
 refine cE h λe h0 tw dO r x=>?_;clear h;subst dO;have iD:=(hf env aa).frame;have U:=r.up0 hf;exact wpAny_leaves_madeW (base:=UC h0 ((env::l).filterMap (·.frame))) hA iD (λb o q=>of_hideAll _ q) (r.funs hf _ λe he a ha=>fV.mpr ⟨e,he,ha⟩) x λh' t f1 f2 f3 f4=>hQ _
  ⟨e,t,_,h0,tw,rfl,r.sublist hs,U.leave iD hs hL ((Heap.UpToSlots.of_keeps x.keeps).trans f4),f1⟩
theorem FZ(hA:A.frames=ae (env::l))(iD:env.frame=ae env.locals)(h:IC (env::l) env.locals Z mu v s)(hs:nu.Sublist mu)(hL:env.locals∉gU nu)(hQ:∀s',jQ l Z nu v s'->Q () s'):aS M A (JA env v) Q E s:=by refine iK h λe t base h0 tw eT r U x=>?_;clear h;subst eT;unfold JA;refine ag (wpAny_noteFrame_againW iD x.2.2.2 ?_);exact wpAny_landsW x λh' PV hup=>hQ _ ⟨e,t,base,h0,tw,rfl,r.sublist hs,U.leave iD hs hL (U.up.trans hup),PV.1,PV.2.1,PV.2.2.1.2.2,PV.2.2.2⟩
theorem B8(hA:A.frames=ae (env::l))(iD:env.frame=ae env.locals)(h:jQ (env::l) Z mu v s)(hs:nu.Sublist mu)(hL:env.locals∉gU nu)(hQ:∀s',jQ l Z nu v s'->Q () s'):aS M A (JA env v) Q E s:=by refine iK h λe t base h0 tw gi r U x=>?_;clear h;subst gi;exact wpAny_leaves_onW hA iD x λh' PV hup=>hQ _ ⟨e,t,base,h0,tw,rfl,r.sublist hs,U.leave iD hs hL (U.up.trans hup),PV⟩
theorem ID(hA:A.frames=ae (env::l))(hf:ia (env::l) mu)(h:Exn (env::l) env.locals Z mu v s)(hs:nu.Sublist mu)(hL:env.locals∉gU nu)(hQ:∀s',jQ l Z nu v s'->Q () s'):aS M A (JA env v) Q E s:=by
 have iD:=(hf env aa).frame;rcases h with h|h|h
 ·exact DN hA hf h hs hL hQ
 ·exact FZ hA iD h hs hL hQ
 ·exact B8 hA iD h hs hL hQ
def mr.S0(Z:bI)(mu:Mu)(s:aq)(l:List gP)(env:gP)(_:Nat):Prop:=∀{v:ai} {M:zE} {A:bh} {E:ai->aq->Prop} {Q:Unit->aq->Prop} (hA:A.frames=ae (env::l)) (hf:ia (env::l) mu) (h:Exn (env::l) env.locals Z mu v s) (hQ:∀s',IC (env::l) env.locals Z mu v s'->Q () s'),aS M A (noteFrame v env) Q E s
namespace mr
@[irreducible] def e0:=Fp Rh gD zK gD neE eN S0
def Z_:=e0.1
def fb:=e0.2.1
def s_:=e0.2.2.1
def l_:=e0.2.2.2.1
def K6:=e0.2.2.2.2.1
theorem T0:S0 Z_ fb s_ l_ K6 e0.2.2.2.2.2:=by
 intro v M A E Q hA hf h hQ;have iD:=(hf K6 aa).frame;rcases h with h|h|h
 ·refine cE h λe h0 tw iC r x=>?_;clear h;subst iC;have U:=r.up0 hf;refine ef (K5 x) λt he htn ht=>?_;have zm:∀b,h0.get? b=av->(UC h0 ((K6::l_).filterMap (·.frame))).get? b=av:=λb hb=>by
   cases hq:(UC h0 ((K6::l_).filterMap (·.frame))).get? b with
   |none=>rfl
   |some o=>have:=of_hideAll _ hq;rw [hb] at this;exact gK this
  unfold noteFrame;simp only [iD];refine ag (dS he rfl (x:= .none) rfl ?_);refine aj (if_neg (by decide) ..) (wpAny_entryW (base:=UC h0 ((K6::l_).filterMap (·.frame))) hA ((r.funs hf _ λe he a ha=>fV.mpr ⟨e,he,ha⟩).of_keeps λb o hb z=>⟨o,x.keeps b o hb,rfl⟩) iD he (λb o q=>x.keeps b o (of_hideAll _ q)) (zm e x.new) rfl (by show 1 < 6;decide) rfl λh' hN=>hQ _ ?_);refine Q7 hN λk1 k2 k3 k4=>?_;clear hN;exact ⟨e,t,_,h0,tw,rfl,r,⟨U.keepZ,U.keepO,(Heap.UpToSlots.of_keeps x.keeps).trans k4⟩,k1,zm e x.new,k2,k3⟩
 ·refine iK h λe t base h0 tw kG r U x=>?_;clear h;subst kG;exact wpAny_noteFrame_againW iD x.2.2.2 (hQ _ ⟨e,t,base,h0,tw,rfl,r,U,x⟩)
 ·refine iK h λe t base h0 tw ma r U x=>?_;clear h;subst ma;exact wpAny_looks_onW hA iD x λh' hh hu=>hQ _ ⟨e,t,base,h0,tw,rfl,r,U.on hu,hh⟩
end mr
theorem mr:mr.S0 Z mu s l env 0:=by with_unfolding_all exact uD _ _ _ _ _ _ mr.S0 @mr.T0 Z mu s l env 0
theorem IE(h:IC l L Z mu v s)(hQ:∀s',jQ l Z mu v s'->Q () s'):aS M A (setFlight v av) Q E s:=by refine iK h λe t base h0 tw mE r U x=>?_;clear h;subst mE;exact wpAny_landsW x λh' hh hu=>hQ _ ⟨e,t,base,h0,tw,rfl,r,U.on hu,hh⟩
theorem DO(h:jQ l Z mu v s)(hQ:∀s',jQ l Z mu v s'->Q () s'):aS M A (setFlight v av) Q E s:=by refine iK h λe t base h0 tw q7 r U x=>?_;clear h;subst q7;exact lands_againW x λh' hh hu=>hQ _ ⟨e,t,base,h0,tw,rfl,r,U.on hu,hh⟩
theorem IF{E':ai->aq->Prop}(iD:env.frame=ae L)(h:IC l L Z mu v s)(hQ:∀s',IC l L Z mu v s'->E' v s'):GQ M A env E' v s:=by
 obtain ⟨e,t,base,h0,tw,rfl,r,U,x1,x2,x3,oe,vs,T,oT,ts,he,hc,hd,h1,hnT,hTe,hT,hdT,h3⟩:=h;unfold GQ;refine aj (iD ..) (ag (dS he hd h1 ?_));refine aj (if_neg (by simp) ..) ?_;unfold setFlight;refine ag (dS he hd h1 ?_);refine aj (if_pos (show (cY T != eG)=aI from by rfl)) ?_;have hsz3:3 < ts.size:=(rv.mp h3).1;refine eH hT hdT hsz3 (hQ _ ?_);have other:∀b,b≠T->(s.heap.update T (Fk (·.setIfInBounds 3 ((ae L).elim eG λf=>pD f)))).get? b=s.heap.get? b:=λb hb=>iF _ _ (gf hb);have ET:∀b o,s.heap.get? b=ae o->(∀vs,o.data≠ .fields vs)->b≠T:=λb o hb Cz q=>by
  rw [q,hT] at hb;injection hb with hb;subst hb;exact Cz ts hdT
 refine ⟨e,t,base,h0,tw,rfl,r,U.on λb o hb hn=>⟨o.slots,(other b (ET b o hb hn)).trans hb⟩,λb o hbo=>(other b λq=>by rw [q,hnT] at hbo;exact gK hbo).trans (x1 b o hbo),x2,x3.of_keeps λb o hb Cz=>⟨o,(other b (ET b o hb Cz)).trans hb,rfl⟩,?_⟩;exact ⟨oe,vs,T,_,_,(other e (gf hTe)).trans he,hc,hd,h1,hnT,hTe,bS _ hT (iW (dP hdT _)),dP hdT _,by simp [hsz3]⟩
theorem jQ.now(h:jQ l Z mu v s)(hf:ia l mu):∃e,v= .ref e/\R Z mu s/\s.TypeIs (.ref e) "StopIteration":=by refine iK h λe t base h0 tw mP r U x=>?_;clear h;subst mP;refine ⟨e,rfl,r.reslot U x.1 hf,?_⟩;exact aK (x.there) λob h1 h2=>⟨ob,h1,h2⟩
end
end
section
variable {Θ:AF->Mu->Prop}{Ψ:Mu->Prop}{j:Nat}{lay:zL}{bB:ej}
theorem Exn.nodup{l:List gP}{v:ai}(h:Exn l L Z mu v s):(gU mu).Nodup:=by rcases h with ⟨_,_,_,_,r,_⟩|⟨_,_,_,_,_,_,r,_⟩|⟨_,_,_,_,_,_,r,_⟩ <;> exact r.nodup
theorem jQ.perm{l:List gP}{v:ai}(h:jQ l Z mu v s)(hp:mu.Perm nu):jQ l Z nu v s:=by
 refine iK h λe t base h0 tw dO r U x=>?_;clear h;subst dO;exact ⟨e,t,base,h0,tw,rfl,r.perm hp,⟨U.keepZ,λb hb=>U.keepO b (by exact aK (bG.mp hb) λy hy hb=>bG.mpr ⟨y,hp.mem_iff.mpr hy,hb⟩),U.up⟩,x⟩
structure RT(k:Nat)(mu:Mu)(env:gP){α:Type}(t:mF α)(Ψ:Mu->Prop):Prop where
 c:∀{A:bh} {Z:bI} {s:aq} {fr:Mu} {outer:List gP} {F:α->aq->Prop} {T:ai->aq->Prop},Rm k A->A.frames=ae (env::outer)->ia outer fr->R Z (mu++fr) s->
  (∀{v s' Z' nu},Z.le Z'->zT env nu->Exn (env::outer) env.locals Z' (nu++fr) v s'->Ψ nu->T v s')->aS (aX G.prog G.w) A t F T s
structure RFW(k:Nat)(mu:Mu)(f:ai)(xs:List V)(Ψ:Mu->Prop):Prop where
 c:∀{A:bh} {Z:bI} {s:aq} {fr:Mu} {l:List gP} {vs:List ai} {F T:ai->aq->Prop},Rm k A->A.frames=ae l->ia l fr->R Z (mu++fr) s->bW G Z vs xs->
  (∀{v s' Z' nu},Z.le Z'->jQ l Z' (nu++fr) v s'->Ψ nu->T v s')->aS (aX G.prog G.w) A (ku f vs) F T s
structure Wf(k:Nat)(mu:Mu)(env:gP)(t:mF uj)(Θ:AF->Mu->Prop):Prop where
 c:∀{A:bh} {E:ai->aq->Prop} {Z:bI} {s:aq} {fr:Mu} {outer:List gP} {Q:uj->aq->Prop},Rm k A->A.frames=ae (env::outer)->ia outer fr->R Z (mu++fr) s->
  (∀{f s' Z' a nu},Z.le Z'->o7 G Z' f a->R Z' (nu++fr) s'->Θ a nu->Q f s')->aS (aX G.prog G.w) A t Q E s
structure WVf(k:Nat)(mu:Mu)(env:gP)(t:mF ai)(Φ:V->Mu->Prop):Prop where
 c:∀{A:bh} {E:ai->aq->Prop} {Z:bI} {s:aq} {fr:Mu} {outer:List gP} {Q:ai->aq->Prop},Rm k A->A.frames=ae (env::outer)->ia outer fr->R Z (mu++fr) s->
  (∀{v s' Z' x nu},Z.le Z'->aZ G Z' v x->R Z' (nu++fr) s'->Φ x nu->Q v s')->aS (aX G.prog G.w) A t Q E s
structure JR(k:Nat)(mu:Mu)(f:ai)(xs:List V)(Φ:V->Mu->Prop):Prop where
 c:∀{A:bh} {E:ai->aq->Prop} {Z:bI} {s:aq} {fr:Mu} {l:List gP} {vs:List ai} {Q:ai->aq->Prop},Rm k A->A.frames=ae l->ia l fr->R Z (mu++fr) s->bW G Z vs xs->
  (∀{w s' Z' y nu},Z.le Z'->aZ G Z' w y->R Z' (nu++fr) s'->Φ y nu->Q w s')->aS (aX G.prog G.w) A (ku f vs) Q E s
abbrev yk(k:Nat)(mu:Mu)(env:gP)(st:List ed)(Θ:AF->Mu->Prop):Prop:=Wf k mu env (Jw st env) Θ
abbrev WXf(k:Nat)(mu:Mu)(env:gP)(st:ed)(Θ:AF->Mu->Prop):Prop:=Wf k mu env (exec st env) Θ
abbrev RE(k:Nat)(mu:Mu)(env:gP)(e:bH)(Ψ:Mu->Prop):Prop:=RT k mu env (dW e env) Ψ
abbrev RX(k:Nat)(mu:Mu)(env:gP)(st:ed)(Ψ:Mu->Prop):Prop:=RT k mu env (exec st env) Ψ
abbrev RS(k:Nat)(mu:Mu)(env:gP)(st:List ed)(Ψ:Mu->Prop):Prop:=RT k mu env (Jw st env) Ψ
structure vY(env:gP):Prop where
 kind:env.scope.kind≠ .module
 frame:env.frame=ae env.locals
theorem zT.frs{l:List gP}(hk:vY env)(h:zT env mu)(iD:ia l fr):ia (env::l) (mu++fr):=ia.cons iD.right ⟨hk.kind,hk.frame,h.mono λx hx=>aE _ hx⟩
theorem WF.f{t:mF uj}(h:WF k mu t Θ):Wf k mu env t Θ:=⟨λ{z z z z z z z} hA z z=>h.c hA⟩
noncomputable def K7(k:Nat)(env:gP)(rest:List ed)(Θ:AF->Mu->Prop):AF->Mu->Prop
 | .next,nu=>yk k nu env rest Θ
 |f,nu=>Θ f nu
theorem nJ{st:ed}{rest:List ed}(h:WXf k mu env st (K7 k env rest Θ)):yk k mu env (st::rest) Θ:=⟨λ{z z z z z z z} hA hf iD r q=>by
 with_reducible refine q9 ?_
 refine h.c hA hf iD r λ{f s1 Z1 a nu} z1 f1 r1 w=>?_
 revert w
 exact o7.by f1 (λw=>Wf.c (show yk k nu env rest Θ from w) hA hf iD r1 λ{z z z z z} z2=>q (z1.trans z2)) (q z1 .brk r1) (q z1 .cont r1) λv x hv=>q z1 (.ret hv) r1⟩
theorem OA(h:Θ .next mu):yk k mu env [] Θ:=(bC h).f
theorem F0{pos:jC}{t:bH}(hv:WVf k mu env (dW e env) λy nu=>mK k nu env t y (Θ .next))(hs:wB [t] e pos.line env=dg aH)(hw:wC [t] e env=dg av)
 (ht:autoParam (jB [t] env=[(aH,wA t env)]) aR):WXf k mu env (.Assign [t] e pos) Θ:=⟨λ{z z z z z z z} hA hf iD r q=>by
 with_reducible refine EW ?_ hs hw
 refine aj (ht ..) ?_;exact hv.c hA hf iD r λ{z z z z z} z1 q1 r1 w=>w.c hA r1 q1 λ{z z z} z2=>q (z1.trans z2) .next⟩
theorem R.split{NJ rest:Mu}(r:R Z (nu++fr) s)(hp:nu.Perm (NJ++rest)):R Z (NJ++(rest++fr)) s:=bU .. ▸r.perm (hp.append_right fr)
theorem AP{f:bb}{a:ay}{ob:o6}{fd:cm}(hk:vY env)(hf:PE k mu env (.Name f p) (.ref a))(h0:G.Z0 a=ae ob)(hd:ob.data= .func fd)(ha:Dt k mu env (e::es) λys nu=>∃NJ rest,nu.Perm (NJ++rest)/\zT env rest/\JR k NJ (.ref a) ys λy nu'=>∃xl,(nu'++rest).Perm xl/\Φ y xl)(hs:∀a p,e≠ .Starred a p:=by intro z z h;cases h):
 WVf k mu env (dW (.Call (.Name f p) (e::es) [] pos) env) Φ:=⟨λ{A E Z s fr outer Q} hA zo iD r q=>by
 with_reducible refine gB ?_
 refine hf.c hA r λ{f s1 Z1} z1 q1 r1=>aj (aZ.refE q1 ..) (iJ hd (ha.c hA r1 λ{vs s2 Z2 ys ud} z2 q2 r2 w=>⟨r2.z0in _ _ h0,?_⟩) (et hs));refine cC w λNJ rest hp hH w2=>?_;clear w;refine w2.c hA zo (hH.frs hk iD) (r2.split hp) q2 λ{w s3 Z3 y Ue} z3 q3 r3 u=>aK u λnu4 hp4 w3=>?_;clear u;exact q (z1.trans (z2.trans z3)) q3 (R.perm (bU .. ▸r3) (hp4.append_right fr)) w3⟩
theorem K8{f:bb}{a:ay}{ob:o6}{fd:cm}(hk:vY env)(hf:PE k mu env (.Name f p) (.ref a))(h0:G.Z0 a=ae ob)(hd:ob.data= .func fd)(ha:Dt k mu env (e::es) λys nu=>∃NJ rest,nu.Perm (NJ++rest)/\zT env rest/\RFW k NJ (.ref a) ys λnu'=>∃xl,(nu'++rest).Perm xl/\Ψ xl)(hs:∀a p,e≠ .Starred a p:=by intro z z h;cases h):
 RE k mu env (.Call (.Name f p) (e::es) [] pos) Ψ:=⟨λ{A Z s fr outer F T} hA zo iD r q=>by
 with_reducible refine gB ?_
 refine hf.c hA r λ{f s1 Z1} z1 q1 r1=>aj (aZ.refE q1 ..) (iJ hd (ha.c hA r1 λ{vs s2 Z2 ys ud} z2 q2 r2 w=>⟨r2.z0in _ _ h0,?_⟩) (et hs));refine cC w λNJ rest hp hH w2=>?_;clear w;refine w2.c hA zo (hH.frs hk iD) (r2.split hp) q2 λ{v s3 Z3 Ue} z3 q3 u=>aK u λnu4 hp4 w3=>?_;clear u;exact q (z1.trans (z2.trans z3)) (hH.mono λx hx=>hp4.mem_iff.mp (bL _ hx)) (.inr (.inr (jQ.perm (bU .. ▸q3) (hp4.append_right fr)))) w3⟩
theorem B9{l r:bH}{op:CB}(h:RE k mu env l Ψ):RE k mu env (.BinOp l op r p) Ψ:=⟨λ{z z z z z z z} hA zo iD r q=>by
 with_reducible refine NM ?_
 exact h.c hA zo iD r q⟩
theorem nq{pos:jC}{t:bH}(h:RE k mu env e Ψ)(hs:wB [t] e pos.line env=dg aH)(hw:wC [t] e env=dg av):RX k mu env (.Assign [t] e pos) Ψ:=⟨λ{z z z z z z z} hA zo iD r q=>by
 with_reducible refine EW ?_ hs hw
 exact h.c hA zo iD r q⟩
theorem oU{st:ed}{rest:List ed}(h:RX k mu env st Ψ):RS k mu env (st::rest) Ψ:=⟨λ{z z z z z z z} hA zo iD r q=>by
 with_reducible refine q9 ?_
 exact h.c hA zo iD r q⟩
noncomputable def thenR(k:Nat)(env:gP)(rest:List ed)(Ψ:Mu->Prop):AF->Mu->Prop
 | .next,nu=>RS k nu env rest Ψ
 |_,_=>False
theorem qG{st:ed}{rest:List ed}(h:WX k mu env st (thenR k env rest Ψ)):RS k mu env (st::rest) Ψ:=⟨λ{z z z z z z z} hA zo iD r q=>by
 with_reducible refine q9 ?_
 refine h.c hA r λ{f s1 Z1 a nu} z1 f1 r1 w=>?_
 revert w
 exact o7.by f1 (λw=>RT.c (show RS k nu env rest Ψ from w) hA zo iD r1 λ{z z z z} z2=>q (z1.trans z2)) (λw=>w.elim) (λw=>w.elim) λv x hv w=>w.elim⟩
theorem DP{pos:jC}{body orelse:List ed}(hk:vY env)(Inv:Nat->Mu->Prop)(n:Nat)(h0:Inv n mu)
 (turn:∀n nu,Inv n nu->WT k nu env e λc rt=>c=aI/\(RS k rt env body Ψ\/WS k rt env body λf ud=>(f= .next\/f= .cont)/\∃m,m < n/\Inv m ud)):RX k mu env (.While e body orelse pos) Ψ:=⟨λ{A Z s fr outer F T} hA zo iD r q=>by
 with_reducible refine wpAny_While ?_
 refine codeAny_whileLoop (WhI Z Inv fr) (λn s' h=>?_) n ⟨Z,mu,.rfl,r,h0⟩;refine cC (h.ex) λZ' nu z' r' inv=>(turn n nu inv).c hA r' λ{c s1 Z1 rt} z1 r1 w=>dU w λeT w1=>?_;clear w;subst eT;refine aj (if_pos rfl ..) ?_;rcases w1 with w1|w1
 ·exact w1.c hA zo iD r1 λ{z z z z} z2 hH hx hΨ=>mr zo (hH.frs hk iD) hx λs3 Uk=>IF hk.frame Uk λs4 hx4=>q (z'.trans (z1.trans z2)) hH (.inr (.inl hx4)) hΨ
 ·refine w1.c hA r1 λ{f s2 Z2 a ud} z2 f2 r2 w=>mI w λha m hm hi=>?_;clear w;have fin:∃m,m < n/\WhI Z Inv fr m s2:=⟨m,hm,⟨Z2,ud,z'.trans (z1.trans z2),r2,hi⟩⟩
  revert ha
  exact o7.by f2 (λz=>fin) (λh=>by rcases h with h|h <;> cases h) (λz=>fin) λv x hv h=>by rcases h with h|h <;> cases h⟩
theorem RV(B:g7 G){fd:cm}{a:ay}{ob:o6}{body:List ed}{names:List bb}{vals':ay->ej}(Bu:Kn mu λhp=>hp.get? a=ae ob)(hd:ob.data= .func fd)(hcd:Kn mu λhp=>hp.CodeRec fd.code fd.qualname)(sq:fd.body= .stmts body)
 (i0:∀vs,vs.length=xs.length->pI fd ⟨vs,[]⟩=dg (names.zip vs)) (hnd:(aM 0 fd.scope.names).nd) (he:∀L,du (dT fd a L))
 (hb:∀L,i9 (dT fd a L) L (aM (L+1) fd.scope.names) names xs (nones (aM (L+1) fd.scope.names)) (vals' L))
 (h:∀L,RS k (vR fd L (vals' L)::mu) (dT fd a L) body λnu=>∃bB nu',nu=vR fd L bB::nu'/\Ψ nu') (wx:autoParam (fd.scope.isCoroutine=aH) aR) (mQ:autoParam (fd.scope.isGenerator=aH) aR):RFW (k+1) mu (.ref a) xs Ψ:=⟨λ{A Z s fr l vs F T} hA zo iD r hv q=>by
 refine eF (qp hA.depth (Bu.app r) hd wx mQ sq (hcd.app r) ?_);refine aj (i0 vs hv.length ..) (ar (pO (vals':=vals' s.heap.objs.size) r hnd (he _) hv (hb _) λs' r'=>⟨B.lim _ r'.z0in,JE ?_⟩));refine (h s.heap.objs.size).c (hA.deeper _) (CM zo) iD r' λ{v s2 Z2 ud} z2 hH hx w=>?_;obtain ⟨bB,nu',rfl,hΨ⟩:=w;exact ID (CM zo) (hH.frs ⟨by refine aj ((he _).kind) ?_;decide,rfl⟩ iD) hx (gW _ _) (λhb=>(bP.mp (show ((vR fd s.heap.objs.size bB).own++gU (nu'++fr)).Nodup from hx.nodup)).2.2 _ aa _ hb rfl) λs3 Uk=>q z2 Uk hΨ⟩
theorem K9(B:g7 G){fd:cm}{a:ay}{ob:o6}{body:List ed}{names:List bb}{vals':ay->ej}(Bu:Kn mu λhp=>hp.get? a=ae ob)(hd:ob.data= .func fd)(hcd:Kn mu λhp=>hp.CodeRec fd.code fd.qualname)(sq:fd.body= .stmts body)
 (i0:∀vs,vs.length=xs.length->pI fd ⟨vs,[]⟩=dg (names.zip vs)) (hnd:(aM 0 fd.scope.names).nd) (he:∀L,du (dT fd a L))
 (hb:∀L,i9 (dT fd a L) L (aM (L+1) fd.scope.names) names xs (nones (aM (L+1) fd.scope.names)) (vals' L))
 (h:∀L,yk k (vR fd L (vals' L)::mu) (dT fd a L) body (lE Φ)) (wx:autoParam (fd.scope.isCoroutine=aH) aR) (mQ:autoParam (fd.scope.isGenerator=aH) aR):JR (k+1) mu (.ref a) xs Φ:=⟨λ{A E Z s fr l vs Q} hA zo iD r hv q=>by
 refine eF (qp hA.depth (Bu.app r) hd wx mQ sq (hcd.app r) ?_);refine aj (i0 vs hv.length ..) (ar (pO (vals':=vals' s.heap.objs.size) r hnd (he _) hv (hb _) λs' r'=>⟨B.lim _ r'.z0in,JE ?_⟩));refine (h s.heap.objs.size).c (hA.deeper _) (CM zo) iD r' λ{f s2 Z2 af ud} z2 f2 r2 w2=>?_
 revert w2
 exact o7.by f2 (λw=>jK.c (show jK .none ud Φ from w) r2 .none λ{z z z} z3=>q (z2.trans z3)) (λw=>w.elim) (λw=>w.elim) λv x hv w=>jK.c (show jK x ud Φ from w) r2 hv λ{z z z} z3=>q (z2.trans z3)⟩
theorem RW(H:Hy G){a:ay}{st:ed}(F:rK G a st){names:List bb}{vals':ay->ej}
 (i0:∀pm cd doc vs,vs.length=xs.length->pI (xy st pm cd doc) ⟨vs,[]⟩=dg (names.zip vs)) (hnd:(aM 0 (bk st).names).nd) (hk:(bk st).kind= .function)
 (hb:∀pm cd doc L,i9 (dT (xy st pm cd doc) a L) L (aM (L+1) (bk st).names) names xs (nones (aM (L+1) (bk st).names)) (vals' L))
 (h:∀pm cd doc L,du (dT (xy st pm cd doc) a L)->vY (dT (xy st pm cd doc) a L)->yk k (bq L (aM (L+1) (bk st).names) (vals' L)::mu) (dT (xy st pm cd doc) a L) (fR st) (lE Φ)) (wx:autoParam ((bk st).isCoroutine=aH) aR) (mQ:autoParam ((bk st).isGenerator=aH) aR):
 JR (k+1) mu (.ref a) xs Φ:=by
 exact cq (F.go) λob pm cd doc h0 hd hcd=>K9 H.B (names:=names) (vals':=vals') (Kn.z0 h0) hd (λZ s r=>hcd _ r.z0in) rfl (i0 pm cd doc) hnd (λL=>⟨hk,rfl,rfl⟩) (hb pm cd doc) (λL=>h pm cd doc L ⟨hk,rfl,rfl⟩ ⟨by show (bk st).kind≠_;refine aj (hk ..) ?_;decide,rfl⟩) wx mQ
theorem RY(H:Hy G){a:ay}{st:ed}(F:rK G a st){names:List bb}{vals':ay->ej}
 (i0:∀pm cd doc vs,vs.length=xs.length->pI (xy st pm cd doc) ⟨vs,[]⟩=dg (names.zip vs)) (hnd:(aM 0 (bk st).names).nd) (hk:(bk st).kind= .function)
 (hb:∀pm cd doc L,i9 (dT (xy st pm cd doc) a L) L (aM (L+1) (bk st).names) names xs (nones (aM (L+1) (bk st).names)) (vals' L))
 (h:∀pm cd doc L,du (dT (xy st pm cd doc) a L)->vY (dT (xy st pm cd doc) a L)->RS k (bq L (aM (L+1) (bk st).names) (vals' L)::mu) (dT (xy st pm cd doc) a L) (fR st) λnu=>∃bB nu',nu=bq L (aM (L+1) (bk st).names) bB::nu'/\Ψ nu')
 (wx:autoParam ((bk st).isCoroutine=aH) aR) (mQ:autoParam ((bk st).isGenerator=aH) aR):RFW (k+1) mu (.ref a) xs Ψ:=by
 exact cq (F.go) λob pm cd doc h0 hd hcd=>RV H.B (names:=names) (vals':=vals') (Kn.z0 h0) hd (λZ s r=>hcd _ r.z0in) rfl (i0 pm cd doc) hnd (λL=>⟨hk,rfl,rfl⟩) (hb pm cd doc) (λL=>h pm cd doc L ⟨hk,rfl,rfl⟩ ⟨by show (bk st).kind≠_;refine aj (hk ..) ?_;decide,rfl⟩) wx mQ
theorem Hs{f:bb}(hf:PE k mu env (.Name f p) (.bi "next"))(ha:PE k mu env e (.ref it))(hi:mu[i]? =ae (jL it []))(hF:zT env (mu.set i (pR)))(h:Ψ (mu.set i (pR)))(hs:∀a p,e≠ .Starred a p:=by intro z z h;cases h):
 RE k mu env (.Call (.Name f p) [e] [] pos) Ψ:=⟨λ{A Z s fr outer F T} hA zo iD r q=>by
 refine BM hf (au (Ps:=[]) ha aT hs) hs hA r λ{vs s2 Z2} z2 q2 r2=>aK (q2.one) λv gi q3=>?_;subst gi;refine aj (aZ.refE q3 ..) ?_;have hi':=cH (fr:=fr) hi;exact oH (r2.sat _ (ao hi')) λb t j I e=>IA hA.hh I (DL (jc.mp e)) λh1 h' ev hb S=>q z2 hF (.inl ⟨ev,h1,s2.toks,rfl,gE hi▸R.dead (s:=s2) (h':=h1) (tk:=s2.toks) r2 hi' λa o hb' e=>hb a o (λq=>hb' (q▸aa)) e,S.made⟩) h⟩
theorem DQ(B:g7 G){body:List ed}{M4 rpos npos M0 xpos:jC}{z:bb}(he:du env)(hk:vY env)(hm:G.mg "StopIteration"=av)(hkn:env.kindOf "StopIteration"=ae .globalImplicit)(sl:Sl env L lay z j)
 (hb:RS k mu env body λnu=>∃bB y,bq L lay bB∈nu/\bB[j]? =ae (ae y)/\Θ (.ret y) nu) (hd:autoParam ((z == ("__debug__":bb))=aH) aD):
 WXf k mu env (.Try body [.ExceptHandler (ae (.Name "StopIteration" npos)) av [.Return (ae (.Name z xpos)) rpos] M0] [] [] M4) Θ:=⟨λ{A E Z s fr outer Q} hA zo iD r q=>by
 refine wpAny_Try_except (hb.c hA zo iD r λ{v s1 Z1 nu} z1 hH hx w=>?_);obtain ⟨bB,y,hv1,hv2,hΘ⟩:=w;have hfs:=hH.frs hk iD;refine mr zo hfs hx λs2 PQ=>IE PQ λs3 Uk=>ef (Uk.now hfs) λe iC r3 ty3=>?_;subst iC;refine wpAny_handleBy_builtin (X:="StopIteration") (T:="StopIteration") (b:=aI) owsi_raise.isExc (by kernel_rfl) owsi_facts.sub (aK (B.b _ r3.z0in) λmb h1 h2=>?_);refine Jy he.kind hkn (loadGlobal_builtin (he.globals▸B.g _ r3.z0in) hm (he.builtins▸h1) ((h2 "StopIteration" (by decide)).trans (by rfl)) ⟨rfl,ty3,?_⟩) (by decide);refine aj (if_pos rfl ..) (DO Uk λs4 hx4=>?_);refine ef (hx4.now hfs) λx x r4 x=>?_
 with_reducible refine q9 (wpAny_Return_some ?_)
 exact Tt (FN he sl (aE fr hv1) hv2 r4 λ{x} hw=>q z1 (.ret hw) r4 hΘ) hd⟩
end
noncomputable def jv:Nat->List Nat->Option (Nat×List Nat)
 |_,[]=>av
 |v,b::bs=>if b / 64 % 2=1 then jv (v*64+b % 64) bs else ae (v*64+b % 64,bs)
noncomputable def mM(bs:List Nat):Option (Nat×List Nat):=jv 0 bs
structure uU(b d:Nat)(more:Bool):Prop where
 low:b % 64=d
 bit:b / 64 % 2=if more then 1 else 0
theorem kj:∀{bs:List Nat} {v n:Nat} {rs:List Nat},jv v bs=ae (n,rs)->rs.length < bs.length
 |[],_,_,_,h=>gK h
 |b::bs,v,n,rs,h=>by
  have h:(if b / 64 % 2=1 then jv (v*64+b % 64) bs else ae (v*64+b % 64,bs))=ae (n,rs):=h;by_cases hb:b / 64 % 2=1
  ·exact cI (kj ((if_pos hb).symm.trans h))
  ·exact (sN (aO ((if_neg hb).symm.trans h))).2▸jf _
theorem Ca{v b d:Nat}{bs:List Nat}(h:uU b d aI):jv v (b::bs)=jv (v*64+d) bs:=(if_pos h.bit).trans (h.low▸rfl)
theorem yl{v b d:Nat}{bs:List Nat}(h:uU b d aH):jv v (b::bs)=ae (v*64+d,bs):=(if_neg (λe=>absurd (h.bit.symm.trans e) (by decide))).trans (h.low▸rfl)
theorem vint1{b0 d0:Nat}{rs:List Nat}(h0:uU b0 d0 aH):mM (b0::rs)=ae (d0,rs):=by exact (yl h0).trans (aj (rg 64) (aj (eC d0) rfl))
theorem vint2{b0 b1 d0 d1:Nat}{rs:List Nat}(h1:uU b1 d1 aI)(h0:uU b0 d0 aH):mM (b1::b0::rs)=ae (d1*64+d0,rs):=by exact (Ca h1).trans ((yl h0).trans (aj (rg 64) (aj (eC d1) rfl)))
theorem vint3{b0 b1 b2 d0 d1 d2:Nat}{rs:List Nat}(h2:uU b2 d2 aI)(h1:uU b1 d1 aI)(h0:uU b0 d0 aH):mM (b2::b1::b0::rs)=ae ((d2*64+d1)*64+d0,rs):=by exact (Ca h2).trans ((Ca h1).trans ((yl h0).trans (aj (rg 64) (aj (eC d2) rfl))))
noncomputable def ym(bs:List Nat):Option ((Nat×Nat×Nat×Nat)×List Nat):=
 (mM bs).bind λa=>(mM a.2).bind λb=>(mM b.2).bind λc=>(mM c.2).bind λd=>ae ((a.1,b.1,c.1,d.1),d.2)
theorem DR{bs:List Nat}(h:bs.length < 4):ym bs=av:=by refine el.mpr λa h1=>el.mpr λb h2=>el.mpr λc h3=>el.mpr λd h4=>?_;have l1:=kj h1;have l2:=kj h2;have l3:=kj h3;have l4:=kj h4;omega
variable {Ps:List (Vw)}{n:Nat}
section
theorem Ht(b:Nat):lZ (b:Int) 63=((b % 64:Nat):Int):=by refine aj (bitAnd_pp (dJ _) (by decide) ..) ?_;refine aj (b8 ..) ?_;exact congrArg _ (E6 b 6)
theorem Qv(b:Nat):(lZ (b:Int) 64 != 0)=decide (b / 64 % 2=1):=by
 refine aj (bitAnd_pp (dJ _) (by decide) ..) ?_;refine aj (b8 ..) ?_;have h:b &&& (64:Int).toNat=(b.testBit 6).toNat*64:=by
  apply xr;intro i;refine aj (GT ..) ?_;refine aj (show (64:Int).toNat=2 ^ 6 from rfl) ?_;refine aj (lC ..) ?_;refine aj (show (b.testBit 6).toNat*64=(b.testBit 6).toNat*2 ^ 6 from rfl) ?_;refine aj (NT ..) ?_;by_cases hi:6=i
  ·subst hi;cases b.testBit 6 <;> rfl
  ·(refine aj (decide_eq_false hi ..) ?_;refine aj (kN ..) ?_)
   cases b.testBit 6 with
   |false=>simp
   |true=>
    by_cases h6:6<=i
    ·have:i - 6≠0:=by lia
     refine cJ (Nat.exists_eq_succ_of_ne_zero this) λm hm=>aj (hm ..) ?_;simp [h6,Nat.testBit_succ]
    ·simp [h6]
 refine aj (h ..) ?_;refine aj (fx ..) ?_;by_cases h2:b / 2 ^ 6 % 2=1
 ·have h3:b / 64 % 2=1:=h2;simp [h2,h3]
 ·have h3:¬b / 64 % 2=1:=h2;simp [h2,h3]
theorem or63(v b:Nat):Builtin.bitOr ((v*64:Nat):Int) ((b % 64:Nat):Int)=((v*64+b % 64:Nat):Int):=by
 have hd:b % 64 < 2 ^ 6:=ee _ (by decide);generalize b % 64=d at*;refine aj (bitOr_and ..) ?_;refine aj (bitAnd_pp (dJ _) (dJ _) ..) ?_;refine aj (b8 ..) ?_;refine aj (b8 ..) ?_;have h:(v*64) &&& d=0:=by
  apply xr;intro i;refine aj (GT ..) ?_;refine aj (Nat.zero_testBit ..) ?_;refine aj (show v*64=v*2 ^ 6 from rfl) ?_;refine aj (NT ..) ?_;by_cases hi:6<=i
  ·(refine aj (vg (cb hd (e8 (by decide) hi)) ..) ?_;refine aj (kN ..) ?_;rfl)
  ·simp [hi]
 refine aj (h ..) ?_;simp
theorem AQ:∀{bs:List Nat} {v n:Nat} {rs:List Nat},jv v bs=ae (n,rs)->v*64<=n
 |b::bs,v,n,rs,h=>by
  unfold jv at h
  split at h
  ·have:=AQ h;lia
  ·cases h;exact dC _ _
variable {Ψ:Mu->Prop}{rs:List Nat}
theorem nK{f:bb}{id:String}(hf:PE k mu env (.Name f p) (.bi id))(ha:tC k mu env (e::es) Ps)(hF:BU k mu (.builtin id) Ps Φ)(hs:∀a p,e≠ .Starred a p:=by intro z z h;cases h):WE k mu env (.Call (.Name f p) (e::es) [] pos) Φ:=⟨λ{z z z z z z} hA r q=>BM hf ha hs hA r λ{z z z} z2 q2 r2=>hF.c hA r2 q2 λ{z z z z z} z3=>q (z2.trans z3)⟩
theorem oV{b c:Bool}(h:PT k mu env e b)(e1:b=c):PT k mu env e c:=e1▸h
noncomputable abbrev OB(L it:ay)(b v:V):cX:=bq L (aM (L+1) (bk (cN 7)).names) [ae (.ref it),ae b,ae v]
theorem Cb{v:Nat}(h:v < 2 ^ 60):NB k mu .LShift (bZ (.int v)) (bZ (.int 6)) (bZ (.int (v*64:Nat))):=by
 have:=RI (k:=k) (mu:=mu) (a:=(v:Int)) (b:=6) (by decide) (by decide) (by omega);have e:(v:Int)*2 ^ (6:Int).toNat=((v*64:Nat):Int):=by rfl
 rwa [e] at this
def nL.S0(k:Nat)(mu:Mu)(i:Nat)(it:ay)(rs:List Nat)(n:Nat):Prop:=∀{bs:List Nat} (H:Hy G) (hi:mu[i]? =ae (jL it bs)) (hv:mM bs=ae (n,rs)) (hn:n < 2 ^ 60),FW (k+2) mu (.ref 172) [.ref it] λy nu=>y= .int n/\nu=mu.set i (jL it rs)
namespace nL
@[irreducible] def e0:=Fp eN gD eN cL gD eN S0
def k_:=e0.1
def fb:=e0.2.1
def i_:=e0.2.2.1
def sA:=e0.2.2.2.1
def rs_:=e0.2.2.2.2.1
def n_:=e0.2.2.2.2.2
theorem T0:S0 k_ fb i_ sA rs_ n_:=by
 intro bs H hi hv hn;refine th H H.f172 (names:=["iterator"]) (vals':=λL=>[ae (.ref sA),av,av]) (λpm cd doc vs h=>?_) (by decide+kernel) rfl (λpm cd doc L=>?_) (λpm cd doc L he=>?_)
 ·exact uP h λa=>rfl
 ·exact .cons (j:=0) .loc rfl .nil
 cases bs with
 |nil=>exact gK hv
 |cons b bs=>
 unfold mM jv at hv;rw [rg,eC] at hv;refine aC (b4 (nK (j4 H he H.b_next rfl) (au (ah (j:=0) he .loc aa rfl) aT) (uT (i:=i_+1) hi (aQ (i:=0) (j:=1) he .loc rfl ?_))) rfl rfl);refine aC (bX (br (ah (j:=1) he .loc aa rfl) aU (qt)) (aQ (i:=0) (j:=2) he .loc rfl ?_) rfl rfl);refine aj (Ht ..) (aC (xT (λm nu=>∃b v CV,CV.length=m/\nu=OB L sA (.int (b:Nat)) (.int (v:Nat))::fb.set i_ (jL sA CV)/\(if b / 64 % 2=1 then jv v CV else ae (v,CV))=ae (n_,rs_)) bs.length ⟨b,b % 64,bs,rfl,rfl,hv⟩ ?_));intro m nu dO;refine cE dO λb v CV eT gi hg=>?_;clear dO;subst eT;subst gi;refine (oV (kU (br (ah (j:=1) he .loc aa rfl) aU qt) xQ) (Qv b)).wt ?_;by_cases hb:b / 64 % 2=1
 ·refine aj (decide_eq_true hb ..) ?_;rw [if_pos hb] at hg;have hi':(fb.set i_ (jL sA CV))[i_]? =ae (jL sA CV):=by (refine aj (eA (aB.mp hi).1 ..) ?_;rfl)
  have hge:=AQ hg;cases CV with
  |nil=>exact gK hg
  |cons c cs=>
  unfold jv at hg;refine aC (rO (i:=0) (j:=2) he .loc rfl rfl aU (Cb (by lia)) ?_);refine aC (b4 (nK (j4 H he H.b_next rfl) (au (ah (j:=0) he .loc aa rfl) aT) (uT (i:=i_+1) hi' (aQ (i:=0) (j:=1) he .loc rfl ?_))) rfl rfl);refine aC (rO (i:=0) (j:=2) he .loc rfl rfl (br (ah (j:=1) he .loc aa rfl) aU qt) (by refine aj (Ht ..) ?_;exact Qr) ?_);refine aj (or63 ..) (bC ⟨cs.length,by exact bp _,c,v*64+c % 64,cs,rfl,?_,hg⟩);show OB L sA (.int (c:Nat)) (.int ((v*64+c % 64:Nat):Int))::(fb.set i_ (jL sA (c::cs))).set i_ (jL sA cs)=_;refine aj (vh ..) ?_;rfl
 ·refine aj (decide_eq_false hb ..) ?_;rw [if_neg hb] at hg;cases hg;refine bC (aC (gw (cf (ah (j:=2) he .loc aa rfl) (ki ⟨rfl,rfl⟩))))
end nL
theorem nL:nL.S0 k mu i it rs n:=by with_unfolding_all exact uD _ _ _ _ _ _ nL.S0 @nL.T0 k mu i it rs n
def nM.S0(k:Nat)(mu:Mu)(i:Nat)(it:ay):Prop:=∀{bs:List Nat} (H:Hy G) (hi:mu[i]? =ae (jL it bs)) (hv:mM bs=av) (hn:bs.length<=8),RFW (k+2) mu (.ref 172) [.ref it] λnu=>nu=mu.set i (pR)
namespace nM
@[irreducible] def e0:=G1 eN gD eN cL S0
def k_:=e0.1
def fb:=e0.2.1
def i_:=e0.2.2.1
def sA:=e0.2.2.2
theorem T0:S0 k_ fb i_ sA:=by
 intro bs H hi hv hn;refine RY H H.f172 (names:=["iterator"]) (vals':=λL=>[ae (.ref sA),av,av]) (λpm cd doc vs h=>?_) (by decide+kernel) rfl (λpm cd doc L=>?_) (λpm cd doc L he hk=>?_)
 ·exact uP h λa=>rfl
 ·exact .cons (j:=0) .loc rfl .nil
 cases bs with
 |nil=>exact oU (nq (Hs (i:=i_+1) (j4 H he H.b_next rfl) (ah (j:=0) he .loc aa rfl) hi ⟨_,_,aa⟩ ⟨_,_,rfl,rfl⟩) rfl rfl)
 |cons b bs=>
 unfold mM jv at hv;rw [rg,eC] at hv;have hb63:b % 64 < 64:=ee _ (by decide);refine qG (b4 (nK (j4 H he H.b_next rfl) (au (ah (j:=0) he .loc aa rfl) aT) (uT (i:=i_+1) hi (aQ (i:=0) (j:=1) he .loc rfl ?_))) rfl rfl);refine qG (bX (br (ah (j:=1) he .loc aa rfl) aU (qt)) (aQ (i:=0) (j:=2) he .loc rfl ?_) rfl rfl);refine aj (Ht ..) ?_;simp only [bK] at hn;refine oU (DP hk (λm nu=>∃b v CV d,CV.length=m/\CV.length+d=7/\v < 64 ^ (d+1)/\nu=OB L sA (.int (b:Nat)) (.int (v:Nat))::fb.set i_ (jL sA CV)/\(if b / 64 % 2=1 then jv v CV else ae (v,CV))=av) bs.length ⟨b,b % 64,bs,7 - bs.length,rfl,by lia,cb hb63 (Nat.le_self_pow (by lia) 64),rfl,hv⟩ ?_);intro m nu iC;refine dK iC λb v CV d kG hd hlt ma hg=>?_;clear iC;subst kG;subst ma;refine (oV (kU (br (ah (j:=1) he .loc aa rfl) aU qt) xQ) (Qv b)).wt ?_;by_cases hb:b / 64 % 2=1
 ·refine ⟨decide_eq_true hb,?_⟩;rw [if_pos hb] at hg;have hi':(fb.set i_ (jL sA CV))[i_]? =ae (jL sA CV):=by (refine aj (eA (aB.mp hi).1 ..) ?_;rfl)
  have hv60:v < 2 ^ 60:=cb hlt (aw (e8 (by decide) (show d+1<=8 by lia)) (by decide));cases CV with
  |nil=>refine .inl (qG (rO (i:=0) (j:=2) he .loc rfl rfl aU (Cb hv60) ?_));refine oU (nq (Hs (i:=i_+1) (j4 H he H.b_next rfl) (ah (j:=0) he .loc aa rfl) hi' ⟨_,_,aa⟩ ⟨[ae (.ref sA),ae (.int (b:Nat)),ae (.int ((v*64:Nat):Int))],(fb.set i_ (jL sA [])).set i_ (pR),rfl,?_⟩) rfl rfl);refine aj (vh ..) ?_;rfl
  |cons c cs=>
   refine .inr ?_;simp only [bK] at hd;unfold jv at hg;refine aC (rO (i:=0) (j:=2) he .loc rfl rfl aU (Cb hv60) ?_);refine aC (b4 (nK (j4 H he H.b_next rfl) (au (ah (j:=0) he .loc aa rfl) aT) (uT (i:=i_+1) hi' (aQ (i:=0) (j:=1) he .loc rfl ?_))) rfl rfl);refine aC (rO (i:=0) (j:=2) he .loc rfl rfl (br (ah (j:=1) he .loc aa rfl) aU qt) (by refine aj (Ht ..) ?_;exact Qr) ?_);refine aj (or63 ..) (bC ⟨.inl rfl,cs.length,by exact bp _,c,v*64+c % 64,cs,d+1,rfl,by lia,?_,?_,hg⟩)
   ·have:v*64+c % 64 < (v+1)*64:=by have:=ee c (show 0 < 64 by decide);lia
    exact cb this (by refine aj (CH ..) ?_;exact xv _ hlt)
   ·show OB L sA (.int (c:Nat)) (.int ((v*64+c % 64:Nat):Int))::(fb.set i_ (jL sA (c::cs))).set i_ (jL sA cs)=_;refine aj (vh ..) ?_;rfl
 ·rw [if_neg hb] at hg;exact nomS hg
end nM
theorem nM:nM.S0 k mu i it:=by with_unfolding_all exact vJ _ _ _ _ nM.S0 @nM.T0 k mu i it
end
variable {apos:jC}
section
open Builtin Builtin.ObjectAttr Builtin.Getset_descriptor Builtin.Tuple
noncomputable abbrev pk(G:Gd){α:Type}(K:fl)(t:mF α):Option α:=peek K ⟨G.prog,G.w.params⟩ t
def gN(G:Gd)(K:fl):Prop:=
 (FV G K)/\
 (G.ent=162)/\
 (pk G K (mA (.ref 162) "__call__")=ae (ae (.builtin "type.__call__")))/\
 (pk G K (uh (.ref 162) (.type "type"))=ae aI)/\
 (pk G K (Bind.madeBy (.ref 162))=ae av)/\
 (pk G K (mroOf (.ref 162))=ae [.ref 162,.ref 149,.type "tuple",.type "object"])/\
 (readsIn K 162 (.type "type")=aI)/\
 (Fh K (.ref 162) (.type "type") "__new__"=ae (.get (.builtin "staticmethod.__get__") (.ref 150) .none (.ref 162)))/\
 (recIn K 150 "staticmethod"=ae [.ref 90])/\
 (∀t,pk G K (iI "tuple.__new__" ⟨[.ref 162,.ref t],[]⟩)=ae ())/\
 (pk G K (Bind.madeHere "tuple.__new__" (.ref 162))=ae ())/\
 (pk G K (isType (.ref 162))=ae aI)/\
 (pk G K (Nf (.ref 162) (.type "tuple"))=ae aI)/\
 (pk G K (Nf (.ref 162) (.ref 162))=ae aI)/\
 (pk G K (Nf (.ref 162) (.type "object"))=ae aI)/\
 (pk G K (iQ (.ref 162) "__init__")=ae (ae (.builtin "object.__init__")))/\
 (∃od cd sl,K.lookup 162=ae ⟨.type "type",od,.cls cd,sl⟩/\cd.hasDel=aH)/\
 (keepIn K (.ref 162)=aI)/\
 (nH G 90 (jl 5 4) "_ExceptionTableEntryBase.__new__")/\
 Fh K (.type "tuple") (.type "type") "__new__"=ae (.val (.builtin "tuple.__new__"))
section
variable {G:Gd}(h:gN G K)
def gN.KO:=@h.1
def gN.ent:=@h.2.1
def gN.call:=@h.2.2.1
def gN.typ:=@h.2.2.2.1
def gN.made:=@h.2.2.2.2.1
def gN.mro:=@h.2.2.2.2.2.1
def gN.reads:=@h.2.2.2.2.2.2.1
def gN.new:=@h.2.2.2.2.2.2.2.1
def gN.stat:=@h.2.2.2.2.2.2.2.2.1
def gN.check:=@h.2.2.2.2.2.2.2.2.2.1
def gN.here:=@h.2.2.2.2.2.2.2.2.2.2.1
def gN.isT:=@h.2.2.2.2.2.2.2.2.2.2.2.1
def gN.subT:=@h.2.2.2.2.2.2.2.2.2.2.2.2.1
def gN.self:=@h.2.2.2.2.2.2.2.2.2.2.2.2.2.1
def gN.subO:=@h.2.2.2.2.2.2.2.2.2.2.2.2.2.2.1
def gN.init:=@h.2.2.2.2.2.2.2.2.2.2.2.2.2.2.2.1
def gN.obj:=@h.2.2.2.2.2.2.2.2.2.2.2.2.2.2.2.2.1
def gN.keep:=@h.2.2.2.2.2.2.2.2.2.2.2.2.2.2.2.2.2.1
def gN.f90:=@h.2.2.2.2.2.2.2.2.2.2.2.2.2.2.2.2.2.2.1
def gN.tnew:=@h.2.2.2.2.2.2.2.2.2.2.2.2.2.2.2.2.2.2.2
end
def DS(p:Prop):Prop:=p
theorem fD{α:Type}{h:dH}{t:mF α}{r:α}(X:K.In h)(e:pk G K t=ae r):iL (aX G.prog G.w) h t r:=Looks.of_peek X e
theorem Lb(a v1 v2 v3 v4 v5:ai):rh "object.__init__" ⟨[a,v1,v2,v3,v4,v5],[]⟩:=by delta rh;kernel_rfl
theorem Lc(EH:gN G K){x1 x2 x3 x4 x5:V}(h:FW k mu (.ref 90) [.ref 162,x1,x2,x3,x4,x5] λy nu=>y= .ent [x1,x2,x3,x4,x5]/\nu=mu):FW (k+1) mu (.ref 162) [x1,x2,x3,x4,x5] λy nu=>y= .ent [x1,x2,x3,x4,x5]/\nu=mu:=⟨λ{A E Z s fr vs Q} hA r hv q=>by
 obtain ⟨hh,g,d,t,os⟩:=s;have X:K.In hh:=EH.KO.inn _ r.z0in;obtain ⟨v1,v2,v3,v4,v5,rfl⟩:∃v1 v2 v3 v4 v5,vs=[v1,v2,v3,v4,v5]:=len5 hv.length λa b c d e=>⟨a,b,c,d,e,rfl⟩
 refine oH (EH.obj) λod cd sl hl z=>?_;have hC:hh.get? 162=ae ⟨.type "type",od,.cls cd,sl⟩:=X _ _ hl;have ku:=fD X EH.call;have typ:=fD X EH.typ;have made:=fD X EH.made;have mro:=fD X EH.mro;refine eF (kK ?_);show aS _ _ (callAny (.ref 162) _) _ _ _;refine nd_load hC ?_;show aS _ _ (callAny.viaDunder (.ref 162) _) _ _ _;delta callAny.viaDunder;refine ag (ku.at ?_);dsimp only;refine aj (tc_bind ..) (ag (ar (ag (ar ?_))));refine ar (a:=Fin.again (.call (.builtin "type.__call__") ⟨.ref 162::[v1,v2,v3,v4,v5],[]⟩)) (NO rfl ?_);refine codeAny_call_builtin_at (Code.quiet_builtin _ (by decide+kernel)) entry_typeCall (@ry (aX G.prog G.w) _ _ ⟨hh,g,d,t,os⟩ "type.__call__" "type" "__call__" (.ref 162) [v1,v2,v3,v4,v5] [] _ tc_kind tc_split typ (tc_args _ _ _) ?_);have ga:∀A' Q E',DS (Q (cY 90) ⟨hh,g,d,t+1,os⟩)->aS (aX G.prog G.w) A' (s8 (.ref 162) "__new__") Q E' ⟨hh,g,d,t,os⟩:=λA' Q E' q=>by
  refine cls_bind X EH.reads EH.new (eF (sm_get X EH.stat ?_));exact handed_on rfl q
 have hA':Rm k (A.under (.builtin "type.__call__" ⟨.ref 162::[v1,v2,v3,v4,v5],[]⟩)):=⟨hA.hh,by have:=hA.dep;show A.depth+1+k<=900;lia,by have:=hA.uni;show A.units+1+10*k<=9000;lia⟩;have cl:∀Q E' (as:List ai) (kw:List (bb×ai)),as=[.ref 162,v1,v2,v3,v4,v5]->kw=[]->(∀(Z':bI) (x:ay) (o:o6) (h':dH) (g':Array GenState) (d':Drawn) (t':Nat) (PZ:vn),Z.le Z'->R Z' (mu++fr) ⟨h',g',d',t',PZ⟩->aZ G Z' (.ref x) (.ent [x1,x2,x3,x4,x5])->h'.get? x=ae o->o.cls= .ref 162->Q (cY x) ⟨h',g',d',t',PZ⟩)->
  aS (aX G.prog G.w) (A.under (.builtin "type.__call__" ⟨.ref 162::[v1,v2,v3,v4,v5],[]⟩)) (Ju (.ref 90) as kw) Q E' ⟨hh,g,d,t+1,os⟩:=λQ E' as kw e1 e2 q=>by
  subst e1 e2;refine h.c (fr:=fr) hA' r.toks (.cons (.ref 162) hv) λ{w s' Z' y nu} z' hy r' u=>dU u λe1 e2=>?_;clear u;subst e1 e2;obtain ⟨h',g',d',t',PZ⟩:=s';refine tA (aZ.ent_inv hy) λa o rr n' dO z1 z2 z=>?_;subst dO;exact q Z' a o h' g' d' t' PZ z' r' hy (r'.zin _ _ z1) (z2.trans (by (refine aj (EH.ent ..) ?_;rfl)))
 have oi:∀(A':bh) Q E' (x:ay) (o:o6) (h':dH) (g':Array GenState) (d':Drawn) (t':Nat) (PZ:vn),h'.get? x=ae o->o.cls= .ref 162->K.In h'->∀(as:List ai) (kw:List (bb×ai)),as=[.ref x,v1,v2,v3,v4,v5]->kw=[]->DS (Q eG ⟨h',g',d',t',PZ⟩)->aS (aX G.prog G.w) A' (Ju (.builtin "object.__init__") as kw) Q E' ⟨h',g',d',t',PZ⟩:=λA' Q E' x o h' g' d' t' PZ hx P0 X' as kw e1 e2 q=>by
  subst e1 e2;have t1:iL (aX G.prog G.w) h' (jU (.ref x)) (.ref 162):=by refine fZ (P0 ..) ?_;exact (sv hx).andThen .now
  have i1:=fD X' EH.init;have m1:=fD X' EH.made;refine eF (jj oi_plain entry_oi (@ry (aX G.prog G.w) _ _ _ "object.__init__" "object" "__init__" (.ref x) [v1,v2,v3,v4,v5] [] _ oi_kind oi_split (t1.andThen (fD X' EH.subO)) (Lb _ _ _ _ _ _) ?_));unfold Builtin.«object.__init__»
  repeat lk
  exact q
 unfold Builtin.«type.__call__»;unfold uh callSpecial? mA
 repeat (first|refine aj (if_neg (show ¬(List.isEmpty (_::_)=aI) from cF) ..) ?_|with_reducible refine ga _ _ _ ?_|lk)
 unfold DS;refine ag (bE (cl _ _ _ _ rfl rfl ?_));intro Z' x o h' g' d' t' PZ z' r' hy hx P0;have X':K.In h':=EH.KO.inn _ r'.z0in;have t1:iL (aX G.prog G.w) h' (jU (.ref x)) (.ref 162):=by refine fZ (P0 ..) ?_;exact (sv hx).andThen .now
 have s1:=fD X' EH.self;have i1:=fD X' EH.init;have b1:iL (aX G.prog G.w) h' (bindSpecial (.builtin "object.__init__") (.ref x)) (.builtin "object.__init__",[.ref x]):=fe (oi_bind _)
 repeat (first|(with_reducible refine oi _ _ _ _ _ _ _ _ _ _ hx P0 X' _ _ ?_ ?_ ?_)|lk)
 ·rfl
 ·rfl
 unfold DS
 repeat lk
 exact q z' hy r' ⟨rfl,rfl⟩⟩
section
variable {S:Vw}
theorem IG(EH:gN G K)(hl:xs.length<=1000):Fn k mu (.builtin "tuple.__new__") [bZ (.ref 162),bZ (.tup xs)] (bZ (.ent xs)):=⟨λ{A E Z s fr vs Q} hA r hq q=>by
 refine cC (hq.two) λv u eT q1 q2=>?_;subst eT;refine aj (aZ.refE q1 ..) (dK (aZ.tup_inv q2) λt o ws n gi z1 z2 z3 z4=>?_);subst gi;obtain ⟨hh,g,d,tk,os⟩:=s;have X:K.In hh:=EH.KO.inn _ r.z0in;refine oH (EH.obj) λod cd sl hlk hdel=>?_;have hC:hh.get? 162=ae ⟨.type "type",od,.cls cd,sl⟩:=X _ _ hlk;have ck:=fD X (EH.check t);have he:=fD X EH.here;have hi:=fD X EH.isT;have hs:=fD X EH.subT;have hn:=fD X EH.init;have ht:hh.get? t=ae o:=r.zin _ _ z1;have hsz:ws.size<=er:=b9 z4▸aw hl (show 1000<=2 ^ 24 by decide);have co:∀(A':bh) Q E',(∀h',(∀b o',hh.get? b=ae o'->h'.get? b=ae o')->DS (Q ws.toList ⟨h',g,d,tk,os⟩))->aS (aX G.prog G.w) A' (collect (.ref t)) Q E' ⟨hh,g,d,tk,os⟩:=λA' Q E' q=>
  wpAny_collect_seq t (.inr rfl) ht z2 z3 (λh' hk=>q h' hk) hsz
 refine eF (kK ?_);show aS _ A.in1 (do iI "tuple.__new__" ⟨[.ref 162,.ref t],[]⟩;NN (.builtin "tuple.__new__" ⟨[.ref 162,.ref t],[]⟩)) _ _ _;refine ag (ck.at (ar ⟨ro NU _,kO PySem.F.entry_tuple_new ?_⟩));refine aj (gR NU _ ..) ?_;unfold Builtin.«tuple.__new__»
 repeat (first|(with_reducible refine co _ _ _ ?_)|lk)
 intro h' hk;unfold DS;have hC':=hk _ _ hC;have r1:R Z (mu++fr) ⟨h',g,d,tk,os⟩:=r.keep (tk:=tk) λb o e=>hk b o e;refine ag (ar (ag (vq (ag ?_))));refine aj (show ws.toList.toArray=ws from by rfl) ?_;show aS _ _ (if ws.size > er then unsupported "sequence:memory" >>=λz=>newObjAsIs (.ref 162) (.seq ws) (ae h'.objs.size) else newObjAsIs (.ref 162) (.seq ws) (ae h'.objs.size)) _ _ _;refine aj (if_neg (Jv.mpr hsz) ..) ?_;unfold newObjAsIs classHasDel;refine ag (vq (ag (ag (Tv (az _ (az _ hC')) (ar ?_)))));show aS _ _ (if cd.hasDel=aI then _ else _) _ _ _;refine aj (hdel ..) (ar (ar ?_));have r2:=r1.push {cls:= .type "dict",data:= .dict #[]};have hz:=r2.fresh (bp _);have r3:=r2.pushZ (o:={cls:= .ref 162,dict:=ae h'.objs.size,data:= .seq ws}) (by rfl);exact q (bI.le_put hz) (aZ.ent (bI.put_self ..) (by (refine aj (EH.ent ..) ?_;rfl)) rfl (z4.mono (bI.le_put hz))) r3⟩
theorem OC:handedIn (.builtin "tuple.__new__")=aI:=by kernel_rfl!
theorem DT:Manifest.isStub "tuple"=aH:=by kernel_rfl!
theorem DU:jU (.type "tuple")=dg (.type "type"):=by kernel_rfl!
theorem uV{A:bh}{E:ai->aq->Prop}{s:aq}{T:String}{name:bb}{v:ai}{pl:mF Bool}{Q:ai×List ai->aq->Prop}(X:K.In s.heap)(ht:jU (.type T)=dg (.type "type"))(hs:Manifest.isStub T=aH)
 (e:Fh K (.type T) (.type "type") name=ae (.val v)) (hh:handedIn v=aI) (h:Q (v,[]) {s with toks:=s.toks+1}):aS (aX G.prog G.w) A (mB (.type T) name pl) Q E s:=by
 have hstub:Nq (.type T)=dg av:=by delta Nq;dsimp only;refine aj (hs ..) ?_;rfl
 have L0:iL (aX G.prog G.w) s.heap (jU (.type T)) (.type "type"):=fe ht;have hg:fH K (.type "type") "__getattribute__"=ae (ae (.builtin "type.__getattribute__")):=type_tga;delta mB mA;refine ag (ag (L0.here ((mT X hg).here ?_)));dsimp only;refine aj (if_pos canon_tga ..) (ag (eR (Q:=λv=>Q (v,[])) (E:=E) ?_ (λy y z=>ar z) λy y z=>z));have LO:iL (aX G.prog G.w) s.heap (Nq (.type T)) av:=fe hstub;refine cls_open X LO L0 hg (looks_hook X (r:=av) (by rfl)) (by show subIn K _ _=_;rfl) e
  (ar (by show aS _ _ (handedOut v) _ _ _;refine aj (handedOut_of hh ..) ?_;exact ar h))
theorem II{f:bb}{fp:jC}{pl:mF Bool}(EH:gN G K)(hf:PE k mu env (.Name f fp) (.type "tuple"))(ha:tC k mu env (e::es) Ps)(hF:Fn k mu (.builtin "tuple.__new__") Ps S)(wy:autoParam (kh (e::es)=aI) aR)
 (he:autoParam (dW (.Call (.Attribute (.Name f fp) "__new__" apos) (e::es) [] pos) env=(do let ov <- dW (.Name f fp) env;iE apos.atName;let (f,first) <- eW [ov] (mB ov "__new__" pl);pE pos f first (lj pos (fo (e::es) env)) [])) aR):
 EV k mu env (.Call (.Attribute (.Name f fp) "__new__" apos) (e::es) [] pos) S:=⟨λ{A E Z s fr Q} hA r q=>by
 refine i5 (pl:=pl) ?_ he;refine hf.c hA r λ{ov s1 Z1} z1 q1 r1=>aj (aZ.typeE q1 ..) (uV (T:="tuple") (v:= .builtin "tuple.__new__") (pl:=pl) (EH.KO.inn _ r1.z0in) DU DT EH.tnew OC ?_);exact Hf ha hA r1.toks λ{z z z} z2 q2 r2=>hF.c hA r2 q2 λ{z z z} z3=>q (z1.trans (z2.trans z3))⟩
theorem Ld(H:Hy G)(EH:gN G K){x1 x2 x3 x4 x5:V}:FW (k+2) mu (.ref 90) [.ref 162,x1,x2,x3,x4,x5] λy nu=>y= .ent [x1,x2,x3,x4,x5]/\nu=mu:=by
 refine DJ H EH.f90 (names:=["_cls","start","end","target","depth","lasti"]) (vals':=λL=>[ae (.ref 162),ae x1,ae x2,ae x3,ae x4,ae x5]) (λpm cd doc vs h=>?_) (by decide+kernel) rfl (λpm cd doc L=>?_) (λpm cd doc L he=>?_)
 ·exact len6 h λa b c d e f=>rfl
 ·exact .cons (j:=0) .loc rfl (.cons (j:=1) .loc rfl (.cons (j:=2) .loc rfl (.cons (j:=3) .loc rfl (.cons (j:=4) .loc rfl (.cons (j:=5) .loc rfl .nil)))))
 refine aC (ig (cf cO ?_));refine aC (gw (cf (II EH (iN H he H.b_tuple rfl) (au (ah (j:=0) he .loc aa rfl) (au (f9 (xs:=[x1,x2,x3,x4,x5]) (au (ah (j:=1) he .loc aa rfl) (au (ah (j:=2) he .loc aa rfl) (au (ah (j:=3) he .loc aa rfl) (au (ah (j:=4) he .loc aa rfl) (au (ah (j:=5) he .loc aa rfl) aT))))) (by show 5<=2 ^ 20;decide)) aT)) (IG EH (by show 5<=1000;decide))) (ki ⟨rfl,rfl⟩)))
theorem OD(H:Hy G)(EH:gN G K){x1 x2 x3 x4 x5:V}:FW (k+3) mu (.ref 162) [x1,x2,x3,x4,x5] λy nu=>y= .ent [x1,x2,x3,x4,x5]/\nu=mu:=Lc EH (Ld H EH)
end
end
variable {name:bb}
section
open Builtin Builtin.ObjectAttr Builtin.Getset_descriptor Builtin.Tuple
noncomputable abbrev eh(fd:cm)(d:Option ay):o6:={cls:= .type "function",dict:=d,data:= .func fd}
theorem Lf{M:zE}{h:dH}:iL M h (iQ (.type "function") "__getattribute__") (ae (.builtin "object.__getattribute__")):=fe (by (refine aj (fg ..) ?_;refine aj (dB ..) ?_);kernel_rfl)
theorem RZ{M:zE}{h:dH}:iL M h (iQ (.type "function") "__setattr__") (ae (.builtin "object.__setattr__")):=fe (by (refine aj (fg ..) ?_;refine aj (dB ..) ?_);kernel_rfl)
theorem R0{M:zE}{h:dH}:iL M h (iQ (.type "function") "__getattr__") av:=fe (by (refine aj (fg ..) ?_;refine aj (dB ..) ?_);kernel_rfl)
theorem Lg{M:zE}{h:dH}:iL M h (Nf (.type "function") (.type "object")) aI:=fe (by refine aj (iR ..) ?_;kernel_rfl)
def kc(name:bb):Prop:=iQ (.type "function") name=dg av
theorem qH:kc "read":=by delta kc;(refine aj (fg ..) ?_;refine aj (dB ..) ?_);kernel_rfl
theorem wU:kc "co_exceptiontable":=by delta kc;(refine aj (fg ..) ?_;refine aj (dB ..) ?_);kernel_rfl
theorem IJ:uo TI "object.__getattribute__"=ae Builtin.«object.__getattribute__»:=Nr (by kernel_rfl)
theorem IK:plainId "object.__getattribute__"=aI:=by decide+kernel
theorem Lh:CN "object.__getattribute__"=ae .slot:=by decide+kernel
theorem IL:Q0 "object.__getattribute__"=ae ("object","__getattribute__"):=by decide+kernel
theorem Li(a b:ai):rh "object.__getattribute__" ⟨[a,b],[]⟩:=by delta rh;kernel_rfl
theorem Lj(self:ai):bindSpecial (.builtin "object.__getattribute__") self=dg (.builtin "object.__getattribute__",[self]):=
 (Slot.of (T:="object") (name:="__getattribute__") (owner:="object") (n:="__getattribute__") (by (refine aj (fg ..) ?_;refine aj (dB ..) ?_);kernel_rfl) (by decide+kernel) (by decide+kernel) (by decide+kernel)
  (.inl (by decide+kernel)) (by refine aj (iR ..) ?_;kernel_rfl)).bind self
section
variable {f:ay}{fd:cm}{es:List gA}
def mv.S0(prog:dG)(w:d8)(f dx:ay)(fd:cm)(name:bb):Prop:=∀{A:bh} {E:ai->aq->Prop} {s:aq} {es:List gA} {n:Nat} {v:ai} {Q:ai->aq->Prop} {expr:Bool} (hx:s.heap.get? f=ae (eh fd (ae dx))) (D:s.heap.get? dx=ae (i3 es n)) (hv:getL name es=ae (ae v)) (hn:kc name) (hh:handedIn v=aI) (h:Q v {s with toks:=s.toks+1}),aS (aX prog w) A (s8 (.ref f) name expr) Q E s
namespace mv
@[irreducible] def e0:=Fp sX E9 cL cL inferInstance inferInstance S0
def cT:=e0.1
def w_:=e0.2.1
def f_:=e0.2.2.1
def dx_:=e0.2.2.2.1
def fd_:=e0.2.2.2.2.1
def iz:=e0.2.2.2.2.2
theorem T0:S0 cT w_ f_ dx_ fd_ iz:=by
 intro A E s es n v Q expr hx D hv hn hh h;obtain ⟨hp,g,d,t,os⟩:=s;have t1:iL (aX cT w_) hp (jU (.ref f_)) (.type "function"):=(sv hx).andThen .now;have lg:=Lf (M:=aX cT w_) (h:=hp);have ln:iL (aX cT w_) hp (iQ (.type "function") iz) av:=fe hn;have nl:iL (aX cT w_) hp (nsGet dx_ iz) (ae v):=λA Q E s k q=>by
  delta nsGet;refine ag (pJ (k _ _ D) ?_);refine aj (nsLook_of (r:=ae v) (by rw [QZ];exact hv) ..) ?_;exact ar q
 have co:∀(A':bh) Q' E',DS (Q' v ⟨hp,g,d,t+1,os⟩)->aS (aX cT w_) A' (TL (.builtin "object.__getattribute__") (.ref f_) (.str iz t)) Q' E' ⟨hp,g,d,t+1,os⟩:=λA' Q' E' q=>by
  delta TL;refine aj (Lj ..) (ag (ar (eF ?_)));refine jj IK IJ (@ry (aX cT w_) _ _ ⟨hp,g,d,t+1,os⟩ "object.__getattribute__" "object" "__getattribute__" (.ref f_) [.str iz t] [] _ Lh IL (t1.andThen Lg) (Li _ _) ?_);unfold Builtin.«object.__getattribute__»
  repeat lk
  exact q
 unfold s8 getAttrBy
 repeat (first|(with_reducible refine kT ?_)|lk)
 refine aj (show (expr && onTheHeap (iG "object.__getattribute__"))=aH from kN _) ?_;refine aj (if_neg (by decide) ..) ?_;refine co _ _ _ ?_;unfold DS;show aS _ _ (handedOut v) _ _ _;exact aj (handedOut_of hh ..) (ar h)
end mv
theorem mv:mv.S0 prog w f dx fd name:=by with_unfolding_all exact uD _ _ _ _ _ _ mv.S0 @mv.T0 prog w f dx fd name
theorem OE{M:zE}{h:dH}:iL M h (mroOf (.type "function")) [.type "function",.type "object"]:=fe (by refine aj (mroOf_type ..) ?_;kernel_rfl)
theorem Hu{tk:HW}{Q:Fin->aq->Prop}(D:s.heap.get? dx=ae (i3 es n))(hr:es.any (·.refKey)=aH)(hz:es.length<=500)
 (h:∀(vk:Int) ny,Q (.done (.ret .none)) {s with heap:=s.heap.update dx (om name vk (.str name ny) v),toks:=s.toks+1}):
 aS (aX prog w) A (storeInDict dx (.str name tk) name v) Q E s:=by
 unfold storeInDict;refine ag (ar (ag ?_));unfold nsSet;refine ag (ag (gC (ar (ag (JL (ag (pJ D ?_)))))));show aS _ _ (if sT name es.toArray=aI then _ else _) _ _ _;have c:sT name es.toArray=aH:=by refine aj (aRefKeyMayBeTheName_at ..) ?_;refine fZ (uu ..) ?_;refine fZ (uu ..) ?_;show (_ && es.any (·.refKey))=aH;refine aj (hr ..) ?_;refine aj (kN ..) ?_;rfl
 refine aj (c ..) ?_;refine aj (if_neg (by decide) ..) ?_;refine wpAny_updatePart D ?_;have hm:∀vk ny,om name vk (.str name ny) v (i3 es n)=i3 (putL name vk (.str name ny) v es) (putN name es n):=λvk ny=>mS ..;refine ag (wpAny_lookBehind (o:=i3 (putL name _ (.str name _) v es) (putN name es n)) ((bS _ D (by refine aj (hm ..) ?_;rfl)).trans (congrArg ae (hm _ _))) (pastItsLine_dict ?_) ?_)
 ·have hlen:∀vk key (l:List gA),(putL name vk key v l).length<=l.length+1:=by
   intro vk key l;induction l with
   |nil=>simp [putL]
   |cons a l ih=>unfold putL;split <;> simp <;> omega
  refine aj (sU ..) (aw (hlen _ _ _) ?_);show _<=2 ^ 24+1;omega
 ·exact ar (h _ _)
def kC.S0(prog:dG)(w:d8)(A:bh)(f:ay)(name:bb)(v:ai)(tk:HW)(R:wD->aq->Prop):Prop:=∀{s:aq} {fd:cm} {o:Option ay} (hx:s.heap.get? f=ae (eh fd o)) (hn:kc name) (h:aS (aX prog w) A.in1 (instanceDict f aI) (λo s1=>aS (aX prog w) A.in1 (match o with|some d=>storeInDict d (.str name tk) name v|none=>noDictFor (.ref f) (.type "function") name aH)
 (λfin s'=>match fin with| .done f=>R (.ok f) s'| .again c'=>c'.quiet=aI/\iV (aX prog w) A c' R s') (λe s'=>R (.error e) s') s1) (λe s'=>R (.error e) s') s),iV (aX prog w) A (.call (.builtin "object.__setattr__") ⟨[.ref f,.str name tk,v],[]⟩) R s
namespace kC
@[irreducible] def e0:=Nz sX E9 Fu cL inferInstance gL inferInstance s9 S0
def cT:=e0.1
def w_:=e0.2.1
def A_:=e0.2.2.1
def f_:=e0.2.2.2.1
def iz:=e0.2.2.2.2.1
def v_:=e0.2.2.2.2.2.1
def tk_:=e0.2.2.2.2.2.2.1
def R_:=e0.2.2.2.2.2.2.2
theorem T0:S0 cT w_ A_ f_ iz v_ tk_ R_:=by
 intro s fd o hx hn h;have SF:=TM;obtain ⟨hp,g,d,t,os⟩:=s;have t1:iL (aX cT w_) hp (jU (.ref f_)) (.type "function"):=(sv hx).andThen .now;have ln:iL (aX cT w_) hp (iQ (.type "function") iz) av:=fe hn;have lm:=OE (M:=aX cT w_) (h:=hp);refine jj SF.slot.plain SF.entry (@ry (aX cT w_) _ _ ⟨hp,g,d,t,os⟩ "object.__setattr__" "object" "__setattr__" (.ref f_) [.str iz tk_,v_] [] _ SF.kind SF.split (t1.andThen Lg) (SF.args (.ref f_) (.str iz tk_) v_) ?_);refine aj (osa_eq ..) ?_;have rf:iL (aX cT w_) hp (refuseIfOverridden (.ref f_) "__setattr__") ():=by refine aj (refuse_eq ..) (t1.andThen (lm.andThen ?_));refine fe ?_;kernel_rfl
 have st:iL (aX cT w_) hp (storeTaker? av) av:= .now;refine ag (rf.at (ag (t1.at (ag (ln.at (ag (st.at ?_)))))));dsimp only;show aS _ _ (do ownStreamTells (.ref f_) (.type "function");if ((lX "function" == .type "module")=aI) then _ else _) _ _ _;refine ag (ar ?_);exact aj (if_neg (by decide) ..) (ag h)
end kC
theorem kC{tk:HW}{R:wD->aq->Prop}:kC.S0 prog w A f name v tk R:=by with_unfolding_all exact Bz _ _ _ _ _ _ _ _ kC.S0 @kC.T0 prog w A f name v tk R
theorem Lk{tk:HW}{R:wD->aq->Prop}(hx:s.heap.get? f=ae (eh fd (ae dx)))(D:s.heap.get? dx=ae (i3 es n))(hn:kc name)(hr:es.any (·.refKey)=aH)(hz:es.length<=500)
 (h:∀(vk:Int) ny,R (.ok (.ret .none)) {s with heap:=s.heap.update dx (om name vk (.str name ny) v),toks:=s.toks+1}):
 iV (aX prog w) A (.call (.builtin "object.__setattr__") ⟨[.ref f,.str name tk,v],[]⟩) R s:=by
 refine kC hx hn ?_;delta instanceDict;refine ag (pJ hx ?_);exact ar (Hu D hr hz h)
theorem IM{tk:HW}{R:wD->aq->Prop}(hx:s.heap.get? f=ae (eh fd av))(hn:kc name)
 (h:∀h' e,h'.get? f=ae (eh fd (ae s.heap.objs.size))->(∃n,h'.get? s.heap.objs.size=ae (i3 [e] n))->(∃ny,e.key= .str name ny)->e.val=v->(∀b o,b≠f->s.heap.get? b=ae o->h'.get? b=ae o)->R (.ok (.ret .none)) {s with heap:=h',toks:=s.toks+1}):
 iV (aX prog w) A (.call (.builtin "object.__setattr__") ⟨[.ref f,.str name tk,v],[]⟩) R s:=by
 refine kC hx hn ?_;delta instanceDict;refine ag (pJ hx ?_);dsimp only;refine aj (show (!aI || !typeHasDict (.type "function"))=aH from by decide+kernel) ?_;refine aj (if_neg (by decide) ..) ?_;refine ag (vq (ag ?_));have hx1:=az {cls:= .type "dict",data:= .dict #[]} hx;have iP:s.heap.objs.size≠f:=jJ (bN hx);refine wpAny_update hx1 ?_;have PQ:((s.heap.push {cls:= .type "dict",data:= .dict #[]}).update f λo=>{o with dict:=ae s.heap.objs.size}).get? f=ae (eh fd (ae s.heap.objs.size)):=bS _ hx1 rfl;have hd2:((s.heap.push {cls:= .type "dict",data:= .dict #[]}).update f λo=>{o with dict:=ae s.heap.objs.size}).get? s.heap.objs.size=ae (i3 [] 0):=(iF _ _ (gf iP)).trans (aW _ rfl);delta dictMade;dsimp only;refine aj (show finalisedInACycleAlone "function"=aH from by decide+kernel) ?_;refine aj (if_neg (by decide) ..) ?_;refine ar (Hu (s:={s with heap:=(s.heap.push {cls:= .type "dict",data:= .dict #[]}).update f λo=>{o with dict:=ae s.heap.objs.size}}) hd2 rfl (by decide) λvk ny=>?_);have hs:=bY ((s.heap.push {cls:= .type "dict",data:= .dict #[]}).update f λo=>{o with dict:=ae s.heap.objs.size}) s.heap.objs.size (om name vk (.str name ny) v);refine h _ ⟨vk,.str name ny,v⟩ (hs.extBut _ _ (gf iP) PQ) ⟨_,(bS _ hd2 (by refine aj (mS ..) ?_;rfl)).trans (congrArg ae (mS ..))⟩ ⟨ny,rfl⟩ rfl λb o hb hk=>?_;have Ui:b≠s.heap.objs.size:=λe=>by rw [e] at hk;exact absurd (bN hk) (zH _)
 exact hs.extBut _ _ Ui ((iF _ _ (gf hb)).trans (az _ hk))
end
section
variable {f:ay}{fd:cm}
theorem yn{o:Option ay}{Q:Unit->aq->Prop}(hx:s.heap.get? f=ae (eh fd o))
 (h:iV (aX prog w) A (.call (.builtin "object.__setattr__") ⟨[.ref f,.str name s.toks,v],[]⟩) (λr s'=>match r with| .ok (.ret _)=>Q () s'| .ok _=>False| .error e=>E e s') {s with toks:=s.toks+1}):
 aS (aX prog w) A (setAttr (.ref f) name v) Q E s:=by
 have t1:iL (aX prog w) s.heap (jU (.ref f)) (.type "function"):=(sv hx).andThen .now;have hs:=RZ (M:=aX prog w) (h:=s.heap);refine ag (JL (ag (ag (ag (t1 _ _ _ _ (λy y e=>e) (hs _ _ _ _ (λy y e=>e) (bE ?_)))))));refine aj (TM.slot.bind ..) (ag (ar (ag (eF (codeAny_mono h λr s' z=>?_)))));rcases r with e|(v|_|_|_) <;> first|exact z|exact ar (ar z)
end
noncomputable def tM(f dx:ay)(fd:cm)(fs:List (bb×V)):cX where
 own:=[f,dx]
 sat:=λZ h=>h.get? f=ae (eh fd (ae dx))/\∃es n,h.get? dx=ae (i3 es n)/\gM Z es fs
 mono:=λZ Z' h hz ⟨a,es,n,b,c⟩=>⟨a,es,n,b,c.mono hz⟩
 loc:=λZ h h' ⟨a,es,n,b,c⟩ hk _ _=>⟨hk f (by exact aa) _ a,es,n,hk dx (by exact ab _ aa) _ b,c⟩
 live:=λZ h ⟨a,es,n,b,c⟩ y hy=>by
  simp at hy;rcases hy with rfl|rfl
  ·exact ⟨_,a⟩
  ·exact ⟨_,b⟩
section
variable {a:bH}{f:ay}{fd:cm}
theorem Ll(hn:kc name)(ho:PE k mu env o (.ref f))(hm:tM f dx fd fs∈mu)(hnd:(fs.map (·.1)).Nodup)(hq:(name,y)∈fs)(hy:∀n,y≠ .bi n)
 (he:autoParam (dW (.Attribute o name p) env=(do let ov <- dW o env;iE p.atName;let r <- eW [ov] (s8 ov name aI);pF o ov r;dg r)) aR):PE k mu env (.Attribute o name p) y:=⟨λ{A E Z s fr Q} hA r q=>by
 refine gZ ?_ he;refine ho.c hA r λ{ov s1 Z1} z1 q1 r1=>aj (aZ.refE q1 ..) (uC (r1.sat _ (aE fr hm)) λhx es n D he=>?_);exact aK (he.some hnd hq) λv hv hr=>mv hx D hv hn (m8 hr hy) (q z1 hr r1.toks)⟩
theorem yo(hn:kc name)(ho:PE k mu env o (.ref f))(hi:mu[i]? =ae (mj f (eh fd av))){Ψ:Mu->Prop}(h:∀dx,Ψ (mu.set i (tM f dx fd [(name,y)])))
 (he:autoParam (∀v,wA (.Attribute o name p) env v=(do let ov <- eW [v] (dW o env);iE p.atName;eW [v,ov] (setAttr ov name v);release [v,ov] [])) aR):mK k mu env (.Attribute o name p) y Ψ:=⟨λ{A E Z s fr v Q} hA r hv q=>by
 refine aj (he ..) (ag (bE (ho.c hA r λ{ov s1 Z1} z1 q1 r1=>?_)));refine aj (aZ.refE q1 ..) (ag (iH (ag (bE ?_))));have hi':=cH (fr:=fr) hi;have hx:s1.heap.get? f=ae (eh fd av):=r1.sat _ (ao hi');refine yn hx (IM (s:={s1 with toks:=s1.toks+1}) hx hn λh' e h1 ⟨n,h2⟩ ⟨ny,h3⟩ h4 h5=>?_);refine wpAny_release (q z1 (gE hi▸r1.swap (tk:=s1.toks+1+1) hi' (tM f s1.heap.objs.size fd [(name,y)]) (λb o hb e=>h5 b o (λq=>hb (q▸aa)) e) ⟨h1,[e],n,h2,⟨ny,h3⟩,by refine aj (h4 ..) ?_;exact hv.mono z1,trivial⟩ ?_ ?_) (h s1.heap.objs.size))
 ·exact cg.mpr ⟨λhm=>c8 (bN hx) (aA.mp hm),eg⟩
 ·exact λb hb=>(aP.mp hb).elim (λe=> .inl (e▸aa)) λhb=> .inr (kX hb)⟩
theorem IP(hn:kc name)(ho:PE k mu env o (.ref f))(hi:mu[i]? =ae (tM f dx fd fs))(hl:fs.length<=500){Ψ:Mu->Prop}(h:Ψ (mu.set i (tM f dx fd (zS fs name y))))
 (he:autoParam (∀v,wA (.Attribute o name p) env v=(do let ov <- eW [v] (dW o env);iE p.atName;eW [v,ov] (setAttr ov name v);release [v,ov] [])) aR):mK k mu env (.Attribute o name p) y Ψ:=⟨λ{A E Z s fr v Q} hA r hv q=>by
 refine aj (he ..) (ag (bE (ho.c hA r λ{ov s1 Z1} z1 q1 r1=>?_)));refine aj (aZ.refE q1 ..) (ag (iH (ag (bE ?_))));have hi':=cH (fr:=fr) hi;refine uC (r1.sat _ (ao hi')) λhx de n D GK=>?_;have iP:f≠dx:=λe=>(cg.mp (r1.ownNodup hi')).1 (aA.mpr e);refine yn hx (Lk (s:={s1 with toks:=s1.toks+1}) hx D hn GK.noRef (GK.len▸hl) λvk ny=>?_);have hs:=bY s1.heap dx (om name vk (.str name ny) v);exact wpAny_release (q z1 (gE hi▸r1.upd' (x':=tM f dx fd (zS fs name y)) hi' rfl (λb o hb e=>hs.extBut b o (λq=>hb (q▸ab _ aa)) e) ⟨hs.extBut _ _ iP hx,_,_,(bS _ D (by refine aj (mS ..) ?_;rfl)).trans (congrArg ae (mS ..)),GK.put (hv.mono z1)⟩) h)⟩
theorem Lm{fd':cm}{lam:ay}{ob:o6}{pl:mF Bool}(hn:kc name)(ho:PE k mu env o (.ref f))(hm:tM f dx fd fs∈mu)(hnd:(fs.map (·.1)).Nodup)(hq:(name,V.ref lam)∈fs)
 (ha:Dt k mu env (a::es) λys nu=>(Kn nu λhp=>hp.get? lam=ae ob)/\ob.data= .func fd'/\FW k nu (.ref lam) ys Φ) (wy:autoParam (kh (a::es)=aI) aR)
 (he:autoParam (dW (.Call (.Attribute o name apos) (a::es) [] pos) env=(do let ov <- dW o env;iE apos.atName;let (f,first) <- eW [ov] (mB ov name pl);pE pos f first (lj pos (fo (a::es) env)) [])) aR):
 WE k mu env (.Call (.Attribute o name apos) (a::es) [] pos) Φ:=⟨λ{A E Z s fr Q} hA r q=>by
 refine i5 (pl:=pl) ?_ he;refine ho.c hA r λ{ov s1 Z1} z1 q1 r1=>aj (aZ.refE q1 ..) (uC (r1.sat _ (aE fr hm)) λhx de n D GK=>?_);refine aK (GK.some hnd hq) λv hv hr=>?_;rw [aZ.refE hr] at hv;have t1:iL (aX G.prog G.w) s1.heap (jU (.ref f)) (.type "function"):=(sv hx).andThen .now;delta mB mA;refine ag (ag (t1.here (Lf.here ?_)));dsimp only;refine aj (PySem.F.canon_object_ga ..) ?_;refine aj (if_neg (by decide) ..) ?_;refine ag (ag (t1.here (R0.here ?_)));refine ag (ag (t1.here ((fe hn).here ?_)));refine ag (mv hx D hv hn rfl (ar ?_));exact He (ob:=ob) (fd:=fd') (first:=[]) ha wy hA r1.toks λ{z z z z z} z2 q2 r2 w=>⟨⟨w.1.app r2,w.2.1⟩,w.2.2.c hA r2 q2 λ{z z z z z} z3=>q (z1.trans (z2.trans z3))⟩⟩
end
end
section
open Builtin
structure DV(G:Gd)(c P:ay):Prop where
 hd:∀h:dH,(∀a o,G.Z0 a=ae o->h.get? a=ae o)->CodeHd h c P
 bt:∀h:dH,(∀a o,G.Z0 a=ae o->h.get? a=ae o)->h.BuiltinsAt G.mg P
 ne:vo≠P
noncomputable abbrev zU:=Nat×Nat×ay×bb
noncomputable def rk:List zU->List ai
 |[]=>[]
 |(a,b,c,_)::l=>pD a::pD b:: .ref c::rk l
theorem AR:∀(l m:List zU),rk (l++m)=rk l++rk m
 |[],_=>rfl
 |(a,b,c,_)::l,m=>by simp [rk,AR l m]
theorem yp:∀l:List zU,TriplesOk (rk l)
 |[]=>trivial
 |(a,b,c,_)::l=>yp l
theorem CodeRec.at{h h':dH}{c:ay}{q:bb}(x:h.CodeRec (.ref c) q)(hk:∀o,h.get? c=ae o->h'.get? c=ae o):h'.CodeRec (.ref c) q:=by refine cq x λc' oc vs t hc h1 h2=>?_;clear x;cases hc;exact ⟨c,oc,vs,t,rfl,hk _ h1,h2⟩
theorem CodeRec.live{h:dH}{c:ay}{q:bb}(x:h.CodeRec (.ref c) q):∃o,h.get? c=ae o:=by refine cq x λc' oc vs t hc h1 h2=>?_;clear x;cases hc;exact ⟨_,h1⟩
noncomputable def gG(P:ay)(l:List zU):cX where
 own:=P::l.map (·.2.2.1)
 sat:=λZ h=>h.get? P=ae (tabObj (rk l).toArray)/\∀q∈l,h.CodeRec (.ref q.2.2.1) q.2.2.2
 mono:=λz z z z a=>a
 loc:=λZ h h' ⟨a,b⟩ hk _ _=>⟨hk P aa _ a,λq hq=>CodeRec.at (b q hq) λo ho=>hk _ (ab _ (aG.mpr ⟨q,hq,rfl⟩)) o ho⟩
 live:=λZ h ⟨a,b⟩ c hc=>by
  rcases aP.mp hc with rfl|hc
  ·exact ⟨_,a⟩
  ·refine aK (aG.mp hc) λq hq dO=>?_;subst dO;exact CodeRec.live (b q hq)
noncomputable abbrev yq(qual:bb)(params:CW)(body:bH)(scope:eU)(clos:List (bb×ay))(c:ay)(ct:ai):cm:=kla_fn "<lambda>" qual params body scope clos ((G.mg "__name__").getD .none) (.ref c) ct
section
variable {c P:ay}{params:CW}{body:bH}{scope:eU}{clos:List (bb×ay)}{l:List zU}
theorem Kn.code{q:zU}(h:gG P l∈mu)(hq:q∈l):Kn mu λhp=>hp.CodeRec (.ref q.2.2.1) q.2.2.2:=λZ s r=>(r.sat _ h).2 q hq
theorem DW(hn:defaultsOf params env=([],[])):dW (.Lambda params body scope pos) env=makeFunction "<lambda>" (env.qual++"<lambda>") params (.expr body) scope env [] [] [] pos pos.line:=by (refine aj (arm_eval_Lambda ..) ?_;refine aj (hn ..) ?_);rfl
theorem Cc(he:du env)(hc:env.code= .ref c)(LA:DV G c P)(B:g7 G)(hi:mu[i]? =ae (gG P l))(Cz:codeAmong pos (rk l)=av)(hcl:closureFor scope env=dg clos)(hn:defaultsOf params env=([],[]))
 (h:∀f c' ct,Φ (.ref f) (mj f (eh (yq (env.qual++"<lambda>") params body scope clos c' ct) av)::mu.set i (gG P (l++[(pos.line,pos.col,c',env.qual++"<lambda>")])))):WE k mu env (.Lambda params body scope pos) Φ:=⟨λ{A E Z s fr Q} hA r q=>by
 refine aj (DW hn ..) ?_;have hi':=cH (fr:=fr) hi;refine dU (r.sat _ (ao hi')) λhP QS=>kla_makeFunction (mg:=G.mg) hcl he.globals (B.g _ r.z0in) hc (LA.hd _ r.z0in) hP (by refine aj (gQ ..) ?_;exact yp l) (by refine aj (gQ ..) ?_;exact Cz) LA.ne (LA.bt _ r.z0in) λc' ctv h' tk hx hge hlt hrec QR=>?_;have qe:(P::l.map (·.2.2.1)).Nodup:=r.ownNodup hi';have PS:∀b∈P::l.map (·.2.2.1),b < s.heap.objs.size:=λb hb=>(aP.mp hb).elim (λe=>e▸bN hP) λhb=>by
  refine aK (aG.mp hb) λq hq eT=>?_;subst eT;exact (CodeRec.live (QS q hq)).elim λz ho=>bN ho
 have S8:∀b o,b≠P->s.heap.get? b=ae o->(h'.push (kla_obj "<lambda>" (env.qual++"<lambda>") params body scope clos ((G.mg "__name__").getD .none) c' ctv)).get? b=ae o:=λb o hb e=>az _ (hx b o hb e);have hnd:(P::(l++[(pos.line,pos.col,c',env.qual++"<lambda>")]).map (·.2.2.1))=(P::l.map (·.2.2.1))++[c']:=by refine aj (bj ..) ?_;rfl
 have rc:=r.swap (tk:=tk) hi' (gG P (l++[(pos.line,pos.col,c',env.qual++"<lambda>")])) (λb o hb e=>S8 b o (λq=>hb (q▸aa)) e) ⟨az _ (QR.trans (by refine aj (AR ..) ?_;simp [rk])),λq hq=>?_⟩ ?_ λb hb=>?_
 ·have hsz:s.heap.objs.size < h'.objs.size:=b7 hge hlt;rw [gE hi] at rc;refine q .rfl (.ref _) (rc.add (mj h'.objs.size (eh (yq (env.qual++"<lambda>") params body scope clos c' ctv) av)) (aW _ rfl) eg λb hb=>?_) (h h'.objs.size c' ctv);refine aj (aA.mp hb ..) (⟨λhm=>?_,r.fresh (eB hsz)⟩);refine aK (bG.mp hm) λx hx1 PQ=>?_;rw [<- gE (fr:=fr) hi] at hx1;rcases List.mem_or_eq_of_mem_set hx1 with hx1|rfl
  ·exact r.notOwn (eB hsz) (bG.mpr ⟨x,hx1,PQ⟩)
  ·rcases bc.mp (show h'.objs.size∈(P::l.map (·.2.2.1))++[c'] from hnd▸PQ) with hm|hm
   ·exact Nat.lt_asymm hsz (PS _ hm)
   ·exact zH _ (aA.mp hm▸hlt)
 ·rcases bc.mp hq with hq|hq
  ·exact CodeRec.at (QS q hq) λo ho=>S8 _ o (λe=>(cg.mp qe).1 (e▸aG.mpr ⟨q,hq,rfl⟩)) ho
  ·exact aj (aA.mp hq ..) (CodeRec.at hrec λo ho=>az _ ho)
 ·show (P::(l++[(pos.line,pos.col,c',env.qual++"<lambda>")]).map (·.2.2.1)).Nodup;refine aj (hnd ..) ?_;refine gj (bP ..) ?_;exact ⟨qe,eg,λa ha b hb e=>Jv.mpr hge ((e.trans (aA.mp hb))▸PS a ha)⟩
 ·exact (bc.mp (show b∈(P::l.map (·.2.2.1))++[c'] from hnd▸hb)).elim .inl λh=> .inr (aA.mp h▸hge)⟩
theorem AS{c':ay}(he:du env)(hc:env.code= .ref c)(LA:DV G c P)(B:g7 G)(hi:gG P l∈mu)(hf:codeAmong pos (rk l)=ae (.ref c'))(hcl:closureFor scope env=dg clos)(hn:defaultsOf params env=([],[]))
 (h:∀f ct,Φ (.ref f) (mj f (eh (yq (env.qual++"<lambda>") params body scope clos c' ct) av)::mu)):WE k mu env (.Lambda params body scope pos) Φ:=⟨λ{A E Z s fr Q} hA r q=>by
 refine aj (DW hn ..) (dU (r.sat _ (aE fr hi)) λhP QS=>?_);refine kla_makeFunctionHit (mg:=G.mg) hcl he.globals (B.g _ r.z0in) hc (LA.hd _ r.z0in) hP (by refine aj (gQ ..) ?_;exact yp l) (by refine aj (gQ ..) ?_;exact hf) (LA.bt _ r.z0in) λctv h' tk hk hsz=>?_;exact q .rfl (.ref _) (r.addNew (tk:=tk) _ (λb o e=>az _ (hk b o e)) (aW _ rfl) eg λb hb=>by refine aj (aA.mp hb ..) ?_;exact hsz) (h h'.objs.size ctv)⟩
end
end
variable {ctx:Mu}{D:ay}
theorem Ln{scope:eU}{cl:List (bb×ay)}{elt iter:bH}{spos:jC}(J:Nat->List V->Mu->Prop)(sc:Fb scope env cl)(src:pd k mu env iter t ctx xs)(hk:1<=k)(hsz:xs.length<=2 ^ 21)(h0:J 0 [] mu)(qZ:∀i ys nu,J i ys nu->∀o∈ctx,o∈nu)(hlen:∀i ys nu,J i ys nu->ys.length=i)
 (turn:∀C D i x ys nu,xs[i]? =ae x->J i ys nu->∃bB,mK k (uJ scope C::nu) (pf scope cl C env) t x (λrt=>rt=nE scope C bB::nu)/\
  WE k (nE scope C bB::bl D ys::nu) (pf scope cl C env) elt λy rt=>∃nu',rt=nE scope C bB::bl D ys::nu'/\J (i+1) (ys++[y]) nu')
 (fin:∀D ys nu,J xs.length ys nu->fL D (bl D ys::nu) Φ) (hs:autoParam (∀x,bw iter env x=dg x) aR):WE k mu env (.ListComp elt [⟨t,iter,[],0⟩] scope spos) Φ:=by
 show WV k mu (dW _ _) Φ;refine aj (eval_ListComp ..) (xB (g:=⟨t,iter,[],0⟩) rfl hs sc uK src λC D=>?_);refine rE Kp hk rfl rfl
  (λi nu=>∃ys nu',nu=uJ scope C::bl D ys::nu'/\J i ys nu') ⟨[],mu,rfl,h0⟩ (λi nu ⟨ys,nu',e1,hJ⟩ o ho=>by refine aj (e1 ..) ?_;exact ab _ (ab _ (qZ i ys nu' hJ o ho))) (λi x nu hx ⟨ys,nu',e1,hJ⟩=>?_) (λnu ⟨ys,nu',e1,hJ⟩=>⟨_,_,e1,fin D ys nu' hJ⟩)
 subst e1;refine aK (turn C D i x ys nu' hx hJ) λbB h1 h2=>mK.mid (h1.mono λnu e=>⟨_,e,?_⟩);refine ⟨aI,dk,λhb=>(J2 hb),λz it=>?_⟩;refine Wu.weak (Ψ:=λnu=>∃y xl,nu=nE scope C bB::bl D (ys++[y])::xl/\J (i+1) (ys++[y]) xl) (WU.bf (vP (i:=1) (ys:=ys) (h2.mono λy rt ⟨xl,e1,Uj⟩=>?_))) λnu ⟨y,xl,e1,Uj⟩=>⟨_,e1▸Le.forget,ys++[y],xl,rfl,Uj⟩
 subst e1;refine ⟨rfl,?_,y,xl,rfl,Uj⟩;have:=hlen i ys nu' hJ;have hi:=(aB.mp hx).1;lia
theorem Lo(h:∀I,Φ (.ref I) (mU I xs::mu)):BU k mu (.builtin "iter") [bZ (.list xs)] Φ:=⟨λ{A E Z s fr vs Q} hA r hq q=>by
 refine aK (hq.one) λv dO q1=>?_;subst dO;refine cE (rj.list q1) λa ws n eT e1 hr=>?_;subst eT;refine gv (by decide+kernel) (by decide+kernel) kdk_entry_iter (kdk_args_iter _) ?_;unfold Builtin.«iter»;refine ag (m:=CJ "iter" 1 2 _) (cM (a:=[cY a]) (by first|rfl|kernel_rfl!) ?_);show aS _ _ (ra (.ref a) >>=_) _ _ s;refine ag (lr (⟨_,r.zin _ _ e1,rfl,n,rfl⟩:s.heap.IsList a ws) ?_);exact ar ⟨_,rfl,q .rfl (.ref _) (r.addNew (tk:=s.toks) (mU s.heap.objs.size xs) (λb o e=>az _ e) ⟨a,ws,n,0,⟨_,aW _ rfl,rfl,rfl⟩,e1,hr⟩ eg λz h=>kX h) (h _)⟩⟩
theorem Lp{b:Array UInt8}(h:∀I,Φ (.ref I) (jL I (b.toList.map pL)::mu)):BU k mu (.builtin "iter") [bZ (.bytes b)] Φ:=⟨λ{A E Z s fr vs Q} hA r hq q=>by
 refine aK (hq.one) λv gi q1=>?_;subst gi;refine cJ (aZ.is q1) λt iC=>?_;subst iC;refine gv (by decide+kernel) (by decide+kernel) kdk_entry_iter (kdk_args_iter _) ?_;unfold Builtin.«iter»;refine ag (m:=CJ "iter" 1 2 _) (cM (a:=[CL b t]) (by first|rfl|kernel_rfl!) ?_);show aS _ _ (ra (.bytes b t) >>=_) _ _ s;refine ag (KBw.pyIter_bytes ?_);exact ar ⟨_,rfl,q .rfl (.ref _) (r.addNew (tk:=s.toks) (jL s.heap.objs.size (b.toList.map pL)) (λb o e=>az _ e) ⟨b,t,0,⟨_,aW _ rfl,rfl,rfl⟩,rfl⟩ eg λz h=>kX h) (h _)⟩⟩
theorem Lq{Z:bI}{vs:List ai}{ns:List Int}(h:bW G Z vs (ns.map V.int)):um vs ns:=by
 induction ns generalizing vs with
 |nil=>cases h;exact .nil
 |cons n ns ih=>
  cases h with
  |cons a r=>exact aZ.intC a λt=> .cons _ _ (ih r)
theorem Lr{ns:List Int}(hr:∀n∈ns,0<=n/\n < 256)(hl:ns.length<=2 ^ 20):Fn k mu (.type "bytes") [me mu (ns.map V.int)] (bZ (.bytes (JM ns))):=⟨λ{A E Z s fr vs Q} hA r hq q=>by
 refine aK (hq.one) λv kG q1=>?_;subst kG;refine cE (me.at q1 r) λa ws n ma h1 h2=>?_;subst ma;exact call_bytes_ints (vs:=ws.toList) (⟨_,h1,rfl,n,rfl⟩:s.heap.IsList a ws.toList.toArray) (Lq h2) hr (by (refine aj (h2.length ..) ?_;refine aj (ak ..) ?_);exact aw hl (show 2 ^ 20<=2 ^ 24 by decide)) hA.hh λh' t k' hk=>q .rfl (.bytes _ _) (r.keep (tk:=k') hk)⟩
structure DX(G:Gd)(a c:ay)(st:ed):Prop where
 go:∃ob pm doc,G.Z0 a=ae ob/\ob.data= .func (mz (md st) (wI st) (fR st) (bk st) pm (.ref c) doc)/\∀h:dH,(∀a o,G.Z0 a=ae o->h.get? a=ae o)->h.CodeRec (.ref c) (md st)
theorem R1(H:Hy G){a c:ay}{st:ed}(F:DX G a c st){names:List bb}{vals':ay->ej}
 (i0:∀pm cd doc vs,vs.length=xs.length->pI (xy st pm cd doc) ⟨vs,[]⟩=dg (names.zip vs)) (hnd:(aM 0 (bk st).names).nd) (hk:(bk st).kind= .function)
 (hb:∀pm cd doc L,i9 (dT (xy st pm cd doc) a L) L (aM (L+1) (bk st).names) names xs (nones (aM (L+1) (bk st).names)) (vals' L))
 (h:∀pm doc L,du (dT (xy st pm (.ref c) doc) a L)->WS k (bq L (aM (L+1) (bk st).names) (vals' L)::mu) (dT (xy st pm (.ref c) doc) a L) (fR st) (lE Φ)) (wx:autoParam ((bk st).isCoroutine=aH) aR) (mQ:autoParam ((bk st).isGenerator=aH) aR):
 FW (k+1) mu (.ref a) xs Φ:=by
 exact cE (F.go) λob pm doc h0 hd hcd=>KD H.B (names:=names) (vals':=vals') (Kn.z0 h0) hd (λZ s r=>hcd _ r.z0in) rfl (i0 pm _ doc) hnd (λL=>⟨hk,rfl,rfl⟩) (hb pm _ doc) (λL=>h pm doc L ⟨hk,rfl,rfl⟩) wx mQ
theorem DY{id T:String}{name:bb}(ho:EV k mu env o P)(ht:Ty mu P T)(ha:Dt k mu env (e::es) λys nu=>∃Ps y,(∀Z vs,bW G Z vs ys->j3 Z vs Ps)/\Fn k nu (.builtin id) (P::Ps) (bZ y)/\Φ y nu)(pa:zr T)(slot:Slot T name id)
 (MW:jU (.builtin id)=dg (.type "method_descriptor")) (hl:(apos.endLine == pos.line)=aI) (wy:autoParam (kh (e::es)=aI) aR) (hsz:autoParam ((e::es).length < 29) aD) (sk:autoParam (rn o name env (dW o env)=dW o env) aR):
 WE k mu env (.Call (.Attribute o name apos) (e::es) [] pos) Φ:=⟨λ{z z z z z z} hA r q=>
 BN ho ht (kY wy pos) pa slot MW hl hsz sk hA r λ{z z z} z1 q1 r1=>Hg ha wy hA r1 λz2 q2 r2 ⟨Ps,y,hc,hF,hΦ⟩=>hF.c hA r2 (.cons (P.mono _ _ _ z2 q1) (hc _ _ q2)) λ{z z z} z3 q3 r3=>q (z1.trans (z2.trans z3)) q3 r3 hΦ⟩
theorem BU.mono{f:ai}{Ps:List (Vw)}{Ψ:V->Mu->Prop}(h:BU k mu f Ps Φ)(hi:∀y nu,Φ y nu->Ψ y nu):BU k mu f Ps Ψ:=⟨λ{x x x x x x x} hA r v q=>h.c hA r v λ{x x x x x} z w r u=>q z w r (hi _ _ u)⟩
noncomputable def F1:bb:=md (cN 17)++".<locals>."++"<lambda>"
noncomputable def zV:Option (ay×ay)->List zU
 |none=>[]
 |some (a,b)=>[(200,12,a,F1),(201,17,b,F1)]
structure Ls(G:Gd):Prop where
 la:DV G 274 272
 f275:DX G 275 274 (cN 17)
noncomputable abbrev AU(L:ay)(text:bb)(f it:ay):cX:=bq L (aM (L+1) (bk (cN 17)).names) [ae (.str text),ae (.ref f),ae (.ref it)]
def F2(lam it L f:ay)(text:bb)(ld:cm)(a b:ay):Prop:=
 ∀(k:Nat) (mu:Mu) (i:Nat),AU L text f it∈mu->mj lam (eh ld av)∈mu->gG 272 (zV (ae (a,b)))∈mu->
  (∀c xs,mu[i]? =ae (mU it (.str ⟨#[c]⟩::xs))->FW (k+2) mu (.ref lam) [.int 1] λy nu=>y= .str ⟨#[c]⟩/\nu=mu.set i (mU it xs))/\
  (mu[i]? =ae (mU it [])->FW (k+2) mu (.ref lam) [.int 1] λy nu=>y= .str ""/\nu=mu.set i (pR))
theorem IQ(c:Nat):fO "" [⟨#[c]⟩]=⟨#[c]⟩:=by rfl
noncomputable def tm(x:bb):List Int:=x.cps.toList.map fB
noncomputable def lamA:ed->CW
 | .Assign _ (.Lambda a _ _ _) _=>a
 |_=>Fs
noncomputable def lamB:ed->bH
 | .Assign _ (.Lambda _ b _ _) _=>b
 |_=> .Constant .none 0 ⟨0,0,0,0⟩
noncomputable def R2:ed->eU
 | .Assign _ (.Lambda _ _ s _) _=>s
 |_=>BA
noncomputable def R3:ed:=(fR (cN 17)).getD 1 (.Pass ⟨0,0,0,0⟩)
noncomputable abbrev Qw(a:ay)(ct:ai):cm:=yq F1 (lamA R3) (lamB R3) (R2 R3) [] a ct
noncomputable def OF:ed:=(fR (cN 17)).getD 2 (.Pass ⟨0,0,0,0⟩)
noncomputable abbrev rW(L b:ay)(ct:ai):cm:=yq F1 (lamA OF) (lamB OF) (R2 OF) [("signs",L+1)] b ct
def jw.S0(L b:ay)(ct:ai)(_:Nat):Prop:=∀{it f lam a:ay} {text:bb} (H:Hy G),F2 lam it L f text (rW L b ct) a b
namespace jw
@[irreducible] def e0:=G1 cL cL gL eN S0
def L_:=e0.1
def b_:=e0.2.1
def NC:=e0.2.2.1
theorem T0:S0 L_ b_ NC e0.2.2.2:=λ{it} {f} {lam} {a} {text} H=>λk mu i h1 h2 h3=>by
 have go:∀(y:V) (o:cX) (r:bb),(∀(HT:Mu),BU (k+1) (HT++mu) (.builtin "next") [bZ (.ref it),bZ (.str "")] λz nu=>z= .str r/\nu=HT++mu.set i o)->fO "" [r]=r->Nk "" [r]=aI->FW (k+2) mu (.ref lam) [.int 1] λy nu=>y= .str r/\nu=mu.set i o:=λy o r hnx hj hok=>by
  refine FL H.B (names:=["size"]) (vals':=λw=>[ae (.int 1)]) (Kn.obj h2) rfl (Kn.code h3 (q:=(201,17,b_,F1)) (by exact ab _ aa)) rfl (λvs h=>?_) (by show (aM 0 (R2 OF).names).nd;decide+kernel) (λL_=>⟨rfl,rfl,rfl⟩) (λL2=>?_) (λL2=>?_)
  ·exact uP h λa=>rfl
  ·exact .cons (j:=0) .loc rfl .nil
  have he:du (dT (rW L_ b_ NC) lam L2):=⟨rfl,rfl,rfl⟩;refine DY cO mL (cA (Ln (ctx:=[]) (xs:=[V.int 0]) (λj ys nu=>(j=0/\ys=[]/\nu=vR (rW L_ b_ NC) L2 [ae (.int 1)]::mu)\/(j=1/\ys=[V.str r]/\nu=vR (rW L_ b_ NC) L2 [ae (.int 1)]::mu.set i o))
   ⟨rfl,rfl,by decide+kernel,by decide+kernel⟩ (fK (n:=1) (iN H he H.b_range rfl) (ah (j:=0) he .loc aa rfl) rfl (by decide)) (by lia) (by decide) (.inl ⟨rfl,rfl,rfl⟩) (λw w w w o ho=>eo ho)
   (λj ys nu h=>by rcases h with ⟨rfl,rfl,_⟩|⟨rfl,rfl,_⟩ <;> rfl) (λC D j x ys nu hx hJ=>?_) (λD ys nu hJ=>?_))) (by exact eM) (by exact nz) (by exact nA) rfl
  ·rcases hJ with ⟨rfl,rfl,rfl⟩|⟨rfl,_,_⟩
   ·refine ⟨_,qA (j:=1) he.comp .loc,?_⟩;refine nK (j4 H he.comp H.b_next rfl) (au (ah (j:=2) (L:=L_) (lay:=aM (L_+1) (bk (cN 17)).names) he.comp (.free (L_+1) "signs" rfl rfl rfl rfl rfl) (ab _ (ab _ (ab _ h1))) rfl) (au cO aT)) ((hnx [_,_,_]).mono λz nu ⟨e1,e2⟩=>?_);subst e1;exact ⟨_,e2,.inr ⟨rfl,rfl,rfl⟩⟩
   ·exact gK hx
  ·rcases hJ with ⟨h,_⟩|⟨_,rfl,rfl⟩
   ·cases h
   ·refine fL.list (e9 ⟨[me (vR (rW L_ b_ NC) L2 [ae (.int 1)]::mu.set i o) [V.str r]],.str r,λZ vs hv=>?_,?_,?_⟩)
    ·cases hv with
     |cons a b_=>cases b_;exact .cons (BG a) .nil
    ·have:=Hd (k:=k+1) (mu:=vR (rW L_ b_ NC) L2 [ae (.int 1)]::mu.set i o) (sep:="") (ts:=[r]) hok;rw [hj] at this;exact this
    ·exact jK.tail (jK.keep ⟨rfl,rfl⟩)
 refine ⟨λc xs hi=>go (.str ⟨#[c]⟩) (mU it xs) _ (λHT=>?_) (IQ c) rfl,λhi=>go (.str "") (pR) "" (λHT=>?_) rfl (by decide+kernel)⟩
 ·have hi':(HT++mu)[HT.length+i]? =ae (mU it (V.str ⟨#[c]⟩::xs)):=by (refine aj (JN (dC _ _) ..) ?_;refine aj (mG ..) ?_);exact hi
  refine K3 (i:=HT.length+i) hi' ⟨rfl,?_⟩;refine aj (Q1 _ _ (dC _ _) ..) ?_;refine aj (mG ..) ?_;rfl
 ·have hi':(HT++mu)[HT.length+i]? =ae (mU it []):=by (refine aj (JN (dC _ _) ..) ?_;refine aj (mG ..) ?_);exact hi
  refine IB (i:=HT.length+i) hi' ⟨rfl,?_⟩;refine aj (Q1 _ _ (dC _ _) ..) ?_;refine aj (mG ..) ?_;rfl
end jw
theorem jw{L b:ay}{ct:ai}:jw.S0 L b ct 0:=by with_unfolding_all exact vJ _ _ _ _ jw.S0 @jw.T0 L b ct 0
noncomputable abbrev Lu(pm doc:ai)(L:ay):gP:=dT (xy (cN 17) pm (.ref 274) doc) 275 L
theorem yr(H:Hy G){pm doc:ai}{L f dx lam:ay}{gd ld:cm}{text:bb}(he:du (Lu pm doc L))(hs:∀c∈text.cps.toList,c < 256)(hl:text.cps.size<=2 ^ 20){Φ:V->Mu->Prop}
 (hΦ:Φ (.ref f) (mj lam (eh ld av)::tM f dx gd [("read",.ref lam),("co_exceptiontable",.bytes (JM (tm text)))]::mU it (nD text)::AU L text f it::mu)):
 WS (k+1) (mj lam (eh ld av)::tM f dx gd [("read",.ref lam)]::mU it (nD text)::AU L text f it::mu) (Lu pm doc L) ((fR (cN 17)).drop 3) (lE Φ):=by
 have h3:∀{a b c d:cX} {l:Mu},d∈a::b::c::d::l:=ab _ (ab _ (ab _ aa));refine aC (bX (iZ (S:=bZ (.bytes (JM (tm text)))) (iN H he H.b_bytes rfl) (au (dD (jP text.cps.toList (λc=> .str ⟨#[c]⟩) (λ(c:Nat)=> .int (c:Int)) ⟨rfl,rfl,by decide+kernel,by decide+kernel⟩ (Oe (ah (j:=0) he .loc h3 rfl)) (by lia) (by exact aw hl (by decide)) (λC1 a ha=>iu 1 he.comp .loc dk (λhb=>(ek (j4 H he.comp H.b_ord rfl) (au (ah (j:=1) he.comp .loc aa rfl) aT) Ry))))) aT) ?_)
  (IP (i:=1) wU (ah (j:=1) he .loc h3 rfl) rfl (by show 1<=500;decide) ?_) rfl rfl)
 ·have:=Lr (k:=k+1) (mu:=mj lam (eh ld av)::tM f dx gd [("read",.ref lam)]::mU it (nD text)::AU L text f it::mu) (ns:=tm text) (λn hn=>by
   refine aK (aG.mp hn) λc hc dO=>?_;subst dO;have:=hs c hc;exact ⟨dJ _,by show (c:Int) < 256;lia⟩) (by unfold tm;simpa using hl)
  rw [show (tm text).map V.int=text.cps.toList.map λ(c:Nat)=>V.int (c:Int) from by unfold tm;refine aj (a0 ..) ?_;rfl] at this;exact this
 ·refine aC (gw (cf (ah (j:=1) he .loc h3 rfl) (jK.keep hΦ)))
def m9.S0(k:Nat)(mu:Mu)(i:Nat)(text:bb):Prop:=∀{o:Option (ay×ay)} (H:Hy G) (GH:Ls G) (hi:mu[i]? =ae (gG 272 (zV o))) (hs:∀c∈text.cps.toList,c < 256) (hl:text.cps.size<=2 ^ 20),FW (k+2) mu (.ref 275) [.str text] λy nu=>∃f dx lam it L gd ld a b,y= .ref f/\(∀q,o=ae q->q=(a,b))/\F2 lam it L f text ld a b/\
 nu=mj lam (eh ld av)::tM f dx gd [("read",.ref lam),("co_exceptiontable",.bytes (JM (tm text)))]::mU it (nD text)::AU L text f it::mu.set i (gG 272 (zV (ae (a,b))))
namespace m9
@[irreducible] def e0:=G1 eN gD eN inferInstance S0
def k_:=e0.1
def fb:=e0.2.1
def i_:=e0.2.2.1
def Qx:=e0.2.2.2
theorem T0:S0 k_ fb i_ Qx:=by
 intro o H GH hi hs hl;refine R1 H GH.f275 (names:=["text"]) (vals':=λL=>[ae (.str Qx),av,av]) (λpm cd doc vs h=>?_) (by decide+kernel) rfl (λpm cd doc L=>?_) (λpm doc L he=>?_)
 ·exact uP h λa=>rfl
 ·exact .cons (j:=0) .loc rfl .nil
 refine aC (b4 (nK (j4 H he H.b_iter rfl) (au (iZ (iN H he H.b_list rfl) (au (ah (j:=0) he .loc aa rfl) aT) (Ii (by show _<=2 ^ 24;exact aw (by assumption) (by decide)))) aT) (Lo λI=>aQ (i:=1) (j:=2) he (.cell (L+1) "signs") rfl ?_)) rfl rfl);cases o with
 |none=>
  refine aC (b4 (Cc (i:=i_+2) he rfl GH.la H.B hi rfl rfl rfl λf c' ct=>aQ (i:=2) (j:=1) he .loc rfl ?_) rfl rfl);have Ul:(fb.set i_ (gG 272 (zV av++[(200,12,c',F1)])))[i_]? =ae (gG 272 [(200,12,c',F1)]):=by refine aj (eA (aB.mp hi).1 ..) ?_;rfl
  refine aC (b4 (Cc (i:=i_+3) he rfl GH.la H.B Ul rfl rfl rfl λlam c2 ct2=>yo (i:=1) qH (ah (j:=1) he .loc (ab _ (ab _ (ab _ aa))) rfl) rfl λdx=>?_) rfl rfl);refine yr H he hs hl ⟨f,dx,lam,I,L,Qw c' ct,rW L c2 ct2,c',c2,rfl,(λq e=>gK e),jw H,?_⟩;show _::_::_::_::(fb.set i_ _).set i_ _=_;refine aj (vh ..) ?_;rfl
 |some q=>
  obtain ⟨a,b⟩:=q;have hm:=ao hi;have m2:∀{x y:cX},gG 272 (zV (ae (a,b)))∈x::y::fb:=ab _ (ab _ hm);have m3:∀{x y z:cX},gG 272 (zV (ae (a,b)))∈x::y::z::fb:=ab _ m2;refine aC (b4 (AS he rfl GH.la H.B m2 rfl rfl rfl λf ct=>aQ (i:=2) (j:=1) he .loc rfl ?_) rfl rfl);refine aC (b4 (AS he rfl GH.la H.B m3 rfl rfl rfl λlam ct2=>yo (i:=1) qH (ah (j:=1) he .loc (ab _ (ab _ (ab _ aa))) rfl) rfl λdx=>?_) rfl rfl);refine yr H he hs hl ⟨f,dx,lam,I,L,Qw a ct,rW L b ct2,a,b,rfl,(λq e=>by (have lA:=aO e;clear e;subst lA);rfl),jw H,?_⟩;have e1:fb.set i_ (gG 272 (zV (ae (a,b))))=fb:=by refine aj (j0 _ hi ..) ?_;refine fZ (gh hi ..) ?_;rfl
  refine aj (e1 ..) ?_;rfl
end m9
theorem m9{text:bb}:m9.S0 k mu i text:=by with_unfolding_all exact vJ _ _ _ _ m9.S0 @m9.T0 k mu i text
end
section
variable {k i:Nat}{mu nu:Mu}{env:gP}{e t o l r:bH}{es:List bH}{p pos:jC}{xs ys:List V}{P:Vw}{Φ:V->Mu->Prop}{x y:V}{D L I:ay}{K:fl}{st:List V->List Nat->Option V->Option V->Option V->Option V->Option V->Option V->Option V->Mu}{pm cd doc:ai}{Ok:List V->Prop}{Xp:Mu->Prop}
section
variable {apos:jC}{it:ay}{op:CB}
theorem sF(hl:WE k mu env l λy nu=>∃Q z,EV k nu env r Q/\xP k nu op (bZ y) Q (bZ z)/\Φ z nu):WE k mu env (.BinOp l op r p) Φ:=⟨λ{x x x x x x} hA R q=>by
 with_reducible refine NM ?_
 exact hl.c hA R λz1 q1 r1 ⟨Q,z,hr,ho,hΦ⟩=>hr.c hA r1 λ{x x x} z2 p2 r2=>ho.c hA r2 (q1.mono z2) p2 λ{x x x} z3 p3 r3=>q (z1.trans (z2.trans z3)) p3 r3 hΦ⟩
theorem IR{id T:String}{name:bb}(ho:EV k mu env o P)(ht:Ty mu P T)(ha:Dt k mu env (e::es) λys nu=>∃Ps,(∀Z vs,bW G Z vs ys->j3 Z vs Ps)/\BU k nu (.builtin id) (P::Ps) Φ)(pa:zr T)(slot:Slot T name id)
 (MW:jU (.builtin id)=dg (.type "method_descriptor")) (hl:(apos.endLine == pos.line)=aI) (wy:autoParam (kh (e::es)=aI) aR) (hsz:autoParam ((e::es).length < 29) aD) (sk:autoParam (rn o name env (dW o env)=dW o env) aR):
 WE k mu env (.Call (.Attribute o name apos) (e::es) [] pos) Φ:=⟨λ{z z z z z z} hA r q=>
 BN ho ht (kY wy pos) pa slot MW hl hsz sk hA r λ{z z z} z1 q1 r1=>Hg ha wy hA r1 λz2 q2 r2 ⟨Ps,hc,hF⟩=>hF.c hA r2 (.cons (P.mono _ _ _ z2 q1) (hc _ _ q2)) λ{z z z z z} z3=>q (z1.trans (z2.trans z3))⟩
theorem Lv{a b:cX}(h:Φ (.list xs) mu):jK (.ref D) (a::bl D xs::b::mu) Φ:=jK.tail (jK.list (gW _ _) h)
theorem RT.mono{α:Type}{t:mF α}{Ψ Ψ':Mu->Prop}(h:RT k mu env t Ψ)(hi:∀nu,Ψ nu->Ψ' nu):RT k mu env t Ψ':=⟨λ{y y y y y y y} hA hf iD r q=>h.c hA hf iD r λ{y y y y} z hH hx w=>q z hH hx (hi _ w)⟩
inductive DZ:List Nat->List (Nat×Nat×Nat×Nat)->Prop
 |stop {bs:_}:ym bs=av->bs.length<=8->DZ bs []
 |more {bs q rs qs:_}:ym bs=ae (q,rs)->q.1 < 2 ^ 60->q.2.1 < 2 ^ 60->q.2.2.1 < 2 ^ 60->q.2.2.2 < 2 ^ 60->DZ rs qs->DZ bs (q::qs)
noncomputable def D2(q:Nat×Nat×Nat×Nat):V:= .ent [.int (q.1*2),.int (q.1*2+q.2.1*2),.int (q.2.2.1*2),.int (q.2.2.2 / 2),.bool (decide (q.2.2.2 % 2=1))]
theorem uW:∀{bs:List Nat} {v n:Nat} {rs:List Nat},jv v bs=ae (n,rs)->n < (v+1)*64 ^ bs.length
 |b::bs,v,n,rs,h=>by
  have hb:b % 64 < 64:=ee _ (by decide);unfold jv at h;refine aj (bK ..) ?_;refine aj (CH ..) ?_
  split at h
  ·have:=uW h;refine cb this ?_;have:(v*64+b % 64+1)<=(v+1)*64:=by lia
   calc (v*64+b % 64+1)*64 ^ bs.length<=((v+1)*64)*64 ^ bs.length:=xv _ this
    _=(v+1)*(64 ^ bs.length*64):=by (refine aj (jY ..) ?_;refine aj (rb 64 ..) ?_;rfl)
  ·cases h;have h1:v*64+b % 64 < (v+1)*64:=by lia
   have h2:0 < 64 ^ bs.length:=Nat.pow_pos (by decide)
   calc v*64+b % 64 < (v+1)*64:=h1
    _<=(v+1)*(64 ^ bs.length*64):=UA _ (by lia)
theorem F3{bs rs:List Nat}{n:Nat}(h:mM bs=ae (n,rs))(hl:bs.length<=8):n < 2 ^ 60:=by
 have:=uW h;have h2:(0+1)*64 ^ bs.length<=64 ^ 8:=by (refine aj (eC ..) ?_;refine aj (xt ..) ?_);exact e8 (by decide) hl
 have h3:(64:Nat) ^ 8<=2 ^ 60:=by decide
 lia
theorem and1(b:Nat):(lZ (b:Int) 1 != 0)=decide (b % 2=1):=by
 have h:lZ (b:Int) 1=((b % 2:Nat):Int):=by refine aj (bitAnd_pp (dJ _) (by decide) ..) ?_;refine aj (b8 ..) ?_;exact congrArg _ (E6 b 1)
 refine aj (h ..) ?_;rcases JI b with h2|h2 <;> refine aj (h2 ..) ?_ <;> rfl
noncomputable abbrev R4(L f I D:ay)(w:ej):cX:=bq L (aM (L+1) (bk (cN 8)).names) (ae (.ref f)::ae (.ref I)::ae (.ref D)::w)
noncomputable abbrev jM(pm cd doc:ai)(L:ay):gP:=dT (xy (cN 8) pm cd doc) 179 L
noncomputable abbrev tbSt(L f I D:ay)(mu:Mu)(es:List V)(bs:List Nat)(v3 v4 v5 v6 v7 v8 v9:Option V):Mu:=bl D es::jL I bs::R4 L f I D [v3,v4,v5,v6,v7,v8,v9]::mu
def zy(k:Nat)(st:List V->List Nat->Option V->Option V->Option V->Option V->Option V->Option V->Option V->Mu)(pm cd doc:ai)(L D:ay)(Ok:List V->Prop)(Xp:Mu->Prop):Prop:=
 (∀{es bs rs n v3 v4 v5 v6 v7 v8 v9 p1 p2 p3} {Ψ:V->Mu->Prop},mM bs=ae (n,rs)->n < 2 ^ 60->Ψ (.int n) (st es rs v3 v4 v5 v6 v7 v8 v9)->WE (k+3) (st es bs v3 v4 v5 v6 v7 v8 v9) (jM pm cd doc L) (.Call (.Name "_parse_varint" p1) [.Name "iterator" p2] [] p3) Ψ)/\
 (∀{es bs v3 v4 v5 v6 v7 v8 v9 p1 p2 p3},mM bs=av->bs.length<=8->Ok es->RE (k+3) (st es bs v3 v4 v5 v6 v7 v8 v9) (jM pm cd doc L) (.Call (.Name "_parse_varint" p1) [.Name "iterator" p2] [] p3) Xp)/\
 (∀{es bs v4 v5 v6 v7 v8 v9 v p},PE (k+3) (st es bs (ae v) v4 v5 v6 v7 v8 v9) (jM pm cd doc L) (.Name "start" p) v)/\
 (∀{es bs v3 v4 v5 v6 v7 v8 v9 v p} {Ψ:Mu->Prop},Ψ (st es bs (ae v) v4 v5 v6 v7 v8 v9)->mK (k+3) (st es bs v3 v4 v5 v6 v7 v8 v9) (jM pm cd doc L) (.Name "start" p) v Ψ)/\
 (∀{es bs v3 v5 v6 v7 v8 v9 v p},PE (k+3) (st es bs v3 (ae v) v5 v6 v7 v8 v9) (jM pm cd doc L) (.Name "length" p) v)/\
 (∀{es bs v3 v4 v5 v6 v7 v8 v9 v p} {Ψ:Mu->Prop},Ψ (st es bs v3 (ae v) v5 v6 v7 v8 v9)->mK (k+3) (st es bs v3 v4 v5 v6 v7 v8 v9) (jM pm cd doc L) (.Name "length" p) v Ψ)/\
 (∀{es bs v3 v4 v6 v7 v8 v9 v p},PE (k+3) (st es bs v3 v4 (ae v) v6 v7 v8 v9) (jM pm cd doc L) (.Name "end" p) v)/\
 (∀{es bs v3 v4 v5 v6 v7 v8 v9 v p} {Ψ:Mu->Prop},Ψ (st es bs v3 v4 (ae v) v6 v7 v8 v9)->mK (k+3) (st es bs v3 v4 v5 v6 v7 v8 v9) (jM pm cd doc L) (.Name "end" p) v Ψ)/\
 (∀{es bs v3 v4 v5 v7 v8 v9 v p},PE (k+3) (st es bs v3 v4 v5 (ae v) v7 v8 v9) (jM pm cd doc L) (.Name "target" p) v)/\
 (∀{es bs v3 v4 v5 v6 v7 v8 v9 v p} {Ψ:Mu->Prop},Ψ (st es bs v3 v4 v5 (ae v) v7 v8 v9)->mK (k+3) (st es bs v3 v4 v5 v6 v7 v8 v9) (jM pm cd doc L) (.Name "target" p) v Ψ)/\
 (∀{es bs v3 v4 v5 v6 v8 v9 v p},PE (k+3) (st es bs v3 v4 v5 v6 (ae v) v8 v9) (jM pm cd doc L) (.Name "dl" p) v)/\
 (∀{es bs v3 v4 v5 v6 v7 v8 v9 v p} {Ψ:Mu->Prop},Ψ (st es bs v3 v4 v5 v6 (ae v) v8 v9)->mK (k+3) (st es bs v3 v4 v5 v6 v7 v8 v9) (jM pm cd doc L) (.Name "dl" p) v Ψ)/\
 (∀{es bs v3 v4 v5 v6 v7 v9 v p},PE (k+3) (st es bs v3 v4 v5 v6 v7 (ae v) v9) (jM pm cd doc L) (.Name "depth" p) v)/\
 (∀{es bs v3 v4 v5 v6 v7 v8 v9 v p} {Ψ:Mu->Prop},Ψ (st es bs v3 v4 v5 v6 v7 (ae v) v9)->mK (k+3) (st es bs v3 v4 v5 v6 v7 v8 v9) (jM pm cd doc L) (.Name "depth" p) v Ψ)/\
 (∀{es bs v3 v4 v5 v6 v7 v8 v p},PE (k+3) (st es bs v3 v4 v5 v6 v7 v8 (ae v)) (jM pm cd doc L) (.Name "lasti" p) v)/\
 (∀{es bs v3 v4 v5 v6 v7 v8 v9 v p} {Ψ:Mu->Prop},Ψ (st es bs v3 v4 v5 v6 v7 v8 (ae v))->mK (k+3) (st es bs v3 v4 v5 v6 v7 v8 v9) (jM pm cd doc L) (.Name "lasti" p) v Ψ)/\
 (∀{es bs v3 v4 v5 v6 v7 v8 v9 p},PE (k+3) (st es bs v3 v4 v5 v6 v7 v8 v9) (jM pm cd doc L) (.Name "entries" p) (.ref D))/\
 (∀{es bs v3 v4 v5 v6 v7 v8 v9},bl D es∈st es bs v3 v4 v5 v6 v7 v8 v9)/\
 ∀{es bs y v3 v4 v5 v6 v7 v8 v9} {Ψ:V->Mu->Prop},es.length < 2 ^ 22->Ψ .none (st (es++[y]) bs v3 v4 v5 v6 v7 v8 v9)->BU (k+3) (st es bs v3 v4 v5 v6 v7 v8 v9) (.builtin "list.append") [bZ (.ref D),bZ y] Ψ
section
variable (h:zy k st pm cd doc L D Ok Xp)
def zy.num:=@h.1
def zy.bad:=@h.2.1
def zy.p3:=@h.2.2.1
def zy.a3:=@h.2.2.2.1
def zy.p4:=@h.2.2.2.2.1
def zy.a4:=@h.2.2.2.2.2.1
def zy.p5:=@h.2.2.2.2.2.2.1
def zy.a5:=@h.2.2.2.2.2.2.2.1
def zy.p6:=@h.2.2.2.2.2.2.2.2.1
def zy.a6:=@h.2.2.2.2.2.2.2.2.2.1
def zy.p7:=@h.2.2.2.2.2.2.2.2.2.2.1
def zy.a7:=@h.2.2.2.2.2.2.2.2.2.2.2.1
def zy.p8:=@h.2.2.2.2.2.2.2.2.2.2.2.2.1
def zy.a8:=@h.2.2.2.2.2.2.2.2.2.2.2.2.2.1
def zy.p9:=@h.2.2.2.2.2.2.2.2.2.2.2.2.2.2.1
def zy.a9:=@h.2.2.2.2.2.2.2.2.2.2.2.2.2.2.2.1
def zy.p2:=@h.2.2.2.2.2.2.2.2.2.2.2.2.2.2.2.2.1
def zy.lm:=@h.2.2.2.2.2.2.2.2.2.2.2.2.2.2.2.2.2.1
def zy.app:=@h.2.2.2.2.2.2.2.2.2.2.2.2.2.2.2.2.2.2
end
def okTo(T:Mu->Prop)(f:AF)(nu:Mu):Prop:=(f= .next\/f= .cont)/\T nu
theorem Lw{st:List V->List Nat->Option V->Option V->Option V->Option V->Option V->Option V->Option V->Mu}{pos cp:jC}{kk n:Nat}{body orelse:List ed}{es:List V}{bs:List Nat}{v3 v4 v5 v6 v7 v8 v9:Option V}{Ψ:Mu->Prop}(hk:vY env)(I:Nat->List V->List Nat->Prop)(h0:I n es bs)
 (turn:∀T n es bs v3 v4 v5 v6 v7 v8 v9,I n es bs->(∀m es bs v3 v4 v5 v6 v7 v8 v9,m < n->I m es bs->T (st es bs v3 v4 v5 v6 v7 v8 v9))->RS k (st es bs v3 v4 v5 v6 v7 v8 v9) env body Ψ\/WS k (st es bs v3 v4 v5 v6 v7 v8 v9) env body (okTo T)):
 RX k (st es bs v3 v4 v5 v6 v7 v8 v9) env (.While (.Constant (.bool aI) kk cp) body orelse pos) Ψ:=by
 refine DP hk (λm nu=>∃es bs v3 v4 v5 v6 v7 v8 v9,nu=st es bs v3 v4 v5 v6 v7 v8 v9/\I m es bs) n ⟨es,bs,v3,v4,v5,v6,v7,v8,v9,rfl,h0⟩ λn nu h=>?_;obtain ⟨es,bs,v3,v4,v5,v6,v7,v8,v9,rfl,h⟩:=h;exact (kU Kc qv).wt ⟨rfl,turn _ n es bs v3 v4 v5 v6 v7 v8 v9 h λm es bs v3 v4 v5 v6 v7 v8 v9 hm h=>⟨m,hm,es,bs,v3,v4,v5,v6,v7,v8,v9,rfl,h⟩⟩
theorem F4{bs rs:List Nat}{q:Nat×Nat×Nat×Nat}(h:ym bs=ae (q,rs)):∃b1 b2 b3,mM bs=ae (q.1,b1)/\mM b1=ae (q.2.1,b2)/\mM b2=ae (q.2.2.1,b3)/\mM b3=ae (q.2.2.2,rs):=by refine aK (dq.mp h) λa h1 h=>aK (dq.mp h) λb h2 h=>aK (dq.mp h) λc h3 h=>aK (dq.mp h) λd h4 h=>?_;cases h;exact ⟨_,_,_,h1,h2,h3,h4⟩
def Brk(bs:List Nat)(P:Nat->List Nat->Prop):Prop:=mM bs=av\/∃n b,mM bs=ae (n,b)/\n < 2 ^ 60/\b.length<=8/\P n b
theorem brk{bs:List Nat}{P:Nat->List Nat->Prop}(hl:bs.length<=8)(h:∀p:Nat×List Nat,mM bs=ae p->p.2.length<=8->P p.1 p.2):Brk bs P:=by
 cases e:mM bs with
 |none=>exact .inl e
 |some p=>exact .inr ⟨p.1,p.2,e,F3 e hl,aw (eB (kj e)) hl,h p e (aw (eB (kj e)) hl)⟩
theorem F5{bs:List Nat}(h:ym bs=av)(hl:bs.length<=8):Brk bs λz b1=>Brk b1 λz b2=>Brk b2 λz b3=>mM b3=av:=
 brk hl λa h1 l=>brk l λb h2 l=>brk l λc h3 l=>by
  have h:=el.mp (el.mp (el.mp h a h1) b h2) c h3;cases e:mM c.2 with
  |none=>rfl
  |some d=>exact nomS (el.mp h d e)
noncomputable def OG:ed:=match (fR (cN 8)).getD 2 (.Pass ⟨0,0,0,0⟩) with
 | .Try (s::_) _ _ _ _=>s
 |s=>s
section
variable {f:ay}
theorem tb_ok(H:Hy G)(he:du (jM pm cd doc L))(hk:vY (jM pm cd doc L))(hX:∀es,Ok es->∀w,Xp (R4 L f I D w::bl D es::pR::mu)):zy k (tbSt L f I D mu) pm cd doc L D Ok Xp:=by
 refine cq (H.f172.go) λobv pmv cdv docv GI hvd z=>?_;have f2:∀{a b c:cX} {l:Mu},c∈a::b::c::l:=ao (i:=2) rfl;refine ⟨?_,?_,?_,?_,?_,?_,?_,?_,?_,?_,?_,?_,?_,?_,?_,?_,?_,?_,?_⟩
 ·intro es bs rs n v3 v4 v5 v6 v7 v8 v9 p1 p2 p3 Ψ hv hn h;refine ml (mn H he H.m_varint rfl) GI hvd (tC.war (ys:=[V.ref I]) (au (ah (j:=1) he .loc f2 rfl) aT) ?_);exact ((nL (k:=k+1) (i:=1) H rfl hv hn).mono λy nu e=>by (refine aj (e.1 ..) ?_;refine aj (e.2 ..) ?_);exact h)
 ·intro es bs v3 v4 v5 v6 v7 v8 v9 p1 p2 p3 hv hlen ho;refine K8 hk (mn H he H.m_varint rfl) GI hvd (tC.war (ys:=[V.ref I]) (au (ah (j:=1) he .loc f2 rfl) aT) ?_);refine ⟨bl D es::jL I bs::mu,[R4 L f I D [v3,v4,v5,v6,v7,v8,v9]],?_,⟨_,_,aa⟩,?_⟩
  ·show List.Perm (_::_::_::mu) (_::_::(mu++[_]));exact ((JO _ mu).symm.cons _).cons _
  ·obtain ⟨run⟩:=nM (k:=k+1) (i:=1) (mu:=bl D es::jL I bs::mu) H rfl hv hlen;refine ⟨λ{z z z z z z z z} hA hf iD r hq q=>run hA hf iD r hq λ{z z z z} z' hx e1=>q z' hx ?_⟩;subst e1;exact ⟨_,((JO _ mu).cons _).cons _ |>.trans (((jh _ _ _).cons _).trans (jh _ _ _)),hX es ho _⟩
 ·intro es bs v4 v5 v6 v7 v8 v9 v p;exact ah (j:=3) he .loc f2 rfl
 ·intro es bs v3 v4 v5 v6 v7 v8 v9 v p Ψ h;exact aQ (i:=2) (j:=3) he .loc rfl h
 ·intro es bs v3 v5 v6 v7 v8 v9 v p;exact ah (j:=4) he .loc f2 rfl
 ·intro es bs v3 v4 v5 v6 v7 v8 v9 v p Ψ h;exact aQ (i:=2) (j:=4) he .loc rfl h
 ·intro es bs v3 v4 v6 v7 v8 v9 v p;exact ah (j:=5) he .loc f2 rfl
 ·intro es bs v3 v4 v5 v6 v7 v8 v9 v p Ψ h;exact aQ (i:=2) (j:=5) he .loc rfl h
 ·intro es bs v3 v4 v5 v7 v8 v9 v p;exact ah (j:=6) he .loc f2 rfl
 ·intro es bs v3 v4 v5 v6 v7 v8 v9 v p Ψ h;exact aQ (i:=2) (j:=6) he .loc rfl h
 ·intro es bs v3 v4 v5 v6 v8 v9 v p;exact ah (j:=7) he .loc f2 rfl
 ·intro es bs v3 v4 v5 v6 v7 v8 v9 v p Ψ h;exact aQ (i:=2) (j:=7) he .loc rfl h
 ·intro es bs v3 v4 v5 v6 v7 v9 v p;exact ah (j:=8) he .loc f2 rfl
 ·intro es bs v3 v4 v5 v6 v7 v8 v9 v p Ψ h;exact aQ (i:=2) (j:=8) he .loc rfl h
 ·intro es bs v3 v4 v5 v6 v7 v8 v p;exact ah (j:=9) he .loc f2 rfl
 ·intro es bs v3 v4 v5 v6 v7 v8 v9 v p Ψ h;exact aQ (i:=2) (j:=9) he .loc rfl h
 ·intro es bs v3 v4 v5 v6 v7 v8 v9 p;exact ah (j:=2) he .loc f2 rfl
 ·intro es bs v3 v4 v5 v6 v7 v8 v9;exact aa
 ·intro es bs y v3 v4 v5 v6 v7 v8 v9 Ψ hl h;exact kA (i:=0) rfl hl h
theorem R5(H:Hy G)(EH:gN G K){dx:ay}{gd:cm}{fs:List (bb×V)}{b:Array UInt8}(hm:tM f dx gd fs∈mu)(hnd:(fs.map (·.1)).Nodup)(hq:(("co_exceptiontable":bb),V.bytes b)∈fs)
 (h:∀st pm cd doc L D Xp,du (jM pm cd doc L)->vY (jM pm cd doc L)->zy k st pm cd doc L D (λes=>Φ (.list es) mu) Xp->RX (k+3) (st [] (b.toList.map pL) av av av av av av av) (jM pm cd doc L) OG Xp):JR (k+4) mu (.ref 179) [.ref f] Φ:=by
 refine RW H H.f179 (names:=["code"]) (vals':=λL=>[ae (.ref f),av,av,av,av,av,av,av,av,av]) (λpm cd doc vs h=>uP h λa=>rfl) (by decide+kernel) rfl (λpm cd doc L=> .cons (j:=0) .loc rfl .nil) (λpm cd doc L he hk=>?_);refine nJ (WF.f (b4 (nK (j4 H he H.b_iter rfl) (au (Ll wU (ah (j:=0) he .loc aa rfl) (ab _ hm) hnd hq (λn e=>by cases e)) aT) (Lp λI=>aQ (i:=1) (j:=1) he .loc rfl ?_)) rfl rfl));refine nJ (WF.f (b4 (sD (xs:=[]) aT (by show 0<=2 ^ 20;decide) λD=>fL.ref (aQ (i:=2) (j:=2) he .loc rfl ?_)) rfl rfl));exact nJ (DQ (lay:=aM (L+1) (bk (cN 8)).names) (L:=L) (j:=2) H.B he hk H.b_stop rfl .loc (oU (h _ pm cd doc L D _ he hk (tb_ok (f:=f) (I:=I) H he hk λes ho w=>⟨_,.ref D,aa,rfl,Lv ho⟩))))
theorem Lx(H:Hy G)(EH:gN G K){dx:ay}{gd:cm}{fs:List (bb×V)}{b:Array UInt8}{qs:List (Nat×Nat×Nat×Nat)}(hm:tM f dx gd fs∈mu)(hnd:(fs.map (·.1)).Nodup)(hq:(("co_exceptiontable":bb),V.bytes b)∈fs)(hE:DZ (b.toList.map pL) qs)(hl:qs.length<=2 ^ 20)(hΦ:Φ (.list (qs.map D2)) mu):
 JR (k+4) mu (.ref 179) [.ref f] Φ:=by
 refine R5 H EH hm hnd hq λst pm cd doc L D Xp he hk T=>Lw (n:=qs.length) hk (λm es bs=>∃qs',qs'.length=m/\es++qs'.map D2=qs.map D2/\DZ bs qs') ⟨qs,rfl,rfl,hE⟩ λT' n es bs v3 v4 v5 v6 v7 v8 v9 hI hT=>ef hI λqs' eT hes hEn=>?_;clear hI;subst eT;cases hEn with
 |stop hn hlen=>
  have ho:Φ (.list es) mu:=by rw [<- hes,vf,cy] at hΦ;exact hΦ
  refine .inl ?_;rcases F5 hn hlen with h|⟨n1,b1,h1,m1,l1,h⟩
  ·exact oU (nq (B9 (T.bad h hlen ho)) rfl rfl)
  refine qG (b4 (sF (T.num h1 m1 ⟨_,_,aU,sE (by decide),T.a3 ?_⟩)) rfl rfl);rcases h with h|⟨n2,b2,h2,m2,l2,h⟩
  ·exact oU (nq (B9 (T.bad h l1 ho)) rfl rfl)
  refine qG (b4 (sF (T.num h2 m2 ⟨_,_,aU,sE (by decide),T.a4 ?_⟩)) rfl rfl);refine qG (bX (br T.p3 T.p4 fC) (T.a5 ?_) rfl rfl);rcases h with h|⟨n3,b3,h3,m3,l3,h⟩
  ·exact oU (nq (B9 (T.bad h l2 ho)) rfl rfl)
  refine qG (b4 (sF (T.num h3 m3 ⟨_,_,aU,sE (by decide),T.a6 ?_⟩)) rfl rfl);exact oU (nq (T.bad h l3 ho) rfl rfl)
 |@more _ q rs qs2 Ta k1 k2 k3 k4 hrest=>
  refine .inr (lG (F4 Ta) λb1 b2 b3 h1 h2 h3 h4=>?_);refine aC (b4 (sF (T.num h1 k1 ⟨_,_,aU,sE (by decide),T.a3 ?_⟩)) rfl rfl);refine aC (b4 (sF (T.num h2 k2 ⟨_,_,aU,sE (by decide),T.a4 ?_⟩)) rfl rfl);refine aC (bX (br T.p3 T.p4 fC) (T.a5 ?_) rfl rfl);refine aC (b4 (sF (T.num h3 k3 ⟨_,_,aU,sE (by decide),T.a6 ?_⟩)) rfl rfl);refine aC (b4 (T.num h4 k4 (T.a7 ?_)) rfl rfl);refine aC (bX (br T.p7 aU (Hh (by decide))) (T.a8 ?_) rfl rfl);refine aC (bX (iZ (iN H he H.b_bool rfl) (au (br T.p7 aU qt) aT) Ih) (T.a9 ?_) rfl rfl);refine aj (and1 ..) (aC (ig (IR T.p2 (j5 T.lm) (cA (B6 EH.KO EH.keep (mn H he H.m_entry rfl) (tC.war (ys:=[.int (q.1*2),.int (q.1*2+q.2.1*2),.int (q.2.2.1*2),.int (q.2.2.2 / 2 ^ (1:Int).toNat),.bool (decide (q.2.2.2 % 2=1))]) (au T.p3 (au T.p5 (au T.p6 (au T.p8 (au T.p9 aT))))) ((OD (k:=k) H EH).mono λy nu e=>?_)))) (by exact fP) (by exact iT) (by exact iU) rfl)));refine aj (e.1 ..) ?_;refine aj (e.2 ..) ?_;refine e9 ⟨[bZ (D2 q)],λZ vs hv=>?_,T.app ?_ (bC ⟨.inl rfl,hT _ _ _ _ _ _ _ _ _ _ (jf _) ⟨qs2,rfl,?_,hrest⟩⟩)⟩
  ·cases hv with
   |cons a b=>cases b;exact .cons a .nil
  ·have h5:=congrArg kM hes;simp only [ba,ak,bK] at h5;lia
  ·refine aj (bU ..) ?_;exact hes
theorem Hv(H:Hy G)(EH:gN G K){dx:ay}{gd:cm}{fs:List (bb×V)}{b:Array UInt8}{qs:List (Nat×Nat×Nat×Nat)}(hm:tM f dx gd fs∈mu)(hnd:(fs.map (·.1)).Nodup)(hq:(("co_exceptiontable":bb),V.bytes b)∈fs)(hE:DZ (b.toList.map pL) qs)(hl:qs.length<=2 ^ 20):
 JR (k+4) mu (.ref 179) [.ref f] λy nu=>y= .list (qs.map D2)/\nu=mu:=Lx H EH hm hnd hq hE hl ⟨rfl,rfl⟩
end
end
variable {m C:ay}{Θ:AF->Mu->Prop}
section
open Builtin
section
theorem tN:Slot "callable_iterator" "__next__" "callable_iterator.__next__":=
 .of (owner:="callable_iterator") (n:="__next__") (by (refine aj (fg ..) ?_;refine aj (dB ..) ?_);kernel_rfl) (by decide+kernel) (by decide+kernel) (by decide+kernel)
  (by first|exact .inl (by decide+kernel)|exact .inr (by decide+kernel)) (by refine aj (iR ..) ?_;kernel_rfl)
theorem yt:Slot "callable_iterator" "__iter__" "callable_iterator.__iter__":=
 .of (owner:="callable_iterator") (n:="__iter__") (by (refine aj (fg ..) ?_;refine aj (dB ..) ?_);kernel_rfl) (by decide+kernel) (by decide+kernel) (by decide+kernel)
  (by first|exact .inl (by decide+kernel)|exact .inr (by decide+kernel)) (by refine aj (iR ..) ?_;kernel_rfl)
theorem D3:uo TI "callable_iterator.__next__"=ae Builtin.«callable_iterator.__next__»:=Nr (by kernel_rfl)
theorem D4:uo TI "callable_iterator.__iter__"=ae Builtin.«dict_keyiterator.__iter__»:=uQ (j:="dict_keyiterator.__iter__") (by kernel_rfl) rfl (by kernel_rfl) (by kernel_rfl)
theorem F6(a:ai):rh "callable_iterator.__next__" ⟨[a],[]⟩:=by unfold rh;kernel_rfl
theorem F7(a:ai):rh "callable_iterator.__iter__" ⟨[a],[]⟩:=by unfold rh;kernel_rfl
noncomputable abbrev Ly(m:ay)(t:HW):o6:={cls:= .type "callable_iterator",data:= .fields #[.ref m,.str "" t,.bool aH]}
noncomputable def TX(I m f x:ay):cX where
 own:=[I,m]
 sat:=λZ h=>(∃t,h.get? I=ae (Ly m t))/\h.get? m=ae (Fl (.ref f) (.ref x))
 mono:=λz z z z a=>a
 loc:=λZ h h' w hk z z=>⟨w.1.imp λz a=>hk I aa _ a,hk m (ab _ aa) _ w.2⟩
 live:=λZ h w y hy=>(aP.mp hy).elim (λe=>w.1.elim λz a=>⟨_,e▸a⟩) λe=>⟨_,aA.mp e▸w.2⟩
variable {f x:ay}
theorem vZ{A:bh}{E:ai->aq->Prop}{s:aq}{fv:ai}{pos:List ai}{Q:ai->aq->Prop}{M:zE}
 (hc:iV M A (.call fv ⟨pos,[]⟩) (λr s'=>match r with| .ok (.ret v)=>Q v s'| .ok _=>False| .error e=>E e s') s):aS M A (callBorrowed fv pos) Q E s:=λΓ p hΓ=>by
 unfold callBorrowed;show wpCode M (Γ.enter _ av p) _ p s;refine wpCode_mono (λr s' h=>?_) (hc _ p rfl (hΓ.enter _ av p (by intro x;exact gK x)));rcases r with e|(v|_|_|_) <;> first|exact h|exact h.elim
structure NX(k:Nat)(mu:Mu)(I:ay)(Φs:V->Mu->Prop)(Φn:Mu->Prop):Prop where
 c:∀{A:bh} {E:ai->aq->Prop} {Z:bI} {s:aq} {fr:Mu} {Q:Option ai->aq->Prop},Rm k A->R Z (mu++fr) s->(∀{v s' Z' x nu},Z.le Z'->aZ G Z' v x->R Z' (nu++fr) s'->Φs x nu->Q (ae v) s')->
  (∀{s' Z' nu},Z.le Z'->R Z' (nu++fr) s'->Φn nu->Q av s')->aS (aX G.prog G.w) A (l0 (.ref I)) Q E s
theorem yu{A:bh}{E:ai->aq->Prop}{s:aq}{ob:o6}{fd:cm}{Q:Bool->aq->Prop}{M:zE}(hm:s.heap.get? m=ae (Fl (.ref f) (.ref x)))(hf:s.heap.get? f=ae ob)(hd:ob.data= .func fd)(h:Q aI s):aS M A (borrowsExactly (.ref m)) Q E s:=by obtain ⟨hp,g,d,t,os⟩:=s;unfold borrowsExactly;refine ag (Tv hm ?_);dsimp only;refine aj (if_pos (by decide) ..) (ag (Tv hf ?_));exact aj (hd ..) (ar h)
def oW.S0(I m f x:ay):Prop:=∀{k:Nat} {mu:Mu} {i:Nat} {ob:o6} {fd:cm} {Φs:V->Mu->Prop} {Φn:Mu->Prop} (h0:G.Z0 f=ae ob) (hd:ob.data= .func fd) (hi:mu[i]? =ae (TX I m f x)) (hF:FC k mu (.ref f) [.ref x] λy nu=>∃c,y= .str c/\nu[i]? =ae (TX I m f x)/\(c≠""->Φs (.str c) nu)/\(c=""->Φn (nu.set i (pR)))),NX (k+1) mu I Φs Φn
namespace oW
@[irreducible] def e0:=G1 cL cL cL cL S0
def I_:=e0.1
def m_:=e0.2.1
def f_:=e0.2.2.1
def x_:=e0.2.2.2
theorem T0:S0 I_ m_ f_ x_:=λ{k} {mu} {i} {ob} {fd} {Φs} {Φn} h0 hd hi hF=>⟨λ{A E Z s fr Q} hA r qs qn=>by
 have hi':=cH (fr:=fr) hi;refine dU (r.sat _ (ao hi')) λdO hm=>cJ dO λt ho=>?_;clear dO;have hT:s.TypeIs (.ref I_) "callable_iterator":=⟨_,ho,rfl⟩;unfold l0;refine ag (kT (dX (name:=An "__next__") hT tN
  (dp tN hT D3 ?_ (F6 _))))
 show aS _ _ (vG (.ref I_) 2 >>=_) _ _ s;refine ag (dS ho rfl (x:= .bool aH) rfl ?_);show aS _ _ (if (TN aH == TN aI)=aI then _ else _) _ _ s;refine aj (if_neg (by decide) ..) ?_;show aS _ _ (vG (.ref I_) 0 >>=_) _ _ s;refine ag (dS ho rfl (x:= .ref m_) rfl ?_);refine ag (kT ?_);unfold callOutOfASlot;refine ag (yu hm (r.z0in _ _ h0) hd ?_);refine aj (if_pos rfl ..) (vZ (method_call hm (hF.c hA.in1 r (.cons (.ref x_) .nil) λ{w s1 Z' y nu} z' hy r' u=>?_)));refine By u λc e1 Ul hs hn=>?_;clear u;subst e1;refine cJ (gV hy) λtk eT=>?_;subst eT;have hi2':=cH (fr:=fr) Ul;refine dU (r'.sat _ (ao hi2')) λgi hm2=>cJ gi λt2 NK=>?_;clear gi;show aS _ _ (vG (.ref I_) 2 >>=_) _ _ s1;refine ag (dS NK rfl (x:= .bool aH) rfl ?_);show aS _ _ (if (TN aH == TN aI)=aI then _ else _) _ _ s1;refine aj (if_neg (by decide) ..) (ag (dS NK rfl (x:= .str "" t2) rfl ?_));refine ag (bE (wpAny_eqBool_str ?_));by_cases hc:c=""
 ·subst hc;refine aj (show decide ((fQ "")=fQ "")=aI from decide_eq_true rfl) (aj (if_neg (by decide) ..) ?_);refine ag (oj (ag ?_));show aS _ _ (vG (.ref I_) 0 >>=_) _ _ s1;refine ag (dS NK rfl (x:= .ref m_) rfl ?_);refine ag ?_;unfold slotLetsGo;refine ag (yu hm2 (r'.z0in _ _ h0) hd ?_);refine aj (if_pos rfl ..) (ar ?_);refine ag (eH NK rfl (by show 0 < 3;decide) ?_);have h1:=bS (Fk (·.setIfInBounds 0 (eG))) NK rfl;refine ag (eH h1 rfl (by show 1 < 3;decide) ?_);have h2:=bS (Fk (·.setIfInBounds 1 (eG))) h1 rfl;refine eH h2 rfl (by show 2 < 3;decide) ?_;show aS _ _ (TJ (.type "StopIteration") [] >>=_) _ _ _;refine nI hA.hh ?_;refine ag (xw (T:="StopIteration") (b:=aI) ⟨_,aW _ rfl,rfl⟩ TO ?_);refine ar (qn z' (gE Ul▸R.dead (s:=s1) (tk:=s1.toks) r' hi2' λb o hb e=>?_) (hn rfl));have hb':b≠I_:=λq=>hb (q▸aa);exact az _ (az _ ((iF _ _ (gf hb')).trans ((iF _ _ (gf hb')).trans ((iF _ _ (gf hb')).trans e))))
 ·(refine aj (show decide ((fQ "")=c)=aH from decide_eq_false λe=>hc e.symm) ?_;refine aj (if_pos (by decide) ..) ?_);exact ar ⟨_,rfl,ar (qs z' (.str _ _) r' (hs hc))⟩⟩
end oW
theorem oW:oW.S0 I m f x:=by with_unfolding_all exact vJ _ _ _ _ oW.S0 @oW.T0 I m f x
end
section
theorem OH:iQ (.type "method") "__call__"=dg (ae (.builtin "method.__call__")):=by (refine aj (fg ..) ?_;refine aj (dB ..) ?_);kernel_rfl
theorem F8(a b:ai):rh "iter" ⟨[a,b],[]⟩:=by unfold rh;kernel_rfl
variable {f x dx:ay}{fs:List (bb×V)}{name:bb}
theorem Lz(KO:FV G K)(hp:sx K C f name=aI)(ho:PE k mu env o (.ref x))(hm:gH x C dx fs∈mu)(hn:name∉fs.map (·.1))(h:∀q,Φ (.ref q) (mj q (Fl (.ref f) (.ref x))::mu))
 (he:autoParam (dW (.Attribute o name p) env=(do let ov <- dW o env;iE p.atName;let r <- eW [ov] (s8 ov name aI);pF o ov r;dg r)) aR):WE k mu env (.Attribute o name p) Φ:=⟨λ{A E Z s fr Q} hA r q=>by
 refine gZ ?_ he;refine ho.c hA r λ{ov s1 Z1} z1 q1 r1=>aj (aZ.refE q1 ..) (cC (xE r1 (aE fr hm)) λes n Ia z GK=>?_);unfold sx at hp;simp only [dQ,beq_iff_eq,CC] at hp;refine dU hp λiC p7=>?_;clear hp;refine dU iC λkG p6=>?_;clear iC;refine dU kG λma p5=>?_;clear kG;refine dU ma λmE p4=>?_;clear ma;refine dU mE λq7 p3=>?_;clear mE;refine dU q7 λp1 p2=>?_;clear q7;have X:=KO.inn _ r1.z0in;exact get_bind X Ia (plainGet_of p1).1 (findObj_fn p2 p3 p5 p6 p7 (by show lookIn name (i3 es n)=_;(refine aj (QZ ..) ?_;refine aj (GK.none hn ..) ?_;rfl))) (plainGet_of p1).2 (eF (fn_get (s:={s1 with toks:=s1.toks+1}) X (beq_iff_eq.mp p4) (handed_on rfl
  (q z1 (.ref _) (r1.addNew (tk:=s1.toks+1) _ (λb o e=>az _ e) (aW _ rfl) eg λz h=>kX h) (h s1.heap.objs.size)))))⟩
theorem LB(h:∀I,Φ (.ref I) (TX I m f x::mu)):BU k (mj m (Fl (.ref f) (.ref x))::mu) (.builtin "iter") [bZ (.ref m),bZ (.str "")] Φ:=⟨λ{A E Z s fr vs Q} hA r hq q=>by
 refine cC (hq.two) λv u ue q1 q2=>?_;subst ue;refine aj (aZ.refE q1 ..) (cJ (gV q2) λtk mP=>?_);subst mP;have hm:s.heap.get? m=ae (Fl (.ref f) (.ref x)):=r.sat _ aa;refine gv (by decide+kernel) (by decide+kernel) kdk_entry_iter (F8 _ _) ?_;unfold Builtin.«iter»;refine ag (m:=CJ "iter" 1 2 _) (cM (a:=[cY m,Value.str "" tk]) (by first|rfl|kernel_rfl!) ?_);have t1:iL (aX G.prog G.w) s.heap (mA (.ref m) "__call__") (ae (.builtin "method.__call__")):=((sv hm).andThen .now).andThen (fe OH);refine ag (t1.here ?_);show aS _ _ (rule _ >>=_) _ _ s;refine ag (oj (ag (jg ?_ (by size_fits))));refine ar ⟨_,rfl,q .rfl (.ref _) (R.swap (tk:=s.toks) (mu:=mj m (Fl (.ref f) (.ref x))::(mu++fr)) (i:=0) r rfl (TX s.heap.objs.size m f x) (λz z z e=>az _ e) ⟨⟨tk,aW _ rfl⟩,az _ hm⟩ ?_ ?_) (h s.heap.objs.size)⟩
 ·exact cg.mpr ⟨λh=>jJ (bN hm) (aA.mp h),eg⟩
 ·exact λb hb=>(aP.mp hb).elim (λe=> .inr (ll e.symm)) .inl⟩
theorem IS{A:bh}{E:ai->aq->Prop}{s:aq}{t:HW}{Q:ai->aq->Prop}(ho:s.heap.get? I=ae (Ly m t))(h:Q (.ref I) s):aS (aX G.prog G.w) A (ra (.ref I)) Q E s:=by have hT:s.TypeIs (.ref I) "callable_iterator":=⟨_,ho,rfl⟩;refine vy hT yt (dp yt hT D4 ?_ (F7 _));show aS _ _ (vm (.ref I)) _ _ s;exact ar ⟨_,rfl,"callable_iterator",_,hT,tN.lookup,h⟩
theorem OI{zl tp:jC}{t:bb}{body orelse:List ed}(he:PE k mu env e (.ref I))(hi:TX I m f x∈mu)(Inv:Nat->Mu->Prop)(n:Nat)(h0:Inv n mu)
 (turn:∀n nu,Inv n nu->NX k nu I (λx rt=>mK k rt env (.Name t tp) x λud=>WS k ud env body (kW (λUe=>∃m,m < n/\Inv m Ue) Θ)) (λrt=>WS k rt env orelse Θ))
 (hf:autoParam (∀x,bw e env x=dg x) aR):WX k mu env (.For (.Name t tp) e body orelse zl) Θ:=⟨λ{A E Z s fr Q} hA r q=>by
 with_reducible refine wpAny_For ?_ hf
 refine he.c hA r λ{x s1 Z1} z1 q1 r1=>aj (aZ.refE q1 ..) (dU (r1.sat _ (aE fr hi)) λso z=>?_);refine cJ so λtk ho=>?_;clear so;refine IS ho (BJ (WhI Z Inv fr) (λn s' h=>⟨λ{z z} hn hs=>?_⟩) n ⟨Z1,mu,z1,r1,h0⟩);refine cC (h.ex) λZ' nu z' r' inv=>(turn n nu inv).c hA r' (λ{v s3 Z3 y Ue} z3 hv r3 w3=>hs (FD (t:= .Name t tp) (w3.c hA r3 hv λ{s5 Z5 nu5} z5 r5 w5=>w5.c hA r5 λ{f s6 Z6 a nu6} z6 f6 r6 w6=>?_))) λ{s3 Z3 Ue} z3 r3 w3=>hn (w3.c hA r3 λ{z z z z z} z4=>q (z'.trans (z3.trans z4)));have zz:=z'.trans (z3.trans (z5.trans z6));exact oN.of (fr:=fr) f6 w6 (λ⟨m',w7,w8⟩=>⟨m',w7,⟨Z6,nu6,zz,r6,w8⟩⟩) λ{z z} hg=>q zz hg r6⟩
end
end
noncomputable def xF(c:Nat):Bool:=decide (c∈[10,9,13,32])
noncomputable def sY:List Nat->List Nat->Option (List Nat×List Nat)
 |_,[]=>av
 |acc,c::cs=>if xF c then ae (acc,cs) else if c=92 then (match cs with|[]=>av|d::ds=>sY (acc++[d]) ds) else sY (acc++[c]) cs
noncomputable def uX:List Nat->List Nat->Option (List Nat×List Nat)
 |_,[]=>av
 |acc,c::cs=>if c=34 then ae (acc,cs) else if c=92 then (match cs with|[]=>av|d::ds=>uX (acc++[d]) ds) else uX (acc++[c]) cs
noncomputable def yv:List Nat->Option (List Nat×List Nat)
 |[]=>av
 |c::cs=>if xF c then yv cs else if c=34 then uX [] cs else sY [] (c::cs)
theorem IT{f:bb}{id:String}(hf:PE k mu env (.Name f p) (.bi id))(ha:Dt k mu env (e::es) λys nu=>∃Ps,(∀Z vs,bW G Z vs ys->j3 Z vs Ps)/\BU k nu (.builtin id) Ps Φ)(hs:autoParam (kh (e::es)=aI) aR):WE k mu env (.Call (.Name f p) (e::es) [] pos) Φ:=⟨λ{A E Z s fr Q} hA r q=>by
 with_reducible refine gB ?_
 refine hf.c hA r λ{f s1 Z1} z1 q1 r1=>aj (aZ.biE q1 ..) ?_;exact EX (ha.c hA r1 λz2 q2 r2 ⟨Ps,hc,hF⟩=>hF.c hA r2 (hc _ _ q2) λ{z z z z z} z3=>q (z1.trans (z2.trans z3))) (et (jt hs).1) (kY (jt hs).2 pos)⟩
theorem FC.up{f:ai}{a:cX}(h:FC k mu f xs λy nu=>Φ y (a::nu)):FC k (a::mu) f xs Φ:=⟨λ{x x x x x x x} hA r hv q=>h.c hA (r.perm cu.symm) hv λ{x x x x x} z v r w=>q z v (r.perm cu) w⟩
structure ib where
 (lx dx pb f fdx it L lam a b:ay)
 gd:cm
 ld:cm
 text:bb
theorem IU:Nonempty ib:=⟨⟨ri,ri,ri,ri,ri,ri,ri,ri,ri,ri,ri,ri,ri⟩⟩
noncomputable abbrev Fc(c:Nat):V:= .str ⟨#[c]⟩
noncomputable def itO(it:ay):Option (List Nat)->cX
 |some cs=>mU it (cs.map Fc)
 |none=>pR
noncomputable def yw(P:ib)(q:List V)(n:Int)(cs:Option (List Nat)):Mu:=
 [bl P.pb q,gH P.lx 217 P.dx (tj n (.ref P.f) P.pb),mj P.lam (eh P.ld av),tM P.f P.fdx P.gd [("read",.ref P.lam),("co_exceptiontable",.bytes (JM (tm P.text)))],itO P.it cs,AU P.L P.text P.f P.it,gG 272 (zV (ae (P.a,P.b)))]
structure mV(P:ib):Prop where
 read:F2 P.lam P.it P.L P.f P.text P.ld P.a P.b
noncomputable abbrev j6(P:ib)(q:List V)(N:Int)(cs:List Nat):Mu:=yw P q (N - (cs.count 10:Nat)) (ae cs)
theorem nN(n:Int)(fp:V)(pb:ay):((tj n fp pb).map (·.1)).Nodup:=by show (["lineno","instream","whitespace","pushback"]:List bb).Nodup;decide
theorem AV(H:Hy G)(LH:fM G K){P:ib}{q:List V}{n:Int}{cs cs':Option (List Nat)}{c:bb}(hr:∀{Φ},Φ (.str c) (yw P q n cs')->FW (k+2) (yw P q n cs) (.ref P.lam) [.int 1] Φ)(hΦ:Φ (.str c) (yw P q (if c == "\n" then n+1 else n) cs')):
 FC (k+3) (yw P q n cs) (.ref 200) [.ref P.lx] Φ:=by
 refine K0 H LH.f200 (names:=["self"]) (vals':=λL=>[ae (.ref P.lx),av]) (λpm cd doc vs h=>?_) (by decide+kernel) rfl (λpm cd doc L=>?_) (λpm cd doc L he=>?_)
 ·exact uP h λa=>rfl
 ·exact .cons (j:=0) .loc rfl .nil
 have m2:∀{a b c:cX} {l:Mu},c∈a::b::c::l:=ab _ (ab _ aa);have m4:∀{a b c d e:cX} {l:Mu},e∈a::b::c::d::e::l:=ab _ (ab _ m2);refine aC (b4 (Lm (name:="read") qH (oS LH.KO LH.p_in (ah (j:=0) he .loc aa rfl) m2 (nN ..) (y:= .ref P.f) (.tail _ (.head _)) (λn e=>by cases e)) m4 (by show (["read","co_exceptiontable"]:List bb).Nodup;decide) (lam:=P.lam) (.head _) (tC.war (ys:=[.int 1]) (au aU aT) ⟨Kn.obj (o:=eh P.ld av) (.tail _ (.tail _ (.tail _ (.head _)))),rfl,FW.up (hr ?_)⟩)) rfl rfl);refine aQ (i:=0) (j:=1) he .loc rfl (aC (iY (c9 (ah (j:=1) he .loc aa rfl) cO rB) (λh=>?_) λh=>?_))
 ·refine aC (Ov LH.KO LH.p_line LH.s_line (ah (j:=0) he .loc aa rfl) (i:=2) rfl (nN ..) (y:= .int n) (.head _) (λn e=>by cases e) (by show 4<=500;decide) aU FO ?_);refine bC (aC (gw (cf (ah (j:=1) he .loc aa rfl) (ki ?_))));rw [h] at hΦ;exact hΦ
 ·refine bC (aC (gw (cf (ah (j:=1) he .loc aa rfl) (ki ?_))));rw [h] at hΦ;exact hΦ
theorem LC(H:Hy G)(LH:fM G K){P:ib}(PO:mV P){q:List V}{N:Int}{c:Nat}{cs:List Nat}(hΦ:Φ (Fc c) (j6 P q N cs)):FC (k+3) (j6 P q N (c::cs)) (.ref 200) [.ref P.lx] Φ:=by
 have h1:=(PO.read k (j6 P q N (c::cs)) 4 (.tail _ (.tail _ (.tail _ (.tail _ (.tail _ (.head _)))))) (.tail _ (.tail _ (.head _))) (.tail _ (.tail _ (.tail _ (.tail _ (.tail _ (.tail _ (.head _)))))))).1 c (cs.map Fc) rfl;refine AV (cs':=ae cs) (c:=⟨#[c]⟩) H LH (λ{z} h=>h1.mono λy nu e=>by (refine aj (e.1 ..) ?_;refine aj (e.2 ..) ?_);exact h) ?_;have:(if (⟨#[c]⟩:bb) == "\n" then N - ((c::cs).count 10:Nat)+1 else N - ((c::cs).count 10:Nat))=N - (cs.count 10:Nat):=by
  by_cases hc:c=10
  ·subst hc;refine aj (if_pos (by decide) ..) ?_;refine aj (List.count_cons_self ..) ?_;lia
  ·have:¬((⟨#[c]⟩:bb) == "\n")=aI:=by
    intro h;have h2:(⟨#[c]⟩:bb)="\n":=by simpa using h
    have h3:(⟨#[c]⟩:bb).cps.toList=[10]:=by refine aj (h2 ..) ?_;rfl
    exact hc (by simpa using h3)
   refine aj (if_neg this ..) ?_;refine aj (List.count_cons_of_ne (by exact hc) ..) ?_;rfl
 exact aj (this ..) (hΦ)
theorem OJ(H:Hy G)(LH:fM G K){P:ib}(PO:mV P){q:List V}{N:Int}(hΦ:Φ (.str "") (yw P q N av)):FC (k+3) (j6 P q N []) (.ref 200) [.ref P.lx] Φ:=by have h1:=(PO.read k (j6 P q N []) 4 (.tail _ (.tail _ (.tail _ (.tail _ (.tail _ (.head _)))))) (.tail _ (.tail _ (.head _))) (.tail _ (.tail _ (.tail _ (.tail _ (.tail _ (.tail _ (.head _)))))))).2 rfl;refine AV (cs':=av) (c:="") H LH (λ{z} h=>h1.mono λy nu e=>by (refine aj (e.1 ..) ?_;refine aj (e.2 ..) ?_);exact h) ?_;refine aj (if_neg (by decide) ..) ?_;refine aj (show N - (Ao 10 ([]:List Nat):Int)=N from Int.sub_zero N) ?_;exact hΦ
noncomputable abbrev gtFr(L lx:ay)(tok fit ch:Option V):cX:=bq L (aM (L+1) (bk (jl 10 2)).names) [ae (.ref lx),tok,fit,ch]
noncomputable abbrev IV(acc:List Nat):V:= .str ⟨acc.toArray⟩
theorem OK(acc:List Nat)(c:Nat):(⟨acc.toArray⟩:bb)++(⟨#[c]⟩:bb)=⟨(acc++[c]).toArray⟩:=by show (⟨acc.toArray++#[c]⟩:bb)=_;simp
theorem R6(c:Nat):(!(cZ ("\n\t\r ":bb) ⟨#[c]⟩ 0 ("\n\t\r ":bb).length 1).isEmpty)=xF c:=by refine aj (PySem.StrLaws.found_one ..) ?_;rfl
theorem eq_ch(c d:Nat):((⟨#[c]⟩:bb) == (⟨#[d]⟩:bb))=decide (c=d):=by
 by_cases h:c=d
 ·subst h;simp
 ·refine aj (decide_eq_false h ..) ?_;apply beq_eq_false_iff_ne.mpr;intro e;have h3:(⟨#[c]⟩:bb).cps.toList=(⟨#[d]⟩:bb).cps.toList:=by (refine aj (e ..) ?_;rfl)
  exact h (by simpa using h3)
noncomputable abbrev D5(P:ib)(N:Int)(L I m:ay)(acc:List Nat)(ch:Option V)(cs:List Nat):Mu:=TX I m 200 P.lx::gtFr L P.lx (ae (IV acc)) (ae (.ref I)) ch::j6 P [] N cs
noncomputable abbrev kD(pm cd doc:ai)(L:ay):gP:=dT (Au (jl 10 2) "_netrclex.get_token" pm cd doc) 207 L
theorem m1{a b:cX}{l:Mu}:b∈a::b::l:=ab _ aa
theorem ch_ne(c:Nat):(⟨#[c]⟩:bb)≠"":=λe=>by
 have h3:(⟨#[c]⟩:bb).cps.toList=[]:=by refine aj (e ..) ?_;rfl
 simp at h3
theorem OL(H:Hy G)(LH:fM G K){P:ib}(PO:mV P){N:Int}{L I m:ay}{acc:List Nat}{ch:Option V}{c:Nat}{cs:List Nat}{Φs:V->Mu->Prop}{Φn:Mu->Prop}(h:Φs (Fc c) (D5 P N L I m acc ch cs)):NX (k+4) (D5 P N L I m acc ch (c::cs)) I Φs Φn:=by exact cq (LH.f200.go) λob pm cd doc h0 hd z=>oW (i:=0) h0 hd rfl (FC.up (FC.up (LC (k:=k) (q:=[]) (N:=N) (c:=c) (cs:=cs) H LH PO ⟨_,rfl,rfl,λz=>h,λe=>absurd e (ch_ne c)⟩)))
theorem OM(H:Hy G)(LH:fM G K){P:ib}(PO:mV P){N:Int}{L I m:ay}{acc:List Nat}{ch:Option V}{c:Nat}{cs:List Nat}(h:Φ (Fc c) (D5 P N L I m acc ch cs)):
 FW (k+4) (D5 P N L I m acc ch (c::cs)) (.ref 200) [.ref P.lx] Φ:=by
 exact FW.le (FC.fw (FC.up (FC.up (LC (k:=k) (q:=[]) (N:=N) (c:=c) (cs:=cs) H LH PO h)))) (jD _)
theorem io_tk{acc:List Nat}{c:Nat}(h:acc.length<=2 ^ 22):NB k mu .Add (bZ (IV acc)) (bZ (Fc c)) (bZ (IV (acc++[c]))):=by have:=RK (k:=k) (mu:=mu) (a:=⟨acc.toArray⟩) (b:=⟨#[c]⟩) (by show acc.toArray.size+1<=2 ^ 24;simp;exact aw (by assumption) (by decide));rw [OK] at this;exact this
structure yx(K:fl):Prop where
 b_read:sx K 217 200 "_read_char"=aI
noncomputable abbrev gtS0(P:ib)(N:Int)(L I:ay)(acc:List Nat)(ch:Option V):Mu:=pR::gtFr L P.lx (ae (IV acc)) (ae (.ref I)) ch::yw P [] N av
def LD(k:Nat)(P:ib)(N:Int)(st:List Nat->Option V->List Nat->Mu)(s0:List Nat->Option V->Mu)(pm cd doc:ai)(L:ay)(Φ:V->Mu->Prop):Prop:=
 (∀{acc c d cs p p2 p3 s kk},s=⟨#[d]⟩->PT (k+4) (st acc (ae (Fc c)) cs) (kD pm cd doc L) (.Compare (.Name "ch" p) [.Eq] [.Constant (.str s) kk p2] p3) (decide (c=d)))/\
 (∀{acc c cs p p2 p3 p4},PT (k+4) (st acc (ae (Fc c)) cs) (kD pm cd doc L) (.Compare (.Name "ch" p) [.In] [.Attribute (.Name "self" p2) "whitespace" p3] p4) (xF c))/\
 (∀{acc c cs p p2 p3 Ψ},acc.length<=2 ^ 22->Ψ .next (st (acc++[c]) (ae (Fc c)) cs)->WX (k+4) (st acc (ae (Fc c)) cs) (kD pm cd doc L) (.AugAssign (.Name "token" p) .Add (.Name "ch" p2) p3) Ψ)/\
 (∀{acc ch c cs p p2 p3 p4 p5 pl Ψ},dW (.Call (.Attribute (.Name "self" p2) "_read_char" p3) [] [] p4) (kD pm cd doc L)=(do let ov <- dW (.Name "self" p2) (kD pm cd doc L);iE p3.atName;let (f,first) <- eW [ov] (mB ov "_read_char" pl);pE p4 f first (lj p4 (fo [] (kD pm cd doc L))) [])->Ψ .next (st acc (ae (Fc c)) cs)->WX (k+4) (st acc ch (c::cs)) (kD pm cd doc L) (.Assign [.Name "ch" p] (.Call (.Attribute (.Name "self" p2) "_read_char" p3) [] [] p4) p5) Ψ)/\
 (∀{acc ch cs p p2 p3 body orelse Ψ} (I:List Nat->List Nat->Prop),I acc cs->(∀a b,I a []->WS (k+4) (s0 a b) (kD pm cd doc L) orelse Ψ)->
  (∀J a c cs,I a (c::cs)->(∀a' b cs',cs'.length<=cs.length->I a' cs'->J (st a' b cs'))->WS (k+4) (st a (ae (Fc c)) cs) (kD pm cd doc L) body (kW J Ψ))->
  WX (k+4) (st acc ch cs) (kD pm cd doc L) (.For (.Name "ch" p) (.Name "fiter" p2) body orelse p3) Ψ)/\
 (∀{acc ch cs p p2 Ψ},Φ (IV acc) (j6 P [] N cs)->(jK (IV acc) (st acc ch cs) Φ->Ψ (.ret (IV acc)) (st acc ch cs))->WX (k+4) (st acc ch cs) (kD pm cd doc L) (.Return (ae (.Name "token" p)) p2) Ψ)/\
 ∀{acc ch p p2 Ψ},Φ (IV acc) (yw P [] N av)->(jK (IV acc) (s0 acc ch) Φ->Ψ (.ret (IV acc)) (s0 acc ch))->WX (k+4) (s0 acc ch) (kD pm cd doc L) (.Return (ae (.Name "token" p)) p2) Ψ
section
variable {P:ib}{N:Int}{st:List Nat->Option V->List Nat->Mu}{s0:List Nat->Option V->Mu}(h:LD k P N st s0 pm cd doc L Φ)
def LD.eq:=@h.1
def LD.ws:=@h.2.1
def LD.aug:=@h.2.2.1
def LD.rd:=@h.2.2.2.1
def LD.loop:=@h.2.2.2.2.1
def LD.ret:=@h.2.2.2.2.2.1
def LD.ret0:=@h.2.2.2.2.2.2
end
def yy.S0(k:Nat)(P:ib)(N:Int)(L I q:ay)(pm cd doc:ai)(_:Nat):Prop:=∀{Φ:V->Mu->Prop} {K:fl} (H:Hy G) (LH:fM G K) (PO:mV P) (he:du (kD pm cd doc L)),LD k P N (D5 P N L I q) (gtS0 P N L I) pm cd doc L Φ
namespace yy
@[irreducible] def e0:=zJ eN IU Q8 cL cL cL gL gL gL eN S0
def k_:=e0.1
def P_:=e0.2.1
def N_:=e0.2.2.1
def L_:=e0.2.2.2.1
def I_:=e0.2.2.2.2.1
def q_:=e0.2.2.2.2.2.1
def pj:=e0.2.2.2.2.2.2.1
def cd_:=e0.2.2.2.2.2.2.2.1
def g8:=e0.2.2.2.2.2.2.2.2.1
theorem T0:S0 k_ P_ N_ L_ I_ q_ pj cd_ g8 e0.2.2.2.2.2.2.2.2.2:=by
 intro Φ K H LH PO he;obtain ⟨ob,_,_,_,h0,hd,_⟩:=LH.f200.go;have m3:∀{a b c d:cX} {l:Mu},d∈a::b::c::d::l:=ao (i:=3) rfl;have p0:∀{acc:List Nat} {ch:Option V} {cs:List Nat} {p:jC},PE (k_+4) (D5 P_ N_ L_ I_ q_ acc ch cs) (kD pj cd_ g8 L_) (.Name "self" p) (.ref P_.lx):=ah (j:=0) he .loc m1 rfl;have p3:∀{acc:List Nat} {c:Nat} {cs:List Nat} {p:jC},PE (k_+4) (D5 P_ N_ L_ I_ q_ acc (ae (Fc c)) cs) (kD pj cd_ g8 L_) (.Name "ch" p) (Fc c):=ah (j:=3) he .loc m1 rfl;have nr:∀n,("_read_char":bb)∉(tj n (.ref P_.f) P_.pb).map (·.1):=λn=>by show ("_read_char":bb)∉(["lineno","instream","whitespace","pushback"]:List bb);decide
 refine ⟨?_,?_,?_,?_,?_,?_,?_⟩
 ·intro acc c d cs p p2 p3' s kk e;subst e;exact oV (c9 p3 cO rB) (eq_ch c d)
 ·intro acc c cs p p2 p3' p4;exact oV (c9 p3 (oS LH.KO LH.p_ws p0 m3 (nN ..) (y:= .str "\n\t\r ") (.tail _ (.tail _ (.head _))) (λn e=>by cases e)) Dc) (R6 c)
 ·intro acc c cs p p2 p3' Ψ h w;exact rO (i:=1) (j:=1) he .loc rfl rfl p3 (io_tk h) w
 ·intro acc ch c cs p p2 p3' p4 p5 pl Ψ ev w;exact b4 (pQ LH.KO LH.m_read p0 m3 (nr _) h0 hd (OM H LH PO (aQ (i:=1) (j:=3) he .loc rfl w)) ev) rfl rfl
 ·intro acc ch cs p p2 p3' body orelse Ψ I' h hn ht;refine OI (ah (j:=2) he .loc m1 rfl) aa (λn nu=>∃a b cs,cs.length=n/\I' a cs/\nu=D5 P_ N_ L_ I_ q_ a b cs) cs.length ⟨acc,ch,cs,rfl,h,rfl⟩ λn nu hI=>?_;obtain ⟨a,b,cs,rfl,hI,rfl⟩:=hI;cases cs with
  |nil=>exact oW (i:=0) h0 hd rfl (FC.up (FC.up (OJ (k:=k_) (q:=[]) (N:=N_) H LH PO ⟨_,rfl,rfl,λh=>absurd rfl h,λz=>hn a b hI⟩)))
  |cons c cs=>exact OL H LH PO (aQ (i:=1) (j:=3) he .loc rfl (ht _ a c cs hI λa' b cs' hl hI=>⟨cs'.length,Nat.lt_succ_of_le hl,a',b,cs',rfl,hI,rfl⟩))
 ·intro acc ch cs p p2 Ψ h o;exact gw (cf (ah (j:=1) he .loc m1 rfl) (o (jK.tail (jK.tail (jK.keep h)))))
 ·intro acc ch p p2 Ψ h o;exact gw (cf (ah (j:=1) he .loc m1 rfl) (o (jK.tail (jK.tail (jK.keep h)))))
end yy
theorem yy{P:ib}{N:Int}{L I q:ay}{pm cd doc:ai}:yy.S0 k P N L I q pm cd doc 0:=by with_unfolding_all exact uE _ _ _ _ _ _ _ _ _ _ yy.S0 @yy.T0 k P N L I q pm cd doc 0
theorem LF(H:Hy G)(LH:fM G K)(BH:yx K){P:ib}(PO:mV P){N:Int}{cs:List Nat}(h:∀st s0 pm cd doc L,LD k P N st s0 pm cd doc L Φ->WS (k+4) (st [] av cs) (kD pm cd doc L) ((fR (jl 10 2)).drop 3) (lE Φ)):
 FW (k+5) (j6 P [] N cs) (.ref 207) [.ref P.lx] Φ:=by
 refine DJ H LH.f207 (names:=["self"]) (vals':=λL=>[ae (.ref P.lx),av,av,av]) (λpm cd doc vs h=>uP h λa=>rfl) (by decide+kernel) rfl (λpm cd doc L=> .cons (j:=0) .loc rfl .nil) (λpm cd doc L he=>?_);have m2:∀{a b c:cX} {l:Mu},c∈a::b::c::l:=ao (i:=2) rfl;have nr:∀n,("_read_char":bb)∉(tj n (.ref P.f) P.pb).map (·.1):=λn=>by show ("_read_char":bb)∉(["lineno","instream","whitespace","pushback"]:List bb);decide
 refine aC (iY (kU (uG (oS LH.KO LH.p_push (ah (j:=0) he .loc aa rfl) m2 (nN ..) (y:= .ref P.pb) (.tail _ (.tail _ (.tail _ (.head _)))) (λn e=>by cases e)) m1) (G4 (by show 0 < 2 ^ 60;decide))) (λh=>(vK h)) λz=>?_);refine bC (aC (bX cO (aQ (i:=0) (j:=1) he .loc rfl ?_) rfl rfl));refine aC (b4 (IT (j4 H he H.b_iter rfl) (cA (Lz LH.KO BH.b_read (ah (j:=0) he .loc aa rfl) m2 (nr _) λq=>cA (cf cO (e9 ⟨[bZ (.ref q),bZ (.str "")],λZ vs hv=>?_,LB λI=>aQ (i:=1) (j:=2) he .loc rfl (h _ _ pm cd doc L (yy H LH PO he))⟩))))) rfl rfl);cases hv with
 |cons a r=>cases r with
  |cons b r=>cases r;exact .cons a (.cons b .nil)
theorem Qy{a cs:List Nat}{c:Nat}(h:a.length+(c::cs).length<=2 ^ 20):a.length<=2 ^ 22:=aw (dC _ _) (aw h (by decide))
theorem LG{a cs ds:List Nat}{c d:Nat}(h:a.length+(c::cs).length<=2 ^ 20)(hl:ds.length<=cs.length):(a++[d]).length+ds.length<=2 ^ 20:=by refine aj (ba ..) ?_;refine aj (l5 ..) ?_;refine aj (Nat.add_comm [d].length ..) ?_;exact aw (qm (E4 hl) _) h
theorem F9{P:ib}{N:Int}{st:List Nat->Option V->List Nat->Mu}{s0:List Nat->Option V->Mu}{pm cd doc:ai}{L:ay}{tk:List Nat->List Nat->Option (List Nat×List Nat)}{r:List Nat×List Nat}{a cs:List Nat}{c:Nat}{s:bb}{kk:Nat}{p1 p2 p3 p4 p5 p6 p7 p8 p9:jC}{pl:mF Bool}
 (T:LD k P N st s0 pm cd doc L Φ) (ht:(if c=92 then (match cs with|[]=>av|d::ds=>tk (a++[d]) ds) else tk (a++[c]) cs)=ae r) (h:∀d ds,ds.length<=cs.length->tk (a++[d]) ds=ae r->Θ .next (st a (ae (Fc d)) ds)) (hs:autoParam (s=⟨#[92]⟩) aR) (he:autoParam (dW (.Call (.Attribute (.Name "self" p5) "_read_char" p6) [] [] p7) (kD pm cd doc L)=(do let ov <- dW (.Name "self" p5) (kD pm cd doc L);iE p6.atName;let (f,first) <- eW [ov] (mB ov "_read_char" pl);pE p7 f first (lj p7 (fo [] (kD pm cd doc L))) [])) aR):
 WX (k+4) (st a (ae (Fc c)) cs) (kD pm cd doc L) (.If (.Compare (.Name "ch" p1) [.Eq] [.Constant (.str s) kk p2] p3) [.Assign [.Name "ch" p4] (.Call (.Attribute (.Name "self" p5) "_read_char" p6) [] [] p7) p8] [] p9) Θ:=by
 refine iY (T.eq hs) (λe=>?_) λe=>?_
 ·rw [if_pos (of_decide_eq_true e)] at ht;cases cs with
  |nil=>exact gK ht
  |cons d ds=>exact aC (T.rd he (bC (h d ds (jD _) ht)))
 ·rw [if_neg (of_decide_eq_false e)] at ht;exact bC (h c cs (bp _) ht)
def nO.S0(k:Nat)(Φ:V->Mu->Prop)(w rest:List Nat):Prop:=∀{K:fl} {P:ib} {N:Int} {cs:List Nat} (H:Hy G) (LH:fM G K) (BH:yx K) (PO:mV P) (ht:yv cs=ae (w,rest)) (hB:cs.length<=2 ^ 20) (hΦ:Φ (IV w) (j6 P [] N rest)),FW (k+5) (j6 P [] N cs) (.ref 207) [.ref P.lx] Φ
namespace nO
@[irreducible] def e0:=G1 eN s9 gD gD S0
def k_:=e0.1
def Φ_:=e0.2.1
def w_:=e0.2.2.1
def Hw:=e0.2.2.2
theorem T0:S0 k_ Φ_ w_ Hw:=by
 intro K P N cs H LH BH PO ht hB hΦ;refine LF H LH BH PO λst s0 pm cd doc L T=>aC (T.loop (λa cs=>a=[]/\cs.length<=2 ^ 20/\yv cs=ae (w_,Hw)) ⟨rfl,hB,ht⟩ (λa b h=>by exact gK h.2.2) λJ a c cs hI hJ=>?_);refine G0 hI λgi hB ht=>?_;clear hI;subst gi;unfold yv at ht;refine aC (iY T.ws (λh=>?_) λh=>?_)
 ·rw [if_pos h] at ht;exact aC (G5 (hJ _ _ _ (bp _) ⟨rfl,nj hB,ht⟩))
 rw [if_neg (by refine aj (h ..) ?_;decide)] at ht;refine bC (aC (iY (T.eq (d:=34) rfl) (λh2=>?_) λh2=>?_))
 ·rw [if_pos (of_decide_eq_true h2)] at ht;refine aC (T.loop (λa cs=>a.length+cs.length<=2 ^ 20/\uX a cs=ae (w_,Hw)) ⟨aw (ll (eC _)) (nj hB),ht⟩ (λa b h=>by exact gK h.2) λJ a c cs hI hJ=>?_);refine dU hI λhB ht=>?_;clear hI;unfold uX at ht;refine aC (iY (T.eq (d:=34) rfl) (λh3=>?_) λh3=>?_)
  ·rw [if_pos (of_decide_eq_true h3)] at ht;cases ht;exact aC (T.ret hΦ λh=>h)
  ·rw [if_neg (of_decide_eq_false h3)] at ht;exact aC (F9 T ht λd ds hl ht=>bC (aC (T.aug (Qy hB) (bC (hJ _ _ _ hl ⟨LG hB hl,ht⟩)))))
 ·rw [if_neg (of_decide_eq_false h2)] at ht;unfold sY at ht;rw [if_neg (by refine aj (h ..) ?_;decide)] at ht;refine aC (F9 (a:=[]) T ht λd ds hl ht=>aC (T.aug (by decide) (aC (T.loop (λa cs=>a.length+cs.length<=2 ^ 20/\sY a cs=ae (w_,Hw)) ⟨LG (a:=[]) (c:=c) (cs:=cs) (aw (ll (eC _)) hB) hl,ht⟩ (λa b h=>by exact gK h.2) λJ a c cs hI hJ=>?_))));refine dU hI λhB ht=>?_;clear hI;unfold sY at ht;refine aC (iY T.ws (λh3=>?_) λh3=>?_)
  ·rw [if_pos h3] at ht;cases ht;exact aC (T.ret hΦ λh=>h)
  ·rw [if_neg (by refine aj (h3 ..) ?_;decide)] at ht;exact aC (F9 T ht λd ds hl ht=>bC (aC (T.aug (Qy hB) (bC (hJ _ _ _ hl ⟨LG hB hl,ht⟩)))))
end nO
theorem nO{w rest:List Nat}:nO.S0 k Φ w rest:=by with_unfolding_all exact vJ _ _ _ _ nO.S0 @nO.T0 k Φ w rest
theorem xG(H:Hy G)(LH:fM G K)(BH:yx K){P:ib}(PO:mV P){N:Int}{w rest cs:List Nat}(ht:yv cs=ae (w,rest))(hB:cs.length<=2 ^ 20):
 FW (k+5) (j6 P [] N cs) (.ref 207) [.ref P.lx] λy nu=>y=IV w/\nu=j6 P [] N rest:=nO H LH BH PO ht hB ⟨rfl,rfl⟩
theorem IW(H:Hy G)(LH:fM G K)(BH:yx K){P:ib}(PO:mV P){N:Int}{cs:List Nat}(hw:∀c∈cs,xF c=aI)(hΦ:Φ (.str "") (yw P [] N av)):
 FW (k+5) (j6 P [] N cs) (.ref 207) [.ref P.lx] Φ:=by
 refine LF H LH BH PO λst s0 pm cd doc L T=>aC (T.loop (λa cs=>a=[]/\∀c∈cs,xF c=aI) ⟨rfl,hw⟩ (λa b h=>?_) λJ a c cs hI hJ=>?_)
 ·refine dU h λiC z=>?_;clear h;subst iC;exact bC (aC (T.ret0 hΦ λh=>h))
 ·refine aC (iY T.ws (λh=>?_) λh=>?_)
  ·exact aC (G5 (hJ _ _ _ (bp _) ⟨hI.1,λd hd=>hI.2 d (ab _ hd)⟩))
  ·rw [hI.2 c aa] at h;exact J2 h
theorem LI(H:Hy G)(LH:fM G K)(BH:yx K){P:ib}(PO:mV P){N:Int}{cs:List Nat}(hw:∀c∈cs,xF c=aI):
 FW (k+5) (j6 P [] N cs) (.ref 207) [.ref P.lx] λy nu=>y= .str ""/\nu=yw P [] N av:=IW H LH BH PO hw ⟨rfl,rfl⟩
variable {vs:ej}{S:List (Nat×V)}{j:Nat}
section
variable {prog:dG}{w:d8}{A:bh}{E:ai->aq->Prop}{s:aq}
open Builtin in
theorem xd{it t:ay}{i:Nat}{items:Array ai}{x:ai}{Q:ai->aq->Prop}(hit:s.heap.IsTupleIter it t i)(ht:s.heap.IsTuple t items)(hx:items[i]? =ae x)
 (hQ:∀h',h'.IsTupleIter it t (i+1)->ji it s.heap h'->Q x {s with heap:=h'}):aS (aX prog w) A (mH (.ref it)) Q E s:=by
 refine ef (id hit) λo ho hc hd=>?_;obtain ⟨ol,M5,_,nl,Ff⟩:=ht;unfold mH;refine ag (dX (name:=fQ "__next__") hit.typeIs l8
  (dp l8 hit.typeIs Q3 ?_ (Qb _)))
 show aS _ _ (vG (.ref it) 0 >>=_) _ _ s;refine ag (dS ho hd (x:= .ref t) rfl ?_);show aS _ _ (if (cY t == eG)=aI then _ else _) _ _ s;refine aj (if_neg (show ¬((cY t == eG)=aI) from cF)) ?_;show aS _ _ (vG (.ref it) 1 >>=_) _ _ s;refine ag (dS ho hd (x:= .int i 0) rfl ?_);show aS _ _ (seqItems? (.ref t) >>=_) _ _ s;refine ag (CO M5 Ff ?_);simp only [b8,hx];refine ag (eH ho hd (by exact bp _) (ar ⟨x,rfl,ar (hQ _ ?_ (bY ..))⟩));exact ⟨_,bS _ ho (iW (dP hd _)),(pK ..).trans hc,by refine aj (dP hd ..) ?_;simp [pD]⟩
theorem yz{it t:ay}{i:Nat}{items:Array ai}{Q:ai->aq->Prop}(hh:A.handled=av)(hit:s.heap.IsTupleIter it t i)(ht:s.heap.IsTuple t items)(hx:items[i]? =av)
 (hE:∀h' e,rx it s.heap h'->(∃o,h'.get? e=ae o/\o.cls= .type "StopIteration")->E (.ref e) {s with heap:=h'}):aS (aX prog w) A (mH (.ref it)) Q E s:=by
 refine ef (id hit) λo ho hc hd=>?_;obtain ⟨ol,M5,_,nl,Ff⟩:=ht;unfold mH;refine ag (dX (name:=fQ "__next__") hit.typeIs l8
  (dp l8 hit.typeIs Q3 ?_ (Qb _)))
 show aS _ _ (vG (.ref it) 0 >>=_) _ _ s;refine ag (dS ho hd (x:= .ref t) rfl ?_);show aS _ _ (if (cY t == eG)=aI then _ else _) _ _ s;refine aj (if_neg (show ¬((cY t == eG)=aI) from cF)) ?_;show aS _ _ (vG (.ref it) 1 >>=_) _ _ s;refine ag (dS ho hd (x:= .int i 0) rfl ?_);show aS _ _ (seqItems? (.ref t) >>=_) _ _ s;refine ag (CO M5 Ff ?_);simp only [b8,hx];refine ag (oj (ag (eH ho hd (by simp) ?_)));show aS _ _ (TJ (.type "StopIteration") [] >>=_) _ _ _;refine nI hh ?_;exact hE _ _ (((bY ..).extBut.push _).push _) ⟨_,aW _ rfl,rfl⟩
theorem LJ(hh:A.handled=av)(it t:ay)(iP:t≠it)(items:Array ai):
 Draws prog w A it [it,t] items.size (λi v=>items[i]? =ae v) (λi h=>h.IsTupleIter it t i/\h.IsTuple t items) where
 live:=λz z st=>let ⟨o,ho,_⟩:=st.1;⟨o,ho⟩
 frame:=λz z z st hk=>⟨let ⟨o,ho,q⟩:=st.1;⟨o,hk it (by exact aa) o ho,q⟩,IsTuple.at st.2 λo e=>hk t (by exact ab _ aa) o e⟩
 item:=λi s Q E hi st hQ=>by
  exact xd st.1 st.2 (x:=items[i]) (by simp [hi]) λh' Tb uc=>hQ _ h' s.toks (by simp [hi]) ⟨Tb,IsTuple.at st.2 λo e=>uc.extBut t o iP e⟩ uc
 done:=λs Q E st hE=>yz hh st.1 st.2 (by simp) hE
open AutoSeq1 (wpAny_loadPart') in
set_option tactic.hygienic true in
theorem rX(l:ay)(o:o6)(hc:o.cls= .type "tuple")(items:Array ai)(n:Nat)(hd:o.data= .seq items n):
 Meets (Builtin.«enumerate.__new__» ⟨[.type "enumerate",.ref l],[]⟩) (λ_ R s=>s.heap.get? l=ae o/\
  R (.ok (.ret (.ref (s.heap.push {cls:= .type "tuple_iterator",data:= .fields #[.ref l,.int 0 0]}).objs.size)))
   {s with heap:=(s.heap.push {cls:= .type "tuple_iterator",data:= .fields #[.ref l,.int 0 0]}).push {cls:= .type "enumerate",data:= .fields #[.none,.bool aH,.ref s.heap.objs.size,pD 0,.none,.none]}}):=
 .of_wp λprog w A R s h=>by
  obtain ⟨hp,g,d,tk,os⟩:=s;obtain ⟨hl,h⟩:=h;have q8:=sub_enumerate;have hL:Heap.IsTuple (Shared.heap ⟨hp,g,d,tk,os⟩) l items:=⟨_,hl,hc,n,hd⟩
  wp_walk using kP hl
  refine wpAny_stack_any λst=>ar ?_
  split
  ·rename_i c _ _ _ _ _;cases (c == lX "enumerate")
   ·wp_walk using kP hl,uk hL
    exact ⟨_,rfl,h⟩
   ·wp_walk using kP hl,uk hL
    exact ⟨_,rfl,h⟩
  ·wp_walk using kP hl,uk hL
   exact ⟨_,rfl,h⟩
theorem tO{l:ay}{items:Array ai}{Q:ai->aq->Prop}(hL:s.heap.IsTuple l items)
 (h:∀h',IsEnum h' (s.heap.objs.size+1) s.heap.objs.size 0 .none->h'.IsTupleIter s.heap.objs.size l 0->h'.objs.size=s.heap.objs.size+2->
  (∀b o,s.heap.get? b=ae o->h'.get? b=ae o)->Q (.ref (s.heap.objs.size+1)) {s with heap:=h'}):
 aS (aX prog w) A (ku (.type "enumerate") [.ref l]) Q E s:=by
 obtain ⟨o,hl,hc,n,hd⟩:=hL;refine callType_new F.called_enumerate (by decide) (F.typeCall_enumerate_1 _) (F.newCall_enumerate_1 _) (λobj=>F.args_object_init_2 obj _) F.entry_enumerate_new
  (rX l o hc items n hd) ⟨hl,?_⟩
 have hz:(s.heap.push {cls:= .type "tuple_iterator",data:= .fields #[.ref l,.int 0 0]}).objs.size=s.heap.objs.size+1:=fN ..;show _/\_;refine aj (hz ..) ?_;have he:IsEnum ((s.heap.push {cls:= .type "tuple_iterator",data:= .fields #[.ref l,.int 0 0]}).push
  {cls:= .type "enumerate",data:= .fields #[.none,.bool aH,.ref s.heap.objs.size,pD 0,.none,.none]}) (s.heap.objs.size+1) s.heap.objs.size 0 .none:=by
  have:=aW (s.heap.push {cls:= .type "tuple_iterator",data:= .fields #[.ref l,.int 0 0]})
   (o:={cls:= .type "enumerate",data:= .fields #[.none,.bool aH,.ref s.heap.objs.size,pD 0,.none,.none]}) rfl
  rw [hz] at this;exact this
 refine ⟨⟨_,he,rfl⟩,h _ he ⟨_,az _ (aW _ rfl),rfl,rfl⟩ (by (refine aj (fN ..) ?_;refine aj (hz ..) ?_;rfl)) λb o x=>az _ (az _ x)⟩
end
section
variable {tp:jC}{x:bb}{kk:Nat}{elts:List bH}
theorem IX{e1:bH}(hf:PE k mu env (.Name x p) (.type "enumerate"))(h1:PE k mu env e1 (.tup xs))(zi:∀a p,e1≠ .Starred a p:=by intro z z h;cases h):
 pd k mu env (.Call (.Name x p) [e1] [] pos) (.Tuple elts kk tp) [] (rD xs):=⟨λz h=>(eo h),λ{A E Z s fr Q} hA r q=>by
 refine sy hf (au h1 aT zi) zi hA r λ{vs s2 Z2} z2 q2 r2=>aK (q2.one) λv1 dO q5=>?_;subst dO;refine dK (aZ.tup_inv q5) λa o vs n eT e1 hc hd hr=>?_;subst eT;have hL:s2.heap.IsTuple a vs:=⟨_,r2.zin _ _ e1,hc,n,hd⟩;have SP:=bN (r2.zin _ _ e1);exact tO hL λh' he Ud hsz hk=>vN r2 (λA hh=>LJ hh s2.heap.objs.size a (c8 SP) vs) (G8 SP) aa (b9 hr) (vM e1) (λi v x=>nC hr) he ⟨Ud,IsTuple.at hL λo e=>hk _ _ e⟩ hk λ{z z z} hit=>q hit z2⟩
structure Sv(vs:ej)(S:List (Nat×V)):Prop where
 len:vs.length=47
 at':∀j y,S.lookup j=ae y->vs[j]? =ae (ae y)
theorem Sv.get(h:Sv vs S)(e:S.lookup j=ae y):vs[j]? =ae (ae y):=h.at' j y e
theorem Sv.set(h:Sv vs S)(hj:autoParam (j < 47) aD):Sv (vs.set j (ae y)) ((j,y)::S):=⟨by refine aj (List.length_set ..) ?_;exact h.len,λi z e=>by
 rw [lh] at e;by_cases Bs:i=j
 ·subst Bs;rw [show (i == i)=aI from by simp] at e
  (have lA:=aO e;clear e;subst lA)
  refine aj (eA (by rw [h.len];exact hj) ..) ?_;rfl
 ·rw [show (i == j)=aH from by simpa using Bs] at e;refine aj (kI (λq=>Bs q.symm) ..) ?_;exact h.at' i z e⟩
theorem Sv.drop(h:Sv vs ((j,y)::S))(e:S.lookup j=av):Sv vs S:=⟨h.len,λi z e2=>h.at' i z (by
 refine aj (lh ..) ?_;by_cases Bs:i=j
 ·subst Bs;rw [e] at e2;exact gK e2
 ·refine aj (show (i == j)=aH from by simpa using Bs) ?_;exact e2)⟩
noncomputable abbrev cw(L:ay)(vs:ej):cX:=bq L (aM (L+1) (bk (cN 23)).names) vs
noncomputable abbrev bT(pm doc:ai)(L:ay):gP:=dT (xy (cN 23) pm (.ref 306) doc) 307 L
noncomputable def mw(n:Nat):List ed:=((fR (cN 23)).take 15).drop n
noncomputable def je(n:Nat):List ed:=(fR (cN 23)).drop n
end
variable {ctx:Mu}{p2:jC}{v:V}{scope:eU}{cl:List (bb×ay)}
section
variable {lay:zL}{bB:ej}
theorem Le.unset(h:bB[j]? =ae av):Le (bq L lay (bB.set j (ae y))::mu) (bq L lay bB::mu):=λZ s fr r=>by
 refine mI (r.sat _ aa) λhnd m hn hs=>?_;have hj:=(aB.mp h).1;have hw:=hs.weak (o:=ae y) (o':=av) (j:=j) (by (refine aj (eA hj ..) ?_;rfl)) (λx c e=>e.forget);rw [vh,show bB.set j av=bB from by
  refine List.ext_getElem? λn=>?_;by_cases hn:j=n
  ·subst hn;(refine aj (eA hj ..) ?_;refine aj (h ..) ?_;rfl)
  ·(refine aj (kI hn ..) ?_;rfl)] at hw
 exact r.upd' (x':=bq L lay bB) (i:=0) (h':=s.heap) (tk:=s.toks) rfl rfl (λz z z e=>e) ⟨hnd,m,hn,hw⟩
theorem LK{β:Type}{di:gP}{t u:bb}{elt fc:bH}{bs:List β}{inj g:β->V}(i j:Nat)(he:du di)(s1:Sl di C (aM (C+1) scope.names) t i)(s2:Sl di C (aM (C+1) scope.names) u j)(hj:((nones (aM (C+1) scope.names)).set i (ae v))[j]? =ae av)
 (src:pd k (TV scope C i v::mu) di fc (.Name u p2) [] (bs.map inj)) (h:∀b∈bs,PE k (RB scope C i j v (inj b)::mu) di elt (g b))
 (hf:autoParam ((di.kindOf t == ae .free)=aH) aR) (hf':autoParam ((di.kindOf u == ae .free)=aH) aR):AB k mu scope C di (.Name t p) elt fc (.Name u p2) [] v bs inj (λz=>aI) g:=
 ⟨_,[],qA he s1 hf,src,(λz h=>eo h),λb hb=>⟨_,qA he s2 hf',dk,λz=>h b hb,Le.unset hj⟩⟩
theorem Hx{α β:Type}{elt iter fc t2:bH}{spos:jC}(as:List α)(inj:α->V)(bs:α->List β)(zj:β->V)(g:α->β->V)(sc:Fb scope env cl)(src:pd k mu env iter t ctx (as.map inj))(hk:1<=k)(hsz:(as.flatMap bs).length<=2 ^ 21)
 (turn:∀C a,a∈as->AB k mu scope C (pf scope cl C env) t elt fc t2 [] (inj a) (bs a) zj (λz=>aI) (g a)) (hs:autoParam (∀x,bw iter env x=dg x) aR)
 (GF:autoParam (∀C x,bw fc (pf scope cl C env) x=dg x) aR):
 PE k mu env (.ListComp elt [⟨t,iter,[],0⟩,⟨t2,fc,[],0⟩] scope spos) (.list (as.flatMap λa=>(bs a).map (g a))):=by
 have:=Kr (spos:=spos) as inj bs zj (λz z=>aI) g sc src hk hsz turn hs GF;simpa only [kz] using this
theorem pS{ys:List V}(h:pd k mu env e t ctx xs)(e1:xs=ys):pd k mu env e t ctx ys:=e1▸h
noncomputable def Qz:List Int:=[871261,18183,223382,230704,2030521,1350021,8139969]
noncomputable def LM(sc:List Int)(q:Nat×Int):Int:=(q.2+((jq (jq sc av (ae 60) av) (ae (q.1:Int)) av (ae 7)).map λn=>n % 12960000).sum) % 12960000
noncomputable def own7:List (Nat×Int):=Qz.zipIdx.map λq=>(q.2,q.1)
noncomputable def jR(sc:List Int):List Int:=own7.map (LM sc)
noncomputable def uY(ns:List Int):List Int:=ns.flatMap λn=>(aN 4).map λ(p:Nat)=>n / 60 ^ p % 60
theorem uZ{α:Type}(xs:List α)(lo hi st:Option Int):(jq xs lo hi st).length<=xs.length:=by
 unfold jq;refine aw (List.length_filterMap_le _ _) (sliceRange_length_le _ _ _ _ (λh=>?_) (λh=>?_))
 ·unfold c7 at h ⊢;simp only at h ⊢;refine aj (if_pos h ..) ?_;refine aj (if_pos h ..) ?_;constructor
  ·cases lo with
   |none=>simp
   |some i=>simp only [h,if_true];omega
  ·cases hi with
   |none=>simp
   |some i=>simp only [h,if_true];omega
 ·unfold c7 at h ⊢;simp only at h ⊢;refine aj (if_neg h ..) ?_;refine aj (if_neg h ..) ?_;constructor
  ·cases lo with
   |none=>simp
   |some i=>simp only [h,if_false];omega
  ·cases hi with
   |none=>simp
   |some i=>simp only [h,if_false];omega
theorem pT(a n:Nat):zv (a:Int) ((a+n:Nat):Int) 1=(aN n).map (a+·):=by
 unfold zv;refine aj (if_pos (by decide) ..) ?_;by_cases h:0 < n
 ·refine aj (if_pos (by lia) ..) ?_;have:(((a+n:Nat):Int) - (a:Int)+1 - 1) / 1=n:=by simp;lia
  simp only [this,b8];refine b5 λk z=>?_;simp only [sS];lia
 ·have:n=0:=by lia
  subst this;refine aj (if_neg (by simp) ..) ?_;rfl
theorem pU{α:Type}(xs:List α)(a n:Nat):((aN n).map (a+·)).filterMap (xs[·]?)=(xs.drop a).take n:=by
 induction n with
 |zero=>simp
 |succ n ih=>
  refine aj (qg ..) ?_;refine aj (bj ..) ?_;refine aj (List.filterMap_append ..) ?_;refine aj (ih ..) ?_;refine aj (dE ..) ?_;congr 1;refine aj (Am ..) ?_;cases h:xs[a+n]? with
  |none=>simp [h]
  |some y=>simp [h]
theorem LN{α:Type}{xs:List α}{a b:Nat}(xa:a<=b)(hb:b<=xs.length):jq xs (ae (a:Int)) (ae (b:Int)) av=(xs.drop a).take (b - a):=by
 have e:c7 (ae (a:Int)) (ae (b:Int)) av xs.length=((a:Int),((a+(b - a):Nat):Int),1):=by
  unfold c7;have h1:¬(a:Int) < 0:=by lia
  have h2:¬(b:Int) < 0:=by lia
  simp only [Option.getD_none,h1,h2,if_false,show (1:Int) > 0 from by decide,if_true];refine TP ?_ (TP ?_ rfl) <;> simp only <;> lia
 unfold jq;refine aj (e ..) ?_;simp only;refine aj (pT ..) ?_;refine aj (pU ..) ?_;rfl
theorem ON{α:Type}{xs:List α}{b:Nat}:jq xs av (ae (b:Int)) av=xs.take b:=by
 have e:c7 av (ae (b:Int)) av xs.length=(((0:Nat):Int),((0+min b xs.length:Nat):Int),1):=by
  unfold c7;have h2:¬(b:Int) < 0:=by omega
  simp only [Option.getD_none,h2,if_false,show (1:Int) > 0 from by decide,if_true];refine TP ?_ (TP ?_ rfl) <;> simp only <;> omega
 unfold jq;refine aj (e ..) ?_;simp only;refine aj (pT ..) ?_;refine aj (pU ..) ?_;refine aj (fy ..) ?_;by_cases h:b<=xs.length
 ·(refine aj (Nat.min_eq_left h ..) ?_;rfl)
 ·(refine aj (Nat.min_eq_right (by omega) ..) ?_;refine aj (d6 (bp _) ..) ?_;refine aj (d6 (by omega) ..) ?_;rfl)
theorem law_0(H:Hy G){pm doc:ai}(he:du (bT pm doc L)){sc:List Int}(Um:sc.length<=63)(hS:Sv vs [(0,.list (sc.map .int))])
 (next:∀vs,Sv vs [(4,.list ((uY (jR sc)).map .int)),(3,.list ((jR sc).map .int)),(0,.list (sc.map .int))]->WS (k+8) (cw L vs::mu) (bT pm doc L) (mw 2) Θ):
 WS (k+8) (cw L vs::mu) (bT pm doc L) (mw 0) Θ:=by
 have hf:∀{vs},bq L (aM (L+1) (bk (cN 23)).names) vs∈cw L vs::mu:=aa;refine aC (bX (y:= .list ((jR sc).map .int)) (bM (jP own7 (λq=> .tup [.int (q.1:Nat),.int q.2]) (λq=> .int (LM sc q)) ⟨rfl,rfl,by decide+kernel,by decide+kernel⟩ (pS (IX (iN H he H.b_enumerate rfl) (f9 (xs:=Qz.map .int) (au aU (au aU (au aU (au aU (au aU (au aU (au aU aT))))))) (by decide))) rfl) (by lia) (by decide) (λC1 a ha=>tI 1 2 he.comp .loc .loc dk (λhb=>(br (br (ah (j:=2) he.comp .loc aa rfl) (ek (j4 H he.comp H.b_sum rfl) (au (cP (jP (jq (jq sc av (ae 60) av) (ae (a.1:Int)) av (ae 7)) .int (λn=> .int (n % 12960000)) ⟨rfl,rfl,by decide+kernel,by decide+kernel⟩ (pS (dA (bF (dD (bF (dD (ah (j:=0) he.comp (.cell (L+1) "script") (ab _ hf) (hS.get rfl))) (jo dM (eO aU) dM) (pg (by decide) (by simp;exact aw (by assumption) (by decide))))) (jo (eO (ah (j:=1) he.comp .loc aa rfl)) dM (eO aU)) (pg (by decide) (by have:=uZ (sc.map V.int) av (ae 60) av;simp at this;lia)))) (by rw [jr,jr])) (by lia) (by have:=uZ (jq sc av (ae 60) av) (ae (a.1:Int)) av (ae 7);have:=uZ sc av (ae 60) av;lia) (λC2 a ha=>iu 1 he.comp.comp .loc dk (λhb=>(br (ah (j:=1) he.comp.comp .loc aa rfl) aU (fk (by decide))))))) aT) uN) fC) aU (fk (by decide)))))) (by rw [jR,a0];rfl)) (aQ (i:=0) (j:=3) he (.cell (L+2) "numbers") rfl ?_) rfl rfl);have hS1:=hS.set (j:=3) (y:= .list ((jR sc).map .int));refine aC (bX (y:= .list ((uY (jR sc)).map .int)) (bM (Hx (jR sc) .int (λz=>aN 4) nV (λn (p:Nat)=> .int (n / 60 ^ p % 60)) ⟨rfl,rfl,by decide+kernel,by decide+kernel⟩ (dA (ah (j:=3) he (.cell (L+2) "numbers") hf (hS1.get rfl))) (by lia) (aw (ll (show ((jR sc).flatMap λz=>aN 4).length=28 from rfl)) (by decide)) (λC a ha=>LK 1 2 he.comp .loc .loc rfl (fK (n:=4) (iN H he.comp H.b_range rfl) aU rfl (by decide)) (λb hb=>br (br (ah (j:=1) he.comp .loc aa rfl) (br aU (ah (j:=2) he.comp .loc aa rfl) (BR (by decide) (by have:=aY.mp hb;lia))) (l9 ?_)) aU (fk (by decide))))) (by unfold uY;rw [uv];simp only [a0];rfl)) (aQ (i:=0) (j:=4) he (.cell (L+3) "draws") rfl ?_) rfl rfl)
 ·have:=aY.mp hb;rcases (by lia:b=0\/b=1\/b=2\/b=3) with rfl|rfl|rfl|rfl <;> decide
 ·exact next _ hS1.set
end
variable {ds:List Nat}{ns:List Int}{n6:Nat}
section
variable {Q:Vw}
theorem R7{x:bb}{n:Int}(h:MulOk x n):xP k mu .Mult (bZ (.str x)) (bZ (.int n)) (bZ (.str (Txt.mul x n))):=⟨λ{z z z z z z z z} hA R hp hq q=>aZ.strC hp λt=>aZ.intC hq λu=>SB.mul h λt' k=>q .rfl (aZ.str _ _) R.toks⟩
theorem OO(hl:EV k mu env l (me mu xs))(hr:EV k mu env r (me mu ys))(hz:xs.length+ys.length<=2 ^ 23)(hΦ:∀D,fL D (bl D (xs++ys)::mu) Φ):WE k mu env (.BinOp l .Add r p) Φ:=⟨λ{A E Z s fr Q} hA r0 q=>by
 with_reducible refine NM ?_
 refine hl.c hA r0 λ{v s1 Z1} z1 p1 r1=>hr.c hA r1 λ{u s2 Z2} z2 p2 r2=>cE (me.at ((me mu xs).mono _ _ _ z2 p1) r2) λa vs n dO h1 h2=>?_;subst dO;refine cE (me.at p2 r2) λb ws m eT h3 h4=>?_;subst eT;refine PySem.P.add_list (n:=n) (n2:=m) (items:=vs) (items2:=ws) h1 h3 ?_ (by (refine fZ (b9 h2 ..) ?_;refine fZ (b9 h4 ..) ?_);exact aw hz (show 2 ^ 23<=2 ^ 24 by decide));exact (hΦ s2.heap.objs.size).c (fr:=fr) (r2.addNew (tk:=s2.toks) (bl s2.heap.objs.size (xs++ys)) (λb o e=>az _ e) ⟨vs++ws,0,aW _ rfl,by refine aj (lB ..) ?_;exact h2.append h4⟩ eg λz h=>kX h) λ{z z z} z3=>q (z1.trans (z2.trans z3))⟩
structure Dr(ds:List Nat)(ns:List Int)(n6:Nat):Prop where
 len:ds.length=28
 lt:∀d∈ds,d < 60
 nlen:ns.length=7
 six:ns[6]? =ae (n6:Int)
 nlt:n6 < 12960000
noncomputable def dr(ds:List Nat)(i:Nat):Nat:=ds.getD i 0
theorem Dr.at(h:Dr ds ns n6){i:Nat}(hi:i < 28):ds[i]? =ae (dr ds i):=by unfold dr;refine aj (bR ..) ?_;refine aj (bJ (by rw [h.len];exact hi) ..) ?_;rfl
theorem Dr.dlt(h:Dr ds ns n6)(i:Nat):dr ds i < 60:=by
 unfold dr;refine aj (bR ..) ?_;cases e:ds[i]? with
 |none=>decide
 |some d=>exact h.lt d (ao e)
noncomputable def aF(ds:List Nat):Nat:=dr ds 24 % 28
theorem eI(ds:List Nat):aF ds < 28:=ee _ (by decide)
noncomputable def LP(ds:List Nat):List (Nat×Nat):=[2,3,4,5].map λb=>(dr ds (b - 2) % b,b)
noncomputable def LQ(ds:List Nat):List (Nat×Nat):=[4,6,8].map λq=>(dr ds q % 6,1+dr ds (q+1) % 5)
noncomputable def dm(ds:List Nat):List (Nat×Nat):=[(0,1)]++LP ds++LQ ds
noncomputable abbrev kH(q:Nat×Nat):V:= .tup [nV q.1,nV q.2]
noncomputable def cc(ds:List Nat)(b:Nat):Nat:=((ds.drop 18).take b).sum+b
noncomputable def rY(low:Nat):V:= .list ((aN 6).map λb=> .str (cB (low+b)))
theorem OP:∀i,i < 33->i < 10->oJ.getD i ""=cB i:=by decide+kernel
theorem OQ:∀i,i < 33->¬i < 10->(("0x":bb)++⟨#[[49,50,52,56].getD (i % 4) 0]⟩)++Txt.mul "0" ((i / 4:Nat):Int)=cB i:=by decide+kernel
noncomputable def LR:bb:="OPTIMIZED NEWLOCALS VARARGS VARKEYWORDS NESTED GENERATOR NOFREE COROUTINE ITERABLE_COROUTINE ASYNC_GENERATOR"
theorem D6:Txt.words LR=oJ:=by decide+kernel
theorem R8:∀i,i < 33->MulOk "0" ((i / 4:Nat):Int):=λi hi=>by
 have h:i / 4<=8:=by lia
 generalize i / 4=j at h;refine ⟨by refine gj (Bool.or_eq_false_iff ..) ?_;constructor <;> (apply decide_eq_false;lia),λh1 z=>?_,λh1 z=>?_⟩
 ·rcases (by lia:j=1\/j=2\/j=3\/j=4\/j=5\/j=6\/j=7\/j=8) with rfl|rfl|rfl|rfl|rfl|rfl|rfl|rfl <;> decide
 ·rcases (by lia:j=1\/j=2\/j=3\/j=4\/j=5\/j=6\/j=7\/j=8) with rfl|rfl|rfl|rfl|rfl|rfl|rfl|rfl <;> decide
theorem OR:∀i,i < 33->(Txt.mul "0" ((i / 4:Nat):Int)).length<=8:=by decide+kernel
noncomputable def D7(S:List (Nat×V)):List (Nat×V)->Prop
 |[]=>True
 |q::r=>S.lookup q.1=ae q.2/\D7 S r
theorem D7.at{S:List (Nat×V)}:∀{S':List (Nat×V)},D7 S S'->∀j y,S'.lookup j=ae y->S.lookup j=ae y
 |[],_,j,y,e=>by exact gK e
 |q::r,h,j,y,e=>by
  rw [lh] at e;by_cases hj:j=q.1
  ·subst hj;rw [show (q.1 == q.1)=aI from by simp] at e
   (have lA:=aO e;clear e;subst lA)
   exact h.1
  ·rw [show (j == q.1)=aH from by simpa using hj] at e;exact D7.at h.2 j y e
theorem Sv.sub{S':List (Nat×V)}(h:Sv vs S)(hs:D7 S S'):Sv vs S':=⟨h.len,λj y e=>h.at' j y (hs.at j y e)⟩
def yA.S0(k:Nat)(mu:Mu)(vs:ej)(L:ay)(ds:List Nat)(ns:List Int)(pm doc:ai):Prop:=∀{Θ:AF->Mu->Prop} {n6:Nat} (H:Hy G) (he:du (bT pm doc L)) (hD:Dr ds ns n6) (hS:Sv vs [(4,.list (ds.map nV)),(3,.list (ns.map .int))]) (next:∀vs,Sv vs [(7,rY (aF ds)),(5,nV (aF ds)),(4,.list (ds.map nV)),(3,.list (ns.map .int))]->WS (k+8) (cw L vs::mu) (bT pm doc L) (mw 4) Θ),WS (k+8) (cw L vs::mu) (bT pm doc L) (mw 2) Θ
namespace yA
@[irreducible] def e0:=Nz eN gD gD cL gD gD gL gL S0
def k_:=e0.1
def fb:=e0.2.1
def kR:=e0.2.2.1
def L_:=e0.2.2.2.1
def aV:=e0.2.2.2.2.1
def Hz:=e0.2.2.2.2.2.1
def pj:=e0.2.2.2.2.2.2.1
def g8:=e0.2.2.2.2.2.2.2
theorem T0:S0 k_ fb kR L_ aV Hz pj g8:=by
 intro Θ n6 H he hD hS next
 have hf:∀{kR},bq L_ (aM (L_+1) (bk (cN 23)).names) kR∈cw L_ kR::fb:=aa;have d7:=eI aV;refine aC (bX (y:= .tup [nV (aF aV),.list (oJ.map .str)]) (f9 (xs:=[nV (aF aV),.list (oJ.map .str)]) (au (br (bF (dD (ah (j:=4) he (.cell (L_+3) "draws") hf (hS.get rfl))) aU (ew (hD.at (i:=24) (by decide)) (by refine aj (hD.len ..) ?_;decide))) aU (fk (by decide))) (au (bM (f7 cO mL aT (Ik (x:=LR) (by decide+kernel) (by decide+kernel)) (by exact eM) (by exact jX) (by exact Np) rfl) (by (refine aj (D6 ..) ?_;rfl))) aT)) (by show 2<=2 ^ 20;decide)) (i7 (cv rfl rfl (aQ (i:=0) (j:=5) he (.cell (L_+4) "low") rfl (cv rfl rfl (aQ (i:=0) (j:=6) he (.cell (L_+5) "known") rfl (iX ?_)))))) rfl rfl);have hS2:=(hS.set (j:=5) (y:=nV (aF aV))).set (j:=6) (y:= .list (oJ.map .str));refine aC (bX (y:=rY (aF aV)) (jP (aN 6) (λb=> .int ((aF aV:Int)+(b:Nat))) (λb=> .str (cB (aF aV+b))) ⟨rfl,rfl,by decide+kernel,by decide+kernel⟩ (pS (qw (iN H he H.b_range rfl) (ah (j:=5) he (.cell (L_+4) "low") hf (hS2.get rfl)) (br (ah (j:=5) he (.cell (L_+4) "low") hf (hS2.get rfl)) aU fC) (by lia) (by lia)) (by unfold rC;(refine aj (show ((aF aV:Int)+6 - (aF aV:Int)).toNat=6 by lia) ?_;rfl))) (by lia) (by decide) (λC1 a ha=>by
  have PW:=aY.mp ha;have h33:aF aV+a < 33:=by lia
  have ec:(aF aV:Int)+(a:Nat)=((aF aV+a:Nat):Int):=by lia
  refine aj (ec ..) ?_;generalize aF aV+a=i at h33;refine iu 1 he.comp .loc dk (λhb=>?_);have h10:decide ((i:Int) < 10)=decide (i < 10):=by
   by_cases h:i < 10
   ·(refine aj (decide_eq_true h ..) ?_;refine aj (decide_eq_true (by lia) ..) ?_;rfl)
   ·(refine aj (decide_eq_false h ..) ?_;refine aj (decide_eq_false (by lia) ..) ?_;rfl)
  refine uH (b:=decide (i < 10)) (oV (c9 (ah (j:=1) he.comp .loc aa rfl) aU Da) h10) (λh=>?_) (λh=>?_)
  ·have hi:=of_decide_eq_true h;exact fZ (OP i h33 hi ..) (bF (dD (ah (j:=6) he.comp (.cell (L_+5) "known") (ab _ hf) (hS2.get rfl))) (ah (j:=1) he.comp .loc aa rfl) (ew (a:=oJ.getD i "") (by (refine aj (bR ..) ?_;refine aj (bJ (show i < oJ.length from hi)) ?_);rfl) (by decide)))
  ·have hi:=of_decide_eq_false h;refine fZ (OQ i h33 hi ..) (br (br cO (bF cO (br (ah (j:=1) he.comp .loc aa rfl) aU (fk (by decide))) (gi_s (c:=[49,50,52,56].getD (i % 4) 0) ?_ ?_ ?_ (by decide))) (FB (by show 2+1<=2 ^ 24;decide))) (br cO (br (ah (j:=1) he.comp .loc aa rfl) aU (l9 (by decide))) (R7 (R8 i h33))) (FB ?_))
   ·have e2:((i:Int) % 4)=((i % 4:Nat):Int):=by lia
    refine aj (e2 ..) ?_;have h4:i % 4 < 4:=ee _ (by decide);generalize i % 4=m at h4;rcases (by lia:m=0\/m=1\/m=2\/m=3) with rfl|rfl|rfl|rfl <;> rfl
   ·show -(4:Int)<=_;lia
   ·lia
   ·have:=OR i h33;show 3+_<=2 ^ 24;have e3:((i:Int) / 4)=((i / 4:Nat):Int):=by lia
    refine aj (e3 ..) ?_;lia)) (aQ (i:=0) (j:=7) he (.cell (L_+6) "names") rfl ?_) rfl rfl)
 have hS3:=hS2.set (j:=7) (y:=rY (aF aV));exact next _ (hS3.sub ⟨rfl,rfl,rfl,rfl,trivial⟩)
end yA
theorem yA{pm doc:ai}:yA.S0 k mu vs L ds ns pm doc:=by with_unfolding_all exact Bz _ _ _ _ _ _ _ _ yA.S0 @yA.T0 k mu vs L ds ns pm doc
end
theorem OS{op:CB}{P Q:Vw}{z z':V}(h:xP k mu op P Q (bZ z))(e:z=z'):xP k mu op P Q (bZ z'):=e▸h
theorem Ga{es:List (bb×V)}{x:bb}(h:x∉es.map (·.1)):jF es x y=es++[(x,y)]:=by unfold jF;rw [if_neg];intro h2;rw [cS] at h2;refine aK h2 λq hq hx=>?_;clear h2;exact h (aG.mpr ⟨q,hq,by simpa using hx⟩)
theorem D8:∀(ps es:List (bb×V)),((es++ps).map (·.1)).Nodup->ps.foldl (λes q=>jF es q.1 q.2) es=es++ps
 |[],es,_=>by simp
 |q::ps,es,h=>by
  have hq:q.1∉es.map (·.1):=λhm=>by
   rw [bj,bP] at h;exact h.2.2 _ hm _ aa rfl
  refine aj (fF ..) ?_;refine aj (Ga hq ..) ?_;refine aj (D8 ps (es++[(q.1,q.2)]) (by simpa using h) ..) ?_;simp
theorem D9{ps:List (bb×V)}(h:(ps.map (·.1)).Nodup):rF ps=ps:=by have:=D8 ps [] (by exact h);exact this
theorem yB{α:Type}{ke ve iter:bH}{spos:jC}(B:g7 G)(as:List α)(inj:α->V)(g:α->bb×V)(sc:Fb scope env cl)(src:pd k mu env iter t ctx (as.map inj))(hk:1<=k)(hsz:as.length<=2 ^ 21)
 (turn:∀C a,a∈as->AC k mu scope C (pf scope cl C env) t [] ke ve (inj a) aI (g a).1 (g a).2) (hnd:(as.map λa=>(g a).1).Nodup) (hΘ:∀D,fL D (cD D (as.map g)::mu) Φ) (hs:autoParam (∀x,bw iter env x=dg x) aR):
 WE k mu env (.DictComp ke ve [⟨t,iter,[],0⟩] scope spos) Φ:=
 WE_dc B as inj (λz=>aI) g sc src hk hsz turn (λD=>by
  refine aj (kz ..) ?_;refine aj (D9 (by rw [a0];exact hnd) ..) ?_;exact hΘ D) hs
theorem jx{low:Nat}(hl:low < 28):∀l:List Nat,(∀b∈l,b < 6)->l.Nodup->(l.map λb=>cB (low+b)).Nodup
 |[],_,_=>by simp
 |a::l,h6,hn=>by
  refine aj (bA ..) ?_;refine gj (cg ..) ?_;rw [cg] at hn;refine ⟨λhm=>?_,jx hl l (λb hb=>h6 b (ab _ hb)) hn.2⟩;refine aK (aG.mp hm) λb hb e=>?_;have h1:=h6 b (ab _ hb);have h2:=h6 a aa;have:=qC (low+b) (by lia) (low+a) (by lia) e;have:b=a:=by lia
  subst this;exact hn.1 hb
theorem zip6:(aN 6).zipIdx=(aN 6).map λb=>(b,b):=rfl
def yC.S0(k:Nat)(mu:Mu)(vs:ej)(L:ay)(ds:List Nat)(ns:List Int)(pm doc:ai):Prop:=∀{Θ:AF->Mu->Prop} {n6:Nat} (H:Hy G) (he:du (bT pm doc L)) (hD:Dr ds ns n6) (hS:Sv vs [(7,rY (aF ds)),(5,nV (aF ds)),(4,.list (ds.map nV)),(3,.list (ns.map .int))]) (next:∀vs A,Sv vs [(11,.list ((aN 7).map λb=>nV (cc ds b))),(10,.ref A),(42,.dict (qD (aF ds))),(7,rY (aF ds)),(5,nV (aF ds)),(4,.list (ds.map nV)),(3,.list (ns.map .int))]->WS (k+8) (bl A ((dm ds).map kH)::cw L vs::mu) (bT pm doc L) (mw 7) Θ),WS (k+8) (cw L vs::mu) (bT pm doc L) (mw 4) Θ
namespace yC
@[irreducible] def e0:=Nz eN gD gD cL gD gD gL gL S0
def k_:=e0.1
def fb:=e0.2.1
def kR:=e0.2.2.1
def L_:=e0.2.2.2.1
def aV:=e0.2.2.2.2.1
def Hz:=e0.2.2.2.2.2.1
def pj:=e0.2.2.2.2.2.2.1
def g8:=e0.2.2.2.2.2.2.2
theorem T0:S0 k_ fb kR L_ aV Hz pj g8:=by
 intro Θ n6 H he hD hS next
 have hf:∀{kR},bq L_ (aM (L_+1) (bk (cN 23)).names) kR∈cw L_ kR::fb:=aa;have d7:=eI aV;refine aC (b4 (yB H.B ((aN 6).zipIdx) (λq=> .tup [.int (q.2:Nat),.str (cB (aF aV+q.1))]) (λq=>(cB (aF aV+q.1),nV (2 ^ (aF aV+q.2)))) ⟨rfl,rfl,by decide+kernel,by decide+kernel⟩ (sC (iN H he H.b_enumerate rfl) (ah (j:=7) he (.cell (L_+6) "names") hf (hS.get rfl))) (by lia) (by decide) (λC2 a ha=>KF 1 2 he.comp .loc .loc dk (λhb=>(ah (j:=2) he.comp .loc aa rfl)) (λhb=>bM (br aU (br (ah (j:=5) he.comp (.cell (L_+4) "low") (ab _ hf) (hS.get rfl)) (ah (j:=1) he.comp .loc aa rfl) fC) (Kf ?_ ?_ (by decide))) ?_)) ?_ (λD=>fL.dict (aQ (i:=0) (j:=42) he (.cell (L_+16) "flags") rfl ?_))) rfl rfl)
 ·have:=dJ (n:=aF aV);have:=dJ (n:=a.2);lia
 ·rw [zip6] at ha;refine aK (aG.mp ha) λb hb dO=>?_;subst dO;have:=aY.mp hb;show (aF aV:Int)+(b:Int)<=_;lia
 ·show V.int (1*2 ^ ((aF aV:Int)+(a.2:Int)).toNat)=nV (2 ^ (aF aV+a.2));refine aj (show ((aF aV:Int)+(a.2:Int)).toNat=aF aV+a.2 by lia) ?_;refine aj (sS ..) ?_;refine congrArg V.int ?_;simp
 ·(refine aj (zip6 ..) ?_;refine aj (a0 ..) ?_)
  exact jx d7 (aN 6) (λb hb=>aY.mp hb) lp
 have hS1:=hS.set (j:=42) (y:= .dict (qD (aF aV)));have dw:∀{C:ay} {scope:eU} {rr:ej},bq L_ (aM (L_+1) (bk (cN 23)).names) rr∈nE scope C kR::cw L_ rr::fb:=ab _ aa;refine aC (b4 (OO (xs:=([(0,1)]++LP aV).map kH) (ys:=(LQ aV).map kH) (dD (bM (br (dD (ij (xs:=[kH (0,1)]) (au (f9 (xs:=[nV 0,nV 1]) (au aU (au aU aT)) (by show 2<=2 ^ 20;decide)) aT) (by show 1<=2 ^ 20;decide))) (dD (jP [2,3,4,5] nV (λb=>kH (dr aV (b - 2) % b,b)) ⟨rfl,rfl,by decide+kernel,by decide+kernel⟩ (pS (qw (iN H he H.b_range rfl) aU aU (by decide) (by decide)) rfl) (by lia) (by decide) (λC3 a ha=>iu 1 he.comp .loc dk (λhb=>?_)))) (uM ?_)) ?_)) (dD (jP [4,6,8] nV (λq=>kH (dr aV q % 6,1+dr aV (q+1) % 5)) ⟨rfl,rfl,by decide+kernel,by decide+kernel⟩ (xA (f9 (xs:=[nV 4,nV 6,nV 8]) (au aU (au aU (au aU aT))) (by show 3<=2 ^ 20;decide))) (by lia) (by decide) (λC4 a ha=>iu 1 he.comp .loc dk (λhb=>?_)))) ?_ (λA=>fL.ref (aQ (i:=1) (j:=10) he (.cell (L_+9) "arms") rfl ?_))) rfl rfl)
 ·have h25:2<=a/\a < 6:=by simp at ha;lia
  refine f9 (xs:=[nV (dr aV (a - 2) % a),nV a]) (au (bM (br (bF (dD (ah (j:=4) he.comp (.cell (L_+3) "draws") (ab _ aa) (hS1.get rfl))) (bM (br (ah (j:=1) he.comp .loc aa rfl) aU vL) (show V.int ((a:Int) - 2)=nV (a - 2) from congrArg V.int (by lia))) (ew (hD.at (i:=a - 2) (by lia)) (by refine aj (hD.len ..) ?_;decide))) (ah (j:=1) he.comp .loc aa rfl) (fk (by lia))) (by show V.int _=V.int _;congr 1)) (au (ah (j:=1) he.comp .loc aa rfl) aT)) (by show 2<=2 ^ 20;decide)
 ·show 1+4<=2 ^ 23;decide
 ·rfl
 ·have h9:a < 9:=by simp at ha;lia
  refine f9 (xs:=[nV (dr aV a % 6),nV (1+dr aV (a+1) % 5)]) (au (br (bF (dD (ah (j:=4) he.comp (.cell (L_+3) "draws") (ab _ aa) (hS1.get rfl))) (ah (j:=1) he.comp .loc aa rfl) (ew (hD.at (i:=a) (by exact cb (by assumption) (by decide))) (by refine aj (hD.len ..) ?_;decide))) aU (fk (by decide))) (au (br aU (br (bF (dD (ah (j:=4) he.comp (.cell (L_+3) "draws") (ab _ aa) (hS1.get rfl))) (br (ah (j:=1) he.comp .loc aa rfl) aU fC) (ew (hD.at (i:=a+1) (by lia)) (by refine aj (hD.len ..) ?_;decide))) aU (fk (by decide))) fC) aT)) (by show 2<=2 ^ 20;decide)
 ·show 5+3<=2 ^ 23;decide
 have hS2:=hS1.set (j:=10) (y:= .ref A);refine fZ (bj ..) (aC (FM (aN 7) nV (λb=>nV (cc aV b)) ⟨rfl,rfl,by decide+kernel,by decide+kernel⟩ (fK (n:=7) (iN H he H.b_range rfl) aU rfl (by decide)) (by lia) (by decide) (λC5 a ha=>iu 1 he.comp .loc dk (λhb=>?_)) rfl (λD=>fL.list (aQ (i:=1) (j:=11) he .loc rfl (next _ A ((hS2.set (j:=11)).sub ⟨rfl,rfl,rfl,rfl,rfl,rfl,rfl,trivial⟩))))));have h7:=aY.mp ha;refine br (ek (j4 H he.comp H.b_sum rfl) (au (dD (bM (bF (dD (ah (j:=4) he.comp (.cell (L_+3) "draws") (ab _ (ab _ aa)) (hS2.get rfl))) (jo (eO aU) (eO (br aU (ah (j:=1) he.comp .loc aa rfl) fC)) dM) (pg (by decide) (by simp [hD.len]))) (y:= .list (((aV.drop 18).take a).map nV)) ?_)) aT) (uN (l:=(aV.drop 18).take a) (f:=λ(n:Nat)=>(n:Int)))) (ah (j:=1) he.comp .loc aa rfl) ?_
 ·refine aj (jr ..) ?_;have:=LN (xs:=aV) (a:=18) (b:=18+a) (by exact dC _ _) (by refine aj (hD.len ..) ?_;lia);rw [show (((18+a:Nat):Int))=18+(a:Int) from by lia,show 18+a - 18=a by lia] at this;refine fZ (this ..) ?_;rfl
 ·have e:(((aV.drop 18).take a).map λ(n:Nat)=>(n:Int)).sum+(a:Int)=((cc aV a:Nat):Int):=by
   unfold cc;have:∀l:List Nat,(l.map λ(n:Nat)=>(n:Int)).sum=((l.sum:Nat):Int):=λl=>by
    induction l with
    |nil=>rfl
    |cons b l ih=>simp only [bA,da,ih];lia
   refine aj (this ..) ?_;lia
  exact OS fC (congrArg V.int e)
end yC
theorem yC{pm doc:ai}:yC.S0 k mu vs L ds ns pm doc:=by with_unfolding_all exact Bz _ _ _ _ _ _ _ _ yC.S0 @yC.T0 k mu vs L ds ns pm doc
noncomputable def mN(n w:Int):Nat:=if w % 3 == 0 then 3 else 1+(if decide (63 < n) then 1 else 0)
noncomputable def pV(n w:Int)(i:Nat):Int:=n / 64 ^ i % 64+64*(if decide ((0:Int) < i) then 1 else 0)+128*(w / ((i:Int)+1) % 2)
noncomputable def gm(n w:Int):List Int:=jq ((aN (mN n w)).map (pV n w)) av av (ae (-1))
theorem kZ(n w:Int):mN n w=3\/mN n w=1\/mN n w=2:=by
 unfold mN;split
 ·exact .inl rfl
 ·split
  ·exact .inr (.inr rfl)
  ·exact .inr (.inl rfl)
theorem pow64{a:Nat}(h:a < 3):(0:Int) < 64 ^ a/\(64:Int) ^ a < 2 ^ 30:=by exact TS h (by decide) (by decide) (by decide)
theorem LS(H:Hy G){n w:Int}:FW (k+2) mu (.ref 285) [.int n,.int w] λy nu=>y= .list ((gm n w).map .int)/\nu=mu:=by
 refine th H H.f285 (names:=["number","way"]) (vals':=λL=>[ae (.int n),ae (.int w)]) (λpm cd doc vs h=>?_) (by decide+kernel) rfl (λpm cd doc L=>?_) (λpm cd doc L he=>?_)
 ·exact zR h λa b=>rfl
 ·exact .cons (j:=0) (.cell (L+1) "number") rfl (.cons (j:=1) (.cell (L+2) "way") rfl .nil)
 have hc:=kZ n w;have hcc:(if w % 3 == 0 then (3:Int) else 1+(if decide (63 < n) then 1 else 0))=(mN n w:Nat):=by unfold mN;split <;> first|rfl|(split <;> rfl)
 refine aC (gw (cf (y:= .list ((gm n w).map .int)) (bM
  (bF (cP (jP _ _ _ ⟨rfl,rfl,by decide+kernel,by decide+kernel⟩ (fK (iN H he H.b_range rfl) (RD (c9 (cP (br (cP (ah (j:=1) he (.cell (L+2) "way") aa rfl)) (cP aU) (by exact fk (by decide)))) (cP aU) (by exact qu)) (λh=>aU) (λh=>(br (cP aU) (cP (iZ (iN H he H.b_int rfl) (au (cP (mJ (cP (ah (j:=0) he (.cell (L+1) "number") aa rfl)) (cP aU) (by exact G3))) aT) (by exact rG))) (by exact fC)))) hcc (by lia)) (by lia) (by (simp only [ak,fq,eX,ba] <;> lia)) (λC1 a ha=>iu 1 he.comp .loc dk (λhb=>(br (cP (br (cP (br (cP (br (cP (ah (j:=0) he.comp (.cell (L+1) "number") (ab _ aa) rfl)) (cP (br (cP aU) (cP (ah (j:=1) he.comp .loc aa rfl)) (BR (by decide) ?a1))) (l9 ?a2))) (cP aU) (by exact fk (by decide)))) (cP (br (cP aU) (cP (iZ (iN H he.comp H.b_int rfl) (au (cP (mJ (cP (ah (j:=1) he.comp .loc aa rfl)) (cP aU) (by exact G3))) aT) (by exact rG))) (by exact mY (by decide)))) (by exact fC))) (cP (br (cP aU) (cP (br (cP (br (cP (ah (j:=1) he.comp (.cell (L+2) "way") (ab _ aa) rfl)) (cP (br (cP (ah (j:=1) he.comp .loc aa rfl)) (cP aU) (by exact fC))) (l9 ?a3))) (cP aU) (by exact fk (by decide)))) (by exact mY (by decide)))) (by exact fC)))))) (jo dM dM (eO (o8 aU))) (by exact pg (by decide) (by (simp only [ak,fq,eX,ba] <;> lia))))
  ?a6) (ki ⟨rfl,rfl⟩)))
 case a1=>have:=aY.mp ha;omega
 case a2=>exact pow64 (by have:=aY.mp ha;omega)
 case a3=>have:=aY.mp ha;omega
 case a6=>unfold gm;rw [<- jr,a0];rfl
theorem tQ{n w:Int}(h:mN n w=3):gm n w=[pV n w 2,pV n w 1,pV n w 0]:=by unfold gm;rw [h,jr,show jq (aN 3) av av (ae (-1))=[2,1,0] from by decide+kernel];rfl
theorem yD{n w:Int}(h:mN n w=2):gm n w=[pV n w 1,pV n w 0]:=by unfold gm;rw [h,jr,show jq (aN 2) av av (ae (-1))=[1,0] from by decide+kernel];rfl
theorem yE{n w:Int}(h:mN n w=1):gm n w=[pV n w 0]:=by unfold gm;rw [h,jr,show jq (aN 1) av av (ae (-1))=[0] from by decide+kernel];rfl
theorem wa(n:Nat)(w:Int)(i:Nat):uU (pV n w i).toNat (n / 64 ^ i % 64) (decide (0 < i)):=by
 have e:(n:Int) / 64 ^ i % 64=((n / 64 ^ i % 64:Nat):Int):=by simp
 have hb:n / 64 ^ i % 64 < 64:=ee _ (by decide);unfold pV;rw [e];generalize n / 64 ^ i % 64=d at*;have h2:=Int.emod_two_eq (w / ((i:Int)+1));constructor
 ·rcases h2 with h|h <;> rw [h] <;> split <;> lia
 ·by_cases hi:0 < i
  ·have:(0:Int) < i:=by lia
   rcases h2 with h|h <;> rw [h] <;> simp [hi] <;> lia
  ·have:¬(0:Int) < i:=by lia
   rcases h2 with h|h <;> rw [h] <;> simp [hi] <;> lia
theorem sG{n:Nat}{w:Int}(hn:n < 4096)(rs:List Nat):mM ((gm n w).map uw++rs)=ae (n,rs):=by
 have o0:=wa n w 0;have o1:=wa n w 1;have o2:=wa n w 2;simp only [show decide (0 < 0)=aH from rfl,show decide (0 < 1)=aI from rfl,show decide (0 < 2)=aI from rfl] at o0 o1 o2;rcases kZ n w with h|h|h
 ·rw [tQ h];refine (vint3 o2 o1 o0).trans ?_;have:(n / 64 ^ 2 % 64*64+n / 64 ^ 1 % 64)*64+n / 64 ^ 0 % 64=n:=by lia
  rw [this];rfl
 ·rw [yE h];refine (vint1 o0).trans ?_;have h63:n < 64:=by
   unfold mN at h
   split at h
   ·exact absurd h (by decide)
   ·split at h
    ·exact absurd h (by decide)
    ·rename_i hd;simp at hd;lia
  have:n / 64 ^ 0 % 64=n:=by lia
  rw [this];rfl
 ·rw [yD h];refine (vint2 o1 o0).trans ?_;have:n / 64 ^ 1 % 64*64+n / 64 ^ 0 % 64=n:=by lia
  rw [this];rfl
section
set_option tactic.hygienic true
inductive BW(hs:List (List Nat))(block:Nat)(marks:List Nat):List Nat->Prop
 |one {c:_}:c∈hs.getD block []->BW hs block marks [c]
 |ext {w c d:_}:BW hs block marks w->w.getLast? =ae c->c∉marks->c≠block->d∈hs.getD c []->d∉w->BW hs block marks (w++[d])
structure zW(hs:List (List Nat)):Prop where
 len:hs.length=6
 lt:∀b,∀c∈hs.getD b [],c < 6
 nd:∀b,(hs.getD b []).Nodup
noncomputable def mO:Nat->Nat
 |0=>1
 |m+1=>1+(m+1)*mO m
noncomputable def xe(w:List Nat):Nat:=mO (6 - w.length)
structure WOk(w:List Nat):Prop where
 nd:w.Nodup
 lt:∀c∈w,c < 6
 ne:w≠[]
theorem tn:∀{l m:List Nat},l.Nodup->(∀a∈l,a∈m)->l.length<=m.length
 |[],_,_,_=>gp _
 |a::l,m,hn,hs=>by
  have ha:=hs a aa;refine dU (cg.mp hn) λh1 h2=>?_;have ih:=tn (m:=m.erase a) h2 λb hb=>(List.mem_erase_of_ne (show b≠a from λe=>h1 (e▸hb))).mpr (hs b (ab _ hb));rw [List.length_erase_of_mem ha] at ih;have:=List.length_pos_of_mem ha;simp only [bK];lia
theorem ez{w:List Nat}(nd:w.Nodup)(lt:∀c∈w,c < 6):w.length<=6:=by have h:w.length<=(aN 6).length:=tn nd λc hc=>aY.mpr (lt c hc);exact h
theorem BW.ok{hs:List (List Nat)}{block:Nat}{marks w:List Nat}(H:zW hs)(h:BW hs block marks w):WOk w:=by
 induction h with
 |one hc=>exact ⟨by simp,λc zp=>by refine aj (aA.mp zp ..) ?_;exact H.lt _ _ hc,by simp⟩
 |ext _ _ _ _ hd hn ih=>exact ⟨by
  refine gj (bP ..) ?_;exact ⟨ih.nd,by simp,λa ha b hb e=>by rw [aA.mp hb] at e;exact hn (e▸ha)⟩,λc hc=>by
  rcases bc.mp hc with h|h
  ·exact ih.lt c h
  ·refine aj (aA.mp h ..) ?_;exact H.lt _ _ hd,by simp⟩
noncomputable def j7(hs:List (List Nat))(block:Nat)(marks w:List Nat):List (List Nat):=
 match w.getLast? with
 |none=>[]
 |some c=>if c∈marks then [] else if c=block then [] else ((hs.getD c []).filter λd=>!decide (d∈w)).map λd=>w++[d]
theorem qI:∀m,0 < mO m
 |0=>by decide
 |m+1=>by unfold mO;lia
set_option tactic.hygienic true in
theorem IY{hs:List (List Nat)}{block:Nat}{marks w:List Nat}(H:zW hs)(hw:WOk w):((j7 hs block marks w).map xe).sum < xe w:=by
 unfold j7
 split
 ·simp [xe,qI]
 ·rename_i c hc
  split
  ·simp [xe,qI]
  split
  ·simp [xe,qI]
  ·generalize hl:(hs.getD c []).filter (λd=>!decide (d∈w))=l;have SO:l.length+w.length<=6:=by
    have h1:(l++w).Nodup:=by refine gj (bP ..) (⟨hl▸(H.nd c).filter _,hw.nd,λa ha b hb e=>?_⟩);rw [<- hl] at ha;have:=(bo.mp ha).2;simp at this;exact this (e▸hb)
    have:=ez h1 λa ha=>by
     rcases bc.mp ha with h|h
     ·rw [<- hl] at h;exact H.lt _ _ (bo.mp h).1
     ·exact hw.lt a h
    simpa using this
   have SY:((l.map λd=>w++[d]).map xe).sum=l.length*mO (6 - (w.length+1)):=by
    clear hl SO;induction l with
    |nil=>simp
    |cons a l ih=>
     simp only [bA,da,bK,ih];have:xe (w++[a])=mO (6 - (w.length+1)):=by simp [xe]
     (refine aj (this ..) ?_;refine aj (iS ..) ?_);lia
   refine aj (SY ..) ?_;unfold xe;by_cases h6:w.length=6
   ·have:l.length=0:=by lia
    (refine aj (this ..) ?_;refine aj (h6 ..) ?_);simp [mO]
   ·have P1:w.length < 6:=by lia
    obtain ⟨m,hm⟩:∃m,6 - w.length=m+1:=⟨5 - w.length,by lia⟩;have hm':6 - (w.length+1)=m:=by lia
    refine aj (hm ..) ?_;refine aj (hm' ..) ?_;rewrite [mO];have:l.length<=m+1:=by lia
    have:=xv (mO m) this;lia
structure nP(hs:List (List Nat))(block:Nat)(marks:List Nat)(i:Nat)(ws:List (List Nat)):Prop where
 ok:∀w∈ws,BW hs block marks w
 init:∀c∈hs.getD block [],[c]∈ws
 step:∀j w,j < i->ws[j]? =ae w->∀v∈j7 hs block marks w,v∈ws
 le:i<=ws.length
 room:i+((ws.drop i).map xe).sum<=2000
theorem nP.len{hs:List (List Nat)}{block:Nat}{marks:List Nat}{i:Nat}{ws:List (List Nat)}(h:nP hs block marks i ws):ws.length<=2000:=by
 have h1:(ws.drop i).length<=((ws.drop i).map xe).sum:=by
  generalize ws.drop i=l;induction l with
  |nil=>simp
  |cons a l ih=>simp only [bK,bA,da];have:=qI (6 - a.length);unfold xe at*;lia
 have:=h.room;have h2:=h.le;rw [fY] at h1;lia
theorem nP.start{hs:List (List Nat)}{block:Nat}{marks:List Nat}(H:zW hs):nP hs block marks 0 ((hs.getD block []).map λc=>[c]) where
 ok:=λw hw=>by obtain ⟨c,hc,rfl⟩:=aG.mp hw;exact .one hc
 init:=λc hc=>aG.mpr ⟨c,hc,rfl⟩
 step:=λj w hj=>absurd hj (GX _)
 le:=gp _
 room:=by
  have h1:(((hs.getD block []).map λc=>[c]).map xe).sum=(hs.getD block []).length*mO 5:=by
   generalize hs.getD block []=l;induction l with
   |nil=>simp
   |cons a l ih=>simp only [bA,da,bK,ih];have:xe [a]=mO 5:=rfl;(refine aj (this ..) ?_;refine aj (iS ..) ?_);lia
  have h2:=ez (H.nd block) (H.lt block);refine aj (fy ..) ?_;refine aj (h1 ..) ?_;have:mO 5=326:=by decide
  refine aj (this ..) ?_;lia
def nP.turn.S0(hs:List (List Nat))(block:Nat)(marks:List Nat)(i:Nat)(ws:List (List Nat))(w:List Nat):Prop:=∀(H:zW hs) (h:nP hs block marks i ws) (hw:ws[i]? =ae w),nP hs block marks (i+1) (ws++j7 hs block marks w)/\(((ws++j7 hs block marks w).drop (i+1)).map xe).sum < ((ws.drop i).map xe).sum
namespace nP.turn
@[irreducible] def e0:=Fp gD eN gD eN gD gD S0
def kE:=e0.1
def eL:=e0.2.1
def dz:=e0.2.2.1
def i_:=e0.2.2.2.1
def qJ:=e0.2.2.2.2.1
def w_:=e0.2.2.2.2.2
theorem T0:S0 kE eL dz i_ qJ w_:=by
 intro H h hw;have hlt:i_ < qJ.length:=(aB.mp hw).1;have M6:=h.ok w_ (ao hw);have hp:=IY (block:=eL) (marks:=dz) H (M6.ok H);have HU:(qJ++j7 kE eL dz w_).drop (i_+1)=qJ.drop (i_+1)++j7 kE eL dz w_:=by refine aj (gq (by lia) ..) ?_;rfl
 have hd:qJ.drop i_=w_::qJ.drop (i_+1):=by refine aj (dZ hlt ..) ?_;congr 1;exact (aB.mp hw).2
 have zi:((qJ.drop i_).map xe).sum=xe w_+((qJ.drop (i_+1)).map xe).sum:=by refine aj (hd ..) ?_;simp
 have GF:(((qJ++j7 kE eL dz w_).drop (i_+1)).map xe).sum=((qJ.drop (i_+1)).map xe).sum+((j7 kE eL dz w_).map xe).sum:=by refine aj (HU ..) ?_;simp
 refine ⟨⟨λv hv=>?_,λc hc=>aE _ (h.init c hc),λj v hj hv=>?_,by simp;lia,?_⟩,by lia⟩
 ·rcases bc.mp hv with hv|hv
  ·exact h.ok v hv
  ·unfold j7 at hv
   split at hv
   ·simp at hv
   ·rename_i c hc
    split at hv
    ·simp at hv
    split at hv
    ·simp at hv
    ·refine aK (aG.mp hv) λd hd dO=>?_;subst dO;have:=(bo.mp hd).2;simp at this;exact .ext M6 hc ‹_› ‹_› (bo.mp hd).1 this
 ·intro u hu;by_cases Un:j=i_
  ·subst Un;rw [eE hlt,hw] at hv
   (have lA:=aO hv;clear hv;subst lA)
   exact bL _ hu
  ·have hj':j < i_:=by lia
   rw [eE (by exact CP (by assumption) (by assumption))] at hv;exact aE _ (h.step j v hj' hv u hu)
 ·have:=h.room;lia
end nP.turn
theorem nP.turn{hs:List (List Nat)}{block:Nat}{marks:List Nat}{i:Nat}{ws:List (List Nat)}{w:List Nat}:nP.turn.S0 hs block marks i ws w:=by with_unfolding_all exact uD _ _ _ _ _ _ nP.turn.S0 @nP.turn.T0 hs block marks i ws w
theorem nP.done{hs:List (List Nat)}{block:Nat}{marks:List Nat}{ws:List (List Nat)}(h:nP hs block marks ws.length ws)(w:List Nat):w∈ws↔BW hs block marks w:=by
 refine ⟨h.ok w,λhw=>?_⟩;induction hw with
 |one hc=>exact h.init _ hc
 |ext _ hc hm hb hd hn ih=>refine cJ (iq.mp ih) λj hj=>h.step j _ (aB.mp hj).1 hj _ ?_;unfold j7;refine aj (hc ..) ?_;simp only [if_neg hm,if_neg hb];exact aG.mpr ⟨_,bo.mpr ⟨hd,by simpa using hn⟩,rfl⟩
end
theorem dn{α:Type _}(u:List α){v:List α}(h:v≠[]):(u++v).getLast? =v.getLast? :=by (refine aj (TQ ..) ?_;refine aj (gu h ..) ?_);rfl
noncomputable def ei(hs:List (List Nat)):Nat->List Nat->Prop
 |_,[]=>True
 |b,c::w=>c∈hs.getD b []/\ei hs c w
theorem ei.append{hs:List (List Nat)}:∀{b:Nat} {u v:List Nat},ei hs b (u++v)↔ei hs b u/\ei hs ((b::u).getLast (by simp)) v
 |b,[],v=>(and_iff_right trivial).symm
 |b,c::u,v=>by
  refine aj (fU ..) ?_;show (_/\ei hs c (u++v))↔(_/\ei hs c u)/\_;refine gj (ei.append ..) ?_;refine gj (and_assoc ..) ?_;simp
theorem BW.back{hs:List (List Nat)}{b:Nat}{marks w:List Nat}(h:BW hs b marks w):ei hs b w:=by
 induction h with
 |one hc=>exact ⟨hc,trivial⟩
 |@ext w c d hw hl hm hb hd hn ih=>
  refine gj (ei.append ..) (⟨ih,?_,trivial⟩);have:(b::w).getLast (by simp)=c:=by
   cases w with
   |nil=>simp at hl
   |cons a w=>refine aj (kg (by simp) ..) ?_;rw [gu (by simp)] at hl;exact aO hl
  refine aj (this ..) ?_;exact hd
theorem Cd{hs:List (List Nat)}{b:Nat}{marks:List Nat}{U:Nat->Prop}{n:Nat}
 (Tc:∀v,ei hs b v->(∀c∈v,U c)->(∃c,v.getLast? =ae c/\c∈marks)->n<=v.length) {w:List Nat} (hlen:w.length=n) (hw:ei hs b w) (hU:∀c∈w,U c) (hl:∃c,w.getLast? =ae c/\c∈marks):
 ∀u v,w=u++v->u≠[]->BW hs b marks u:=by
 intro u
 suffices H:∀k u v,u.length=k->w=u++v->u≠[]->BW hs b marks u from λv=>H u.length u v rfl
 intro k;induction k with
 |zero=>intro u v h1 z h3;exact absurd (NV.mp h1) h3
 |succ k ih=>
  intro u v h1 h2 h3;obtain ⟨u',d,rfl⟩:∃u' d,u=u'++[d]:=⟨u.dropLast,u.getLast h3,(GY h3).symm⟩;have hk:u'.length=k:=by simpa using h1
  by_cases QU:u'=[]
  ·subst QU;have:ei hs b (d::v):=by rw [h2] at hw;exact hw
   exact .one this.1
  ·have hb':=ih u' (d::v) hk (by refine aj (h2 ..) ?_;simp) QU;have hwb:ei hs b (u'++(d::v)):=by rw [h2] at hw;simpa using hw
   rw [ei.append] at hwb;have hcl:u'.getLast? =ae (u'.getLast QU):=gu QU;have Bv:(b::u').getLast (by simp)=u'.getLast QU:=kg QU;rw [Bv] at hwb;have hmemu:u'.getLast QU∈w:=by refine aj (h2 ..) ?_;simp
   refine .ext hb' hcl ?_ ?_ hwb.2.1 ?_
   ·intro hm;have:=Tc u' hwb.1 (λc hc=>hU c (by refine aj (h2 ..) ?_;simp [hc])) ⟨_,hcl,hm⟩;rw [<- hlen,h2] at this;simp at this;lia
   ·intro hbk;have hlv:∃c,(d::v).getLast? =ae c/\c∈marks:=by
     refine aK hl λc h4 h5=>?_;clear hl;refine ⟨c,?_,h5⟩;rw [h2] at h4;rw [bU,dn _ (by simp)] at h4;exact h4
    have:=Tc (d::v) (by have:=hwb.2;rw [hbk] at this;exact this) (λc hc=>hU c (by refine aj (h2 ..) ?_;simp at hc ⊢;rcases hc with h|h <;> simp [h])) hlv;rw [<- hlen,h2] at this;have iP:u'.length≠0:=λh=>QU (NV.mp h);simp only [ba,bK,GW] at this;lia
   ·intro hd;refine oz (eY hd) λp q P2=>?_;have hback:ei hs b ((p++[d])++v):=by
     have h6:ei hs b ((p++[d])++(q++(d::v))):=by
      have:w=(p++[d])++(q++(d::v)):=by (refine aj (h2 ..) ?_;refine aj (P2 ..) ?_);simp
      rw [this] at hw;exact hw
     have h7:ei hs b ((p++d::q)++([d]++v)):=by
      have:w=(p++d::q)++([d]++v):=by (refine aj (h2 ..) ?_;refine aj (P2 ..) ?_);simp
      rw [this] at hw;exact hw
     rw [ei.append] at h6;rw [<- bU,ei.append] at h7;refine gj (ei.append ..) (⟨h6.1,?_⟩);have e0:∀(l:List Nat) (hh:(b::(l++[d]))≠[]),(b::(l++[d])).getLast hh=d:=λl hh=>by
      refine aj (kg (by simp) ..) ?_;simp
     have e1:=e0 p (by simp);have e2:=e0 (p++d::q) (by simp);refine aj (e1 ..) ?_;have:=h7.2;rw [e2] at this;exact this
    have hlv:∃c,((p++[d])++v).getLast? =ae c/\c∈marks:=by
     refine aK hl λc h4 h5=>?_;clear hl;refine ⟨c,?_,h5⟩;rw [h2] at h4;cases v with
     |nil=>simpa using h4
     |cons x v=>rw [dn _ (by simp)] at h4 ⊢;exact h4
    have:=Tc _ hback (λc hc=>hU c (by (refine aj (h2 ..) ?_;refine aj (P2 ..) ?_);simp at hc ⊢;rcases hc with h|h|h <;> simp [h])) hlv;rw [<- hlen,h2,P2] at this;simp at this;lia
def k0.S0(hs:List (List Nat))(b:Nat)(marks w:List Nat):Prop:=∀(hw:ei hs b w) (hl:∃c,w.getLast? =ae c/\c∈marks),∃v,BW hs b marks v/\(∃c,v.getLast? =ae c/\c∈marks)/\∀c∈v,c∈w
namespace k0
@[irreducible] def e0:=G1 gD eN gD gD S0
def kE:=e0.1
def b_:=e0.2.1
def dz:=e0.2.2.1
def w_:=e0.2.2.2
theorem T0:S0 kE b_ dz w_:=by
 intro hw hl;have ex:∃n,∃v,v.length=n/\ei kE b_ v/\(∀c∈v,c∈w_)/\∃c,v.getLast? =ae c/\c∈dz:=⟨_,w_,rfl,hw,λz h=>h,hl⟩;have key:∀n,(∃v,v.length=n/\ei kE b_ v/\(∀c∈v,c∈w_)/\∃c,v.getLast? =ae c/\c∈dz)->∃m,(∃v,v.length=m/\ei kE b_ v/\(∀c∈v,c∈w_)/\∃c,v.getLast? =ae c/\c∈dz)/\∀k,k < m->¬∃v,v.length=k/\ei kE b_ v/\(∀c∈v,c∈w_)/\∃c,v.getLast? =ae c/\c∈dz:=by
  intro n;induction n using vH with
  |ind n ih=>
   intro h;by_cases hk:∃k,k < n/\∃v,v.length=k/\ei kE b_ v/\(∀c∈v,c∈w_)/\∃c,v.getLast? =ae c/\c∈dz
   ·refine aK hk λk h1 h2=>?_;clear hk;exact ih k h1 h2
   ·exact ⟨n,h,λk h1 h2=>hk ⟨k,h1,h2⟩⟩
 refine cJ ex λn hn=>?_;clear ex;refine aK (key n hn) λm dO h5=>By dO λv h1 h2 h3 h4=>?_;clear dO;have hv:v≠[]:=by rintro rfl;obtain ⟨c,hc,_⟩:=h4;simp at hc
 refine ⟨v,Cd (U:=(·∈w_)) (n:=m) (λu hu hU hl=>?_) h1 h2 h3 h4 v [] (by simp) hv,h4,h3⟩;rcases gX u.length m with h|h
 ·exact absurd ⟨u,rfl,hu,hU,hl⟩ (h5 _ h)
 ·exact h
end k0
theorem k0{hs:List (List Nat)}{b:Nat}{marks w:List Nat}:k0.S0 hs b marks w:=by with_unfolding_all exact vJ _ _ _ _ k0.S0 @k0.T0 hs b marks w
def wb(hs:List (List Nat))(b:Nat)(marks w:List Nat):Prop:=BW hs b marks w/\∃c,w.getLast? =ae c/\c∈marks
def gI(hs:List (List Nat))(b o:Nat):Prop:=o=b\/(b≠0/\∀w,wb hs b [0] w->o∈w)
theorem gI.self{hs:List (List Nat)}{b:Nat}:gI hs b b:= .inl rfl
theorem gI.step{hs:List (List Nat)}{b o:Nat}(h:gI hs b o):o=b\/∀c∈hs.getD b [],gI hs c o:=by
 rcases h with h|⟨_,h⟩
 ·exact .inl h
 ·refine .inr λc hc=>?_;by_cases hoc:o=c
  ·exact .inl hoc
  ·refine .inr ⟨λe=>?_,λw hw=>?_⟩
   ·subst e;have:=h [0] ⟨.one hc,0,rfl,by simp⟩;exact hoc (by simpa using this)
   have hb:ei hs b (c::w):=⟨hc,hw.1.back⟩;have iP:w≠[]:=by rintro rfl;refine aK (hw.2) λd hd z=>?_;simp at hd
   have hl:∃d,(c::w).getLast? =ae d/\d∈[0]:=by exact aK (hw.2) λd hd hm=>⟨d,by rw [show c::w=[c]++w from rfl,dn _ iP];exact hd,hm⟩
   refine ef (k0 hb hl) λv hv M7 q8=>?_;rcases aP.mp (q8 o (h v ⟨hv,M7⟩)) with e|e
   ·exact absurd e hoc
   ·exact e
theorem Ea{hs:List (List Nat)}{D:Nat->Nat->Prop}(h0:∀o,D 0 o->o=0)(GE:∀b o,b≠0->D b o->o=b\/∀c∈hs.getD b [],D c o):
 ∀{w:List Nat} {b o:Nat},ei hs b w->w.getLast? =ae 0->b≠0->D b o->o=b\/o∈w
 |[],b,o,_,h,_,_=>by simp at h
 |c::w,b,o,hb,hl,hn,hD=>by
  rcases GE b o hn hD with e|e
  ·exact .inl e
  ·have hc:=e c hb.1;by_cases zC:c=0
   ·subst zC;exact .inr (by rw [h0 o hc];exact aa)
   ·have iP:w≠[]:=by
     rintro rfl;simp at hl;exact zC hl
    have hl':w.getLast? =ae 0:=by rw [<- hl,show c::w=[c]++w from rfl,dn _ iP]
    rcases Ea h0 GE hb.2 hl' zC hc with e|e
    ·exact .inr (by rw [e];exact aa)
    ·exact .inr (ab _ e)
theorem LU{hs:List (List Nat)}{D:Nat->Nat->Prop}(h0:∀o,D 0 o->o=0)(GE:∀b o,b≠0->D b o->o=b\/∀c∈hs.getD b [],D c o)(ql:∀b o,b≠0->gI hs b o->D b o){b o:Nat}(hn:b≠0):D b o↔gI hs b o:=by
 refine ⟨λh=>?_,ql b o hn⟩;by_cases Bu:o=b
 ·exact .inl Bu
 ·refine .inr ⟨hn,λw hw=>?_⟩;refine aK (hw.2) λc hc hm=>?_;have:c=0:=by simpa using hm
  subst this;rcases Ea h0 GE hw.1.back hc hn h with e|e
  ·exact absurd e Bu
  ·exact e
end
section
variable {k:Nat}{mu nu:Mu}{env:gP}{e:bH}{p pos:jC}{xs:List V}{Φ:V->Mu->Prop}{x y:V}
noncomputable abbrev wV(w:List Nat):V:= .list (w.map nV)
noncomputable abbrev LV(L:ay)(hs:List (List Nat))(block:Nat)(marks:List Nat)(T W:ay)(o:Option V):cX:=
 bq L (aM (L+1) (bk (cN 20)).names) [ae (.list (hs.map wV)),ae (nV block),ae (wV marks),ae (.ref T),ae (.ref W),o]
noncomputable def tR(marks w:List Nat):Bool:=match w.getLast? with
 |some c=>decide (c∈marks)
 |none=>aH
theorem yF{marks w:List Nat}:tR marks w=aI↔∃c,w.getLast? =ae c/\c∈marks:=by
 delta tR;cases w.getLast? with
 |none=>exact ⟨λh=>vK h,λh=>aK h λc h z=>gK h⟩
 |some c=>exact ⟨λh=>⟨c,rfl,of_decide_eq_true h⟩,λh=>aK h λd e h=>decide_eq_true (aO e▸h)⟩
section
noncomputable def k5(hs:List (List Nat))(block:Nat)(marks:List Nat):Nat->List (List Nat)
 |0=>(hs.getD block []).map λc=>[c]
 |i+1=>match (k5 hs block marks i)[i]? with
  |some w=>k5 hs block marks i++j7 hs block marks w
  |none=>k5 hs block marks i
variable {hs:List (List Nat)}{block:Nat}{marks:List Nat}
theorem AW{i:Nat}{w:List Nat}(h:(k5 hs block marks i)[i]? =ae w):k5 hs block marks (i+1)=k5 hs block marks i++j7 hs block marks w:=by show (match (k5 hs block marks i)[i]? with|some w=>k5 hs block marks i++j7 hs block marks w|none=>k5 hs block marks i)=_;refine aj (h ..) ?_;rfl
theorem AX{i:Nat}(h:(k5 hs block marks i).length=i):∀j,k5 hs block marks (i+j)=k5 hs block marks i
 |0=>rfl
 |j+1=>by
  have ih:=AX h j;show k5 hs block marks (i+j+1)=_;show (match (k5 hs block marks (i+j))[i+j]? with|some w=>k5 hs block marks (i+j)++j7 hs block marks w|none=>k5 hs block marks (i+j))=_;(refine aj (ih ..) ?_;refine aj (il (by lia) ..) ?_);rfl
theorem IZ(H:zW hs):∀(m i:Nat),(((k5 hs block marks i).drop i).map xe).sum=m->nP hs block marks i (k5 hs block marks i)->∃n,nP hs block marks n (k5 hs block marks n)/\(k5 hs block marks n).length=n:=by
 intro m;induction m using vH with
 |ind m ih=>
  intro i hm uc;by_cases hl:(k5 hs block marks i).length=i
  ·exact ⟨i,uc,hl⟩
  ·have hlt:i < (k5 hs block marks i).length:=by have:=uc.le;lia
   have hw:=bJ hlt;refine dU (uc.turn H hw) λt1 t2=>?_;rw [<- AW hw] at t1 t2;exact ih _ (hm▸t2) (i+1) rfl t1
noncomputable def gJ(hs:List (List Nat))(block:Nat)(marks:List Nat):List (List Nat):=(k5 hs block marks 2000).filter (tR marks)
theorem AY{n:Nat}(h:nP hs block marks n (k5 hs block marks n))(hl:(k5 hs block marks n).length=n):k5 hs block marks 2000=k5 hs block marks n:=by
 have h1:=h.len;have:=AX hl (2000 - n)
 rwa [show n+(2000 - n)=2000 by lia] at this
theorem rZ(H:zW hs):(gJ hs block marks).length<=2000/\∀w,w∈gJ hs block marks↔wb hs block marks w:=by refine aK (IZ (block:=block) (marks:=marks) H _ 0 rfl (nP.start H)) λn h hl=>?_;unfold gJ;refine aj (AY h hl ..) (⟨aw (bu _ _) h.len,λw=>?_⟩);refine gj (bo ..) ?_;refine gj (yF ..) ?_;exact and_congr_left λz=>nP.done (by refine aj (hl ..) ?_;exact h) w
end
def nc.S0(k:Nat)(mu:Mu)(hs:List (List Nat))(block:Nat)(marks:List Nat)(_:Nat):Prop:=∀(H:Hy G) (hh:zW hs) (hb:block < 6) (hm:marks.length<=100),FW (k+2) mu (.ref 290) [.list (hs.map wV),nV block,wV marks] λy nu=>y= .list ((gJ hs block marks).map wV)/\nu=mu
namespace nc
@[irreducible] def e0:=Fp eN gD gD eN gD eN S0
def k_:=e0.1
def fb:=e0.2.1
def kE:=e0.2.2.1
def eL:=e0.2.2.2.1
def dz:=e0.2.2.2.2.1
theorem T0:S0 k_ fb kE eL dz e0.2.2.2.2.2:=by
 intro H hh hb hm;refine th H H.f290 (names:=["heads","block","marks"]) (vals':=λL=>[ae (.list (kE.map wV)),ae (nV eL),ae (wV dz),av,av,av]) (λpm cd doc vs h=>?_) (by decide+kernel) rfl (λpm cd doc L=>?_) (λpm cd doc L he=>?_)
 ·exact Om h λa b c=>rfl
 ·exact .cons (j:=0) .loc rfl (.cons (j:=1) .loc rfl (.cons (j:=2) .loc rfl .nil))
 have hbl:kE.length=6:=hh.len;have hget:∀b,b < 6->kE[b]? =ae (kE.getD b []):=λb hb=>by
  (refine aj (bR ..) ?_;refine aj (bJ (by lia) ..) ?_);rfl
 refine aC (b4 (sD (xs:=[]) aT (bg rfl) (λT=>fL.ref (aQ (i:=1) (j:=3) he .loc rfl ?_))) rfl rfl);refine aC (FM (kE.getD eL []) nV (λc=>wV [c]) ⟨rfl,rfl,by decide+kernel,by decide+kernel⟩ (dA (bF (cP (ah (j:=0) he .loc (ab _ aa) rfl)) (cP (ah (j:=1) he .loc (ab _ aa) rfl)) (by exact ew (inj:=wV) (hget eL hb) (by lia)))) (by lia) ?sz (λC1 a ha=>iu 1 he.comp .loc dk (λhb=>(ij (xs:=[_]) (au (ah (j:=1) he.comp .loc aa rfl) aT) (bg rfl)))) rfl (λW=>fL.ref (aQ (i:=2) (j:=4) he .loc rfl ?_)))
 case sz=>have:=ez (hh.nd eL) (hh.lt eL);exact aw (by assumption) (by decide)
 show WS (k_+1) (bl W ((kE.getD eL []).map λc=>wV [c])::bl T []::LV L kE eL dz T W av::fb) _ _ _;have fill:∀(i:Nat) (ws:List (List Nat)) (w:List Nat),ws[i]? =ae w->((ws.take (i+1)).filter (tR dz))=((ws.take i).filter (tR dz))++(if tR dz w then [w] else []):=λi ws w h=>by
  (refine aj (dE ..) ?_;refine aj (h ..) ?_);simp [fX,hZ]
 refine aC (Hi (λm i xs nu=>∃ws o,xs=ws.map wV/\m=((ws.drop i).map xe).sum/\(nP kE eL dz i ws/\ws=k5 kE eL dz i)/\nu=bl W xs::bl T (((ws.take i).filter (tR dz)).map wV)::LV L kE eL dz T W o::fb)
  (ah (j:=4) he .loc (ab _ (ab _ aa)) rfl) (by lia) _ _ ⟨(kE.getD eL []).map λc=>[c],av,by (refine aj (a0 ..) ?_;rfl) <;> rfl,rfl,⟨nP.start hh,rfl⟩,by refine aj (xp ..) ?_;rfl⟩
  (λm i xs nu ⟨ws,o,e1,e2,e3,e4⟩=>by refine aj (e4 ..) ?_;exact aa) ?step ?fin (λm i xs nu ⟨ws,o,e1,e2,e3,e4⟩=>by (refine aj (e1 ..) ?_;refine aj (ak ..) ?_);exact e3.1.le))
 case fin=>
  intro m i xs nu dO hi;refine ir dO λws o e1 e2 e3 e4=>?_;clear dO;refine bC ?_;subst e4;refine aC (gw (cf (ah (j:=3) he .loc (ab _ (ab _ aa)) rfl) ?_));have hi':i=ws.length:=by (refine fZ (hi ..) ?_;refine aj (e1 ..) ?_;refine aj (ak ..) ?_;rfl)
  subst hi';refine jK.tail (jK.list (gW _ _) ⟨?_,rfl⟩);unfold gJ;refine aj (AY (n:=ws.length) (by rw [<- e3.2];exact e3.1) (by rw [<- e3.2]) ..) ?_;refine fZ (e3.2 ..) ?_;refine aj (cK ..) ?_;rfl
 case step=>
  intro m i xs nu x eT hx;refine ir eT λws o e1 e2 e3 e4=>?_;clear eT;subst e1 e4;rw [aJ] at hx;refine aK (aL.mp hx) λw hw gi=>?_;subst gi;have M6:=e3.1.ok w (ao hw);have hok:=M6.ok hh;obtain ⟨c,hc⟩:∃c,w.getLast? =ae c:=by
   cases h:w.getLast? with
   |none=>exact absurd (List.getLast?_eq_none_iff.mp h) hok.ne
   |some c=>exact ⟨c,rfl⟩
  have uf:c < 6:=hok.lt c (df hc);have hwl:w.length<=6:=ez hok.nd hok.lt;refine dU (e3.1.turn (w:=w) hh hw) λt1 t2=>?_;have t3:=(AW (hs:=kE) (block:=eL) (marks:=dz) (i:=i) (w:=w) (by refine fZ (e3.2 ..) ?_;exact hw)).symm;rw [<- e3.2] at t3;have hlen:=e3.1.len;refine aQ (i:=2) (j:=5) he (.cell (L+1) "way") rfl ?_;show WS (k_+1) (bl W (ws.map wV)::bl T (((ws.take i).filter (tR dz)).map wV)::LV L kE eL dz T W (ae (wV w))::fb) _ _ _;refine aC (iY (c9 (cP (bF (cP (ah (j:=5) he (.cell (L+1) "way") (ab _ (ab _ aa)) rfl)) (cP (o8 aU)) (by exact xD hc (by exact b7 (by assumption) (by decide))))) (cP (ah (j:=2) he .loc (ab _ (ab _ aa)) rfl)) (by exact KH)) (λh=>?_) λh=>?_)
  ·have JU:c∈dz:=of_decide_eq_true h;have ql:tR dz w=aI:=yF.mpr ⟨c,hc,JU⟩;have GG:j7 kE eL dz w=[]:=by unfold j7;refine aj (hc ..) ?_;simp [JU]
   rw [GG,cy] at t1 t2 t3;refine aC (ig (mZ (ah (j:=3) he .loc (ab _ (ab _ aa)) rfl) (j5 (xs:=((ws.take i).filter (tR dz)).map wV) (ab _ aa)) (au (ah (j:=5) he (.cell (L+1) "way") (ab _ (ab _ aa)) rfl) aT) (kA (i:=1) rfl ?a1 ?a2) (by exact fP) (by exact iT) (by exact iU) rfl))
   case a1=>
    have q1:=bu (tR dz) (ws.take i);have q2:(ws.take i).length<=ws.length:=by refine aj (dR ..) ?_;exact ow _ _
    exact aj (ak ..) (b7 (aw q1 (aw q2 hlen)) (by decide))
   case a2=>refine bC (bC ?_);refine ⟨_,_,e2▸t2,ws,ae (wV w),rfl,rfl,⟨t1,t3⟩,?_⟩;refine aj (fill i ws w hw ..) ?_;refine aj (if_pos ql ..) ?_;simp only [bj];rfl
  ·have JU:c∉dz:=of_decide_eq_false h;have ql:tR dz w=aH:=by
    cases h:tR dz w
    ·rfl
    ·refine aK (yF.mp h) λc' h1 h2=>?_;rw [hc] at h1;(have lA:=aO h1;clear h1;subst lA);exact absurd h2 JU
   have keep:j7 kE eL dz w=[]->∃m' Ug,m' < m/\∃Uo o,Ug=Uo.map wV/\m'=((Uo.drop (i+1)).map xe).sum/\(nP kE eL dz (i+1) Uo/\Uo=k5 kE eL dz (i+1))/\bl W (ws.map wV)::bl T (((ws.take i).filter (tR dz)).map wV)::LV L kE eL dz T W (ae (wV w))::fb=bl W Ug::bl T (((Uo.take (i+1)).filter (tR dz)).map wV)::LV L kE eL dz T W o::fb:=λGG=>by
    rw [GG,cy] at t1 t2 t3;refine ⟨_,_,e2▸t2,ws,ae (wV w),rfl,rfl,⟨t1,t3⟩,?_⟩;refine aj (fill i ws w hw ..) ?_;refine aj (if_neg (by rw [ql];decide) ..) ?_;refine aj (cy ..) ?_;rfl
   refine aC (iY (c9 (cP (bF (cP (ah (j:=5) he (.cell (L+1) "way") (ab _ (ab _ aa)) rfl)) (cP (o8 aU)) (by exact xD hc (by exact b7 (by assumption) (by decide))))) (cP (ah (j:=1) he .loc (ab _ (ab _ aa)) rfl)) (by exact FA)) (λh2=>?_) λh2=>?_)
   ·have QP:c≠eL:=by rintro rfl;simp at h2
    have hcl:(kE.getD c []).length<=6:=ez (hh.nd c) (hh.lt c);have GG:j7 kE eL dz w=((kE.getD c []).filter λd=>!decide (d∈w)).map λd=>w++[d]:=by unfold j7;refine aj (hc ..) ?_;simp only [if_neg JU,if_neg QP]
    have PV:=bu (λd=>!decide (d∈w)) (kE.getD c []);refine aC (ig (mZ (ah (j:=4) he .loc (ab _ (ab _ aa)) rfl) (j5 (xs:=ws.map wV) aa)
     (au (nF (kE.getD c []) nV (λd=>!decide (d∈w)) (λd=>wV (w++[d])) ⟨rfl,rfl,by decide+kernel,by decide+kernel⟩
      (dA (bF (cP (ah (j:=0) he .loc (ab _ (ab _ aa)) rfl)) (cP (bF (cP (ah (j:=5) he (.cell (L+1) "way") (ab _ (ab _ aa)) rfl)) (cP (o8 aU)) (by exact xD hc (by exact b7 (by assumption) (by decide))))) (by exact ew (inj:=wV) (hget c uf) (by lia)))) (by lia) (by exact aw (by assumption) (by decide))
      (λC2 a ha=>iu 1 he.comp .loc (fS (c9 (cP (ah (j:=1) he.comp .loc aa rfl)) (cP (ah (j:=5) he.comp (.cell (L+1) "way") (ab _ (ab _ (ab _ aa))) rfl)) (by exact Hk)))
       (λhb=>bM (br (cP (ah (j:=5) he.comp (.cell (L+1) "way") (ab _ (ab _ (ab _ aa))) rfl)) (cP (ij (xs:=[_]) (au (ah (j:=1) he.comp .loc aa rfl) aT) (bg rfl))) (by exact uM (by refine aj (ak ..) ?_;show w.length+1<=_;lia))) (by simp [wV])))) aT)
     (Il (i:=0) rfl ?a3 ?a4) (by exact fP) (by exact F.slot_list_extend) (by exact F.type_list_extend) rfl))
    case a3=>(refine aj (ak ..) ?_;refine aj (ak ..) ?_);lia
    case a4=>refine bC (bC (bC ?_));rw [GG] at t1 t2 t3;refine ⟨_,_,e2▸t2,_,ae (wV w),rfl,rfl,⟨t1,t3⟩,?_⟩;refine aj (fill i _ w (by rw [eE (aB.mp hw).1];exact hw) ..) ?_;refine aj (if_neg (by rw [ql];decide) ..) ?_;refine aj (cy ..) ?_;refine aj (Fm e3.1.le ..) ?_;simp only [bj,a0];rfl
   ·have QP:c=eL:=Nn (by simpa using h2);refine bC (bC (bC (keep ?_)));unfold j7;refine aj (hc ..) ?_;simp only [if_neg JU,if_pos QP]
end nc
theorem nc{hs:List (List Nat)}{block:Nat}{marks:List Nat}:nc.S0 k mu hs block marks 0:=by with_unfolding_all exact uD _ _ _ _ _ _ nc.S0 @nc.T0 k mu hs block marks 0
theorem R9(H:Hy G){hs:List (List Nat)}{block:Nat}{marks:List Nat}(hh:zW hs)(hb:block < 6)(hm:marks.length<=100):
 FW (k+2) mu (.ref 290) [.list (hs.map wV),nV block,wV marks] λy nu=>nu=mu/\∃W:List (List Nat),y= .list (W.map wV)/\W.length<=2000/\∀w,w∈W↔BW hs block marks w/\∃c,w.getLast? =ae c/\c∈marks:=
 (nc H hh hb hm).mono λy nu e=>⟨e.2,_,e.1,(rZ hh).1,(rZ hh).2⟩
noncomputable def pW(w:Int):bb:=if decide (w % 4 < 2) then "\\\"" else "\\\n\t\r "
noncomputable def lK(w:Int)(q:Nat×Nat):bb:=
 if (w % 2 == 1) || ((!(cZ (pW w) ⟨#[q.1]⟩ 0 (pW w).length 1).isEmpty) || (((⟨#[q.1]⟩:bb) == "\"" && ((((q.2:Nat):Int) == 0) && aI)) || false)) then "\\"++(⟨#[q.1]⟩:bb) else ⟨#[q.1]⟩
noncomputable def qK(x:bb)(w:Int):bb:=fO "" (x.cps.toList.zipIdx.map (lK w))
noncomputable def jN(w:Int):bb:=(["\n","\t","\r"," ",if decide (w % 4 < 2) then "" else " \n"]:List bb).getD (w / 4 % 5).toNat ""
noncomputable def ik(x:bb)(w:Int):bb:=if decide (w % 4 < 2) then "\""++qK x w++"\""++jN w else qK x w++jN w
theorem LW(w:Int):([V.str "\n",.str "\t",.str "\r",.str " ",.str (if decide (w % 4 < 2) then "" else " \n")]:List V).getD (w / 4 % 5).toNat .none= .str (jN w):=by
 unfold jN;have h:(w / 4 % 5).toNat < 5:=by lia
 generalize (w / 4 % 5).toNat=n at h;exact lt5 h rfl rfl rfl rfl rfl
theorem AZ(w:Int):(jN w).length<=2 ^ 22:=by
 unfold jN;have h:(w / 4 % 5).toNat < 5:=by lia
 generalize (w / 4 % 5).toNat=n at h
 match n,h with
 |0,_=>exact bg rfl
 |1,_=>exact bg rfl
 |2,_=>exact bg rfl
 |3,_=>exact bg rfl
 |4,_=>
  show (if decide (w % 4 < 2)=aI then ("":bb) else " \n").length<=_
  split <;> decide
theorem qL(a b:bb):(a++b).length=a.length+b.length:=by show (a.cps++b.cps).size=_;refine aj (Array.size_append ..) ?_;rfl
def lL.S0(k:Nat)(x:bb)(w:Int)(_:Nat):Prop:=∀{mu:Mu} (H:Hy G) (hx:x.length<=1000) (hsz:(qK x w).length<=100000) (hj:Nk "" (x.cps.toList.zipIdx.map (lK w))=aI),FW (k+2) mu (.ref 280) [.str x,.int w] λy nu=>y= .str (ik x w)/\nu=mu
namespace lL
@[irreducible] def e0:=G1 eN inferInstance Q8 eN S0
def k_:=e0.1
def x_:=e0.2.1
def w_:=e0.2.2.1
theorem T0:S0 k_ x_ w_ e0.2.2.2:=by
 intro mu H hx hsz hj;refine th H H.f280 (names:=["word","way"]) (vals':=λL=>[ae (.str x_),ae (.int w_),av,av,av,av]) (λpm cd doc vs h=>?_) (by decide+kernel) rfl (λpm cd doc L=>?_) (λpm cd doc L he=>?_)
 ·exact zR h λa b=>rfl
 ·exact .cons (j:=0) .loc rfl (.cons (j:=1) (.cell (L+1) "way") rfl .nil)
 have hx':x_.cps.toList.zipIdx.length<=2 ^ 21:=by have:x_.cps.toList.length=x_.length:=rfl;simp only [eX];lia
 refine aC (bX (mJ (cP (br (cP (ah (j:=1) he (.cell (L+1) "way") aa rfl)) (cP aU) (by exact fk (by decide)))) (cP aU) (by exact Da)) (aQ (i:=0) (j:=2) he .loc rfl ?_) rfl rfl);refine aC (bX (y:= .str (pW w_)) (BS (kU (cP (ah (j:=2) he .loc aa rfl)) (by exact qv)) (λh=>cO) (λh=>cO)) (aQ (i:=0) (j:=3) he (.cell (L+2) "marked") rfl ?_) rfl rfl);refine aC (bX (y:= .str (qK x_ w_)) (f7 (cP cO) (by exact mL) (au (cP (jP (g:=λq=>V.str (lK w_ q)) _ _ ⟨rfl,rfl,by decide+kernel,by decide+kernel⟩ (H7 (iN H he H.b_enumerate rfl) (ah (j:=0) he .loc aa rfl)) (by lia) (by assumption) (λC1 a ha=>tI 1 2 he.comp .loc .loc dk (λhb=>(BS (oM (iM (c9 (cP (br (cP (ah (j:=1) he.comp (.cell (L+1) "way") (ab _ aa) rfl)) (cP aU) (by exact fk (by decide)))) (cP aU) (by exact qu)) (λh=>(iM (c9 (cP (ah (j:=2) he.comp .loc aa rfl)) (cP (ah (j:=3) he.comp (.cell (L+2) "marked") (ab _ aa) rfl)) (by exact Dc)) (λh=>(iM (oM (C9 (c9 (cP (ah (j:=2) he.comp .loc aa rfl)) (cP cO) (by exact rB)) (λh=>(C9 (c9 (cP (ah (j:=1) he.comp .loc aa rfl)) (cP aU) (by exact qu)) (λh=>BI))))) (λh=>jn))))))) (λh=>(br (cP cO) (cP (ah (j:=2) he.comp .loc aa rfl)) (by exact uO (by exact KG _) (by exact KG _)))) (λh=>(ah (j:=2) he.comp .loc aa rfl))))))) aT) (rL (f:=lK w_) hj) (by exact eM) (by exact nz) (by exact nA) rfl) (aQ (i:=0) (j:=4) he .loc rfl ?_) rfl rfl);refine aC (bX (y:= .str (jN w_)) (bM (bF (cP (f9 (xs:=[_,_,_,_,_]) (au cO (au cO (au cO (au cO (au (BS (kU (cP (ah (j:=2) he .loc aa rfl)) (by exact qv)) (λh=>cO) (λh=>cO)) aT))))) (bg rfl))) (cP (br (cP (br (cP (ah (j:=1) he (.cell (L+1) "way") aa rfl)) (cP aU) (by exact l9 (by decide)))) (cP aU) (by exact fk (by decide)))) (by refine Qq ?_ ?_ (bg rfl) <;> first|lia|(simp;lia))) (LW w_)) (aQ (i:=0) (j:=5) he .loc rfl ?_) rfl rfl);refine aC (gw (cf (y:= .str (ik x_ w_)) (bM (BS (kU (cP (ah (j:=2) he .loc aa rfl)) (by exact qv)) (λh=>(br (cP (br (cP (br (cP cO) (cP (ah (j:=4) he .loc aa rfl)) (by exact uO (by decide) (by exact aw (by assumption) (by decide))))) (cP cO) (by exact uO (by refine aj (qL ..) ?_;have:("\"":bb).length=1:=rfl;lia) (by decide)))) (cP (ah (j:=5) he .loc aa rfl)) (by exact uO (by (refine aj (qL ..) ?_;refine aj (qL ..) ?_);have:("\"":bb).length=1:=rfl;lia) (AZ w_)))) (λh=>(br (cP (ah (j:=4) he .loc aa rfl)) (cP (ah (j:=5) he .loc aa rfl)) (by exact uO (by exact aw (by assumption) (by decide)) (AZ w_))))) (by unfold ik;split <;> rfl)) (ki ⟨rfl,rfl⟩)))
end lL
theorem lL{x:bb}{w:Int}:lL.S0 k x w 0:=by with_unfolding_all exact vJ _ _ _ _ lL.S0 @lL.T0 k x w 0
variable {ctx:Mu}{p2:jC}{vs bB:ej}{S:List (Nat×V)}{Θ Ψ:AF->Mu->Prop}{L C D:ay}{ds:List Nat}{ns:List Int}{n6 j:Nat}
section
variable {t l r:bH}{es:List bH}{ys:List V}{v:V}{scope:eU}{cl:List (bb×ay)}{lay:zL}{i m:Nat}
set_option maxRecDepth 100000 in
theorem zX:seqSlot? (.type "list") (dunderI "add")=dg (ae (.builtin "list.__iadd__")):=PySem.seqSlot_of vi.lookup (by decide+kernel)
def iO.S0(l b:ay):Prop:=∀{prog:dG} {w:d8} {A:bh} {E:ai->aq->Prop} {s:aq} {items items2:Array ai} {n n2:Nat} {Q:ai->aq->Prop} (hl:IsL s.heap l items n) (hb:IsL s.heap b items2 n2) (h:Q (.ref l) {s with heap:=s.heap.update l (Obj.mapSeq λx=>x++items2)}) (Uq:¬(!items.isEmpty && wG (items.size+items2.size))=aI) (hsz:items.size<=er) (GF:items.size+items2.size<=er+1),aS (aX prog w) A (inplaceOp .Add (.ref l) (.ref b)) Q E s
namespace iO
@[irreducible] def e0:=Qg cL cL S0
def l_:=e0.1
def b_:=e0.2
theorem T0:S0 l_ b_:=by
 intro prog w A E s items items2 n n2 Q hl hb h Uq hsz GF;unfold inplaceOp;refine bE ?_;have ha:s.TypeIs (.ref l_) "list":=⟨_,hl,rfl⟩;have hbt:s.TypeIs (.ref b_) "list":=⟨_,hb,rfl⟩;have hfi:fillsInplaceSlot (.type "list") "add" (Operator.Add == .Add)=dg aH:=by
  unfold fillsInplaceSlot;show (iQ (.type "list") (dunderI "add") >>=λfi=>dg (fi.isSome && !isSeqSlot fi))=dg aH;refine aj (vi.lookup ..) ?_;refine aj (pure_bind ..) ?_;have:isSeqSlot (ae (.builtin "list.__iadd__"))=aI:=by decide+kernel
  refine aj (this ..) ?_;rfl
 refine ag (wpAny_typeOf ha (ag (cM hfi ?_)));show aS _ A (if aH=aI then _ else _) Q E s;refine aj (if_neg cF ..) (ag (wpAny_binaryOp1_none (nm:="add") ha hbt noFill_list_add ?_));refine ag (cM zX ?_);exact ag (oj (l6 vi ha PySem.F.entry_list_iadd (PySem.F.args_list_iadd_2 _ _) (AutoSeq1.list___iadd___list_list_0 l_ items n b_ items2 n2 Uq hsz GF) ⟨hl,hb,h⟩))
end iO
theorem iO{l b:ay}:iO.S0 l b:=by with_unfolding_all exact Fo _ _ iO.S0 @iO.T0 l b
theorem OT{x:bb}{e:bH}(he:du env)(sl:Sl env L lay x j)(hi:mu[i]? =ae (bq L lay bB))(GI:bB[j]? =ae (ae (.ref D)))(hm:mu[m]? =ae (bl D xs))(hv:PE k mu env e (.list ys))(hl:xs.length+ys.length < 2 ^ 22)(hmi:m≠i)
 (h:Ψ .next ((mu.set m (bl D (xs++ys))).set i (bq L lay (bB.set j (ae (.ref D)))))) (Cz:autoParam ((env.kindOf x == ae .free)=aH) aR):
 WX k mu env (.AugAssign (.Name x p) .Add e pos) Ψ:=⟨λ{A E Z s fr Q} hA r q=>by
 with_reducible refine wpAny_AugAssign_Name ?_
 refine FN he sl (aE fr (ao hi)) GI r λ{old} q1=>hv.c hA r λ{u s2 Z2} z2 q2 r2=>aj (aZ.refE q1 ..) (cE (rj.list q2) λb ws n2 dO e1 hr=>?_);subst dO;refine eD (r2.sat _ (ao (cH (fr:=fr) hm))) λvs n h2 h3=>?_;have l1:=b9 h3;have l2:=b9 hr;rw [l1,l2] at hl;refine iO h2 (r2.zin _ _ e1) ?_ (by refine aj (wO hl ..) ?_;simp) (by show _<=2 ^ 24;lia) (by show _<=2 ^ 24+1;exact aw (eB (by assumption)) (by decide));have hmm:=NQ vs ws n av #[];have r3:R Z2 ((mu.set m (bl D (xs++ys)))++fr) {s2 with heap:=s2.heap.update D (Obj.mapSeq λx=>x++ws)}:=yb (tk:=s2.toks) r2 hm (λc o hb e=>(bY ..).extBut c o hb e) ((bS _ h2 (by refine aj (hmm ..) ?_;rfl)).trans (congrArg ae hmm)) (by refine aj (lB ..) ?_;exact h3.append hr);exact xR r3 he sl (by refine aj (kI hmi ..) ?_;exact hi) (beq_eq_false_iff_ne.mp Cz) (aZ.ref _) λs' r'=>q z2 .next r' h⟩
theorem Ce{kk:Nat}(h:Dt k mu env es λys nu=>ys.length<=2 ^ 20/\Φ (.tup ys) nu):WE k mu env (.Tuple es kk pos) Φ:=⟨λ{A E Z s fr Q} hA r q=>by
 with_reducible refine E3 ?_
 refine h.c hA r λ{vs s1 Z1 ys nu} z1 q1 r1 w=>⟨q1.length▸aw w.1 (show 2 ^ 20<=2 ^ 24 by decide),?_⟩
 have z2:=bI.le_put (o:={cls:= .type "tuple",data:= .seq vs.toArray}) (r1.fresh (bp _));exact q (z1.trans z2) (aZ.tup (vs:=vs.toArray) (n:=0) (bI.put_self ..) rfl rfl (q1.mono z2)) r1.pushZ w.2⟩
noncomputable def sP(ds:List Nat)(p:Nat):Nat:=dr ds p % 6
noncomputable def eP(ds:List Nat)(p:Nat):Nat:=sP ds p+1+dr ds (p+1) % (6 - sP ds p)
noncomputable def tP(ds:List Nat)(p:Nat):Nat:=1+dr ds (p+2) % 5
noncomputable def lP(ds:List Nat)(p:Nat):Nat:=dr ds (p+3)
theorem HC(p:Nat):sP ds p < 6:=ee _ (by decide)
theorem LX(p:Nat):sP ds p < eP ds p/\eP ds p<=6:=by have h:=HC (ds:=ds) p;have:=ee (dr ds (p+1)) (show 0 < 6 - sP ds p by lia);unfold eP;lia
theorem HD(p:Nat):1<=tP ds p/\tP ds p < 6:=by have:=ee (dr ds (p+2)) (show 0 < 5 by decide);unfold tP;lia
noncomputable def u0(ds:List Nat)(p:Nat):V:= .tup [nV (2*cc ds (sP ds p)),nV (2*cc ds (eP ds p)),nV (2*cc ds (tP ds p)),nV (lP ds p / 2),.bool (decide (lP ds p % 2=1))]
noncomputable def jy(ds:List Nat)(p:Nat):List Nat:=[cc ds (sP ds p),cc ds (eP ds p) - cc ds (sP ds p),cc ds (tP ds p),lP ds p]
noncomputable def iA(n6:Nat)(xs:List Int)(l:List Nat):List Int:=l.foldl (λ(xs:List Int) (n:Nat)=>xs++gm n ((n6:Int) / ((xs.length:Int)+1))) xs
theorem Eb(n w:Int):(gm n w).length<=3:=by have h:=uZ ((aN (mN n w)).map (pV n w)) av av (ae (-1));have:=kZ n w;unfold gm;simp only [ak,fq] at h;lia
theorem wc:∀(l:List Nat) (xs:List Int),(iA n6 xs l).length<=xs.length+3*l.length
 |[],xs=>by exact bp _
 |n::l,xs=>by
  have h:=wc l (xs++gm n ((n6:Int) / ((xs.length:Int)+1)));have:=Eb n ((n6:Int) / ((xs.length:Int)+1));rw [ba] at h;show (iA n6 (xs++gm n ((n6:Int) / ((xs.length:Int)+1))) l).length<=_;refine aj (bK ..) ?_;lia
theorem Gb(l:List Nat)(n:Nat)(xs:List Int):iA n6 xs (l++[n])=iA n6 xs l++gm n ((n6:Int) / (((iA n6 xs l).length:Int)+1)):=by unfold iA;refine aj (fu ..) ?_;rfl
theorem Ec(h:Dr ds ns n6)(b:Nat)(hb:b<=6):cc ds b<=366:=by
 unfold cc;have:∀l:List Nat,(∀d∈l,d < 60)->l.sum<=60*l.length:=λl=>by
  induction l with
  |nil=>intro z;simp
  |cons a l ih=>intro h;have:=ih λd hd=>h d (ab _ hd);have:=h a aa;simp only [da,bK];lia
 have h2:=this ((ds.drop 18).take b) λd hd=>h.lt d (gn (pB hd));have h3:((ds.drop 18).take b).length<=b:=by refine aj (dR ..) ?_;exact Nat.min_le_left _ _
 lia
theorem nQ{a b:Nat}(h:a<=b):cc ds a<=cc ds b:=by
 unfold cc;have:∀(l:List Nat) (a b:Nat),a<=b->(l.take a).sum<=(l.take b).sum:=λl=>by
  induction l with
  |nil=>intro a b z;simp
  |cons x l ih=>
   intro a b h;cases a with
   |zero=>simp
   |succ a=>
    cases b with
    |zero=>with_reducible exact absurd (by assumption) (TR _)
    |succ b=>have:=ih a b (by exact Qd (by assumption));simp only [jb,da];lia
 have:=this (ds.drop 18) a b h
 with_reducible exact Nat.add_le_add (by assumption) (by assumption)
structure OU(k:Nat)(mu:Mu)(env:gP)(nms:List bb)(xs:List V)(Ψ:Mu->Prop):Prop where
 c:∀{A:bh} {E:ai->aq->Prop} {Z:bI} {s:aq} {fr:Mu} {vs:List ai} {Q:Unit->aq->Prop},Rm k A->R Z (mu++fr) s->bW G Z vs xs->(∀{s' Z' nu},Z.le Z'->R Z' (nu++fr) s'->Ψ nu->Q () s')->aS (aX G.prog G.w) A (assignInOrder (nms.map λn=>bindName env n) vs) Q E s
theorem Ee{Ψ:Mu->Prop}(h:Ψ mu):OU k mu env [] [] Ψ:=⟨λ{z z z z z z z} hA r hv q=>hv.nil_inv▸ar (q .rfl r h)⟩
theorem pX{Ψ:Mu->Prop}{x:bb}{nms:List bb}(he:du env)(sl:Sl env L lay x j)(hi:mu[i]? =ae (bq L lay bB))(h:OU k (mu.set i (bq L lay (bB.set j (ae y)))) env nms xs Ψ)(Cz:autoParam ((env.kindOf x == ae .free)=aH) aR):
 OU k mu env (x::nms) (y::xs) Ψ:=⟨λ{A E Z s fr vs Q} hA r hv q=>by
 obtain ⟨v,vs,rfl,hv,hr⟩:=hv.cons_inv;exact ag (bE (wpAny_bindName (xR r he sl hi (beq_eq_false_iff_ne.mp Cz) hv λs' r'=>h.c hA r' hr q)))⟩
theorem bW.rev{Z:bI}{vs:List ai}{xs:List V}(h:bW G Z vs xs):bW G Z vs.reverse xs.reverse:=h.ind .nil λ{z z z z} hv z ih=>by (refine aj (CQ ..) ?_;refine aj (CQ ..) ?_);exact ih.append (.cons hv .nil)
theorem HE{kk:Nat}{elts:List bH}{M4:jC}{nms:List bb}{e:bH}{Ψ:AF->Mu->Prop}(hv:WE k mu env e λy nu=>∃xs,y= .tup xs/\xs.length=nms.length/\OU k nu env nms.reverse xs.reverse (Ψ .next))(hs:wB [.Tuple elts kk M4] e pos.line env=dg aH)(hw:wC [.Tuple elts kk M4] e env=dg (ae nms)):
 WX k mu env (.Assign [.Tuple elts kk M4] e pos) Ψ:=⟨λ{A E Z s fr Q} hA r q=>by
 refine PyProof.Rows.Assign_Tuple_swapped ?_ hs hw;refine hv.c hA r λ{v s1 Z1 y nu} z1 q1 r1 w=>?_;obtain ⟨xs,rfl,hl,w⟩:=w;obtain ⟨a,o,vs,n,rfl,e1,hc,hd,hr⟩:=aZ.tup_inv q1;refine fZ (hl ..) ?_;refine aj (b9 hr ..) ?_;exact wpAny_unpackItems_tuple hA.hh (⟨_,r1.zin _ _ e1,hc,n,hd⟩:s1.heap.IsTuple a vs) λh' hx=>w.c hA (r1.keep (tk:=s1.toks) λb o e=>hx b o (c8 (bN e)) e) hr.rev λ{z z z} z2=>q (z1.trans z2) .next⟩
end
variable {A:ay}
theorem OV{a:Int}{n:Nat}(h:a=(n:Nat)):V.int a=nV n:=congrArg V.int h
noncomputable abbrev S4(ds:List Nat)(ns:List Int)(A:ay):List (Nat×V):=[(11,.list ((aN 7).map λb=>nV (cc ds b))),(10,.ref A),(42,.dict (qD (aF ds))),(7,rY (aF ds)),(5,nV (aF ds)),(4,.list (ds.map nV)),(3,.list (ns.map .int))]
noncomputable abbrev S7(ds:List Nat)(ns:List Int)(A Du Oc:ay):List (Nat×V):=(13,.ref Oc)::(12,.ref Du)::S4 ds ns A
noncomputable def eQ(ds:List Nat)(n6:Nat)(ps:List Nat):List Int:=ps.foldl (λ(xs:List Int) (p:Nat)=>iA n6 xs (jy ds p)) []
theorem Cf(ps:List Nat)(p:Nat):eQ ds n6 (ps++[p])=iA n6 (eQ ds n6 ps) (jy ds p):=by unfold eQ;refine aj (fu ..) ?_;rfl
theorem r8:∀ps:List Nat,(eQ ds n6 ps).length<=12*ps.length:=λps=>by
 have:∀(ps:List Nat) (xs:List Int),(ps.foldl (λ(xs:List Int) (p:Nat)=>iA n6 xs (jy ds p)) xs).length<=xs.length+12*ps.length:=λps=>by
  induction ps with
  |nil=>intro xs;simp
  |cons p ps ih=>intro xs;have h:=ih (iA n6 xs (jy ds p));have h2:=wc (n6:=n6) (jy ds p) xs;have h3:(jy ds p).length=4:=rfl;simp only [fF,bK];lia
 have h:=this ps [];simpa [eQ] using h
theorem S7.again{vs:ej}{Du Oc:ay}{j:Nat}{y:V}(h:Sv vs ((j,y)::S7 ds ns A Du Oc))(hj:(S7 ds ns A Du Oc).lookup j=av):Sv vs (S7 ds ns A Du Oc):=h.drop hj
theorem lM{α:Type}{xs:List α}{i:Nat}{a:α}(h:xs[i]? =ae a):xs.take (i+1)=xs.take i++[a]:=by (refine aj (dE ..) ?_;refine aj (h ..) ?_);rfl
def yG.S0(k:Nat)(mu:Mu)(Θ:AF->Mu->Prop)(L A:ay)(ds:List Nat)(ns:List Int)(n6:Nat)(pm doc:ai):Prop:=∀{vs:ej} (H:Hy G) (he:du (bT pm doc L)) (hD:Dr ds ns n6) (hS:Sv vs (S4 ds ns A)) (next:∀vs Oc Du,Sv vs (S7 ds ns A Du Oc)->WS (k+8) (bl Oc ((eQ ds n6 [10,14]).map .int)::bl Du ([10,14].map (u0 ds))::bl A ((dm ds).map kH)::cw L vs::mu) (bT pm doc L) (mw 9) Θ),WS (k+8) (bl A ((dm ds).map kH)::cw L vs::mu) (bT pm doc L) (mw 7) Θ
namespace yG
@[irreducible] def e0:=zJ eN gD s9 cL cL gD gD eN gL gL S0
def k_:=e0.1
def fb:=e0.2.1
def Θ_:=e0.2.2.1
def L_:=e0.2.2.2.1
def A_:=e0.2.2.2.2.1
def aV:=e0.2.2.2.2.2.1
def Hz:=e0.2.2.2.2.2.2.1
def gO:=e0.2.2.2.2.2.2.2.1
def pj:=e0.2.2.2.2.2.2.2.2.1
def g8:=e0.2.2.2.2.2.2.2.2.2
theorem T0:S0 k_ fb Θ_ L_ A_ aV Hz gO pj g8:=by
 intro vs H he hD hS next
 refine aC (HE (nms:=["due","octets"]) (Ce (cA (sD (xs:=[]) aT (by show 0<=2 ^ 20;decide) (λDu=>fL.ref (cA (sD (xs:=[]) aT (by show 0<=2 ^ 20;decide) (λOc=>fL.ref (e9 ⟨by show 2<=2 ^ 20;decide,_,rfl,rfl,pX (i:=3) (j:=13) he .loc rfl (pX (i:=3) (j:=12) he .loc rfl (Ee ?_))⟩)))))))) rfl rfl);have hS1:Sv _ (S7 aV Hz A_ Du Oc):=((hS.set (j:=13) (y:= .ref Oc)).set (j:=12) (y:= .ref Du)).sub ⟨rfl,rfl,rfl,rfl,rfl,rfl,rfl,rfl,rfl,trivial⟩;refine aC (jO (ctx:=[]) (xs:=[10,14].map nV) (λi nu=>∃rr,nu=bl Oc ((eQ aV gO ([10,14].take i)).map .int)::bl Du (([10,14].take i).map (u0 aV))::bl A_ ((dm aV).map kH)::cw L_ rr::fb/\Sv rr (S7 aV Hz A_ Du Oc))
  (xA (f9 (xs:=[nV 10,nV 14]) (au aU (au aU aT)) (by show 2<=2 ^ 20;decide))) (by lia) ⟨_,rfl,hS1⟩ (λi nu h o ho=>(eo ho)) ?_ ?_)
 ·intro i x nu hx dO;refine aK dO λrr eT hS=>?_;clear dO;subst eT;rw [aJ] at hx;refine aK (aL.mp hx) λq hq gi=>?_;subst gi;have Ul:i < 2:=(aB.mp hq).1;have hq14:q<=14:=by have:=ao hq;simp at this;lia
  have hf:∀{x y z:cX} {rr},bq L_ (aM (L_+1) (bk (cN 23)).names) rr∈x::y::z::cw L_ rr::fb:=ab _ (ab _ (ab _ aa));refine aQ (i:=3) (j:=1) he .loc rfl ?_;have hS2:=hS.set (j:=1) (y:=nV q);have hs6:=HC (ds:=aV) q;have he6:=LX (ds:=aV) q;have ht6:=HD (ds:=aV) q;refine aC (HE (nms:=["start","target","last"]) (cf (y:= .tup [nV (sP aV q),nV (tP aV q),nV (lP aV q)]) (f9 (xs:=[nV (sP aV q),nV (tP aV q),nV (lP aV q)]) (au (bM (br (bF (dD (ah (j:=4) he (.cell (L_+3) "draws") hf (hS2.get rfl))) (ah (j:=1) he .loc hf (hS2.get rfl)) (ew (hD.at (i:=q) (by exact b7 (by assumption) (by decide))) (by refine aj (hD.len ..) ?_;decide))) aU (fk (by decide))) (OV (by unfold sP;lia))) (au (bM (br aU (br (bF (dD (ah (j:=4) he (.cell (L_+3) "draws") hf (hS2.get rfl))) (br (ah (j:=1) he .loc hf (hS2.get rfl)) aU fC) (ew (hD.at (i:=q+2) (by lia)) (by refine aj (hD.len ..) ?_;decide))) aU (fk (by decide))) fC) (OV (by unfold tP;lia))) (au (bF (dD (ah (j:=4) he (.cell (L_+3) "draws") hf (hS2.get rfl))) (br (ah (j:=1) he .loc hf (hS2.get rfl)) aU fC) (ew (hD.at (i:=q+3) (by lia)) (by refine aj (hD.len ..) ?_;decide))) aT))) (by show 3<=2 ^ 20;decide)) ⟨_,rfl,rfl,pX (i:=3) (j:=16) he .loc rfl (pX (i:=3) (j:=15) he .loc rfl (pX (i:=3) (j:=14) he .loc rfl (Ee ?_)))⟩) rfl rfl);have hS3:=((hS2.set (j:=16) (y:=nV (lP aV q))).set (j:=15) (y:=nV (tP aV q))).set (j:=14) (y:=nV (sP aV q));refine aC (bX (y:=nV (eP aV q)) (bM (br (br (ah (j:=14) he .loc hf (hS3.get rfl)) aU fC) (br (bF (dD (ah (j:=4) he (.cell (L_+3) "draws") hf (hS3.get rfl))) (br (ah (j:=1) he .loc hf (hS3.get rfl)) aU fC) (ew (hD.at (i:=q+1) (by lia)) (by refine aj (hD.len ..) ?_;decide))) (bM (br aU (ah (j:=14) he .loc hf (hS3.get rfl)) vL) (OV (n:=6 - sP aV q) (by lia))) (fk (by lia))) fC) (OV (by unfold eP;lia))) (aQ (i:=3) (j:=17) he .loc rfl ?_) rfl rfl);have Ac:=hS3.set (j:=17) (y:=nV (eP aV q));have Td:∀{b:Nat},b < 7->(aN 7)[b]? =ae b:=λ{w} h=>bz h;refine aC (ig (mZ (ah (j:=12) he .loc hf (Ac.get rfl)) (j5 (xs:=([10,14].take i).map (u0 aV)) (ab _ aa)) (au (P:=bZ (u0 aV q)) (f9 (xs:=[nV (2*cc aV (sP aV q)),nV (2*cc aV (eP aV q)),nV (2*cc aV (tP aV q)),nV (lP aV q / 2),.bool (decide (lP aV q % 2=1))]) (au (bM (br aU (bF (dD (ah (j:=11) he .loc hf (Ac.get rfl))) (ah (j:=14) he .loc hf (Ac.get rfl)) (ew (Td (by exact cI (by assumption))) (by decide))) (mY (by decide))) (OV (by lia))) (au (bM (br aU (bF (dD (ah (j:=11) he .loc hf (Ac.get rfl))) (ah (j:=17) he .loc hf (Ac.get rfl)) (ew (Td (by lia)) (by decide))) (mY (by decide))) (OV (by lia))) (au (bM (br aU (bF (dD (ah (j:=11) he .loc hf (Ac.get rfl))) (ah (j:=15) he .loc hf (Ac.get rfl)) (ew (Td (by lia)) (by decide))) (mY (by decide))) (OV (by lia))) (au (bM (br (ah (j:=16) he .loc hf (Ac.get rfl)) aU (l9 (by decide))) (OV (by lia))) (au (bM (mJ (br (ah (j:=16) he .loc hf (Ac.get rfl)) aU (fk (by decide))) aU qu) ?_) aT))))) (by show 5<=2 ^ 20;decide)) aT) (kA (i:=1) rfl (by (refine aj (ak ..) ?_;refine aj (dR ..) ?_);show min i 2 < 2 ^ 22;lia) ?_) (by exact fP) (by exact iT) (by exact iU) rfl))
  ·refine congrArg V.bool ?_;by_cases h:lP aV q % 2=1
   ·(refine aj (decide_eq_true h ..) ?_;refine gj (beq_iff_eq ..) ?_);lia
   ·(refine aj (decide_eq_false h ..) ?_;refine gj (beq_eq_false_iff_ne ..) ?_);lia
  have hX:=r8 (ds:=aV) (n6:=gO) ([10,14].take i);have hT:([10,14].take i).length<=2:=by refine aj (dR ..) ?_;exact ow _ _
  generalize hXe:eQ aV gO ([10,14].take i)=X at hX ⊢;refine cq (H.f285.go) λob Uh cd' Jp h0 hd w=>?_;have hS5:Sv _ (S7 aV Hz A_ Du Oc):=Ac.sub ⟨rfl,rfl,rfl,rfl,rfl,rfl,rfl,rfl,rfl,trivial⟩;refine aC (jO (ctx:=[]) (xs:=(jy aV q).map nV) (λj nu=>∃rr,nu=bl Oc ((iA gO X ((jy aV q).take j)).map .int)::bl Du (([10,14].take i).map (u0 aV)++[u0 aV q])::bl A_ ((dm aV).map kH)::cw L_ rr::fb/\Sv rr (S7 aV Hz A_ Du Oc))
   (xA (f9 (xs:=(jy aV q).map nV) (au (bF (dD (ah (j:=11) he .loc hf (Ac.get rfl))) (ah (j:=14) he .loc hf (Ac.get rfl)) (ew (Td (by exact cI (by assumption))) (by decide))) (au (bM (br (bF (dD (ah (j:=11) he .loc hf (Ac.get rfl))) (ah (j:=17) he .loc hf (Ac.get rfl)) (ew (Td (by lia)) (by decide))) (bF (dD (ah (j:=11) he .loc hf (Ac.get rfl))) (ah (j:=14) he .loc hf (Ac.get rfl)) (ew (Td (by exact cI (by assumption))) (by decide))) vL) ?_) (au (bF (dD (ah (j:=11) he .loc hf (Ac.get rfl))) (ah (j:=15) he .loc hf (Ac.get rfl)) (ew (Td (by lia)) (by decide))) (au (ah (j:=16) he .loc hf (Ac.get rfl)) aT)))) (by show 4<=2 ^ 20;decide))) (by lia) ⟨_,rfl,hS5⟩ (λi nu h o ho=>(eo ho)) ?_ ?_)
  ·have:cc aV (sP aV q)<=cc aV (eP aV q):=nQ (by lia);exact OV (by lia)
  ·intro j x nu hx iC;refine aK iC λrr kG hS=>?_;clear iC;subst kG;rw [aJ] at hx;refine aK (aL.mp hx) λn hn ma=>?_;subst ma;have hj4:j < 4:=(aB.mp hn).1;refine aQ (i:=3) (j:=2) he .loc rfl ?_;have hS6:=hS.set (j:=2) (y:=nV n);have hY:=wc (n6:=gO) ((jy aV q).take j) X;have hTj:((jy aV q).take j).length<=4:=by refine aj (dR ..) ?_;exact ow _ _
   have hoc:=Eb n ((gO:Int) / (((iA gO X ((jy aV q).take j)).length:Int)+1));have hsn:=Gb (n6:=gO) ((jy aV q).take j) n X;refine aj (lM hn ..) ?_;refine aj (hsn ..) ?_;generalize iA gO X ((jy aV q).take j)=Y at hY hoc ⊢;refine aC (OT (i:=3) (j:=13) (m:=0) (xs:=Y.map .int) (ys:=(gm n ((gO:Int) / ((Y.length:Int)+1))).map .int) he .loc rfl (hS6.get rfl) rfl (ju (ys:=[nV n,.int ((gO:Int) / ((Y.length:Int)+1))]) (mn H he H.m_octets rfl) h0 hd (au (ah (j:=2) he .loc hf (hS6.get rfl)) (au (br (bF (dD (ah (j:=3) he (.cell (L_+2) "numbers") hf (hS6.get rfl))) aU (ew (j:=6) hD.six (by refine aj (hD.nlen ..) ?_;decide))) (br (bM (ek (j4 H he H.b_len rfl) (au (uG (ah (j:=13) he .loc hf (hS6.get rfl)) aa) aT) (mi (by refine aj (ak ..) ?_;lia))) (by (refine aj (ak ..) ?_;rfl))) aU fC) (l9 (by lia))) aT)) (LS H)) (by (refine aj (ak ..) ?_;refine aj (ak ..) ?_);lia) (by decide) ?_);refine bC ⟨_,by refine fZ (bj ..) ?_;rfl,(hS6.set (j:=13)).sub ⟨rfl,rfl,rfl,rfl,rfl,rfl,rfl,rfl,rfl,trivial⟩⟩
  ·intro nu mE;refine aK mE λrr q7 hS=>?_;clear mE;subst q7;refine bC (bC ⟨rr,?_,hS⟩);rw [lM hq,Cf,hXe,bj,ak,cK];rfl
 ·intro nu ue;refine aK ue λrr mP hS=>?_;clear ue;subst mP;exact bC (next _ _ _ hS)
end yG
theorem yG{pm doc:ai}:yG.S0 k mu Θ L A ds ns n6 pm doc:=by with_unfolding_all exact uE _ _ _ _ _ _ _ _ _ _ yG.S0 @yG.T0 k mu Θ L A ds ns n6 pm doc
variable {Du Oc:ay}
noncomputable def xH:List bb:=["a","b c","\"d","\\e","#\t","\n\r"]
noncomputable def tS(ds:List Nat)(n6:Nat):List Int:=eQ ds n6 [10,14]++(eQ ds n6 [10,14]).take (n6 % 4)
noncomputable def qM(ds:List Nat)(n6:Nat):bb:=fO "" ((tS ds n6).map λo=>⟨#[o.toNat]⟩)
noncomputable def d9(ds:List Nat)(n6:Nat):List bb:=((dm ds).flatMap λq=>[q.1,q.2].map λb=>xH.getD b "")++[qM ds n6,"done","end"]
noncomputable def g9(ds:List Nat)(n6:Nat):bb:=fO "" ((d9 ds n6).zipIdx.map λq=>ik q.1 ((n6:Int) / ((q.2:Int)+1)))
theorem nf{sep:bb}{l:List bb}{B:Nat}(hb:∀t∈l,t.length<=B)(h:l.length*(B+sep.length)<=2 ^ 20):Nk sep l=aI:=by
 refine joinOk_of ?_;have h1:∀l:List bb,(∀t∈l,t.length<=B)->(l.map (·.length)).sum<=l.length*B:=by
  intro l;induction l with
  |nil=>intro z;simp
  |cons a l ih=>intro h;have:=ih λi hi=>h i (ab _ hi);have:=h a aa;simp only [bA,da,bK];refine aj (iS ..) ?_;lia
 have h2:=h1 l hb;rw [Nat.mul_add] at h;have:(2:Nat) ^ 20<=er:=by show 2 ^ 20<=2 ^ 24;decide
 lia
theorem wd{l:List bb}{B:Nat}(hb:∀t∈l,t.length<=B):(fO "" l).length<=l.length*B:=by
 have h:(fO "" l).length<=(l.map (·.length)).sum:=by have h0:("":bb).length=0:=rfl;have e:(fO "" l).length=(l.map (·.length)).sum+(l.length - 1)*("":bb).length:=size_glued "" l;(refine aj (e ..) ?_;refine aj (h0 ..) ?_);lia
 have h1:∀l:List bb,(∀t∈l,t.length<=B)->(l.map (·.length)).sum<=l.length*B:=by
  intro l;induction l with
  |nil=>intro z;simp
  |cons a l ih=>intro h;have:=ih λi hi=>h i (ab _ hi);have:=h a aa;simp only [bA,da,bK];refine aj (iS ..) ?_;lia
 have h2:=h1 l hb;exact aw h h2
theorem we(n:Nat)(w:Int)(i:Nat):0<=pV n w i/\pV n w i < 256:=by
 unfold pV;have h1:0<=(n:Int) / 64 ^ i % 64/\(n:Int) / 64 ^ i % 64 < 64:=⟨Int.emod_nonneg _ (by decide),Int.emod_lt_of_pos _ (by decide)⟩;have h2:0<=w / ((i:Int)+1) % 2/\w / ((i:Int)+1) % 2 < 2:=⟨Int.emod_nonneg _ (by decide),Int.emod_lt_of_pos _ (by decide)⟩
 split <;> omega
theorem LY(n:Nat)(w:Int):∀o∈gm n w,0<=o/\o < 256:=by
 intro o ho;have h0:=we n w 0;have h1:=we n w 1;have h2:=we n w 2;rcases kZ n w with h|h|h
 ·rw [tQ h] at ho;simp at ho;rcases ho with rfl|rfl|rfl <;> assumption
 ·rw [yE h] at ho;simp at ho;rcases ho with rfl;assumption
 ·rw [yD h] at ho;simp at ho;rcases ho with rfl|rfl <;> assumption
theorem wg:∀(l:List Nat) (xs:List Int),(∀o∈xs,0<=o/\o < 256)->∀o∈iA n6 xs l,0<=o/\o < 256
 |[],xs,h=>h
 |n::l,xs,h=>wg l _ λo ho=>by
  rcases bc.mp ho with h'|h'
  ·exact h o h'
  ·exact LY n _ o h'
theorem wW:∀o∈eQ ds n6 [10,14],0<=o/\o < 256:=by unfold eQ;simp only [fF,List.foldl_nil];exact wg _ _ (wg _ _ λo ho=>eo ho)
theorem u3:∀o∈tS ds n6,0<=o/\o < 256:=λo ho=>by
 rcases bc.mp ho with h|h
 ·exact wW o h
 ·exact wW o (pB h)
theorem yH:(tS ds n6).length<=27:=by delta tS;have:=r8 (ds:=ds) (n6:=n6) [10,14];have h2:[10,14].length=2:=rfl;have h3:=List.length_take_le (n6 % 4) (eQ ds n6 [10,14]);refine aj (ba ..) ?_;lia
def kf.S0(ds:List Nat)(_:Nat):Prop:=∀q∈dm ds,q.1 < 6/\1<=q.2/\q.2 < 6
namespace kf
@[irreducible] def e0:=Qg gD eN S0
def aV:=e0.1
theorem T0:S0 aV e0.2:=by
 unfold S0;intro q hq;unfold dm LP LQ at hq;have m6:∀n,n % 6 < 6:=λn=>ee _ (by decide);have m5:∀n,n % 5 < 5:=λn=>ee _ (by decide);simp only [bA,vf,fU,qi,aP,ux,or_false] at hq;have a1:=ee (dr aV (2 - 2)) (show 0 < 2 by decide);have a2:=ee (dr aV (3 - 2)) (show 0 < 3 by decide);have a3:=ee (dr aV (4 - 2)) (show 0 < 4 by decide);have a4:=ee (dr aV (5 - 2)) (show 0 < 5 by decide);rcases hq with rfl|rfl|rfl|rfl|rfl|rfl|rfl|rfl
 ·exact ⟨by decide,by decide,by decide⟩
 ·exact ⟨by show _ < 6;exact cb (by assumption) (by decide),by show 1<=2;decide,by show 2 < 6;decide⟩
 ·exact ⟨by show _ < 6;exact cb (by assumption) (by decide),by show 1<=3;decide,by show 3 < 6;decide⟩
 ·exact ⟨by show _ < 6;exact cb (by assumption) (by decide),by show 1<=4;decide,by show 4 < 6;decide⟩
 ·exact ⟨by show _ < 6;exact cI (by assumption),by show 1<=5;decide,by show 5 < 6;decide⟩
 ·exact ⟨m6 _,by show 1<=1+_;exact dC _ _,by have:=m5 (dr aV (4+1));show 1+_ < 6;lia⟩
 ·exact ⟨m6 _,by show 1<=1+_;exact dC _ _,by have:=m5 (dr aV (6+1));show 1+_ < 6;lia⟩
 ·exact ⟨m6 _,by show 1<=1+_;exact dC _ _,by have:=m5 (dr aV (8+1));show 1+_ < 6;lia⟩
end kf
theorem kf(ds:List Nat):kf.S0 ds 0:=by with_unfolding_all exact Fo _ _ kf.S0 @kf.T0 ds 0
theorem OW(b:Nat):(xH.getD b "").length<=27:=by
 rcases gX b 6 with h|h
 ·rcases (by lia:b=0\/b=1\/b=2\/b=3\/b=4\/b=5) with rfl|rfl|rfl|rfl|rfl|rfl <;> decide
 ·(refine aj (bR ..) ?_;refine aj (il (by exact h) ..) ?_);decide
theorem yI:(qM ds n6).length<=27:=by refine aw (wd (B:=1) λt ht=>?_) (by refine aj (ak ..) ?_;have:=yH (ds:=ds) (n6:=n6);lia);refine aK (aG.mp ht) λo z dO=>?_;subst dO;exact bp 1
theorem wh:∀w∈d9 ds n6,w.length<=27:=by
 intro w hw;rcases bc.mp hw with h|h
 ·refine aK (bG.mp h) λq z h2=>aK (aG.mp h2) λb z eT=>?_;subst eT;exact OW b
 ·simp only [aP,ux,or_false] at h;rcases h with rfl|rfl|rfl
  ·exact yI
  ·decide
  ·decide
theorem LZ:(dm ds).length=8:=rfl
theorem pY:(d9 ds n6).length=19:=rfl
theorem Gc(w:Int)(q:Nat×Nat):(lK w q).length<=2:=by
 unfold lK
 split
 ·exact bp 2
 ·show 1<=2;decide
theorem wi{x:bb}(w:Int)(hx:x.length<=1000):(qK x w).length<=2*x.length/\Nk "" (x.cps.toList.zipIdx.map (lK w))=aI:=by
 have hl:(x.cps.toList.zipIdx.map (lK w)).length=x.length:=by simp [Str.length]
 have hb:∀t∈x.cps.toList.zipIdx.map (lK w),t.length<=2:=λt ht=>by
  refine aK (aG.mp ht) λq z gi=>?_;subst gi;exact Gc w q
 have h0:("":bb).length=0:=rfl;refine ⟨?_,nf hb (by (refine aj (hl ..) ?_;refine aj (h0 ..) ?_);show _<=1048576;lia)⟩;have:=wd hb;rw [hl] at this;unfold qK;lia
theorem wX{x:bb}(w:Int)(hx:x.length<=27):(ik x w).length<=60:=by
 have h:=(wi w (x:=x) (by exact aw (by assumption) (by decide))).1;have hg:(jN w).length<=2:=by
  unfold jN;have h:(w / 4 % 5).toNat < 5:=by lia
  generalize (w / 4 % 5).toNat=n at h
  match n,h with
  |0,_=>exact bg rfl
  |1,_=>exact bg rfl
  |2,_=>exact bg rfl
  |3,_=>exact bg rfl
  |4,_=>
   show (if decide (w % 4 < 2)=aI then ("":bb) else " \n").length<=_
   split <;> decide
 have h1:("\"":bb).length=1:=rfl;unfold ik
 split
 ·(refine aj (qL ..) ?_;refine aj (qL ..) ?_;refine aj (qL ..) ?_;refine aj (h1 ..) ?_);lia
 ·refine aj (qL ..) ?_;lia
theorem I0:Nk "" ((d9 ds n6).zipIdx.map λq=>ik q.1 ((n6:Int) / ((q.2:Int)+1)))=aI:=by
 refine nf (B:=60) (λt ht=>?_) (by (refine aj (ak ..) ?_;refine aj (eX ..) ?_;refine aj (pY ..) ?_);decide);refine aK (aG.mp ht) λq hq iC=>?_;subst iC;have EP:q.1∈d9 ds n6:=by
  have:=gS (f:=uy) hq
  rwa [jd] at this
 exact wX _ (wh _ EP)
theorem Ef:(g9 ds n6).length<=1200:=by
 refine aw (wd (B:=60) λt ht=>?_) (by (refine aj (ak ..) ?_;refine aj (eX ..) ?_;refine aj (pY ..) ?_);decide);refine aK (aG.mp ht) λq hq kG=>?_;subst kG;have EP:q.1∈d9 ds n6:=by
  have:=gS (f:=uy) hq
  rwa [jd] at this
 exact wX _ (wh _ EP)
noncomputable def qN:List Nat->Mu->Mu
 |[],nu=>nu
 |j::js,nu=>match nu[j]? with
  |some a=>a::qN js (nu.eraseIdx j)
  |none=>nu
theorem yJ:∀{nu:Mu} {j:Nat} {a:cX},nu[j]? =ae a->nu.Perm (a::nu.eraseIdx j)
 |b::nu,0,a,h=>by (have lA:=aO h;clear h;subst lA);exact ic _
 |b::nu,j+1,a,h=>((yJ (nu:=nu) (j:=j) h).cons b).trans (jh a b _)
theorem nh:∀(js:List Nat) (nu:Mu),nu.Perm (qN js nu)
 |[],nu=>ic _
 |j::js,nu=>by
  show nu.Perm (match nu[j]? with|some a=>a::qN js (nu.eraseIdx j)|none=>nu);cases h:nu[j]? with
  |none=>exact ic _
  |some a=>exact (yJ h).trans ((nh js _).cons a)
theorem WF.to{nu:Mu}{t:mF uj}(js:List Nat)(h:WF k (qN js nu) t Θ):WF k nu t Θ:=⟨λ{A E Z s fr Q} hA r=>h.c hA (r.perm ((nh js nu).append_right fr))⟩
noncomputable def yK(a:ay)(xs:List V):cX where
 own:=[]
 sat:=λZ h=>∃o vs n,Z a=ae o/\o.cls= .type "tuple"/\o.data= .seq vs n/\o.dict=av/\bW G Z vs.toList xs
 mono:=λZ Z' h hz=>bQ λo=>bQ λvs=>bQ λn u=>⟨hz _ _ u.1,u.2.1,u.2.2.1,u.2.2.2.1,u.2.2.2.2.mono hz⟩
 loc:=λZ h h' q z z z=>q
 live:=λZ h q c hc=>eo hc
theorem PE_tk{e:bH}{a:ay}{xs:List V}(h:PE k mu env e (.ref a))(hm:yK a xs∈mu):PE k mu env e (.tup xs):=⟨λ{A E Z s fr Q} hA r q=>h.c hA r λ{v s1 Z1} z1 q1 r1=>by
 refine aj (aZ.refE q1 ..) (g6 (r1.sat _ (aE fr hm)) λo vs n h1 h2 h3 z h5=>?_);exact q z1 (aZ.tup h1 h2 h3 h5) r1⟩
theorem ty_tk{a:ay}{xs:List V}(hm:yK a xs∈mu):Ty mu (bZ (.ref a)) "tuple":=⟨λZ s fr v r h=>by
 exact g6 (r.sat _ (aE fr hm)) λo vs n h1 h2 h3 h4 h5=>aZ.refE h▸Ty.at (r.zin _ _ h1) h2 h4⟩
theorem OX{es:List bH}{kk:Nat}{xs:List V}(h:tC k mu env es (xs.map bZ))(hl:xs.length<=2 ^ 20)(hΦ:∀a,Φ (.ref a) (yK a xs::mu)):WE k mu env (.Tuple es kk pos) Φ:=⟨λ{A E Z s fr Q} hA r q=>by
 with_reducible refine E3 ?_
 refine h.c hA r λ{vs s1 Z1} z1 q1 r1=>⟨q1.size hl,?_⟩
 have z2:=bI.le_put (o:={cls:= .type "tuple",data:= .seq vs.toArray}) (r1.fresh (bp _));exact q (z1.trans z2) (aZ.ref _) (r1.pushZ.addNew (tk:=s1.toks) (h':=s1.heap.push {cls:= .type "tuple",data:= .seq vs.toArray}) (yK s1.heap.objs.size xs) (λb o e=>e) ⟨_,vs.toArray,0,bI.put_self ..,rfl,rfl,rfl,q1.vrels.mono z2⟩ kQ (λb hb=>eo hb)) (hΦ _)⟩
noncomputable abbrev S9(ds:List Nat)(ns:List Int)(n6:Nat)(A Du Oc Sg:ay):List (Nat×V):=(20,.str (g9 ds n6))::(19,.list ((d9 ds n6).map .str))::(18,.ref Sg)::S7 ds ns A Du Oc
def yL.S0(k:Nat)(L A Du Oc:ay)(ds:List Nat)(ns:List Int)(n6:Nat)(pm doc:ai):Prop:=∀{mu:Mu} {vs:ej} {Θ:AF->Mu->Prop} (H:Hy G) (he:du (bT pm doc L)) (hD:Dr ds ns n6) (hS:Sv vs (S7 ds ns A Du Oc)) (next:∀vs Sg,Sv vs (S9 ds ns n6 A Du Oc Sg)->WS (k+8) (bl Oc ((eQ ds n6 [10,14]).map .int)::bl Du ([10,14].map (u0 ds))::bl A ((dm ds).map kH)::cw L vs::yK Sg (xH.map .str)::mu) (bT pm doc L) (mw 12) Θ),WS (k+8) (bl Oc ((eQ ds n6 [10,14]).map .int)::bl Du ([10,14].map (u0 ds))::bl A ((dm ds).map kH)::cw L vs::mu) (bT pm doc L) (mw 9) Θ
namespace yL
@[irreducible] def e0:=zJ eN cL cL cL cL gD gD eN gL gL S0
def k_:=e0.1
def L_:=e0.2.1
def A_:=e0.2.2.1
def JS:=e0.2.2.2.1
def Sa:=e0.2.2.2.2.1
def aV:=e0.2.2.2.2.2.1
def Hz:=e0.2.2.2.2.2.2.1
def gO:=e0.2.2.2.2.2.2.2.1
def pj:=e0.2.2.2.2.2.2.2.2.1
def g8:=e0.2.2.2.2.2.2.2.2.2
theorem T0:S0 k_ L_ A_ JS Sa aV Hz gO pj g8:=by
 intro mu vs Θ H he hD hS next
 have hf:∀{x y z:cX} {rr} {mu:Mu},bq L_ (aM (L_+1) (bk (cN 23)).names) rr∈x::y::z::cw L_ rr::mu:=ab _ (ab _ (ab _ aa));have hX:=r8 (ds:=aV) (n6:=gO) [10,14];have h2:[10,14].length=2:=rfl;refine aC (b4 (OX (xs:=xH.map .str) (au cO (au cO (au cO (au cO (au cO (au cO aT)))))) (by show 6<=2 ^ 20;decide) (λSg=>aQ (i:=4) (j:=18) he (.cell (L_+10) "signs") rfl ?_)) rfl rfl);refine WF.to [1,1,1,1] ?_;show WS (k_+8) (bl Sa ((eQ aV gO [10,14]).map .int)::bl JS ([10,14].map (u0 aV))::bl A_ ((dm aV).map kH)::cw L_ (vs.set 18 (ae (.ref Sg)))::yK Sg (xH.map .str)::mu) _ _ _;have hS1:=hS.set (j:=18) (y:= .ref Sg);have hK:∀{x y z w:cX} {mu:Mu},yK Sg (xH.map .str)∈x::y::z::w::yK Sg (xH.map .str)::mu:=ao (i:=4) rfl;refine aC (bX (y:= .list ((d9 aV gO).map .str)) (bM (br (dD (Hx (dm aV) kH (λq=>[q.1,q.2]) nV (λq b=> .str (xH.getD b "")) ⟨rfl,rfl,by decide+kernel,by decide+kernel⟩ (Ay (ah (j:=10) he (.cell (L_+9) "arms") hf (hS1.get rfl)) (ab _ (ab _ aa))) (by lia) (by show 16<=2 ^ 21;decide) (λC a ha=>LK 1 2 he.comp .loc .loc rfl (xA (ah (j:=1) he.comp .loc aa rfl)) (λb hb=>bM (bF (PE_tk (ah (j:=18) he.comp (.cell (L_+10) "signs") (ab _ hf) (hS1.get rfl)) (ab _ hK)) (ah (j:=2) he.comp .loc aa rfl) (Qq (by exact dJ _) ?_ (by show 6 < 2 ^ 60;decide))) ?_)))) (dD (ij (xs:=[V.str (qM aV gO),.str "done",.str "end"]) (au (f7 cO mL (au (dD (jP (tS aV gO) .int (λo=> .str ⟨#[o.toNat]⟩) ⟨rfl,rfl,by decide+kernel,by decide+kernel⟩ (dA (bM (br (uG (ah (j:=13) he .loc hf (hS1.get rfl)) aa) (dD (bF (uG (ah (j:=13) he .loc hf (hS1.get rfl)) aa) (jo dM (eO (br (bF (dD (ah (j:=3) he (.cell (L_+2) "numbers") hf (hS1.get rfl))) aU (ew (j:=6) hD.six (by refine aj (hD.nlen ..) ?_;decide))) aU (fk (by decide)))) dM) (pg (by decide) (by refine aj (ak ..) ?_;show _<=8388608;exact aw (by assumption) (by decide))))) (uM ?_)) ?_)) (by lia) (aw yH (by decide)) (λC2 a ha=>iu 1 he.comp .loc dk (λhb=>ek (j4 H he.comp H.b_chr rfl) (au (ah (j:=1) he.comp .loc aa rfl) aT) (Rx (u3 a ha).1 (by have:=(u3 a ha).2;lia)))))) aT) (rL ?_) (by exact eM) (by exact nz) (by exact nA) rfl) (au cO (au cO aT))) (by show 3<=2 ^ 20;decide))) (uM ?_)) ?_) (aQ (i:=3) (j:=19) he .loc rfl ?_) rfl rfl)
 ·have:=kf aV a ha;have:b < 6:=by simp at hb;lia
  show (b:Int) < 6;lia
 ·refine aj (b8 ..) ?_;have:=kf aV a ha;have:b < 6:=by simp at hb;lia
  rcases (by lia:b=0\/b=1\/b=2\/b=3\/b=4\/b=5) with rfl|rfl|rfl|rfl|rfl|rfl <;> rfl
 ·have:=uZ ((eQ aV gO [10,14]).map V.int) av (ae ((gO:Int) % 4)) av;rw [ak] at this ⊢;show _<=8388608;lia
 ·rw [show ((gO:Int) % 4)=((gO % 4:Nat):Int) by lia,ON,tS,bj,List.map_take]
 ·refine nf (B:=1) (λt ht=>?_) (by refine aj (ak ..) ?_;have:=yH (ds:=aV) (n6:=gO);have h0:("":bb).length=0:=rfl;refine aj (h0 ..) ?_;show _<=1048576;lia);refine aK (aG.mp ht) λo v ma=>?_;subst ma;exact bp 1
 ·show 16+3<=2 ^ 23;decide
 ·unfold d9;rw [bj,uv];simp only [a0];rfl
 have hS2:=hS1.set (j:=19) (y:= .list ((d9 aV gO).map .str));refine cq (H.f280.go) λob Uh cd' Jp h0 hd v=>aC (bX (y:= .str (g9 aV gO)) (f7 cO mL (au (dD (jP ((d9 aV gO).zipIdx) (λq=> .tup [.int (q.2:Nat),.str q.1]) (λq=> .str (ik q.1 ((gO:Int) / ((q.2:Int)+1)))) ⟨rfl,rfl,by decide+kernel,by decide+kernel⟩ (sC (iN H he H.b_enumerate rfl) (ah (j:=19) he .loc hf (hS2.get rfl))) (by lia) (by rw [eX,pY];decide) (λC3 a ha=>tI 1 2 he.comp .loc .loc dk (λhb=>ju (ys:=[.str a.1,.int ((gO:Int) / ((a.2:Int)+1))]) (mn H he.comp H.m_spelled rfl) h0 hd (au (ah (j:=2) he.comp .loc aa rfl) (au (br (bF (dD (ah (j:=3) he.comp (.cell (L_+2) "numbers") (ab _ hf) (hS2.get rfl))) aU (ew (j:=6) hD.six (by rw [hD.nlen];decide))) (br (ah (j:=1) he.comp .loc aa rfl) aU fC) (l9 ?_)) aT)) (lL H ?_ ?_ ?_))))) aT) (rL I0) (by exact eM) (by exact nz) (by exact nA) rfl) (aQ (i:=3) (j:=20) he .loc rfl (next _ Sg (hS2.set (j:=20)))) rfl rfl)
 all_goals (have hm:a.1∈d9 aV gO:=by
  {have:=gS (f:=uy) ha
   rwa [jd] at this})
 all_goals have hw:=wh _ hm
 ·have:=List.snd_lt_of_mem_zipIdx ha;rw [pY] at this;lia
 ·with_reducible exact aw (by assumption) (by decide)
 ·have:=(wi ((gO:Int) / ((a.2:Int)+1)) (x:=a.1) (by exact aw (by assumption) (by decide))).1;lia
 ·exact (wi _ (x:=a.1) (by exact aw (by assumption) (by decide))).2
end yL
theorem yL{pm doc:ai}:yL.S0 k L A Du Oc ds ns n6 pm doc:=by with_unfolding_all exact uE _ _ _ _ _ _ _ _ _ _ yL.S0 @yL.T0 k L A Du Oc ds ns n6 pm doc
section
variable {ke ve:bH}{x:bb}
theorem L6(B:g7 G)(hk:PE k mu env ke (.str x))(hv:PE k mu env ve y):PE k mu env (.Dict [ae ke] [ve] pos) (.dict [(x,y)]):=⟨λ{A E Z s fr Q} hA r q=>by
 with_reducible refine wpAny_Dict_walk (knd:=strKind G.prog G.w) rfl rfl (by simp) (by simp) ?_
 refine pairTrees_cons_walk (hk.c (fr:=cD s.heap.objs.size []::fr) hA ((vQ B r).perm cu.symm) λ{kv s1 Z1} z1 q1 r1=>hv.c hA r1 λ{vv s3 Z3} z3 q3 r3=>pairTrees_nil_walk ?_);refine cJ (gV q1) λtk dO=>?_;subst dO;have r4:R Z3 (cD s.heap.objs.size []::(mu++fr)) s3:=r3.perm cu;refine qq (r4.sat _ aa) λhq kvs hD S8 hr1=>?_;cases jc.mp S8;exact ⟨[(x,vv)],⟨zu G.prog G.w x tk,rfl,trivial⟩,hD,λh' hD' uc=>(fL.dict (D:=s.heap.objs.size) (es:=[(x,y)]) (mu:=mu) (Θ:=λz nu=>z= .dict [(x,y)]/\nu=mu) ⟨rfl,rfl⟩).c (fr:=fr)
  (r4.upd' (x':=cD s.heap.objs.size [(x,y)]) (i:=0) (h':=h') (tk:=s3.toks+1) rfl rfl (λc o hb e=>uc.extBut c o (λq=>hb (q▸aa)) e) ⟨hq,[(x,vv)],hD',rfl,.cons q3 .nil⟩) λ{v v v} z6 q6 r6 u=>q (z1.trans (z3.trans z6)) (u.1▸q6) (u.2▸r6)⟩⟩
theorem WF.drop1{t:mF uj}{a:cX}(h:WF k nu t Θ):WF k (a::nu) t Θ:=⟨λ{A E Z s fr Q} hA r=>h.c hA (r.sublist (.cons _ (sR _)))⟩
theorem FW.app{f:ai}{xs:List V}(more:Mu)(h:FW k mu f xs Φ):FW k (mu++more) f xs λy nu=>∃nu',nu=nu'++more/\Φ y nu':=⟨λ{A E Z s fr vs Q} hA r hv q=>h.c (fr:=more++fr) hA (bU .. ▸r) hv λ{x x x x x} z w r u=>q z w ((bU ..).symm▸r) ⟨_,rfl,u⟩⟩
theorem FW.to{f:ai}{xs:List V}(js:List Nat)(h:FW k (qN js nu) f xs Φ):FW k nu f xs Φ:=⟨λ{A E Z s fr vs Q} hA r hv=>h.c hA (r.perm ((nh js nu).append_right fr)) hv⟩
theorem WF.from{t:mF uj}(js:List Nat){X:Mu}(e:qN js nu=X)(h:WF k X t Θ):WF k nu t Θ:=WF.to js (e▸h)
end
variable {Sg:ay}{K:fl}
theorem sH(l:List bb):(fO "" l).cps.toList=l.flatMap (·.cps.toList):=by
 cases l with
 |nil=>rfl
 |cons t ts=>
  have h:∀(ts:List bb) (acc:Array Nat),(ts.foldl (λacc p=>acc++("":bb).cps++p.cps) acc).toList=acc.toList++ts.flatMap (·.cps.toList):=λts=>by
   induction ts with
   |nil=>intro acc;simp
   |cons u ts ih=>
    intro acc;refine aj (fF ..) ?_;refine aj (ih ..) ?_;refine aj (dF ..) ?_;have:(acc++("":bb).cps++u.cps).toList=acc.toList++u.cps.toList:=by have:("":bb).cps=#[]:=rfl;refine aj (this ..) ?_;simp
    refine aj (this ..) ?_;simp
  show ((ts.foldl (λacc p=>acc++("":bb).cps++p.cps) t.cps).toList)=_;refine aj (h ..) ?_;refine aj (dF ..) ?_;rfl
theorem sI(a b:bb):(a++b).cps.toList=a.cps.toList++b.cps.toList:=by show (a.cps++b.cps).toList=_;simp
abbrev jz(x:bb):Prop:=∀c∈x.cps.toList,c < 256
theorem jz.cat{a b:bb}(ha:jz a)(hb:jz b):jz (a++b):=λc hc=>by
 rw [sI] at hc;rcases bc.mp hc with h|h
 ·exact ha c h
 ·exact hb c h
theorem jz.join{l:List bb}(h:∀t∈l,jz t):jz (fO "" l):=λc hc=>by
 rw [sH] at hc;exact aK (bG.mp hc) λt ht h2=>h t ht c h2
theorem Eg(w:Int):jz (jN w):=by
 unfold jN;have h:(w / 4 % 5).toNat < 5:=by lia
 generalize (w / 4 % 5).toNat=n at h;have:∀x∈([["\n","\t","\r"," ",""],["\n","\t","\r"," "," \n"]]:List (List bb)),∀n,n < 5->jz (x.getD n ""):=by decide
 split
 ·exact this _ (.head _) n h
 ·exact this _ (.tail _ (.head _)) n h
theorem Ge{x:bb}(w:Int)(hx:jz x):jz (ik x w):=by
 have h1:jz (qK x w):=jz.join λt ht=>by
  refine aK (aG.mp ht) λq hq dO=>?_;subst dO;have hm:q.1∈x.cps.toList:=by
   have:=gS (f:=uy) hq
   rwa [jd] at this
  have h0:jz (⟨#[q.1]⟩:bb):=λc hc=>by
   have:c=q.1:=by simpa using hc
   subst this;exact hx _ hm
  unfold lK
  split
  ·exact jz.cat (by decide) h0
  ·exact h0
 have h2:jz ("\"":bb):=by decide
 unfold ik
 split
 ·exact ((h2.cat h1).cat h2).cat (Eg w)
 ·exact h1.cat (Eg w)
theorem tT:(qM ds n6).cps.toList=(tS ds n6).map uw:=by
 unfold qM;refine aj (sH ..) ?_;induction tS ds n6 with
 |nil=>rfl
 |cons a l ih=>(refine aj (bA ..) ?_;refine aj (dF ..) ?_;refine aj (ih ..) ?_);rfl
theorem A0:jz (qM ds n6):=λc hc=>by
 rw [tT] at hc;refine aK (aG.mp hc) λo ho eT=>?_;subst eT;have:=u3 o ho;lia
theorem Eh:∀w∈d9 ds n6,jz w:=by
 intro w hw;have h6:∀n,n < 6->jz (xH.getD n ""):=by decide
 rcases bc.mp hw with h|h
 ·refine aK (bG.mp h) λq hq h2=>aK (aG.mp h2) λb hb gi=>?_;subst gi;have:=kf ds q hq;exact h6 b (by simp at hb;lia)
 ·simp only [aP,ux,or_false] at h;rcases h with rfl|rfl|rfl
  ·exact A0
  ·decide
  ·decide
theorem OY:jz (g9 ds n6):=jz.join λt ht=>by
 refine aK (aG.mp ht) λq hq iC=>?_;subst iC;have EP:q.1∈d9 ds n6:=by
  have:=gS (f:=uy) hq
  rwa [jd] at this
 exact Ge _ (Eh _ EP)
noncomputable def L7(low:Nat):List (bb×V):=bD low (aN 6) λb=>cV [(cB (low+b),1)]
noncomputable abbrev S12(ds:List Nat)(ns:List Int)(n6:Nat)(A Du Oc Sg lx:ay):List (Nat×V):=(23,.dict (L7 (aF ds)))::(22,.dict [])::(21,.ref lx)::S9 ds ns n6 A Du Oc Sg
def tU.S0(k:Nat)(mu:Mu)(vs:ej)(Θ:AF->Mu->Prop)(L A Du Oc:ay)(ds:List Nat)(n6:Nat)(pm doc:ai):Prop:=∀{Sg:ay} {ns:List Int} {K:fl} (H:Hy G) (LH:fM G K) (NH:uS K) (GH:Ls G) (he:du (bT pm doc L)) (hD:Dr ds ns n6) (hS:Sv vs (S9 ds ns n6 A Du Oc Sg)) (next:∀vs P,mV P->P.text=g9 ds n6->Sv vs (S12 ds ns n6 A Du Oc Sg P.lx)->WS (k+8) (cw L vs::(j6 P [] (1+((g9 ds n6).cps.toList.count 10:Nat)) (g9 ds n6).cps.toList++(bl A ((dm ds).map kH)::bl Du ([10,14].map (u0 ds))::gG 304 []::bl Oc ((eQ ds n6 [10,14]).map .int)::mu))) (bT pm doc L) (mw 13) Θ),WS (k+8) (bl Oc ((eQ ds n6 [10,14]).map .int)::bl Du ([10,14].map (u0 ds))::bl A ((dm ds).map kH)::cw L vs::gG 272 (zV av)::gG 304 []::mu) (bT pm doc L) (mw 12) Θ
namespace tU
@[irreducible] def e0:=HX eN gD gD s9 cL cL cL cL gD eN gL gL S0
def k_:=e0.1
def fb:=e0.2.1
def kR:=e0.2.2.1
def Θ_:=e0.2.2.2.1
def L_:=e0.2.2.2.2.1
def A_:=e0.2.2.2.2.2.1
def JS:=e0.2.2.2.2.2.2.1
def Sa:=e0.2.2.2.2.2.2.2.1
def aV:=e0.2.2.2.2.2.2.2.2.1
def gO:=e0.2.2.2.2.2.2.2.2.2.1
def pj:=e0.2.2.2.2.2.2.2.2.2.2.1
def g8:=e0.2.2.2.2.2.2.2.2.2.2.2
theorem T0:S0 k_ fb kR Θ_ L_ A_ JS Sa aV gO pj g8:=by
 intro Sg ns K H LH NH GH he hD hS next
 have hf:∀{x y z:cX} {rr HT},bq L_ (aM (L_+1) (bk (cN 23)).names) rr∈x::y::z::cw L_ rr::HT:=ab _ (ab _ (ab _ aa));have d7:=eI aV;refine cE (GH.f275.go) λob Uh Jp h0 hd w=>aC (b4 (Ce (cA (B6 LH.KO NH.k217 (mn H he H.m_lex rfl) (cA (ml (mn H he H.m_given rfl) h0 hd (cA (cf (ah (j:=20) he .loc hf (hS.get rfl)) (e9 (FW.mono (m9 (i:=4) H GH rfl OY (aw Ef (by decide))) λy nu hy=>?_))))))))) rfl rfl);obtain ⟨f,dx,lam,it,L1,gd,ld,a,b,e1,_,hR,e2⟩:=hy;refine e9 (FW.mono (K2 H LH NH) λy2 ud hy=>?_);refine oH hy λlx dx2 pb e3 e4=>?_;clear hy;subst e1 e2 e3 e4
 let P:ib:={lx:=lx,dx:=dx2,pb:=pb,f:=f,fdx:=dx,it:=it,L:=L1,lam:=lam,a:=a,b:=b,gd:=gd,ld:=ld,text:=g9 aV gO}
 have hf9:∀{x0 x1 x2 x3 x4 x5 x6 x7 x8:cX} {rr HT},bq L_ (aM (L_+1) (bk (cN 23)).names) rr∈x0::x1::x2::x3::x4::x5::x6::x7::x8::cw L_ rr::HT:=ao (i:=9) rfl;refine cA (xY H.B (λD0=>fL.dict (cA (yB H.B (aN 6) (λb=> .str (cB (aF aV+b))) (λb=>(cB (aF aV+b),cV [(cB (aF aV+b),1)])) ⟨rfl,rfl,by decide+kernel,by decide+kernel⟩ (dA (ah (j:=7) he (.cell (L_+6) "names") hf9 (hS.get rfl))) (by lia) (by decide) (λC4 a ha=>BQ 1 he.comp .loc dk (λhb=>(ah (j:=1) he.comp .loc aa rfl)) (λhb=>L6 H.B (ah (j:=1) he.comp .loc aa rfl) aU)) (jx d7 (aN 6) (λb hb=>aY.mp hb) lp) (λD1=>fL.dict (e9 ⟨by show 3<=2 ^ 20;decide,i7 (cv rfl rfl (aQ (i:=9) (j:=21) he (.cell (L_+11) "lexer") rfl (cv rfl rfl (aQ (i:=9) (j:=22) he (.cell (L_+12) "none") rfl (cv rfl rfl (aQ (i:=9) (j:=23) he .loc rfl (iX ?_)))))))⟩))))));refine WF.from [9,0,0,0,0,0,0,3,2,1,1] rfl ?_;have hn:=next _ P ⟨hR⟩ rfl (((hS.set (j:=21) (y:= .ref lx)).set (j:=22) (y:= .dict [])).set (j:=23) (y:= .dict (L7 (aF aV))))
 have e1:(1+((g9 aV gO).cps.toList.count 10:Nat):Int) - ((g9 aV gO).cps.toList.count 10:Nat)=1:=by lia
 unfold j6 at hn;rw [e1] at hn;exact hn
end tU
theorem tU{pm doc:ai}:tU.S0 k mu vs Θ L A Du Oc ds n6 pm doc:=by with_unfolding_all exact C0 _ _ _ _ _ _ _ _ _ _ _ _ tU.S0 @tU.T0 k mu vs Θ L A Du Oc ds n6 pm doc
noncomputable def I1(w:Int)(q:Nat×Nat):Bool:=(w % 2 == 1) || (decide (q.1∈(if decide (w % 4 < 2) then [92,34] else [92,10,9,13,32])) || (decide (q.1=34) && decide (q.2=0)))
noncomputable def HF(w:Int)(q:Nat×Nat):List Nat:=if I1 w q then [92,q.1] else [q.1]
theorem L8:∀c,c < 256->(!(cZ ("\\\"":bb) ⟨#[c]⟩ 0 ("\\\"":bb).length 1).isEmpty)=decide (c∈[92,34]):=by decide+kernel
theorem L9:∀c,c < 256->(!(cZ ("\\\n\t\r ":bb) ⟨#[c]⟩ 0 ("\\\n\t\r ":bb).length 1).isEmpty)=decide (c∈[92,10,9,13,32]):=by decide+kernel
theorem Ma:∀c,c < 256->((⟨#[c]⟩:bb) == "\"")=decide (c=34):=by decide+kernel
theorem Gf{w:Int}{q:Nat×Nat}(hc:q.1 < 256):(lK w q).cps.toList=HF w q:=by
 have hb:((w % 2 == 1) || ((!(cZ (pW w) ⟨#[q.1]⟩ 0 (pW w).length 1).isEmpty) || (((⟨#[q.1]⟩:bb) == "\"" && ((((q.2:Nat):Int) == 0) && aI)) || false)))=I1 w q:=by
  delta I1 pW;refine aj (Ma _ hc ..) ?_;refine aj (zF ..) ?_;refine aj (Bool.and_true ..) ?_;have e0:(((q.2:Nat):Int) == 0)=decide (q.2=0):=by
   by_cases h:q.2=0
   ·refine aj (h ..) ?_;rfl
   ·(refine aj (decide_eq_false h ..) ?_;refine gj (beq_eq_false_iff_ne ..) ?_);lia
  refine aj (e0 ..) ?_
  split
  ·(refine aj (L8 _ hc ..) ?_;rfl)
  ·(refine aj (L9 _ hc ..) ?_;rfl)
 delta lK HF;refine aj (hb ..) ?_
 split
 ·refine aj (sI ..) ?_;rfl
 ·rfl
theorem yM{x:bb}{w:Int}(hx:jz x):(qK x w).cps.toList=x.cps.toList.zipIdx.flatMap (HF w):=by
 delta qK;refine aj (sH ..) ?_;have:∀l:List (Nat×Nat),(∀q∈l,q.1 < 256)->(l.map (lK w)).flatMap (·.cps.toList)=l.flatMap (HF w):=λl=>by
  induction l with
  |nil=>intro z;rfl
  |cons q l ih=>intro h;refine aj (bA ..) ?_;refine aj (dF ..) ?_;refine aj (dF ..) ?_;refine aj (ih λq hq=>h q (ab _ hq) ..) ?_;refine aj (Gf (h q aa) ..) ?_;rfl
 refine this _ λq hq=>hx _ ?_;have:=gS (f:=uy) hq
 rwa [jd] at this
set_option tactic.hygienic true in
theorem Ei{w:Int}(hw:w % 4 < 2)(rest:List Nat):∀(l:List Nat) (i:Nat) (acc:List Nat),uX acc ((l.zipIdx i).flatMap (HF w)++34::rest)=ae (acc++l,rest)
 |[],i,acc=>by
  show uX acc (34::rest)=_;unfold uX;simp
 |c::l,i,acc=>by
  refine aj (oy ..) ?_;refine aj (dF ..) ?_;have ih:=Ei hw rest l (i+1) (acc++[c]);unfold HF
  split
  ·rename_i h;show uX acc (92::c::(((l.zipIdx (i+1)).flatMap (HF w))++34::rest))=_;unfold uX;refine aj (if_neg (by decide) ..) ?_;refine aj (if_pos rfl ..) ?_;show uX (acc++[c]) _=_;refine aj (ih ..) ?_;simp
  ·rename_i h;show uX acc (c::(((l.zipIdx (i+1)).flatMap (HF w))++34::rest))=_;unfold I1 at h;rw [decide_eq_true hw,if_pos rfl] at h;simp at h;refine G0 h λ_ h1 _=>?_;clear h;unfold uX;(refine aj (if_neg h1.2 ..) ?_;refine aj (if_neg h1.1 ..) ?_;refine aj (ih ..) ?_);simp
set_option tactic.hygienic true in
theorem Ej{w:Int}(hw:¬w % 4 < 2){g:Nat}(hg:xF g=aI)(rest:List Nat):∀(l:List Nat) (i:Nat) (acc:List Nat),sY acc ((l.zipIdx i).flatMap (HF w)++g::rest)=ae (acc++l,rest)
 |[],i,acc=>by
  show sY acc (g::rest)=_;unfold sY;refine aj (if_pos hg ..) ?_;simp
 |c::l,i,acc=>by
  refine aj (oy ..) ?_;refine aj (dF ..) ?_;have ih:=Ej hw hg rest l (i+1) (acc++[c]);unfold HF
  split
  ·rename_i h;show sY acc (92::c::(((l.zipIdx (i+1)).flatMap (HF w))++g::rest))=_;unfold sY;refine aj (if_neg (by decide) ..) ?_;refine aj (if_pos rfl ..) ?_;show sY (acc++[c]) _=_;refine aj (ih ..) ?_;simp
  ·rename_i h;show sY acc (c::(((l.zipIdx (i+1)).flatMap (HF w))++g::rest))=_;unfold I1 at h;rw [decide_eq_false hw,if_neg (by decide)] at h;simp at h;have hws:xF c=aH:=by
    unfold xF;simp;lia
   unfold sY;(refine aj (hws ..) ?_;refine aj (if_neg (by decide) ..) ?_;refine aj (if_neg (by lia) ..) ?_;refine aj (ih ..) ?_);simp
theorem Ek:∀(pre l:List Nat),(∀c∈pre,xF c=aI)->yv (pre++l)=yv l
 |[],l,_=>rfl
 |c::pre,l,h=>by
  refine aj (fU ..) ?_;show (if xF c then yv (pre++l) else _)=_;exact aj (if_pos (h c aa) ..) (Ek pre l λc hc=>h c (ab _ hc))
theorem A5(w:Int):∀c∈(jN w).cps.toList,xF c=aI:=by
 delta jN;have h:(w / 4 % 5).toNat < 5:=by lia
 generalize (w / 4 % 5).toNat=n at h;have:∀x∈([["\n","\t","\r"," ",""],["\n","\t","\r"," "," \n"]]:List (List bb)),∀n,n < 5->∀c∈(x.getD n "").cps.toList,xF c=aI:=by decide
 split
 ·exact this _ (.head _) n h
 ·exact this _ (.tail _ (.head _)) n h
theorem A6(w:Int):(jN w).cps.toList.length<=2:=by
 delta jN;have h:(w / 4 % 5).toNat < 5:=by lia
 generalize (w / 4 % 5).toNat=n at h;have:∀x∈([["\n","\t","\r"," ",""],["\n","\t","\r"," "," \n"]]:List (List bb)),∀n,n < 5->(x.getD n "").cps.toList.length<=2:=by decide
 split
 ·exact this _ (.head _) n h
 ·exact this _ (.tail _ (.head _)) n h
theorem Gg{w:Int}(hw:¬w % 4 < 2):∃g pre,(jN w).cps.toList=g::pre/\xF g=aI/\∀c∈pre,xF c=aI:=by
 have h1:=A5 w;have h2:(jN w).cps.toList≠[]:=by
  delta jN;refine aj (decide_eq_false hw ..) ?_;have h:(w / 4 % 5).toNat < 5:=by lia
  generalize (w / 4 % 5).toNat=n at h;have:∀n,n < 5->((["\n","\t","\r"," "," \n"]:List bb).getD n "").cps.toList≠[]:=by decide
  exact this n h
 cases e:(jN w).cps.toList with
 |nil=>exact absurd e h2
 |cons g pre=>exact ⟨g,pre,rfl,h1 g (by refine aj (e ..) ?_;exact aa),λc hc=>h1 c (by refine aj (e ..) ?_;exact ab _ hc)⟩
set_option tactic.hygienic true in
theorem Mb{x:bb}{w:Int}(hx:jz x)(iP:x.cps.toList≠[])(rest:List Nat):∃pre,(∀c∈pre,xF c=aI)/\pre.length<=2/\yv ((ik x w).cps.toList++rest)=ae (x.cps.toList,pre++rest):=by
 by_cases hw:w % 4 < 2
 ·refine ⟨(jN w).cps.toList,A5 w,A6 w,?_⟩;delta ik;refine aj (decide_eq_true hw ..) ?_;refine aj (if_pos rfl ..) ?_;refine aj (sI ..) ?_;refine aj (sI ..) ?_;refine aj (sI ..) ?_;refine aj (yM hx ..) ?_;have e:("\"":bb).cps.toList=[34]:=rfl;refine aj (e ..) ?_;show yv (34::(x.cps.toList.zipIdx.flatMap (HF w))++[34]++(jN w).cps.toList++rest)=_;have:=Ei hw ((jN w).cps.toList++rest) x.cps.toList 0 [];simp only [fU,bU,qi] at this ⊢;show (if xF 34 then _ else if 34=34 then uX [] _ else _)=_;refine aj (if_neg (by decide) ..) ?_;refine aj (if_pos rfl ..) ?_;exact this
 ·refine cC (Gg hw) λg pre e hg hp=>⟨pre,hp,by have:=A6 w;rw [e,bK] at this;exact nj (by assumption),?_⟩
  delta ik;refine aj (decide_eq_false hw ..) ?_;refine aj (if_neg (by decide) ..) ?_;refine aj (sI ..) ?_;refine aj (yM hx ..) ?_;refine aj (e ..) ?_;have:=Ej hw hg (pre++rest) x.cps.toList 0 [];simp only [fU,bU,qi] at this ⊢;refine fZ (this ..) ?_;cases hxl:x.cps.toList with
  |nil=>exact absurd hxl iP
  |cons c l=>
   refine aj (oy ..) ?_;refine aj (dF ..) ?_;delta HF
   split
   ·show (if xF 92 then _ else if 92=34 then _ else sY [] _)=_;refine aj (if_neg (by decide) ..) ?_;refine aj (if_neg (by decide) ..) ?_;rfl
   ·rename_i h;unfold I1 at h;rw [decide_eq_false hw,if_neg (by decide)] at h;simp at h;have hws:xF c=aH:=by
     delta xF;simp;lia
    show (if xF c then _ else if c=34 then _ else sY [] _)=_;refine aj (hws ..) ?_;refine aj (if_neg (by decide) ..) ?_;refine aj (if_neg (by lia) ..) ?_;rfl
noncomputable def tl(ds:List Nat)(n6 i:Nat):List Nat:=((d9 ds n6).zipIdx.drop i).flatMap λq=>(ik q.1 ((n6:Int) / ((q.2:Int)+1))).cps.toList
theorem HG:(g9 ds n6).cps.toList=tl ds n6 0:=by delta g9 tl;refine aj (sH ..) ?_;refine aj (fy ..) ?_;refine aj (List.flatMap_map ..) ?_;rfl
theorem Mc(n w:Int):1<=(gm n w).length:=by
 rcases kZ n w with h|h|h
 ·refine aj (tQ h ..) ?_;simp
 ·refine aj (yE h ..) ?_;simp
 ·refine aj (yD h ..) ?_;simp
theorem A7:∀(l:List Nat) (xs:List Int),xs.length+l.length<=(iA n6 xs l).length
 |[],xs=>by simp [iA]
 |n::l,xs=>by
  have h:=A7 l (xs++gm n ((n6:Int) / ((xs.length:Int)+1)));have:=Mc n ((n6:Int) / ((xs.length:Int)+1));rw [ba] at h;show _<=(iA n6 (xs++gm n ((n6:Int) / ((xs.length:Int)+1))) l).length;refine aj (bK ..) ?_;lia
theorem Md:4<=(tS ds n6).length:=by
 delta tS;refine aj (ba ..) ?_;have:4<=(eQ ds n6 [10,14]).length:=by delta eQ;simp only [fF,List.foldl_nil];have:=A7 (n6:=n6) (jy ds 14) (iA n6 [] (jy ds 10));have h4:(jy ds 14).length=4:=rfl;lia
 lia
theorem Me:∀w∈d9 ds n6,w.cps.toList≠[]:=by
 intro w hw;have h6:∀n,n < 6->(xH.getD n "").cps.toList≠[]:=by decide
 rcases bc.mp hw with h|h
 ·refine aK (bG.mp h) λq hq h2=>aK (aG.mp h2) λb hb dO=>?_;subst dO;have:=kf ds q hq;exact h6 b (by simp at hb;lia)
 ·simp only [aP,ux,or_false] at h;rcases h with rfl|rfl|rfl
  ·intro e;rw [tT] at e;have:=Md (ds:=ds) (n6:=n6);have e2:=congrArg kM e;rw [ak,GW] at e2;lia
  ·decide
  ·decide
def pn(ds:List Nat)(n6 i:Nat)(cs:List Nat):Prop:=∃pre,(∀c∈pre,xF c=aI)/\pre.length<=2/\cs=pre++tl ds n6 i
theorem pn.start:pn ds n6 0 (g9 ds n6).cps.toList:=⟨[],(λz h=>eo h),by simp,by refine aj (HG ..) ?_;rfl⟩
theorem Sb(i:Nat):(tl ds n6 i).length<=1200:=by
 have h:(tl ds n6 i).length<=(tl ds n6 0).length:=by delta tl;rw [fy];have e:(d9 ds n6).zipIdx=(d9 ds n6).zipIdx.take i++(d9 ds n6).zipIdx.drop i:=(oq i _).symm;have e2:=congrArg (λl=>(l.flatMap λq=>(ik q.1 ((n6:Int) / ((q.2:Int)+1))).cps.toList).length) e;simp only [Uy,ba] at e2;lia
 rw [<- HG] at h;exact aw h (Ef (ds:=ds) (n6:=n6))
theorem pn.len{i:Nat}{cs:List Nat}(h:pn ds n6 i cs):cs.length<=2 ^ 20:=by refine ef h λpre z h2 eT=>?_;clear h;subst eT;have:=Sb (ds:=ds) (n6:=n6) i;refine aj (ba ..) ?_;show _<=1048576;lia
theorem pn.tok{i:Nat}{cs:List Nat}{x:bb}(h:pn ds n6 i cs)(hx:(d9 ds n6)[i]? =ae x):∃cs',yv cs=ae (x.cps.toList,cs')/\pn ds n6 (i+1) cs':=by
 refine ef h λpre h1 h2 gi=>?_;clear h;subst gi;have hi:=(aB.mp hx).1;have hd:(d9 ds n6).zipIdx.drop i=(x,i)::(d9 ds n6).zipIdx.drop (i+1):=by refine aj (dZ (by rw [eX];exact hi) ..) ?_;congr 1;refine aj (List.getElem_zipIdx ..) ?_;have:=(aB.mp hx).2;refine aj (this ..) ?_;simp
 have e:tl ds n6 i=(ik x ((n6:Int) / ((i:Int)+1))).cps.toList++tl ds n6 (i+1):=by delta tl;refine aj (hd ..) ?_;refine aj (dF ..) ?_;rfl
 have hm:=ao hx;obtain ⟨pre',h3,h4,h5⟩:=Mb (w:=(n6:Int) / ((i:Int)+1)) (Eh x hm) (Me x hm) (tl ds n6 (i+1));exact ⟨_,by (refine aj (Ek pre _ h1 ..) ?_;refine aj (e ..) ?_);exact h5,pre',h3,h4,rfl⟩
theorem pn.end_{cs:List Nat}(h:pn ds n6 19 cs):∀c∈cs,xF c=aI:=by
 refine ef h λpre h1 z iC=>?_;clear h;subst iC;have:tl ds n6 19=[]:=by delta tl;refine aj (List.drop_eq_nil_of_le (by rw [eX,pY];exact bp _) ..) ?_;rfl
 (refine aj (this ..) ?_;refine aj (cy ..) ?_);exact h1
theorem OZ{p:Nat}(hp:p < 8):(d9 ds n6)[2*p]? =ae (xH.getD ((dm ds).getD p (0,0)).1 "")/\(d9 ds n6)[2*p+1]? =ae (xH.getD ((dm ds).getD p (0,0)).2 ""):=by rcases (by lia:p=0\/p=1\/p=2\/p=3\/p=4\/p=5\/p=6\/p=7) with rfl|rfl|rfl|rfl|rfl|rfl|rfl|rfl <;> exact ⟨rfl,rfl⟩
theorem O0:(d9 ds n6)[16]? =ae (qM ds n6):=rfl
theorem O1:(d9 ds n6)[17]? =ae ("done":bb):=rfl
theorem O2:(d9 ds n6)[18]? =ae ("end":bb):=rfl
section
variable {prog:dG}{w:d8}{A:bh}{E:ai->aq->Prop}{s:aq}
theorem El{items:Array ai}{x:ai}{e:ai->Bool}(he:∀y,y∈items->MeetsSeq.EqGives y x (e y)){j:Nat}(hj:j < items.size)(hit:e items[j]=aI)(Bt:∀m (hm:m < items.size),m < j->e items[m]=aH){Q:Option NW×Unit->aq->Prop}(hQ:Q (ae (.done (.ret (.int j s.toks))),()) {s with toks:=s.toks+1})
 {f:Nat->Option NW×Unit->mF (ForInStep (Option NW×Unit))} (hf:∀i y r,items[i]? =ae y->f i r=(do
  let b <- eqBool y x
  if b=aI then do
   let q <- retInt i
   dg (ForInStep.done (ae q,()))
  else dg (GR (av,())))):
 ∀(n i:Nat),i<=j->j < i+n->aS (aX prog w) A (forIn (List.range' i n 1) ((av,()):Option NW×Unit) f) Q E s
 |0,i,h1,h2=>by lia
 |n+1,i,h1,h2=>by
  refine aj (List.range'_succ ..) ?_;refine aj (List.forIn_cons ..) ?_;have hi:i < items.size:=by exact b7 (by assumption) (by assumption)
  refine ag (aj (hf i _ _ (dY hi) ..) ?_);refine ag (he _ (Array.getElem_mem hi) prog w _ _ _ _ ?_);by_cases Bs:i=j
  ·subst Bs;refine aj (hit ..) ?_;refine aj (if_pos rfl ..) ?_;refine ag ?_
   wp_walk
   exact hQ
  ·(refine aj (Bt i hi (by exact Nat.lt_of_le_of_ne (by assumption) (by assumption)) ..) ?_;refine aj (if_neg cF ..) ?_)
   exact ar (El he hj hit Bt hQ hf n (i+1) (by lia) (by lia))
theorem Em(l:ay)(o:o6)(hc:o.cls= .type "tuple")(items:Array ai)(n:Nat)(hd:o.data= .seq items n)(x:ai)(e:ai->Bool)(he:∀y,y∈items->MeetsSeq.EqGives y x (e y))(j:Nat)(hj:j < items.size)
 (hit:e items[j]=aI) (Bt:∀m (hm:m < items.size),m < j->e items[m]=aH):
 Meets (Builtin.«tuple.index» ⟨[.ref l,x],[]⟩) (λz R s=>s.heap.get? l=ae o/\R (.ok (.ret (.int j s.toks))) {s with toks:=s.toks+1}):=
 .of_wp λprog w A R s h=>by
  obtain ⟨hp,g,d,tk,os⟩:=s;obtain ⟨hl,h⟩:=h;show aS _ _ (selfAndSome "tuple.index" "index" 1 3 ⟨[.ref l,x],[]⟩ >>=_) _ _ _;refine ag (cM (a:=(.ref l,[x])) (by rfl) ?_);show aS _ _ (Builtin.Tuple.tupleItemsOf (.ref l) >>=_) _ _ _;refine ag (wpAny_tupleItemsOf hl hd ?_);refine ag (ar (ag (ar (ag ?_))));refine aj (Std.Legacy.Range.forIn_eq_forIn_range' ..) ?_;have hsz:(min items.size items.size - 0+1 - 1) / 1=min items.size items.size:=by lia
  refine eR (Q:=λr s'=>r=(ae (.done (.ret (.int j tk))),())/\s'=⟨hp,g,d,tk+1,os⟩) ?_ (λr s' ⟨e1,e2⟩=>?_) λz z e=>e
  ·show aS _ _ (forIn (List.range' 0 ((min items.size items.size - 0+1 - 1) / 1) 1) _ _) _ _ _;refine aj (hsz ..) (El he hj hit Bt ⟨rfl,rfl⟩ (λi y r h=>?_) _ 0 (gp _) (by lia));simp only [h]
  ·subst e1 e2;exact ar ⟨_,rfl,h⟩
theorem rl{it t:ay}{items:Array ai}(iP:t≠it):∀(n i:Nat) (s:aq) (Q:List ai->aq->Prop),s.heap.IsListIter it t i->s.heap.IsList t items->i+n<=items.size->
 (∀h',h'.IsListIter it t (i+n)->ji it s.heap h'->Q ((items.toList.drop i).take n) {s with heap:=h'})->aS (aX prog w) A (draw (.ref it) n) Q E s
 |0,i,s,Q,hit,_,_,hQ=>by
  show aS _ _ (dg []) Q E s;exact ar (by exact hQ s.heap hit (JP ..))
 |n+1,i,s,Q,hit,ht,hle,hQ=>by
  have hlt:i < items.size:=by lia
  show aS _ _ (l0 (.ref it) >>=_) Q E s;refine ag (zt hit ht (x:=items[i]) (by simp [hlt]) λh₁ GL M8=>?_);have ht₁:h₁.IsList t items:=by refine aK ht λo h1 h2=>?_;clear ht;exact ⟨o,M8.extBut t o iP h1,h2⟩
  refine ag (bE (rl iP n (i+1) _ _ GL ht₁ (by lia) λh₂ Te hs₂=>ar ?_));have hd:items.toList.drop i=items[i]::items.toList.drop (i+1):=by simp [dZ,hlt]
  have:=hQ h₂ (by refine aj (show i+(n+1)=i+1+n by lia) ?_;exact Te) (M8.trans hs₂);rw [hd,jb] at this;exact this
def dN.S0(prog:dG)(w:d8)(s:aq)(t:ay)(items:Array ai)(_:Nat):Prop:=∀{A:bh} {E:ai->aq->Prop} {Q:List ai->aq->Prop} (hh:A.handled=av) (ht:s.heap.IsList t items) (hQ:∀h',rx s.heap.objs.size s.heap h'->Q items.toList {s with heap:=h'}),aS (aX prog w) A (NY (.ref t) items.size av) Q E s
namespace dN
@[irreducible] def e0:=Fp sX E9 zK cL inferInstance eN S0
def cT:=e0.1
def w_:=e0.2.1
def s_:=e0.2.2.1
def t_:=e0.2.2.2.1
def k6:=e0.2.2.2.2.1
theorem T0:S0 cT w_ s_ t_ k6 e0.2.2.2.2.2:=by
 intro A E Q hh ht hQ;have hlt:t_≠s_.heap.objs.size:=by obtain ⟨o,ho,_⟩:=ht;exact c8 (bN ho)
 have hT:s_.TypeIs (.ref t_) "list":=by obtain ⟨o,ho,hc,_⟩:=ht;exact ⟨o,ho,hc⟩
 unfold NY;refine ag ?_
 ·unfold notIterableAtAll;refine ag (h8 hT PySem.F.slot_list_iter.lookup ?_);refine ar ?_;simp only [dj,if_false];refine ag (bE (lr ht ?_));have P3:(s_.heap.push {cls:= .type "list_iterator",data:= .fields #[.ref t_,.int 0 0]}).IsList t_ k6:=by
   refine aK ht λo h1 h2=>?_;clear ht;exact ⟨o,az _ h1,h2⟩
  refine ag (bE (rl hlt k6.size 0 _ _ ⟨_,aW _ rfl,rfl,rfl⟩ P3 (by lia) λh₁ GL M8=>?_));have zq:List.take k6.size (List.drop 0 k6.toList)=k6.toList:=by refine aj (fy ..) ?_;exact d6 (by exact bp _)
  refine aj (zq ..) (aj (if_neg (by simp) ..) ?_);have ht₁:h₁.IsList t_ k6:=by refine aK P3 λo h1 h2=>?_;clear P3;exact ⟨o,M8.extBut t_ o hlt h1,h2⟩
  refine ag (bE (Ai hh GL ht₁ (by simp) λh₂ he₂=>?_));simp only [Aj,dj,if_false];refine ar (hQ h₂ λb o hb e=>he₂ b o hb (M8.extBut b o hb (az _ e)))
end dN
theorem dN{t:ay}{items:Array ai}:dN.S0 prog w s t items 0:=by with_unfolding_all exact uD _ _ _ _ _ _ dN.S0 @dN.T0 prog w s t items 0
end
section
variable {Ψ:Mu->Prop}{x:bb}{ns:List bb}
theorem Gh{ts:List bH}{kk:Nat}(h:HZ k mu env ts xs Ψ):mK k mu env (.Tuple ts kk p) (.list xs) Ψ:=⟨λ{A E Z s fr v Q} hA r hv q=>by
 refine cE (rj.list hv) λa vs n dO e1 hr=>?_;subst dO;have hn:(jB ts env).length=vs.toList.length:=(nB ts).trans (h.len.trans hr.length.symm);refine aj (arm_assign_Tuple ..) ?_;refine ag (iH ?_);unfold unpack;refine aj (hn ..) ?_;refine aj (o9 h.plain ..) ?_;refine ag (bE ?_);refine aj (eK ..) ?_;exact dN hA.hh (⟨_,r.zin _ _ e1,rfl,n,rfl⟩:s.heap.IsList a vs) λh' hx=>h.c hA (r.keep (tk:=s.toks) λb o e=>hx b o (c8 (bN e)) e) hr q⟩
theorem En(hj:ns[j]? =ae x)(Bt:∀m,m < j->ns[m]? ≠ae x):Fn k mu (.builtin "tuple.index") [bZ (.tup (ns.map .str)),bZ (.str x)] (bZ (.int j)):=⟨λ{A E Z s fr vs Q} hA r hq q=>by
 refine cC (hq.two) λv u eT q1 q2=>?_;subst eT;refine dK (aZ.tup_inv q1) λa o ws n gi e1 hc hd hr=>?_;subst gi;refine cJ (gV q2) λny iC=>?_;subst iC;have hlen:ws.size=ns.length:=by (refine fZ (b9 hr ..) ?_;refine aj (ak ..) ?_;rfl)
 have hjl:=(aB.mp hj).1;have key:∀(m:Nat) (hm:m < ws.size),isStrOf x ws[m]=decide (ns[m]? =ae x):=by intro m hm;refine aK (hr.get' (bV.trans (dY hm))) λy h4 h5=>?_;rw [aJ] at h4;refine aK (aL.mp h4) λc h6 kG=>?_;subst kG;refine cJ (gV h5) λtk h7=>?_;refine aj (h7 ..) ?_;refine aj (h6 ..) ?_;simp [isStrOf];refine gj (cj ..) ?_;simp
 have hi:=tH hr;exact l6 Nu (⟨_,r.zin _ _ e1,hc⟩:s.TypeIs (.ref a) "tuple") PySem.F.entry_tuple_index (PySem.F.args_tuple_index_2 _ _) (Em a o hc ws n hd (.str x ny) (isStrOf x) (λy hy=>eq_isStrOf x ny hi y (pH.mpr hy)) j (hlen▸hjl) (by (refine aj (key _ (hlen▸hjl) ..) ?_;refine aj (hj ..) ?_);exact decide_eq_true rfl) (λm hm h=>by refine aj (key ..) ?_;exact decide_eq_false (Bt m h)))
  ⟨r.zin _ _ e1,q .rfl (aZ.int _ _) r.toks⟩⟩
end
section
variable {o i:bH}
theorem O3(ho:PE k mu env o (.list xs))(hi:WE k mu env i λy nu=>∃z,Gi k nu (me nu xs) (bZ y) (bZ z)/\Φ z nu)(hs:∀a b,∃ops,NP i aH a b=operate ops (JB a b):=by intro a b;exact ⟨_,rfl⟩):
 WE k mu env (.Subscript o i p) Φ:=⟨λ{x x x x x x} hA r q=>Ku hs (ho.c hA r λ{x x x} z1 q1 r1=>hi.c hA r1 λz2 q2 r2 ⟨z,g,w⟩ T' t=>g.c hA r2 (BG (aZ.mono z2 q1)) q2 λ{x x x} z3 q3 r3=>t (q (z1.trans (z2.trans z3)) q3 r3 w))⟩
end
noncomputable def k7(c:Cs)(a:Nat):Cs:=if c.any (λp=>p.1=a) then c.map (λp=>if p.1=a then (p.1,p.2+1) else p) else c++[(a,1)]
noncomputable abbrev Eo(low:Nat)(c:Cs):List (bb×Int):=c.map λq=>(cB (low+q.1),q.2)
theorem Cg(low:Nat)(c:Cs):FU low c=cV (Eo low c):=by delta FU cV Eo;refine aj (a0 ..) ?_;rfl
theorem wY{low a b:Nat}(hl:low < 28)(ha:a < 6)(hb:b < 6):(cB (low+a)=cB (low+b))↔a=b:=⟨λh=>by have:=qC (low+a) (by lia) (low+b) (by lia) h;lia,λh=>by (refine aj (h ..) ?_;rfl)⟩
theorem I2{low a:Nat}{c:Cs}(hl:low < 28)(ha:a < 6)(hc:∀q∈c,q.1 < 6):oO (Eo low c) [(cB (low+a),1)]=Eo low (k7 c a):=by
 show uR (Eo low c) (cB (low+a),1)=_;delta uR k7;have e:(Eo low c).any (λp=>p.1=cB (low+a))=c.any (λp=>p.1=a):=by
  delta Eo;refine aj (CG ..) ?_;induction c with
  |nil=>rfl
  |cons q c ih=>refine aj (zG ..) ?_;refine aj (zG ..) ?_;refine aj (ih λq hq=>hc q (ab _ hq) ..) ?_;congr 1;show decide (cB (low+q.1)=cB (low+a))=_;exact gj (decide_eq_decide ..) (wY hl (hc q aa) ha)
 refine aj (e ..) ?_
 split
 ·delta Eo;refine aj (a0 ..) ?_;refine aj (a0 ..) ?_;apply b5;intro q hq;show (if cB (low+q.1)=cB (low+a) then (cB (low+q.1),q.2+1) else (cB (low+q.1),q.2))=(cB (low+(if q.1=a then (q.1,q.2+1) else q).1),(if q.1=a then (q.1,q.2+1) else q).2);by_cases h:q.1=a
  ·(refine aj (if_pos ((wY hl (hc q hq) ha).mpr h) ..) ?_;refine aj (if_pos h ..) ?_;rfl)
  ·(refine aj (if_neg (λe=>h ((wY hl (hc q hq) ha).mp e)) ..) ?_;refine aj (if_neg h ..) ?_;rfl)
 ·delta Eo;refine aj (bj ..) ?_;rfl
theorem oY(c:Cs)(a:Nat):(k7 c a).map (·.1)=if a∈c.map (·.1) then c.map (·.1) else c.map (·.1)++[a]:=by
 delta k7;have e:c.any (λp=>p.1=a)=decide (a∈c.map (·.1)):=by
  refine gj (cj ..) ?_;refine gj (cS ..) ?_;refine aj (decide_eq_true_eq ..) ?_;constructor
  ·intro dO;refine aK dO λq hq h=>?_;clear dO;exact aG.mpr ⟨q,hq,by simpa using h⟩
  ·intro h;exact aK (aG.mp h) λq hq h=>⟨q,hq,by simpa using h⟩
 refine aj (e ..) ?_;by_cases h:a∈c.map (·.1)
 ·(refine aj (decide_eq_true h ..) ?_;refine aj (if_pos rfl ..) ?_;refine aj (if_pos h ..) ?_;refine aj (a0 ..) ?_)
  apply b5;intro q z;show (if q.1=a then (q.1,q.2+1) else q).1=q.1
  split <;> rfl
 ·(refine aj (decide_eq_false h ..) ?_;refine aj (if_neg (by decide) ..) ?_;refine aj (if_neg h ..) ?_;refine aj (bj ..) ?_);rfl
noncomputable def kl(B:Rw)(pl:Nat)(q:Nat×Nat):Rw where
 a:=λb=>if b=q.2 then (if q.1=q.2 then 0 else 1)+B.a b else B.a b
 b:=λb=>if b=q.2 then 1+B.b b else B.b b
 c:=λb=>if b=q.2 then (pl:Int)+B.c b else B.c b
 d:=λb=>if b=q.2 then (pl:Int)*pl+B.d b else B.d b
 cs:=λb=>if b=q.2 then k7 (B.cs b) q.1 else B.cs b
noncomputable def B0:Rw:=⟨λz=>0,λz=>0,λz=>0,λz=>0,λz=>[]⟩
noncomputable def fG(B:Rw)(i:Nat)(l:List (Nat×Nat)):Rw:=(l.zipIdx i).foldl (λB q=>kl B q.2 q.1) B
structure Fd(B:Rw)(n:Nat):Prop where
 lt:∀b,∀c∈B.cs b,c.1 < 6
 nd:∀b,((B.cs b).map (·.1)).Nodup
 len:∀b,(B.cs b).length<=n
theorem Fd.zero:Fd B0 0:=⟨λz z h=>(eo h),λz=>kQ,λz=>bp _⟩
set_option tactic.hygienic true in
theorem Fd.step{B:Rw}{n pl:Nat}{q:Nat×Nat}(h:Fd B n)(hq:q.1 < 6):Fd (kl B pl q) (n+1):=by
 refine ⟨λb c hc=>?_,λb=>?_,λb=>?_⟩
 ·unfold kl at hc;simp only at hc
  split at hc
  ·have:c.1∈(k7 (B.cs b) q.1).map (·.1):=gS hc;rw [oY] at this;have old:∀x∈(B.cs b).map (·.1),x < 6:=λx hx=>by
    refine aK (aG.mp hx) λy hy eT=>?_;subst eT;exact h.lt b y hy
   split at this
   ·exact old _ this
   ·rcases bc.mp this with h'|h'
    ·exact old _ h'
    ·refine aj (aA.mp h' ..) ?_;exact hq
  ·exact h.lt b c hc
 ·delta kl;simp only
  split
  ·refine aj (oY ..) ?_
   split
   ·exact h.nd b
   ·rename_i hn;exact gj (bP ..) (⟨h.nd b,by simp,λx hx y hy=>by refine aj (aA.mp hy ..) ?_;exact λe=>hn (e▸hx)⟩)
  ·exact h.nd b
 ·delta kl;simp only
  split
  ·have:=congrArg kM (oY (B.cs b) q.1);rw [ak] at this;refine aj (this ..) ?_;have:=h.len b
   split
   ·refine aj (ak ..) ?_;exact Nat.le_succ_of_le (by assumption)
   ·(refine aj (ba ..) ?_;refine aj (ak ..) ?_);simp;with_reducible assumption
  ·have:=h.len b;exact Nat.le_succ_of_le (by assumption)
theorem Mf{low:Nat}{l:List Nat}{f g:Nat->V}(h:∀b∈l,f b=g b):bD low l f=bD low l g:=by delta bD;exact b5 λb hb=>by (refine aj (h b hb ..) ?_;rfl)
set_option tactic.hygienic true in
theorem Ep{low:Nat}{B:Rw}{pl:Nat}{q:Nat×Nat}(hl:low < 28)(hj:q.2∈[1,2,3,4,5]):jF (fT low B) (cB (low+q.2)) (rq low (kl B pl q) q.2)=fT low (kl B pl q):=by
 delta fT;refine aj (FT hl (by decide) hj ..) (Mf λb hb=>?_)
 split
 ·rename_i h;(refine aj (h ..) ?_;rfl)
 ·rename_i h;simp only [rq,kl,if_neg h]
theorem kF(B:Rw)(i:Nat)(l:List (Nat×Nat))(q:Nat×Nat):fG B i (l++[q])=kl (fG B i l) (i+l.length) q:=by delta fG;refine aj (List.zipIdx_append ..) ?_;refine aj (fu ..) ?_;rfl
noncomputable abbrev QA(ds:List Nat)(ns:List Int)(n6:Nat)(A Du Oc Sg lx Bk:ay):List (Nat×V):=(41,.ref Bk)::S12 ds ns n6 A Du Oc Sg lx
noncomputable abbrev pq(P:ib)(N:Int)(cs:List Nat)(A:ay)(arms:List (Nat×Nat))(ds:List Nat)(Du:ay)(mu:Mu):Mu:=j6 P [] N cs++(bl A (arms.map kH)::bl Du ([10,14].map (u0 ds))::gG 304 []::mu)
theorem Sd(H:Hy G){pm doc:ai}(he:du (bT pm doc L)){P:ib}{N:Int}{cs:List Nat}(hS:Sv vs (S12 ds ns n6 A Du Oc Sg P.lx))
 (next:∀vs Bk,Sv vs (QA ds ns n6 A Du Oc Sg P.lx Bk)->WS (k+8) (cw L vs::cD Bk (fT (aF ds) B0)::pq P N cs A (dm ds) ds Du mu) (bT pm doc L) (mw 14) Θ):
 WS (k+8) (cw L vs::pq P N cs A (dm ds) ds Du mu) (bT pm doc L) (mw 13) Θ:=by
 have d7:=eI ds;refine aC (b4 (yB H.B [1,2,3,4,5] (λb=> .str (cB (aF ds+b))) (λb=>(cB (aF ds+b),rq (aF ds) B0 b)) ⟨rfl,rfl,by decide+kernel,by decide+kernel⟩ (dA (bM (bF (dD (ah (j:=7) he (.cell (L+6) "names") aa (hS.get rfl))) (jo (eO aU) dM dM) (pg (by decide) (by show 6<=2 ^ 23;decide))) ?_)) (by lia) (by decide) (λC5 a ha=>BQ 1 he.comp .loc dk (λhb=>(ah (j:=1) he.comp .loc aa rfl)) (λhb=>f9 (xs:=[.int 0,.int 0,.int 0,.int 0,.dict []]) (au aU (au aU (au aU (au aU (au (ah (j:=22) he.comp (.cell (L+12) "none") (ab _ aa) (hS.get rfl)) aT))))) (by show 5<=2 ^ 20;decide))) (jx d7 [1,2,3,4,5] (by decide) (by decide)) (λD=>fL.ref (aQ (i:=1) (j:=41) he (.cell (L+15) "book") rfl ?_))) rfl rfl)
 ·(refine aj (jr ..) ?_;refine aj (show jq (aN 6) (ae 1) av av=[1,2,3,4,5] from by decide+kernel) ?_;rfl)
 ·exact WF.to [1] (next _ D (hS.set (j:=41)))
section
variable {Bk:ay}
theorem Er{x:bb}{ts:List bb}{j:Nat}(hm:yK Sg (ts.map .str)∈mu)(hj:ts[j]? =ae x)(Bt:∀m,m < j->ts[m]? ≠ae x):Fn k mu (.builtin "tuple.index") [bZ (.ref Sg),bZ (.str x)] (bZ (.int j)):=⟨λ{A E Z s fr vs Q} hA r hq q=>by
 refine cC (hq.two) λv u dO q1 q2=>?_;subst dO;refine aj (aZ.refE q1 ..) (g6 (r.sat _ (aE fr hm)) λo vs n h1 h2 h3 z h5=>?_);exact (En (k:=k) (mu:=mu) hj Bt).c hA r (.cons (aZ.tup h1 h2 h3 h5) (.cons q2 .nil)) q⟩
theorem yN(n:Int)(fp:V)(pb:ay):("get_token":bb)∉(tj n fp pb).map (·.1):=by show ("get_token":bb)∉(["lineno","instream","whitespace","pushback"]:List bb);decide
theorem Es{b:Nat}(hb:b < 6):xH[b]? =ae (xH.getD b "")/\∀m,m < b->xH[m]? ≠ae (xH.getD b ""):=by
 have:∀b,b < 6->xH[b]? =ae (xH.getD b "")/\∀m,m < b->xH[m]? ≠ae (xH.getD b ""):=by decide
 exact this b hb
theorem Mg{low b:Nat}(hb:b < 6):((aN 6).map λb=>V.str (cB (low+b)))[b]? =ae (V.str (cB (low+b))):=by (refine aj (aJ ..) ?_;refine aj (bz hb ..) ?_);rfl
theorem nme{low a b:Nat}(hl:low < 28)(ha:a < 6)(hb:b < 6):(if (cB (low+a) != cB (low+b))=aI then (1:Int) else 0)=if a=b then 0 else 1:=by
 by_cases h:a=b
 ·subst h;simp
 ·have:cB (low+a)≠cB (low+b):=λe=>h ((wY hl ha hb).mp e);refine aj (if_neg h ..) ?_;refine aj (if_pos (by simpa using this) ..) ?_;rfl
theorem Et{low:Nat}(hl:low < 28){c:Cs}(h6:∀q∈c,q.1 < 6)(hn:(c.map (·.1)).Nodup):((Eo low c).map (·.1)).Nodup:=by have:=jx hl (c.map (·.1)) (λb hb=>by obtain ⟨q,hq,rfl⟩:=aG.mp hb;exact h6 q hq) hn;rw [a0] at this;delta Eo;exact aj (a0 ..) (this)
theorem A8(H:Hy G){low:Nat}{B:Rw}{n pl:Nat}{q:Nat×Nat}(hl:low < 28)(hB:Fd B n)(hn:n<=100)(h1:q.1 < 6):FW (k+3) mu (.ref 256) [rq low B q.2,.tup [.int (if q.1=q.2 then 0 else 1),.int 1,.int pl,.int ((pl:Int)*pl),cV [(cB (low+q.1),1)]]] λy nu=>y=rq low (kl B pl q) q.2/\nu=mu:=by
 have h:=Os (k:=k) (mu:=mu) (a:=B.a q.2) (b:=B.b q.2) (c:=B.c q.2) (d:=B.d q.2) (a':=if q.1=q.2 then 0 else 1) (b':=1) (c':=pl) (d':=(pl:Int)*pl) (q:=Eo low (B.cs q.2)) (q':=[(cB (low+q.1),1)]) H (Et hl (hB.lt q.2) (hB.nd q.2)) (by refine aj (ak ..) ?_;have:=hB.len q.2;lia) (by show 1<=1000;decide);rw [I2 hl h1 (hB.lt q.2)] at h;refine aj (show rq low B q.2=Qs (B.a q.2) (B.b q.2) (B.c q.2) (B.d q.2) (Eo low (B.cs q.2)) by delta rq Qs;rw [Cg]) ?_;refine h.mono λy nu ⟨e1,e2⟩=>⟨e1.trans ?_,e2⟩
 simp only [rq,Qs,kl,if_pos,Cg]
def tV.S0(k:Nat)(mu:Mu)(L A Du Oc Bk Sg:ay)(ds:List Nat)(ns:List Int)(n6:Nat)(pm doc:ai)(P:ib)(N:Int)(_:Nat):Prop:=∀{vs:ej} {Θ:AF->Mu->Prop} {K:fl} {cs:List Nat} (H:Hy G) (LH:fM G K) (BH:yx K) (he:du (bT pm doc L)) (PO:mV P) (hS:Sv vs (QA ds ns n6 A Du Oc Sg P.lx Bk)) (hR:pn ds n6 0 cs) (hK:yK Sg (xH.map .str)∈mu) (next:∀vs cs,Sv vs (QA ds ns n6 A Du Oc Sg P.lx Bk)->pn ds n6 16 cs->Fd (fG B0 0 (dm ds)) 8->WS (k+8) (cw L vs::cD Bk (fT (aF ds) (fG B0 0 (dm ds)))::pq P N cs A (dm ds) ds Du mu) (bT pm doc L) (mw 15) Θ),WS (k+8) (cw L vs::cD Bk (fT (aF ds) B0)::pq P N cs A (dm ds) ds Du mu) (bT pm doc L) (mw 14) Θ
namespace tV
@[irreducible] def e0:=Fq eN gD cL cL cL cL cL cL gD gD eN gL gL IU Q8 eN S0
def k_:=e0.1
def fb:=e0.2.1
def L_:=e0.2.2.1
def A_:=e0.2.2.2.1
def JS:=e0.2.2.2.2.1
def Sa:=e0.2.2.2.2.2.1
def wj:=e0.2.2.2.2.2.2.1
def Sg_:=e0.2.2.2.2.2.2.2.1
def aV:=e0.2.2.2.2.2.2.2.2.1
def Hz:=e0.2.2.2.2.2.2.2.2.2.1
def gO:=e0.2.2.2.2.2.2.2.2.2.2.1
def pj:=e0.2.2.2.2.2.2.2.2.2.2.2.1
def g8:=e0.2.2.2.2.2.2.2.2.2.2.2.2.1
def P_:=e0.2.2.2.2.2.2.2.2.2.2.2.2.2.1
def N_:=e0.2.2.2.2.2.2.2.2.2.2.2.2.2.2.1
theorem T0:S0 k_ fb L_ A_ JS Sa wj Sg_ aV Hz gO pj g8 P_ N_ e0.2.2.2.2.2.2.2.2.2.2.2.2.2.2.2:=by
 intro vs Θ K cs H LH BH he PO hS hR hK next
 have d7:=eI aV;have hKm:∀{cs} (a b c d:cX),yK Sg_ (xH.map .str)∈a::b::c::d::pq P_ N_ cs A_ (dm aV) aV JS fb:=λ{z} a b c d=> .tail _ (.tail _ (.tail _ (.tail _ (bL _ (.tail _ (.tail _ (.tail _ hK)))))));refine aC (jO (ctx:=[]) (xs:=(aN 8).map nV) (λi nu=>∃vs cs,nu=cw L_ vs::cD wj (fT (aF aV) (fG B0 0 ((dm aV).take i)))::pq P_ N_ cs A_ (dm aV) aV JS fb/\Sv vs (QA aV Hz gO A_ JS Sa Sg_ P_.lx wj)/\pn aV gO (2*i) cs/\Fd (fG B0 0 ((dm aV).take i)) i)
  (fK (n:=8) (iN H he H.b_range rfl) aU rfl (by decide)) (by lia) ⟨vs,cs,rfl,hS,hR,Fd.zero⟩ (λi nu h o ho=>(eo ho)) ?_ ?_)
 ·intro i x nu hx eT;refine ir eT λvs cs gi hS hR hB=>?_;clear eT;subst gi;rw [aJ] at hx;refine aK (aL.mp hx) λi' hi' iC=>?_;subst iC;have hi8:i < 8:=by have:=(aB.mp hi').1;exact this
  have:i'=i:=by rw [bz hi8] at hi';exact (aO hi').symm
  subst this;refine aQ (i:=0) (j:=1) he .loc rfl ?_;have hS1:=hS.set (j:=1) (y:=nV i');obtain ⟨q,hq⟩:∃q,(dm aV)[i']? =ae q:=⟨_,bJ (show i' < (dm aV).length from hi8)⟩;have hqD:(dm aV).getD i' (0,0)=q:=by (refine aj (bR ..) ?_;refine aj (hq ..) ?_);rfl
  have Jr:=kf aV q (ao hq);have hw:=OZ (ds:=aV) (n6:=gO) hi8;rw [hqD] at hw;refine cq (LH.f207.go) λob z z z PY S5 z=>cq (H.f256.go) λob2 z z z Uq GM z=>?_
  let qn:Nat->Nat:=λm=>if m=0 then q.1 else q.2
  refine aC (b4 (Ln (ctx:=[]) (xs:=(aN 2).map nV) (λm ys nu=>m<=2/\∃cs,nu=cw L_ (vs.set 1 (ae (nV i')))::cD wj (fT (aF aV) (fG B0 0 ((dm aV).take i')))::pq P_ N_ cs A_ (dm aV) aV JS fb/\pn aV gO (2*i'+m) cs/\ys=(aN m).map λm=>V.str (cB (aF aV+qn m)))
   ⟨rfl,rfl,by decide+kernel,by decide+kernel⟩ (fK (n:=2) (iN H he H.b_range rfl) aU rfl (by decide)) (by lia) (by decide) ⟨gp _,cs,rfl,hR,rfl⟩ (λz z z z o ho=>eo ho) (λm ys nu ⟨_,_,_,_,e⟩=>by refine aj (e ..) ?_;simp) (λC D m x ys nu hx hJ=>?_) (λD ys nu hJ=>?_)) rfl rfl)
  ·refine qq hJ λz cs kG hR ma=>?_;clear hJ;subst kG;subst ma;have hm2:m < 2:=by have:=(aB.mp hx).1;exact this
   refine ⟨_,qA (j:=1) he.comp .loc,?_⟩;have hwm:(d9 aV gO)[2*i'+m]? =ae (xH.getD (qn m) ""):=by
    rcases (by lia:m=0\/m=1) with rfl|rfl
    ·exact hw.1
    ·exact hw.2
   have hqm:qn m < 6:=by
    rcases (by lia:m=0\/m=1) with rfl|rfl
    ·exact Jr.1
    ·exact Jr.2.2
   refine aK (hR.tok hwm) λcs' ht Tf=>O3 (xs:=(aN 6).map λb=>V.str (cB (aF aV+b))) (ah (j:=7) he.comp (.cell (L_+6) "names") (ab _ (ab _ aa)) (hS1.get rfl)) (DY (ah (j:=18) he.comp (.cell (L_+10) "signs") (ab _ (ab _ aa)) (hS1.get rfl)) (ty_tk (hKm _ _ _ _)) (cA (pQ LH.KO LH.m_get (ah (j:=21) he.comp (.cell (L_+11) "lexer") (ab _ (ab _ aa)) (hS1.get rfl)) (ao (i:=5) rfl) (yN _ _ _) PY S5 (FW.mono (FW.cons _ (FW.cons _ (FW.cons _ (FW.cons _ (FW.app _ (xG (k:=k_+3) H LH BH PO ht hR.len)))))) λy nu hy=>?_))) PySem.F.plainAttrs_tuple Nu PySem.F.type_tuple_index rfl);obtain ⟨_,e1,_,e2,_,e3,_,e4,_,e5,ey,e6⟩:=hy;subst e6 e5 e4 e3 e2 e1 ey;refine e9 ⟨[bZ (.str (xH.getD (qn m) ""))],.int (qn m:Nat),λZ vs hv=>?_,Er (hKm _ _ _ _) (Es hqm).1 (Es hqm).2,V.str (cB (aF aV+qn m)),Rv (by delta j9;(refine aj (if_neg (by lia) ..) ?_;refine aj (b8 ..) ?_);exact Mg hqm) (by show -(6:Int)<=_;lia) (by lia) (by show 6 < 2 ^ 62;decide),_,rfl,by lia,cs',rfl,Tf,?_⟩
   ·cases hv with
    |cons a b=>cases b;exact .cons a .nil
   ·(refine aj (qg ..) ?_;refine aj (bj ..) ?_);rfl
  ·refine qq hJ λz cs mE hR q7=>?_;clear hJ;subst mE;subst q7;refine fL.list (Gh (cv rfl rfl (aQ (i:=0) (j:=24) he .loc rfl (cv rfl rfl (aQ (i:=0) (j:=25) he .loc rfl (iX ?_))))));have hS2:=(hS1.set (j:=24) (y:= .str (cB (aF aV+q.1)))).set (j:=25) (y:= .str (cB (aF aV+q.2)));have hq5:q.2∈[1,2,3,4,5]:=by
    have h1:=Jr.2.1;have h2:=Jr.2.2;rcases (by lia:q.2=1\/q.2=2\/q.2=3\/q.2=4\/q.2=5) with h|h|h|h|h <;> refine aj (h ..) ?_ <;> decide
   refine aC (qB (i:=1) (D:=wj) (x:=cB (aF aV+q.2)) (y:=rq (aF aV) (kl (fG B0 0 ((dm aV).take i')) i' q) q.2) (ju (ys:=[rq (aF aV) (fG B0 0 ((dm aV).take i')) q.2,.tup [.int (if q.1=q.2 then 0 else 1),.int 1,.int i',.int ((i':Int)*i'),cV [(cB (aF aV+q.1),1)]]]) (mn H he H.m_stats rfl) Uq GM (au (bF (wJ (ah (j:=41) he (.cell (L_+15) "book") aa (hS2.get rfl)) (ab _ aa)) (ah (j:=25) he .loc aa (hS2.get rfl)) (mh (gb d7 (by decide) hq5))) (au (f9 (xs:=[.int (if q.1=q.2 then 0 else 1),.int 1,.int i',.int ((i':Int)*i'),cV [(cB (aF aV+q.1),1)]]) (au (bM (iZ (iN H he H.b_int rfl) (au (mJ (ah (j:=24) he .loc aa (hS2.get rfl)) (ah (j:=25) he .loc aa (hS2.get rfl)) tB) aT) rG) (congrArg V.int (nme d7 Jr.1 Jr.2.2))) (au aU (au (ah (j:=1) he .loc aa (hS2.get rfl)) (au (br (ah (j:=1) he .loc aa (hS2.get rfl)) (ah (j:=1) he .loc aa (hS2.get rfl)) (mY (by lia))) (au (bF (pM (ah (j:=23) he .loc aa (hS2.get rfl))) (ah (j:=24) he .loc aa (hS2.get rfl)) (mh (gb d7 (by decide) (aY.mpr Jr.1)))) aT))))) (by show 5<=2 ^ 20;decide)) aT)) (FW.mono (A8 (k:=k_+5) H d7 hB (by exact aw (eB (by assumption)) (by decide)) Jr.1) λy nu h=>h)) (ah (j:=41) he (.cell (L_+15) "book") aa (hS2.get rfl)) (ah (j:=25) he .loc aa (hS2.get rfl)) rfl (by show 5<=2 ^ 24;decide) ?_);refine bC ⟨_,cs,?_,hS2.sub ⟨rfl,rfl,rfl,rfl,rfl,rfl,rfl,rfl,rfl,rfl,rfl,rfl,rfl,rfl,rfl,rfl,trivial⟩,?_,?_⟩
   ·(refine aj (lM hq ..) ?_;refine aj (kF ..) ?_;refine aj (dR ..) ?_;refine aj (Nat.min_eq_left (eB (show i' < (dm aV).length from hi8))) ?_;refine aj (eC ..) ?_)
    show _::cD wj (jF (fT (aF aV) _) _ _)::_=_;refine aj (Ep d7 hq5 ..) ?_;rfl
   ·have e:2*i'+((aN 2).map nV).length=2*(i'+1):=by simp;lia
    refine fZ (e ..) ?_;exact hR
   ·(refine aj (lM hq ..) ?_;refine aj (kF ..) ?_)
    exact hB.step Jr.1
 ·intro nu ue;refine ir ue λvs cs mP hS hR hB=>?_;clear ue;subst mP;refine bC (next vs cs hS hR ?_);exact hB
end tV
theorem tV{pm doc:ai}{P:ib}{N:Int}:tV.S0 k mu L A Du Oc Bk Sg ds ns n6 pm doc P N 0:=by with_unfolding_all exact As _ _ _ _ _ _ _ _ _ _ _ _ _ _ _ _ tV.S0 @tV.T0 k mu L A Du Oc Bk Sg ds ns n6 pm doc P N 0
end
theorem A9:∀(l1 l2:List ed) (env:gP),Jw (l1++l2) env=(Jw l1 env >>=λf=>match f with
 | .next=>Jw l2 env
 |f=>dg f)
 |[],l2,env=>by
  show Jw l2 env=((dg Flow.next:mF uj) >>=_);rw [pure_bind]
 |st::l1,l2,env=>by
  rw [fU,execs_cons,execs_cons,bind_assoc];congr 1;funext f;cases f with
  |next=>exact A9 l1 l2 env
  |_=>exact (pure_bind ..).symm
theorem O4{l1 l2:List ed}(h:WS k mu env l1 (K7 k env l2 Θ)):yk k mu env (l1++l2) Θ:=⟨λ{A E Z s fr outer Q} hA hf iD r q=>by
 rw [A9];refine ag (h.c hA r λ{f s1 Z1 a nu} z1 f1 r1 w=>?_)
 revert w
 exact o7.by f1 (λw=>Wf.c (show yk k nu env l2 Θ from w) hA hf iD r1 λ{z z z z z} z2=>q (z1.trans z2)) (λw=>ar (q z1 .brk r1 w)) (λw=>ar (q z1 .cont r1 w)) λv x hv w=>ar (q z1 (.ret hv) r1 w)⟩
theorem I3:fR (cN 23)=mw 0++je 15:=(oq 15 _).symm
end
section
variable {ds:List Nat}{ns:List Int}{n6:Nat}
theorem Ci{a:Nat}{l:List Nat}{xs:List Int}:∃w:Int,iA n6 xs (a::l)=iA n6 (xs++gm a w) l:=⟨_,rfl⟩
theorem Mh{a b c d:Nat}{xs:List Int}:∃w1 w2 w3 w4:Int,iA n6 xs [a,b,c,d]=xs++(gm a w1++gm b w2++gm c w3++gm d w4):=by
 refine cJ (Ci (n6:=n6) (a:=a) (l:=[b,c,d]) (xs:=xs)) λw1 e1=>cJ (Ci (n6:=n6) (a:=b) (l:=[c,d]) (xs:=xs++gm a w1)) λw2 e2=>cJ (Ci (n6:=n6) (a:=c) (l:=[d]) (xs:=xs++gm a w1++gm b w2)) λw3 e3=>cJ (Ci (n6:=n6) (a:=d) (l:=[]) (xs:=xs++gm a w1++gm b w2++gm c w3)) λw4 e4=>⟨w1,w2,w3,w4,?_⟩
 rw [e1,e2,e3,e4];show xs++gm a w1++gm b w2++gm c w3++gm d w4=_;simp only [bU]
theorem yO{a b c d:Nat}{w1 w2 w3 w4:Int}(ha:a < 4096)(hb:b < 4096)(hc:c < 4096)(hd:d < 4096)(rs:List Nat):
 ym ((gm a w1++gm b w2++gm c w3++gm d w4).map uw++rs)=ae ((a,b,c,d),rs):=by
 simp only [bj,bU];delta ym;exact dq.mpr ⟨_,sG ha _,dq.mpr ⟨_,sG hb _,dq.mpr ⟨_,sG hc _,dq.mpr ⟨_,sG hd _,rfl⟩⟩⟩⟩
noncomputable def QB(ds:List Nat)(p:Nat):Nat×Nat×Nat×Nat:=(cc ds (sP ds p),cc ds (eP ds p) - cc ds (sP ds p),cc ds (tP ds p),lP ds p)
def lN.S0(ds:List Nat)(n6:Nat):Prop:=∀{ns:List Int} (h:Dr ds ns n6),DZ ((tS ds n6).map uw) [QB ds 10,QB ds 14]
namespace lN
@[irreducible] def e0:=Qg gD eN S0
def aV:=e0.1
def gO:=e0.2
theorem T0:S0 aV gO:=by
 intro ns h;have hb:∀b,b<=6->cc aV b < 4096:=λb hb=>by have:=Ec h b hb;exact b7 (by assumption) (by decide)
 have hl:∀p,lP aV p < 4096:=λp=>by have:=h.dlt (p+3);delta lP;exact cb (by assumption) (by decide)
 obtain ⟨w1,w2,w3,w4,e1⟩:=Mh (n6:=gO) (a:=cc aV (sP aV 10)) (b:=cc aV (eP aV 10) - cc aV (sP aV 10)) (c:=cc aV (tP aV 10)) (d:=lP aV 10) (xs:=[]);obtain ⟨w1',w2',w3',w4',e2⟩:=Mh (n6:=gO) (a:=cc aV (sP aV 14)) (b:=cc aV (eP aV 14) - cc aV (sP aV 14)) (c:=cc aV (tP aV 14)) (d:=lP aV 14) (xs:=iA gO [] (jy aV 10));have e:eQ aV gO [10,14]=(gm (cc aV (sP aV 10)) w1++gm (cc aV (eP aV 10) - cc aV (sP aV 10):Nat) w2++gm (cc aV (tP aV 10)) w3++gm (lP aV 10) w4)++(gm (cc aV (sP aV 14)) w1'++gm (cc aV (eP aV 14) - cc aV (sP aV 14):Nat) w2'++gm (cc aV (tP aV 14)) w3'++gm (lP aV 14) w4'):=by show iA gO (iA gO [] (jy aV 10)) (jy aV 14)=_;rw [show iA gO (iA gO [] (jy aV 10)) (jy aV 14)=_ from e2,show iA gO [] (jy aV 10)=_ from e1,qi]
 have h6:∀p,sP aV p<=6:=λp=>eB (HC p);have t6:∀p,tP aV p<=6:=λp=>eB (HD p).2;have k1:∀p,cc aV (eP aV p) - cc aV (sP aV p) < 4096:=λp=>by have:=hb _ (LX (ds:=aV) p).2;lia
 have sm:∀{n},n < 4096->n < 2 ^ 60:=λ{z} h=>by exact cb (by assumption) (by decide)
 delta tS;generalize ht:(eQ aV gO [10,14]).take (gO % 4)=tail;have htl:tail.length<=3:=by rw [<- ht,dR];have:=ee gO (show 0 < 4 by decide);lia
 rw [e,bU,bj];refine .more (yO (hb _ (h6 10)) (k1 10) (hb _ (t6 10)) (hl 10) _) (sm (hb _ (h6 10))) (sm (k1 10)) (sm (hb _ (t6 10))) (sm (hl 10)) ?_;rw [bj];exact .more (yO (hb _ (h6 14)) (k1 14) (hb _ (t6 14)) (hl 14) _) (sm (hb _ (h6 14))) (sm (k1 14)) (sm (hb _ (t6 14))) (sm (hl 14)) (.stop (DR (by rw [ak];exact Nat.lt_succ_of_le (by assumption))) (by rw [ak];exact aw (by assumption) (by decide)))
end lN
theorem lN:lN.S0 ds n6:=by with_unfolding_all exact Fo _ _ lN.S0 @lN.T0 ds n6
theorem Cj:(JM (tm (qM ds n6))).toList.map pL=(tS ds n6).map uw:=by
 have hlt:∀c∈(tS ds n6).map uw,c < 256:=λc hc=>by
  refine aK (aG.mp hc) λo ho dO=>?_;subst dO;have:=u3 o ho;lia
 delta JM tm;rw [tT];generalize (tS ds n6).map uw=l at hlt;simp only [a0];refine (b5 λc hc=>?_).trans (xx l);show ((fB c).toNat.toUInt8).toNat=c;show c % 256=c;exact Nat.mod_eq_of_lt (hlt c hc)
variable {k:Nat}{mu nu:Mu}{env:gP}{p pos:jC}{vs bB:ej}{Φ:V->Mu->Prop}{Θ:AF->Mu->Prop}{L C D Du Oc Bk Sg:ay}{K:fl}
section
variable {ctx:Mu}{p2:jC}{S:List (Nat×V)}{Ψ:AF->Mu->Prop}{A:ay}
theorem Wf.drop1{t:mF uj}{a:cX}(h:Wf k nu env t Θ):Wf k (a::nu) env t Θ:=⟨λ{A E Z s fr outer Q} hA hf iD r=>h.c hA hf iD (r.sublist (.cons _ (sR _)))⟩
theorem Wf.to{t:mF uj}(js:List Nat)(h:Wf k (qN js nu) env t Θ):Wf k nu env t Θ:=⟨λ{A E Z s fr outer Q} hA hf iD r=>h.c hA hf iD (r.perm ((nh js nu).append_right fr))⟩
theorem JR.mono{f:ai}{xs:List V}{Φ':V->Mu->Prop}(h:JR k mu f xs Φ)(hi:∀y nu,Φ y nu->Φ' y nu):JR k mu f xs Φ':=⟨λ{x x x x x x x x} hA hf iD r hv q=>h.c hA hf iD r hv λ{x x x x x} z w r u=>q z w r (hi _ _ u)⟩
noncomputable def Mi(ds:List Nat):V:= .list ([QB ds 10,QB ds 14].map D2)
noncomputable abbrev S15(ds:List Nat)(ns:List Int)(n6:Nat)(A Du Oc Sg lx Bk:ay):List (Nat×V):=(26,Mi ds)::QA ds ns n6 A Du Oc Sg lx Bk
theorem Ck(x:bb):IV x.cps.toList= .str x:=by
 cases x with
 |mk c=>cases c;rfl
def tW.S0(k:Nat)(mu:Mu)(vs:ej)(Θ:AF->Mu->Prop)(L A Du Bk:ay)(ds:List Nat)(n6:Nat)(pm doc:ai)(P:ib)(N:Int)(cs:List Nat)(B:Rw):Prop:=∀{Oc Sg:ay} {ns:List Int} {K:fl} (H:Hy G) (LH:fM G K) (BH:yx K) (GH:Ls G) (EH:gN G K) (he:du (bT pm doc L)) (hk:vY (bT pm doc L)) (hD:Dr ds ns n6) (PO:mV P) (hS:Sv vs (QA ds ns n6 A Du Oc Sg P.lx Bk)) (hR:pn ds n6 16 cs) (next:∀vs cs,Sv vs (S15 ds ns n6 A Du Oc Sg P.lx Bk)->pn ds n6 17 cs->yk (k+8) (cw L vs::cD Bk (fT (aF ds) B)::pq P N cs A (dm ds) ds Du mu) (bT pm doc L) (je 16) Θ),yk (k+8) (cw L vs::cD Bk (fT (aF ds) B)::pq P N cs A (dm ds) ds Du mu) (bT pm doc L) (je 15) Θ
namespace tW
@[irreducible] def e0:=Fq eN gD gD s9 cL cL cL cL gD eN gL gL IU Q8 gD RN S0
def k_:=e0.1
def fb:=e0.2.1
def kR:=e0.2.2.1
def Θ_:=e0.2.2.2.1
def L_:=e0.2.2.2.2.1
def A_:=e0.2.2.2.2.2.1
def JS:=e0.2.2.2.2.2.2.1
def wj:=e0.2.2.2.2.2.2.2.1
def aV:=e0.2.2.2.2.2.2.2.2.1
def gO:=e0.2.2.2.2.2.2.2.2.2.1
def pj:=e0.2.2.2.2.2.2.2.2.2.2.1
def g8:=e0.2.2.2.2.2.2.2.2.2.2.2.1
def P_:=e0.2.2.2.2.2.2.2.2.2.2.2.2.1
def N_:=e0.2.2.2.2.2.2.2.2.2.2.2.2.2.1
def qO:=e0.2.2.2.2.2.2.2.2.2.2.2.2.2.2.1
def B_:=e0.2.2.2.2.2.2.2.2.2.2.2.2.2.2.2
theorem T0:S0 k_ fb kR Θ_ L_ A_ JS wj aV gO pj g8 P_ N_ qO B_:=by
 intro Oc Sg ns K H LH BH GH EH he hk hD PO hS hR next
 refine aK (hR.tok O0) λcs' ht Tf=>cq (LH.f207.go) λob z z z PY S5 z=>cE (GH.f275.go) λob2 z z g0 gd0 z=>cq (H.f179.go) λob3 z z z t0 td z=>nJ (F0 (AP hk (mn H he H.m_table rfl) t0 td (cA (ml (mn H he H.m_given rfl) g0 gd0 (cA (pQ LH.KO LH.m_get (ah (j:=21) he (.cell (L_+11) "lexer") aa (hS.get rfl)) (ao (i:=3) rfl) (yN _ _ _) PY S5 (FW.mono (FW.cons _ (FW.cons _ (FW.app _ (xG (k:=k_+3) H LH BH PO ht hR.len)))) λy nu hq=>?_)))))) rfl rfl);obtain ⟨_,e1,_,e2,_,e3,ey,e4⟩:=hq;subst e4 e3 e2 e1 ey;rw [Ck];refine e9 (FW.mono (m9 (k:=k_+6) (i:=8) (text:=qM aV gO) (o:=ae (P_.a,P_.b)) H GH rfl A0 (aw yI (by decide))) λy nu hq=>?_);obtain ⟨f,dx,lam,it,L1,gd,ld,a,b,e1,xa,hRd,e2⟩:=hq;cases xa _ rfl;subst e1 e2;refine e9 ⟨[_,_,_,_],_,ic _,⟨_,_,aa⟩,JR.mono (Hv (k:=k_+4) (qs:=[QB aV 10,QB aV 14]) H EH (.tail _ (.head _)) (by show (["read","co_exceptiontable"]:List bb).Nodup;decide) (.tail _ (.head _)) (by rw [Cj];exact lN hD) (by show 2<=2 ^ 20;decide)) λy nu hq=>?_⟩;refine dU hq λe1 e2=>?_;clear hq;subst e1 e2;refine ⟨_,ic _,aQ (i:=4) (j:=26) he .loc rfl ?_⟩;refine Wf.drop1 (Wf.drop1 (Wf.drop1 (Wf.drop1 (next _ cs' (hS.set (j:=26)) Tf))))
end tW
theorem tW{pm doc:ai}{P:ib}{N:Int}{cs:List Nat}{B:Rw}:tW.S0 k mu vs Θ L A Du Bk ds n6 pm doc P N cs B:=by with_unfolding_all exact As _ _ _ _ _ _ _ _ _ _ _ _ _ _ _ _ tW.S0 @tW.T0 k mu vs Θ L A Du Bk ds n6 pm doc P N cs B
end
variable {A:bh}{prog:dG}{w:d8}{E:ai->aq->Prop}{s:aq}{x:ay}{name:bb}{e:bH}{es:List bH}{apos:jC}{xs:List V}{y:V}
section
open Builtin Builtin.ObjectAttr Builtin.Getset_descriptor Builtin.Tuple
section
variable {expr:Bool}{Q:ai->aq->Prop}
theorem I4{M:zE}{h:dH}{a g:ai}(X:K.In h)(ha:fH K (.ref C) name=ae (ae a))(hg:Fg K a "__get__"=ae (ae g))(ht:Uw K a=ae aI):iL M h (find (.ref x) (.ref C) name) (.bind g a):=by have L1:=mT (M:=M) X ha;have L2:iL M h (getOf (ae a)) (ae g):=looks_specialIn X hg;have L3:=looks_takesIn (M:=M) X ht;exact L1.andThen (L2.andThen ((show iL M h (dataDescriptor? (ae a) (ae g)) (ae (g,a)) from L3.andThen .now).andThen (Looks.tag .now)))
theorem Mj:uo TI "tuple.__getattribute__"=ae Builtin.«object.__getattribute__»:=F.entry_tuple_ga
theorem O5:CN "tuple.__getattribute__"=ae .slot:=by kernel_rfl
theorem Mk:Q0 "tuple.__getattribute__"=ae ("tuple","__getattribute__"):=by kernel_rfl
theorem ga_ne:(iG "tuple.__getattribute__" == iG "object.__getattribute__")=aH:=by decide+kernel
def lO.S0(prog:dG)(w:d8)(A:bh)(E:ai->aq->Prop)(x C:ay)(name:bb)(Q:ai->aq->Prop):Prop:=∀{s:aq} {K:fl} {a g:ai} (X:K.In s.heap) (L0:∀M,iL M s.heap (jU (.ref x)) (.ref C)) (LT:iL (aX prog w) s.heap (uh (.ref x) (.type "tuple")) aI) (hga:fH K (.ref C) "__getattribute__"=ae (ae (.builtin "tuple.__getattribute__"))) (ha:fH K (.ref C) name=ae (ae a)) (hg:Fg K a "__get__"=ae (ae g)) (ht:Uw K a=ae aI) (hk:fH K (.ref C) "__getattr__"=ae av) (h:∀E2,aS (aX prog w) A.in1 (ku g [a,.ref x,.ref C]) (λv s'=>aS (aX prog w) A (handedOut v) Q E s') E2 {s with toks:=s.toks+1}),aS (aX prog w) A (s8 (.ref x) name aI) Q E s
namespace lO
@[irreducible] def e0:=Nz sX E9 Fu s9 cL cL inferInstance s9 S0
def cT:=e0.1
def w_:=e0.2.1
def A_:=e0.2.2.1
def E_:=e0.2.2.2.1
def x_:=e0.2.2.2.2.1
def C_:=e0.2.2.2.2.2.1
def iz:=e0.2.2.2.2.2.2.1
def Q_:=e0.2.2.2.2.2.2.2
theorem T0:S0 cT w_ A_ E_ x_ C_ iz Q_:=by intro s K a g X L0 LT hga ha hg ht hk h;obtain ⟨hh,gg,d,t,os⟩:=s;have L1:=mT (M:=aX cT w_) X hga;have L3:=mT (M:=aX cT w_) X hk;have L2:=I4 (M:=aX cT w_) (x:=x_) X ha hg ht;delta s8 getAttrBy;refine ag (JL (bE (ag ((L0 _).at (ag (L1.at ?_))))));show aS _ _ (if (onTheHeap (.ref C_) && (iG "tuple.__getattribute__" == iG "object.__getattribute__"))=aI then _ else _) _ _ _;refine aj (ga_ne ..) ?_;refine aj (kN ..) ?_;refine aj (if_neg (by decide) ..) ?_;show aS _ _ (hookBefore (.ref C_) >>=_) _ _ _;delta hookBefore;refine aj (if_pos (by rfl) ..) (ag (L3.at (ag (kT (bE ?_)))));delta callGetattribute;refine aj (if_neg (by decide) ..) ?_;delta TL;refine aj (vj.bind (.ref x_) ..) (ag (ar ?_));refine eF (codeAny_call_builtin_at (ro vj.plain _) Mj ?_);refine aj (gR vj.plain _ ..) (@ry (aX cT w_) _ _ ⟨hh,gg,d,t+1,os⟩ "tuple.__getattribute__" "tuple" "__getattribute__" (.ref x_) [.str iz t] [] _ O5 Mk LT (F.args_tuple_getattribute_2 _ _) ?_);unfold Builtin.«object.__getattribute__»;refine ag (cM (a:=(cY x_,[Value.str iz t])) (by rfl) ?_);dsimp only;refine ag (cM (a:=iz) (by rfl) ?_);refine ag ((L0 _).at (ag (L2.at ?_)));show aS _ _ (eW [a] (ku g [a,.ref x_,.ref C_]) >>=vm) _ _ _;refine ag (bE (eR (h _) (λv s' z=>ar ?_) λy y z=>z));exact z
end lO
theorem lO:lO.S0 prog w A E x C name Q:=by with_unfolding_all exact Bz _ _ _ _ _ _ _ _ lO.S0 @lO.T0 prog w A E x C name Q
end
theorem u4(l:ay)(o:o6)(items:Array ai)(n:Nat)(hd:o.data= .seq items n)(i:Nat)(u:HW)(y:ai)(hy:items[i]? =ae y)(hi:i < 2 ^ 62):
 Meets (Builtin.«tuple.__getitem__» ⟨[.ref l,.int i u],[]⟩) (λz R s=>s.heap.get? l=ae o/\R (.ok (.ret y)) s):=
 .of_wp λprog w A R s h=>by
  obtain ⟨hp,g,d,tk,os⟩:=s;obtain ⟨hl,h⟩:=h;have hlt:=(rv.mp hy).1;have hk:Nj (i:Int) items.size=ae i:=by unfold Nj;simp;lia
  unfold Builtin.«tuple.__getitem__»;refine ag (cM (a:=(cY l,[jT i u])) (by rfl) ?_);dsimp only;refine ag (wpAny_tupleItemsOf hl hd ?_);refine ag (cM (a:=lX "int") (by rfl) ?_);refine aj (if_neg (by decide) ..) (ag (h8 (typeIs_int _ _ _) F.slot_int_index.lookup ?_));refine aj (if_neg (by decide) ..) (ag (cM (a:=(i:Int)) (by rfl) ?_));refine aj (if_neg (by simp;lia) ..) ?_;refine aj (hk ..) ?_;refine aj (EU ..) ?_;refine aj (hy ..) ?_;exact ar ⟨_,rfl,h⟩
theorem wk{Z:bI}{s:aq}(EH:gN G K){v:ai}(r:R Z mu s)(h:aZ G Z v (.ent xs)):∃a o vs n,v= .ref a/\s.heap.get? a=ae o/\o.cls= .ref 162/\o.data= .seq vs n/\bW G Z vs.toList xs:=
 (aZ.ent_inv h).imp λa=>bQ λo=>bQ λvs=>bQ λn w=>⟨w.1,r.zin _ _ w.2.1,by (refine aj (w.2.2.1 ..) ?_;refine aj (EH.ent ..) ?_;rfl),w.2.2.2⟩
theorem sJ{M:zE}{h:dH}{a:ay}{o:o6}(he:h.get? a=ae o)(hc:o.cls= .ref 162):iL M h (jU (.ref a)) (.ref 162):=hc▸(sv he).andThen .now
theorem yP(EH:gN G K){h:dH}(X:K.In h){a:ay}{o:o6}(he:h.get? a=ae o)(hc:o.cls= .ref 162):iL (aX G.prog G.w) h (uh (.ref a) (.type "tuple")) aI:=(sJ he hc).andThen (fD X EH.subT)
theorem Gj(EH:gN G K):ta k mu .Is (bZ (.ent xs)) (bZ .none) aH:=⟨λ{A E Z s fr v u T} hA r hp hq q=>by
 refine dK (wk EH r.left hp) λa o vs n dO h1 h2 h3 h4=>?_;subst dO;refine aj (aZ.noneE hq ..) ?_;exact is_none (q .rfl (.bool _) r)⟩
theorem Ml(EH:gN G K):Fn k mu (.type "type") [bZ (.ent xs)] (bZ (.ref 162)):=⟨λ{A E Z s fr vs Q} hA r hq q=>by
 refine aK (hq.one) λv eT q1=>?_;subst eT;refine dK (wk EH r.left q1) λa o vs n gi h1 h2 h3 h4=>?_;subst gi;refine PyProof.Rows.call_type_obj h1 (by refine aj (h2 ..) ?_;rfl) ?_;refine aj (h2 ..) ?_;exact q .rfl (aZ.ref _) r⟩
theorem I5(EH:gN G K):Fn k mu (.builtin "issubclass") [bZ (.ref 162),bZ (.type "tuple")] (bZ (.bool aI)):=⟨λ{A E Z s fr vs Q} hA r hq q=>by
 refine cC (hq.two) λv u iC q1 q2=>?_;subst iC;refine aj (aZ.refE q1 ..) ?_;refine aj (aZ.typeE q2 ..) ?_;have X:K.In s.heap:=EH.KO.inn _ r.z0in;have hs:=fD X EH.subT;have hi:=fD X EH.isT;refine eF (kK ?_);have ck:iI "issubclass" ⟨[.ref 162,.type "tuple"],[]⟩=dg ():=by have h1:rh "issubclass" ⟨[.ref 162,.type "tuple"],[]⟩:=F.args_issubclass_2 _ _;delta iI;exact aj (F.kind_issubclass ..) (h1)
 show aS _ A.in1 (do iI "issubclass" ⟨[.ref 162,.type "tuple"],[]⟩;NN (.builtin "issubclass" ⟨[.ref 162,.type "tuple"],[]⟩)) _ _ _;refine aj (ck ..) (ag (ar (ar ⟨ro F.plain_issubclass _,kO F.entry_issubclass ?_⟩)));refine aj (gR F.plain_issubclass _ ..) (PyProof.Rows.issubclass_outer ?_);unfold Builtin.«issubclass.nested»;dsimp only;refine ag (cM (a:=lX "type") (by kernel_rfl) ?_);show aS _ _ ((isType (.ref 162) >>=_) >>=_) _ _ _;refine ag (ag (hi.here (ag (cM (a:=aI) (by kernel_rfl) ?_))));refine aj (if_pos (by rfl) ..) (hs.here ?_);exact ar (q .rfl (aZ.bool _) r)⟩
theorem O6:CN "tuple.__getitem__"=ae .slot:=by kernel_rfl
theorem Mm:Q0 "tuple.__getitem__"=ae ("tuple","__getitem__"):=by kernel_rfl
theorem Gk(EH:gN G K){i:Nat}(hx:xs[i]? =ae y)(hl:xs.length<=1000):Fn k mu (.builtin "tuple.__getitem__") [bZ (.ent xs),bZ (.int i)] (bZ y):=⟨λ{A E Z s fr vs Q} hA r hq q=>by
 refine cC (hq.two) λv u kG q1 q2=>?_;subst kG;refine dK (wk EH r.left q1) λa o ws n ma h1 h2 h3 h4=>?_;subst ma;refine cJ (gF q2) λtk mE=>?_;subst mE;have X:K.In s.heap:=EH.KO.inn _ r.z0in;refine aK (h4.get hx) λw h5 h6=>?_;have hi:i < xs.length:=(aB.mp hx).1;refine eF ?_;refine kK ?_;show aS _ A.in1 (do iI "tuple.__getitem__" ⟨[.ref a,.int i tk],[]⟩;NN (.builtin "tuple.__getitem__" ⟨[.ref a,.int i tk],[]⟩)) _ _ _;refine ag (@ry (aX G.prog G.w) _ _ s "tuple.__getitem__" "tuple" "__getitem__" (.ref a) [.int i tk] [] _ O6 Mm (yP EH X h1 h2) (F.args_tuple_getitem_2 _ _) ?_);refine ar ⟨ro F.slot_tuple_getitem.plain _,kO F.entry_tuple_getitem ?_⟩;refine aj (gR F.slot_tuple_getitem.plain _ ..) ?_;exact (u4 a o ws n h3 i tk w (bV.symm.trans h5) (by lia)) G.prog G.w A (wants Q E) s ⟨h1,q .rfl h6 r⟩⟩
end
section
variable {o:bH}{dx:ay}{Ps:List (Vw)}{S:Vw}
theorem Se{k:Nat}{mu:Mu}{xs:List V}{Φ:V->Mu->Prop}(B:g7 G){fd:cm}{a:ay}{ob:o6}{body:List ed}{names:List bb}{vals':ay->ej}(Bu:Kn mu λhp=>hp.get? a=ae ob)(hd:ob.data= .func fd)(hcd:Kn mu λhp=>hp.CodeRec fd.code fd.qualname)(sq:fd.body= .stmts body)
 (i0:∀(s:aq) vs,(∀a o,G.Z0 a=ae o->s.heap.get? a=ae o)->vs.length=xs.length->BindsTo s fd ⟨vs,[]⟩ (names.zip vs)) (hnd:(aM 0 fd.scope.names).nd) (he:∀L,du (dT fd a L))
 (hb:∀L,i9 (dT fd a L) L (aM (L+1) fd.scope.names) names xs (nones (aM (L+1) fd.scope.names)) (vals' L))
 (h:∀L,WS k (vR fd L (vals' L)::mu) (dT fd a L) body (lE Φ)) (wx:autoParam (fd.scope.isCoroutine=aH) aR) (mQ:autoParam (fd.scope.isGenerator=aH) aR):FW (k+1) mu (.ref a) xs Φ:=⟨λ{A E Z s fr vs Q} hA r hv q=>by
 refine eF (qp hA.depth (Bu.app r) hd wx mQ sq (hcd.app r) ?_);refine i0 s vs r.z0in hv.length _ _ _ _ (pO (vals':=vals' s.heap.objs.size) r hnd (he _) hv (hb _) λs' r'=>⟨B.lim _ r'.z0in,JE ?_⟩);refine (h s.heap.objs.size).c (hA.deeper _) r' λ{f s2 Z2 af ud} z2 f2 r2 w2=>?_
 revert w2
 exact o7.by f2 (λw=>jK.c (show jK .none ud Φ from w) r2 .none λ{z z z} z3=>q (z2.trans z3)) (λw=>w.elim) (λw=>w.elim) λv x hv w=>jK.c (show jK x ud Φ from w) r2 hv λ{z z z} z3=>q (z2.trans z3)⟩
structure Cm(G:Gd)(a:ay)(st:ed)(qual:bb):Prop where
 go:∃ob pm cd doc T o n,G.Z0 a=ae ob/\ob.data= .func {Au st qual pm cd doc with defaults:= .ref T}/\G.Z0 T=ae o/\o.data= .seq #[.none] n/\∀h:dH,(∀a o,G.Z0 a=ae o->h.get? a=ae o)->h.CodeRec cd qual
theorem Sf{k:Nat}{mu:Mu}{xs:List V}{Φ:V->Mu->Prop}(H:Hy G){a:ay}{st:ed}{qual:bb}(F:Cm G a st qual){names:List bb}{vals':ay->ej}
 (i0:∀pm cd doc T (s:aq) o n vs,s.heap.get? T=ae o->o.data= .seq #[.none] n->vs.length=xs.length->BindsTo s {Au st qual pm cd doc with defaults:= .ref T} ⟨vs,[]⟩ (names.zip vs)) (hnd:(aM 0 (bk st).names).nd) (hk:(bk st).kind= .function)
 (hb:∀pm cd doc T L,i9 (dT {Au st qual pm cd doc with defaults:= .ref T} a L) L (aM (L+1) (bk st).names) names xs (nones (aM (L+1) (bk st).names)) (vals' L))
 (h:∀pm cd doc T L,du (dT {Au st qual pm cd doc with defaults:= .ref T} a L)->WS k (bq L (aM (L+1) (bk st).names) (vals' L)::mu) (dT {Au st qual pm cd doc with defaults:= .ref T} a L) (fR st) (lE Φ)) (wx:autoParam ((bk st).isCoroutine=aH) aR) (mQ:autoParam ((bk st).isGenerator=aH) aR):
 FW (k+1) mu (.ref a) xs Φ:=by
 obtain ⟨ob,pm,cd,doc,T,o,n,h0,hd,hT,hn,hcd⟩:=F.go;exact Se H.B (names:=names) (vals':=vals') (Kn.z0 h0) hd (λZ s r=>hcd _ r.z0in) rfl (λs vs hz hl=>i0 pm cd doc T s o n vs (hz T o hT) hn hl) hnd (λL=>⟨hk,rfl,rfl⟩) (hb pm cd doc T) (λL=>h pm cd doc T L ⟨hk,rfl,rfl⟩) wx mQ
structure wZ(K:fl)(name:bb)(g:ay)(i:Nat):Prop where
 find:fH K (.ref 162) name=ae (ae (.ref g))
 spec:Fg K (.ref g) "__get__"=ae (ae (.ref 43))
 takes:Uw K (.ref g)=ae aI
 inst:∃d,K.lookup g=ae (Af 60 d)/\∃es n t,K.lookup d=ae (i3 es n)/\getL "index" es=ae (ae (.int i t))
def r9(G:Gd)(K:fl):Prop:=
 (Cm G 43 (jl 2 1) "_tuplegetter.__get__")/\
 (eS K 60 "index"=aI)/\
 (fH K (.ref 162) "__getattribute__"=ae (ae (.builtin "tuple.__getattribute__")))/\
 (fH K (.ref 162) "__getattr__"=ae av)/\
 (Fh K (.type "tuple") (.type "type") "__getitem__"=ae (.val (.builtin "tuple.__getitem__")))/\
 (G.mg "type"=av)/\
 (G.mg "issubclass"=av)/\
 (∃g,wZ K "start" g 0)/\
 (∃g,wZ K "end" g 1)/\
 (∃g,wZ K "target" g 2)/\
 (∃g,wZ K "depth" g 3)/\
 ∃g,wZ K "lasti" g 4
section
variable {G:Gd}(h:r9 G K)
def r9.f43:=@h.1
def r9.p60:=@h.2.1
def r9.ga:=@h.2.2.1
def r9.gx:=@h.2.2.2.1
def r9.titem:=@h.2.2.2.2.1
def r9.b_type:=@h.2.2.2.2.2.1
def r9.b_issub:=@h.2.2.2.2.2.2.1
def r9.g0:=@h.2.2.2.2.2.2.2.1
def r9.g1:=@h.2.2.2.2.2.2.2.2.1
def r9.g2:=@h.2.2.2.2.2.2.2.2.2.1
def r9.g3:=@h.2.2.2.2.2.2.2.2.2.2.1
def r9.g4:=@h.2.2.2.2.2.2.2.2.2.2.2
end
theorem Mn{de:List gA}{n:Nat}{v:ai}(KO:FV G K)(hp:eS K C name=aI)(ho:PE k mu env o (.ref x))(hx:K.lookup x=ae (Af C dx))(hd:K.lookup dx=ae (i3 de n))(hv:getL name de=ae (ae v))(hr:aZ G G.Z0 v y)(hy:∀n,y≠ .bi n)
 (he:autoParam (dW (.Attribute o name p) env=(do let ov <- dW o env;iE p.atName;let r <- eW [ov] (s8 ov name aI);pF o ov r;dg r)) aR):PE k mu env (.Attribute o name p) y:=⟨λ{A E Z s fr Q} hA r q=>by
 refine gZ ?_ he;refine ho.c hA r λ{ov s1 Z1} z1 q1 r1=>aj (aZ.refE q1 ..) ?_;have X:K.In s1.heap:=KO.inn _ r1.z0in;refine dU (cn.mp hp) λS2 h3=>dU (cn.mp S2) λh1 h2=>aK (any_some h1) λcd hcd ES=>get_value X (⟨X _ _ hx,rfl,rfl,X _ _ hd⟩:InstAt s1.heap x (Af C dx) C (ae (i3 de n))) (jE h3) ?_ (m8 hr hy) (q z1 (hr.mono r1.z0) r1.toks);exact DI hcd (jE h2) ES hv⟩
theorem Gl{f name:bb}{id:String}{fp:jC}{pl:mF Bool}(EH:gN G K)(hn:Fh K (.type "tuple") (.type "type") name=ae (.val (.builtin id)))(hf:PE k mu env (.Name f fp) (.type "tuple"))(ha:tC k mu env (e::es) Ps)(hF:Fn k mu (.builtin id) Ps S)(hh:handedIn (.builtin id)=aI:=by kernel_rfl!)(wy:autoParam (kh (e::es)=aI) aR)
 (he:autoParam (dW (.Call (.Attribute (.Name f fp) name apos) (e::es) [] pos) env=(do let ov <- dW (.Name f fp) env;iE apos.atName;let (f,first) <- eW [ov] (mB ov name pl);pE pos f first (lj pos (fo (e::es) env)) [])) aR):
 EV k mu env (.Call (.Attribute (.Name f fp) name apos) (e::es) [] pos) S:=⟨λ{A E Z s fr Q} hA r q=>by
 refine i5 (pl:=pl) ?_ he;refine hf.c hA r λ{ov s1 Z1} z1 q1 r1=>aj (aZ.typeE q1 ..) (uV (T:="tuple") (v:= .builtin id) (pl:=pl) (EH.KO.inn _ r1.z0in) DU DT hn hh ?_);exact Hf ha hA r1.toks λ{z z z} z2 q2 r2=>hF.c hA r2 q2 λ{z z z} z3=>q (z1.trans (z2.trans z3))⟩
theorem Mo(H:Hy G)(EH:gN G K)(TH:r9 G K){g:ay}{i:Nat}(hg:wZ K name g i)(hx:xs[i]? =ae y)(hl:xs.length<=1000):FW (k+2) mu (.ref 43) [.ref g,.ent xs,.ref 162] λr nu=>r=y/\nu=mu:=by
 refine Sf H TH.f43 (names:=["self","obj","objtype"]) (vals':=λL=>[ae (.ref g),ae (.ent xs),ae (.ref 162)]) (λpm cd doc T s o n vs ho hs h=>?_) (by decide+kernel) rfl (λpm cd doc dv L=>?_) (λpm cd doc dv L he=>?_)
 ·exact Om h λa b c=>BindsTo.of_defaults rfl ho hs rfl rfl
 ·exact .cons (j:=0) .loc rfl (.cons (j:=1) .loc rfl (.cons (j:=2) .loc rfl .nil))
 obtain ⟨d,hi,de,n,t,hd,hv⟩:=hg.inst;refine aC (iY (c9 (ah (j:=1) he .loc aa rfl) Kd (Gj EH)) (λh=>vK h) λz=>?_);refine bC (aC (iY (Fy (kU (ek (j4 H he TH.b_issub rfl) (au (iZ (iN H he TH.b_type rfl) (au (ah (j:=1) he .loc aa rfl) aT) (Ml EH)) (au (iN H he H.b_tuple rfl) aT)) (I5 EH)) qv)) (λh=>vK h) λz=>?_));refine bC (aC (gw (cf (Gl EH TH.titem (iN H he H.b_tuple rfl) (au (ah (j:=1) he .loc aa rfl) (au (Mn (y:= .int i) EH.KO TH.p60 (ah (j:=0) he .loc aa rfl) hi hd hv (aZ.int _ _) (λn e=>by cases e)) aT)) (Gk EH hx hl)) (ki ⟨rfl,rfl⟩))))
theorem nR(H:Hy G)(EH:gN G K)(TH:r9 G K){g:ay}{i:Nat}(hg:wZ K name g i)(ho:PE (k+3) mu env o (.ent xs))(hx:xs[i]? =ae y)(hl:xs.length<=1000)(hy:∀n,y≠ .bi n)
 (he:autoParam (dW (.Attribute o name p) env=(do let ov <- dW o env;iE p.atName;let r <- eW [ov] (s8 ov name aI);pF o ov r;dg r)) aR):PE (k+3) mu env (.Attribute o name p) y:=⟨λ{A E Z s fr Q} hA r q=>by
 refine gZ ?_ he;refine ho.c hA r λ{ov s1 Z1} z1 q1 r1=>dK (wk EH r1.left q1) λa ob vs n dO h1 h2 h3 h4=>?_;subst dO;have X:K.In s1.heap:=EH.KO.inn _ r1.z0in;refine lO X (λM=>sJ h1 h2) (yP EH X h1 h2) TH.ga hg.find hg.spec hg.takes TH.gx λE2=>(Mo (k:=k) (mu:=mu) H EH TH hg hx hl).c hA.in1 r1.toks (.cons (.ref _) (.cons q1 (.cons (.ref _) .nil))) λ{w s2 Z2 y' ud} z2 q2 r2 u=>dU u λe1 e2=>?_;clear u;subst e1 e2;refine aj (handedOut_of (m8 q2 hy) ..) ?_;exact ar (q (z1.trans z2) q2 r2)⟩
end
variable {l r:bH}{b:Bool}
open Builtin AutoSeq1 SeqAt in
theorem Eu(l b:ay)(items items2:Array ai)(n n2:Nat)(C:ai)(dd dd2:Option ay)(sl sl2:Array (Option ai))(hs:items.size=items2.size):
 Meets (Builtin.«tuple.__eq__» ⟨[.ref l,.ref b],[]⟩) (λA R s=>s.heap.get? l=ae {cls:=C,dict:=dd,data:= .seq items n,slots:=sl}/\s.heap.get? b=ae {cls:= .type "tuple",dict:=dd2,data:= .seq items2 n2,slots:=sl2}/\
  (∀j (h1:j < items.size) (h2:j < items2.size),EqAt A.in1 s items[j] items2[j] aI)/\R (.ok (.ret (.bool aI))) s):=
 .of_wp λprog w A R s h=>by
  obtain ⟨hp,g,d,tk,os⟩:=s;obtain ⟨hl,hb,he,h⟩:=h;have f2:=AutoSeq1.sub_tuple_tuple
  wp_walk using kP hl,kP hb,wpAny_forIn_list _ (λrest acc s'=>acc.1=av/\s'=⟨hp,g,d,tk,os⟩/\∃i,rest=(items.toList.zip items2.toList).drop i) _
  case turn=>
   rintro ⟨u,v⟩ rest acc s' ⟨ha,rfl,i,hz⟩;have hlt:i < (items.toList.zip items2.toList).length:=uz λq=>by rw [Qe q] at hz;exact J3 hz
   have M9:i < items.size/\i < items2.size:=by simp at hlt;omega
   rw [dZ hlt] at hz;obtain ⟨e1,e2⟩:=s7 hz;have hu:u=items[i]:=by have:=congrArg uy e1;simpa using this
   have hv:v=items2[i]:=by have:=congrArg Prod.snd e1;simpa using this
   subst hu hv;refine ag (he i M9.1 M9.2 prog w _ _ ?_)
   wp_walk
   exact ⟨rfl,rfl,i+1,e2⟩
  case fin=>
   rintro ⟨acc1,acc2⟩ s' ⟨ha,rfl,i,hz⟩;simp only at ha;subst ha
   wp_walk
   exact ⟨_,rfl,by simpa [qj,hs] using h⟩
  case h=>exact ⟨rfl,rfl,0,rfl⟩
theorem Mp:CN "tuple.__eq__"=ae .slot:=by kernel_rfl
theorem I6:Q0 "tuple.__eq__"=ae ("tuple","__eq__"):=by kernel_rfl
structure QC(K:fl):Prop where
 sub:subIn K (.type "tuple") (.ref 162)=ae aH
 eq:fH K (.ref 162) "__eq__"=ae (ae (.builtin "tuple.__eq__"))
 up:subIn K (.ref 162) (.type "tuple")=ae aI
open SeqAt in
theorem Mq{K:fl}{A:bh}{s:aq}{l b:ay}{items items2:Array ai}{n:Nat}{o:o6}(X:K.In s.heap)(QH:QC K)(h1:s.heap.get? l=ae o)(hc:o.cls= .ref 162)(hd:o.data= .seq items n)(h2:s.heap.IsTuple b items2)(hs:items.size=items2.size)(hu:A.units < cLine)
 (he:∀j (h1:j < items.size) (h2:j < items2.size),EqAt A.in1 s items[j] items2[j] aI):RcAt A s (.ref l) (.ref b) aI:=λprog w E Q hq=>by
 obtain ⟨cls,dd,data,sl⟩:=o;obtain ⟨⟨cls2,dd2,data2,sl2⟩,NK,hc2,n2,hd2⟩:=id h2;simp only at hc hd hc2 hd2;subst hc hd hc2 hd2;obtain ⟨hp,g,d,t,os⟩:=s;have L1:iL (aX prog w) hp (jU (.ref l)) (.ref 162):=(sv h1).andThen .now;have L2:iL (aX prog w) hp (jU (.ref b)) (.type "tuple"):=(sv NK).andThen .now;have L3:=looks_subIn (M:=aX prog w) X QH.sub;have L4:=mT (M:=aX prog w) X QH.eq;have L5:iL (aX prog w) hp (uh (.ref l) (.type "tuple")) aI:=L1.andThen (looks_subIn X QH.up);unfold richCompare;refine bE (ag (wpAny_cRoomFor_or (.inr hu) ?_));show aS _ _ (jU (.ref l) >>=_) _ _ _;refine ag (L1.at (ag (L2.at (ag ?_))));have tc:∀(Qc:Option ai->aq->Prop) (E':ai->aq->Prop),Qc (ae (.bool aI)) ⟨hp,g,d,t,os⟩->aS (aX prog w) A (tryCompare (.ref l) "__eq__" (.ref b)) Qc E' ⟨hp,g,d,t,os⟩:=λQc E' hQ=>by
  have fin:∀E':ai->aq->Prop,aS (aX prog w) A (ku (.builtin "tuple.__eq__") ([.ref l]++[.ref b])) (λv s'=>v= .bool aI/\s'=⟨hp,g,d,t,os⟩) E' ⟨hp,g,d,t,os⟩:=λE'=>by
   refine eF (jj Qf.plain F.entry_tuple_eq (@ry (aX prog w) _ _ ⟨hp,g,d,t,os⟩ "tuple.__eq__" "tuple" "__eq__" (.ref l) [.ref b] [] _ Mp I6 L5 (F.args_tuple_eq_2 _ _) ?_));exact (Eu l b items items2 n n2 (.ref 162) dd dd2 sl sl2 hs) prog w A (wants _ E') _ ⟨h1,NK,he,rfl,rfl⟩
  unfold tryCompare callSpecialIfBound? bindSpecialIfBound? mA;refine ag (bE (ag (ag (ag (L1.at (L4.at ?_))))));refine ag (gC (wpAny_ite ?_))
  split
  ·refine ag (cM (Qf.bind _) (ar (ag (eR (fin _) (λv s' ⟨e1,e2⟩=>?_) λy y z=>z))));subst e1 e2;exact ar (ar hQ)
  ·refine wpAny_tryCatch (ag (cM (Qf.bind _) (ar (ag (eR (fin _) (λv s' ⟨e1,e2⟩=>?_) λy y z=>z)))));subst e1 e2;exact ar (ar hQ)
 refine L3.at (ag (tc _ _ ?_));exact ar hq
section
variable {ys:List V}{x:V}{lay:zL}{j:Nat}{Z:bI}{Ξ:Bool->Mu->Prop}{CT:CmpOp}
theorem I7(EH:gN G K)(QH:QC K){rows:List (List V)}(hr:∀row∈rows,∃ds,ph row=ae ds/\zI ds=0):ta k mu .NotEq (bZ (.list (rows.map .ent))) (bZ (.list (rows.map .tup))) aH:=⟨λ{A E Z s fr v u T} hA R hp hq q=>by
 have X:K.In s.heap:=EH.KO.inn _ R.z0in;have hu:=hA.uni;refine cE (rj.list hp) λa vs n q7 e1 r1=>?_;subst q7;refine cE (rj.list hq) λa' rr n' ue e2 r2=>?_;subst ue;have hl1:rows.length=vs.size:=by (refine fZ (b9 r1 ..) ?_;refine aj (ak ..) ?_;rfl)
 have QT:rows.length=rr.size:=by (refine fZ (b9 r2 ..) ?_;refine aj (ak ..) ?_;rfl)
 have he:∀j (j1:j < vs.size) (j2:j < rr.size),SeqAt.EqAt A.in1 s vs[j] rr[j] aI:=λj j1 j2=>by
  obtain ⟨row,Na⟩:∃row,rows[j]? =ae row:=⟨_,bJ (hl1▸j1)⟩;have q1:=nC r1 (i:=j) (x:= .ent row) (by (refine aj (aJ ..) ?_;refine aj (Na ..) ?_);rfl) (dY j1);have q2:=nC r2 (i:=j) (x:= .tup row) (by (refine aj (aJ ..) ?_;refine aj (Na ..) ?_);rfl) (dY j2);refine dK (wk EH R.left q1) λc o ws m h1 g1 g2 g3 g4=>dK (aZ.tup_inv q2) λc' o' Uo m' h2 z1 z2 z3 z4=>?_;refine aj (h1 ..) ?_;refine aj (h2 ..) ?_;have g5:=R.zin _ _ z1;refine aK (hr row (ao Na)) λds hds hdd=>SeqAt.EqAt.of_refs (λe=>?_) (Mq X QH g1 g2 g3 ⟨o',g5,z2,m',z3⟩ ((b9 g4).symm.trans (b9 z4)) (by show _ < 9900;have:A.in1.units=A.units+1:=rfl;lia) λi i1 i2=>?_)
  ·subst e;rw [g1] at g5;(have lA:=aO g5;clear g5;subst lA);rw [g2] at z2;cases z2
  ·refine dU (wN (s:=s) R.zin row g4 hds) λmP h4=>cJ mP λas h3=>?_;clear mP;refine dU (wN (s:=s) R.zin row z4 hds) λso z=>cJ so λbs h5=>?_;clear so;have:=SeqAt.eqAt_readsAll ds ds A.in1.in1 s _ _ _ _ h3 h5 h4 h4 (by refine aj (hdd ..) ?_;show _ < 9900;have:A.in1.in1.units=A.units+1+1:=rfl;lia) i (eK▸i1) (eK▸i2);have h6:SeqAt.pairEq ds ds i=aI:=by
    have h7:=SeqAt.eqvAll_eq ds ds;rw [SeqAt.eqvAll_refl ds h4,Nat.min_self] at h7;exact fW.mp (cn.mp h7).1 i (aY.mpr (by (refine aj (Dn hds ..) ?_;refine aj (b9 g4 ..) ?_);exact i1))
   rw [h6] at this;exact this
 have:=SeqAt.RcNeAt.lists (A:=A) (s:=s) (l:=a) (b:=a') (e:=λz=>aI) ⟨_,R.zin _ _ e1,rfl,n,rfl⟩ ⟨_,R.zin _ _ e2,rfl,n',rfl⟩ (hl1.symm.trans QT) (by show _ < 9900;lia) he;rw [show (!(aN vs.size).all λz=>aI)=aH by simp] at this;exact this G.prog G.w E _ (q .rfl (.bool _) R)⟩
theorem Ba{d:wF}(hx:Ky x=ae d)(hd:d.depth<=100):ta k mu .NotEq (bZ x) (bZ x) aH:=⟨λ{A E Z s fr v u T} hA r hp hq q=>by
 exact dU (rH (s:=s) r.zin x hp hx) λz h2=>(Kz (k:=k) (mu:=mu) hx hx (aw (Nat.min_le_left _ _) hd)).c hA r hp hq (by refine aj (SeqAt.eqv_refl d h2 ..) ?_;exact q)⟩
theorem R.frzL(r:R Z (bq L lay bB::bl D xs::mu) s)(hv:bB[j]? =ae (ae (.ref D))):∃Z',Z.le Z'/\R Z' (bq L lay (bB.set j (ae (.list xs)))::mu) s:=by
 have r1:=r.perm (jh _ _ _);refine eD (r1.sat _ aa) λvs n h1 h2=>dU (R.freezeHd r1 h1 aa) λr' z'=>⟨_,z',?_⟩
 exact mI (r'.sat _ aa) λhnd m hn hs=>r'.upd' (i:=0) (h':=s.heap) (tk:=s.toks) rfl rfl (λz z z e=>e) ⟨hnd,m,hn,hs.weak hv λx c q=>q.as λv q=>by
  cases q;exact .list (bI.put_self ..) (h2.mono z')⟩
theorem R.frzD{es:List (bb×V)}(r:R Z (bq L lay bB::cD D es::mu) s)(hv:bB[j]? =ae (ae (.ref D))):∃Z',Z.le Z'/\R Z' (bq L lay (bB.set j (ae (.dict es)))::mu) s:=by
 have r1:=r.perm (jh _ _ _);refine qq (r1.sat _ aa) λq0 kvs zk h1 h2=>oH zk λo ND ep ho hd=>?_;clear zk;refine dU (R.freezeHd r1 ho aa) λr' z'=>⟨_,z',?_⟩
 exact mI (r'.sat _ aa) λhnd m hn hs=>r'.upd' (i:=0) (h':=s.heap) (tk:=s.toks) rfl rfl (λz z z e=>e) ⟨hnd,m,hn,hs.weak hv λx c q=>q.as λv q=>by
  cases q;exact .dict q0 (bI.put_self ..) ⟨hd.1,ND,ep,hd.2⟩ h1 (h2.mono z')⟩
theorem Wf.frzL{t:mF uj}(hv:bB[j]? =ae (ae (.ref D)))(h:Wf k (bq L lay (bB.set j (ae (.list xs)))::mu) env t Θ):Wf k (bq L lay bB::bl D xs::mu) env t Θ:=⟨λ{A E Z s fr outer Q} hA hf iD r q=>by
 exact aK (R.frzL (mu:=mu++fr) r hv) λZ1 z1 r1=>h.c (fr:=fr) hA hf iD r1 λ{z z z z z} z'=>q (z1.trans z')⟩
theorem WF.frzL{t:mF uj}(hv:bB[j]? =ae (ae (.ref D)))(h:WF k (bq L lay (bB.set j (ae (.list xs)))::mu) t Θ):WF k (bq L lay bB::bl D xs::mu) t Θ:=⟨λ{A E Z s fr Q} hA r q=>by
 exact aK (R.frzL (mu:=mu++fr) r hv) λZ1 z1 r1=>h.c (fr:=fr) hA r1 λ{z z z z z} z'=>q (z1.trans z')⟩
theorem WF.frzD{es:List (bb×V)}{t:mF uj}(hv:bB[j]? =ae (ae (.ref D)))(h:WF k (bq L lay (bB.set j (ae (.dict es)))::mu) t Θ):WF k (bq L lay bB::cD D es::mu) t Θ:=⟨λ{A E Z s fr Q} hA r q=>by
 exact aK (R.frzD (mu:=mu++fr) r hv) λZ1 z1 r1=>h.c (fr:=fr) hA r1 λ{z z z z z} z'=>q (z1.trans z')⟩
structure QD(k:Nat)(mu:Mu)(env:gP)(t:mF Bool)(Ξ:Bool->Mu->Prop):Prop where
 c:∀{A:bh} {E:ai->aq->Prop} {Z:bI} {s:aq} {fr:Mu} {outer:List gP} {Q:Bool->aq->Prop},Rm k A->A.frames=ae (env::outer)->ia outer fr->R Z (mu++fr) s->
  (∀{b s' Z' nu},Z.le Z'->R Z' (nu++fr) s'->Ξ b nu->Q b s')->aS (aX G.prog G.w) A t Q E s
theorem Sh{body orelse:List ed}(h:QD k mu env (isTrue e env (dW e env)) λc nu=>brP c (yk k nu env body Θ) (yk k nu env orelse Θ)):WXf k mu env (.If e body orelse pos) Θ:=⟨λ{z z z z z z z} hA hf iD r q=>by
 with_reducible refine wpAny_If ?_
 refine h.c hA hf iD r λ{c s1 Z1 nu} z1 r1 w=>?_;cases c with
 |true=>exact Wf.c (show yk k nu env body Θ from w) hA hf iD r1 λ{z z z z z} z2=>q (z1.trans z2)
 |false=>exact Wf.c (show yk k nu env orelse Θ from w) hA hf iD r1 λ{z z z z z} z2=>q (z1.trans z2)⟩
theorem Si(h:QD k mu env (allTrue .Or es env) Ξ):QD k mu env (isTrue (.BoolOp .Or es p) env (dW (.BoolOp .Or es p) env)) Ξ:=⟨λ{z z z z z z z} hA hf iD R q=>by
 with_reducible refine wpAny_isTrue_BoolOp ?_
 exact h.c hA hf iD R q⟩
theorem Cn(h:PT k mu env e aH)(hr:QD k mu env (allTrue .Or es env) Ξ):QD k mu env (allTrue .Or (e::es) env) Ξ:=⟨λ{z z z z z z z} hA hf iD R q=>by
 with_reducible refine Ah ?_
 exact h.c hA R λ{z z} z1 r1=>hr.c hA hf iD r1 λ{z z z z} z2=>q (z1.trans z2)⟩
theorem O7(h:QD k mu env (isTrue e env (dW e env)) Ξ):QD k mu env (allTrue .Or [e] env) Ξ:=⟨λ{z z z z z z z} hA hf iD R q=>by
 with_reducible refine Ah ?_
 refine h.c hA hf iD R λ{d s1 Z1 nu} z1 r1 w=>?_;cases d with
 |true=>exact q z1 r1 w
 |false=>refine aj (if_neg cF ..) ?_;(with_reducible refine wpAny_allTrue_Or_nil ?_);exact q z1 r1 w⟩
theorem Mr(h:WVf k mu env (dW l env) λy nu=>∃(Q:Vw) (b:Bool),EV k nu env r Q/\ta k nu CT (bZ y) Q b/\Ξ b nu)(hm:wz CT r=aH:=by with_unfolding_all rfl):QD k mu env (isTrue (.Compare l [CT] [r] p) env (dW (.Compare l [CT] [r] p) env)) Ξ:=⟨λ{z z z z z z z} hA hf iD R q=>by
 with_reducible refine Ag ?_ hm
 exact h.c hA hf iD R λz1 q1 r1 ⟨Q,b,hr,ho,w⟩=>hr.c hA r1 λ{z z z} z2 p2 r2=>ho.c hA r2 (q1.mono z2) p2 λ{z z z} z3 p3 r3=>(aZ.boolE p3)▸eV (q (z1.trans (z2.trans z3)) r3 w)⟩
end
noncomputable def k8(S:Nat)(v:Nat->ai):Array (Int×ai):=((eZ S).map λ(k:Nat)=>((k:Int),v k)).toArray
noncomputable def I8(S T:Nat)(led:Bool):SetTable:={mask:=if 5<=(eZ T).length then 31 else 7,place:=(eZ S).toArray,dummies:=#[],finger:=0,led:=led,moves:=if 5<=(eZ T).length then 1 else 0,plain:=aI}
noncomputable abbrev Ew(S:Nat)(led:Bool):SetTable:=I8 S S led
theorem O8:∀S,S < 64->∀k:Nat,k < 6->S.testBit k=aH->∀led,((Ew S led).freeSlot (fB k) == ae (k,aH))=aI:=by decide+kernel
theorem Sj:∀S,S < 64->∀k:Nat,k < 6->S.testBit k=aH->∀led,(Ew S led).put k=(I8 (S+2 ^ k) S led,((eZ S).filter (· < k)).length):=by decide+kernel
theorem Gm:∀S,S < 64->∀k:Nat,k < 6->S.testBit k=aH->(eZ S).take ((eZ S).filter (· < k)).length++k::(eZ S).drop ((eZ S).filter (· < k)).length=eZ (S+2 ^ k)/\S+2 ^ k < 64:=by decide+kernel
theorem O9:∀S,S < 64->∀k:Nat,k < 6->S.testBit k=aH->∀led,(I8 (S+2 ^ k) S led).tooFull=decide ((eZ S).length=4):=by decide+kernel
theorem Pa:∀S,S < 64->∀k:Nat,k < 6->S.testBit k=aH->(eZ S).length≠4->∀led,I8 (S+2 ^ k) S led=Ew (S+2 ^ k) led:=by decide+kernel
theorem I9:∀S,S < 64->∀k:Nat,k < 6->S.testBit k=aH->(eZ S).length=4->∀led,((I8 (S+2 ^ k) S led).relaid ((eZ (S+2 ^ k)).map λ(j:Nat)=>(j:Int)).toArray 20 == ae (Ew (S+2 ^ k) led,#[0,1,2,3,4]))=aI:=by decide+kernel
theorem Ex:∀S,S < 64->∀i,i < (eZ S).length+1->SetTable.below (eZ S).toArray (if i=0 then 0 else (eZ S).getD (i - 1) 0+1)=i:=by decide+kernel
noncomputable def HH(v:Nat->ai)(k:Nat)(x:ai):Nat->ai:=λj=>if j=k then x else v j
theorem jG(S:Nat)(v:Nat->ai):(k8 S v).size=(eZ S).length:=by exact ak ..
theorem Sk{S k:Nat}{v:Nat->ai}{x:ai}(hS:S < 64)(hk:k < 6)(hn:S.testBit k=aH):SetTable.insertAt (k8 S v) ((eZ S).filter (· < k)).length ((k:Int),x)=k8 (S+2 ^ k) (HH v k x):=by
 have h1:=(Gm S hS k hk hn).1;have hkb:k∉eZ S:=λh=>by have:=(bo.mp h).2;rw [hn] at this;exact vK this
 have hm:∀l:List Nat,k∉l->l.map (λ(j:Nat)=>((j:Int),v j))=l.map λ(j:Nat)=>((j:Int),HH v k x j):=λl hl=>
  b5 λj hj=>by delta HH;(refine aj (if_neg (λe:j=k=>hl (e▸hj)) ..) ?_;rfl)
 generalize ((eZ S).filter (· < k)).length=p at h1;delta SetTable.insertAt;apply Array.ext';have hx:HH v k x k=x:=by delta HH;(refine aj (if_pos rfl ..) ?_;rfl)
 simp only [k8,lB,CD,xu,List.extract_eq_take_drop,sU,fy,Nat.sub_zero];refine fZ (h1 ..) ?_;simp only [bj,bA,List.map_take,Nv,bU,List.singleton_append,hx];refine aj (hm (eZ S) hkb ..) ?_;congr 3;refine aj (d6 (by simp) ..) ?_;rfl
theorem u5(S T:Nat)(led:Bool):(I8 S T led).fits (eZ S).length=aI:=by
 have h:(eZ S).length<=6:=by have:=bu S.testBit (aN 6);exact this
 delta SetTable.fits SetTable.fill I8;simp only [sU,beq_self_eq_true,Nw]
 split <;> simp <;> lia
theorem Sm{S k:Nat}{v:Nat->ai}{x:ai}{led:Bool}(hS:S < 64)(hk:k < 6)(hn:S.testBit k=aH):layNew (Ew S led) (k8 S v) k x=(k8 (S+2 ^ k) (HH v k x),I8 (S+2 ^ k) S led,aH,aH):=by have h1:=jE (O8 S hS k hk hn led);have h2:=Sj S hS k hk hn led;delta layNew;refine aj (show (k:Int)=fB k from rfl) ?_;refine aj (h1 ..) ?_;simp only;refine aj (h2 ..) ?_;simp only;refine aj (show fB k=(k:Int) from rfl) ?_;refine aj (Sk hS hk hn ..) ?_;refine aj (jG ..) ?_;delta SetTable.orStandIn;refine aj (if_pos (u5 _ _ _) ..) ?_;refine aj (u5 ..) ?_;rfl
theorem xf{α:Type}(a:Array α):(Array.range a.size).filterMap (a[·]?)=a:=by
 apply Array.ext';simp only [Array.toList_filterMap,Array.toList_range];have:∀l:List α,(aN l.length).filterMap (l[·]?)=l:=by
  intro l;induction l with
  |nil=>rfl
  |cons x l ih=>refine aj (bK ..) ?_;refine aj (List.range_succ_eq_map ..) ?_;refine aj (qo ..) ?_;simp only [List.getElem?_cons_zero,List.filterMap_map];congr 1
 have h:=this a.toList;simpa using h
theorem Ms{S k:Nat}{v:Nat->ai}{led:Bool}(hS:S < 64)(hk:k < 6)(hn:S.testBit k=aH)(h4:(eZ S).length=4):relayAll (I8 (S+2 ^ k) S led) (k8 (S+2 ^ k) v) (SetTable.grown (k8 (S+2 ^ k) v).size)=(k8 (S+2 ^ k) v,Ew (S+2 ^ k) led,aH):=by
 have h1:=(Gm S hS k hk hn).1;have hl:(eZ (S+2 ^ k)).length=5:=by refine fZ (h1 ..) ?_;simp only [ba,bK,dR,fY];have:=bu (λj=>decide (j < k)) (eZ S);lia
 have h2:=jE (I9 S hS k hk hn h4 led);have hz:(k8 (S+2 ^ k) v).size=5:=by (refine aj (jG ..) ?_;refine aj (hl ..) ?_;rfl)
 have hh:(k8 (S+2 ^ k) v).map (·.1)=((eZ (S+2 ^ k)).map λ(j:Nat)=>(j:Int)).toArray:=by apply Array.ext';simp [k8]
 delta relayAll;refine aj (hz ..) ?_;refine aj (hh ..) ?_;refine aj (show SetTable.grown 5=20 from rfl) ?_;refine aj (h2 ..) ?_;simp only;have he:(#[0,1,2,3,4]:Array Nat).filterMap (λi=>(k8 (S+2 ^ k) v)[i]?)=k8 (S+2 ^ k) v:=by have:=xf (k8 (S+2 ^ k) v);rw [hz] at this;exact this
 refine aj (he ..) ?_;refine aj (hz ..) ?_;have hf:=u5 (S+2 ^ k) (S+2 ^ k) led;rw [hl] at hf;refine aj (if_pos (by rw [hf];decide) ..) ?_;rfl
structure zY(h:dH)(a:ay)(S:Nat)(led:Bool):Prop where
 go:∃v ep,h.get? a=ae {cls:= .type "set",dict:=av,data:= .set (k8 S v) ep (Ew S led)}/\(∀k:Nat,∃t,v k= .int k t)/\S < 64
theorem Mt:∀k:Nat,k < 6->hashInt (k:Int)=(k:Int):=by decide
theorem Mv{S:Nat}{v:Nat->ai}(hv:∀k:Nat,∃t,v k= .int k t):ElemsOf (lu prog w) (k8 S v).toList:=λe he=>by
 simp only [k8,aG] at he;refine aK he λk hk dO=>?_;clear he;subst dO;refine cJ (hv k) λt ht=>?_;have h6:k < 6:=aY.mp (bo.mp hk).1;simp only [ht];exact ⟨⟨k,GU _ _ _ _,(Mt k h6).symm⟩,rfl⟩
theorem Sn(a b:Int)(t:HW):(lu prog w).is a (.int b t)=decide (a=b):=by
 by_cases h:a=b
 ·subst h;refine aj (GU ..) ?_;simp
 ·refine aj (decide_eq_false h ..) ?_;cases hq:(lu prog w).is a (.int b t)
  ·rfl
  ·exact absurd ((lu prog w).inj _ _ _ (GU prog w b t) hq) (λe=>h (by first|exact e|exact e.symm))
theorem Pb{S k:Nat}{v:Nat->ai}(hv:∀k:Nat,∃t,v k= .int k t)(hk:k < 6):((k8 S v).toList.findIdx? λe=>(lu prog w).is (k:Int) e.2).isSome=S.testBit k:=by
 refine gj (cj ..) ?_;refine aj (List.findIdx?_isSome ..) ?_;refine gj (cS ..) ?_;have ql:∀j:Nat,(lu prog w).is (k:Int) (v j)=decide (k=j):=λj=>by
  refine cJ (hv j) λt ht=>?_;refine aj (ht ..) ?_;refine aj (Sn ..) ?_;refine gj (cj ..) ?_;simp only [decide_eq_true_eq];lia
 constructor
 ·intro eT;refine aK eT λe he h=>?_;clear eT;simp only [k8,aG] at he;refine aK he λj hj gi=>?_;clear he;subst gi;rw [ql] at h;have:=of_decide_eq_true h;subst this;exact (bo.mp hj).2
 ·intro h;refine ⟨((k:Int),v k),?_,by refine aj (ql ..) ?_;simp⟩;simp only [k8,aG];exact ⟨k,bo.mpr ⟨aY.mpr hk,h⟩,rfl⟩
theorem Gn(a:ay)(v:ai)(k:Int){m n:Nat}(h:m=n+1):∃F:Array (Int×ai)×Nat×SetTable->mF Bool,setAddHashedIn a v k m=setState a >>=F/\∀e p t,byScan v e=aI->F (e,p,t)=(setAddByScan a v k e t >>=λr=>match r with|some b=>dg b|none=>setAddHashedIn a v k n):=by subst h;exact ⟨_,rfl,λe p t h=>if_pos h⟩
def nS.S0(prog:dG)(w:d8)(A:bh)(E:ai->aq->Prop)(s:aq)(a:ay)(S k:Nat)(led:Bool)(t:HW)(Q:Bool->aq->Prop)(_:Nat):Prop:=∀(hS:zY s.heap a S led) (hk:k < 6) (h:∀h' tk,ji a s.heap h'->zY h' a (S ||| 2 ^ k) led->∀b,Q b {s with heap:=h',toks:=tk}),aS (aX prog w) A (setAdd a (.int k t)) Q E s
namespace nS
@[irreducible] def e0:=HX sX E9 Fu s9 zK cL eN eN inferInstance inferInstance s9 eN S0
def cT:=e0.1
def w_:=e0.2.1
def A_:=e0.2.2.1
def E_:=e0.2.2.2.1
def s_:=e0.2.2.2.2.1
def a_:=e0.2.2.2.2.2.1
def S_:=e0.2.2.2.2.2.2.1
def k_:=e0.2.2.2.2.2.2.2.1
def xg:=e0.2.2.2.2.2.2.2.2.1
def t_:=e0.2.2.2.2.2.2.2.2.2.1
def Q_:=e0.2.2.2.2.2.2.2.2.2.2.1
theorem T0:S0 cT w_ A_ E_ s_ a_ S_ k_ xg t_ Q_ e0.2.2.2.2.2.2.2.2.2.2.2:=by
 intro hS hk h;obtain ⟨v,ep,ho,hv,ug⟩:=hS;have hel:=Mv (prog:=cT) (w:=w_) (S:=S_) hv;have hf:(Ew S_ xg).fits (k8 S_ v).size=aI:=by refine aj (jG ..) ?_;exact u5 S_ S_ xg
 have JW:(k8 S_ v).size<=6:=by refine aj (jG ..) ?_;have:=bu S_.testBit (aN 6);exact this
 have hz:(k8 S_ v).size < scanBound:=by show _ < 4096;exact b7 (by assumption) (by decide)
 have hkey:(lu cT w_).is (k_:Int) (.int k_ t_)=aI:=GU _ _ _ _;have hgw:∀(b:Bool) {s₁:aq} {Q':Unit->aq->Prop},Q' () s₁->aS (aX cT w_) A_ (match b with|true=>rule "set.scan.the-table-gave-way"|false=>dg ()) Q' E_ s₁:=
  λb s₁ Q' hq=>by cases b <;> first|exact ar hq|exact oj hq
 delta setAdd;refine bE (ag ((lu cT w_).pyHash hkey ?_));refine aj (show (lu cT w_).hash (k_:Int)=(k_:Int) from Mt k_ hk) ?_;delta setAddHashed;refine aK (Gn a_ (.int k_ t_) k_ (m:=100000) (n:=99999) rfl) λF e1 e2=>bE ?_;rw [e1];refine ag (ly (o:={cls:= .type "set",dict:=av,data:= .set (k8 S_ v) ep (Ew S_ xg)}) ho rfl hf ?_);rw [e2 _ _ _ (byScan_of rfl hz hel)];delta setAddByScan;refine ag (ag (oj ?_));have sc:∀(Q':ScanMet->aq->Prop),Q' (match (k8 S_ v).toList.findIdx? (λe=>(lu cT w_).is (k_:Int) e.2) with|some j=> .found (0+j)|none=> .absent) {s_ with toks:=s_.toks+1}->aS (aX cT w_) A_ (setScan a_ (.int k_ t_) (k_:Int) aI (k8 S_ v)) Q' E_ {s_ with toks:=s_.toks+1}:=λQ' hq=>by
  have:=wpAny_setScan_of (A:=A_) (E:=E_) (s:={s_ with toks:=s_.toks+1}) (adding:=aI) (k:=(k_:Int)) hkey (o:={cls:= .type "set",dict:=av,data:= .set (k8 S_ v) ep (Ew S_ xg)}) ho rfl hf hel hq;rw [show (lu cT w_).hash (k_:Int)=(k_:Int) from Mt k_ hk] at this;exact this
 refine ag (sc _ ?_);have hfi:=Pb (prog:=cT) (w:=w_) (S:=S_) hv hk;cases hr:(k8 S_ v).toList.findIdx? (λe=>(lu cT w_).is (k_:Int) e.2) with
 |some j=>
  rw [hr] at hfi;have hb:S_.testBit k_=aI:=hfi.symm;dsimp only;refine ar (ar ?_);have hor:∀S_,S_ < 64->∀k_:Nat,k_ < 6->S_.testBit k_=aI->S_ ||| 2 ^ k_=S_:=by decide+kernel
  refine h s_.heap _ (JP a_ s_.heap) ?_ _;exact aj (hor S_ ug k_ hk hb ..) (⟨v,ep,ho,hv,ug⟩)
 |none=>
  rw [hr] at hfi;have hb:S_.testBit k_=aH:=hfi.symm;have hor:∀S_,S_ < 64->∀k_:Nat,k_ < 6->S_.testBit k_=aH->S_ ||| 2 ^ k_=S_+2 ^ k_:=by decide+kernel
  dsimp only;refine aj (Sm ug hk hb ..) ?_;dsimp only;have SZ:=(Gm S_ ug k_ hk hb).2;have hv':∀j:Nat,∃t',HH v k_ (.int k_ t_) j= .int j t':=λj=>by
   delta HH;by_cases e:j=k_
   ·subst e;exact ⟨t_,by (refine aj (if_pos rfl ..) ?_;rfl)⟩
   ·refine aj (if_neg e ..) ?_;exact hv j
  have hz1:(k8 (S_+2 ^ k_) (HH v k_ (.int k_ t_))).size<=er:=by refine aj (jG ..) ?_;have:=bu (S_+2 ^ k_).testBit (aN 6);simp [eZ] at this ⊢;show _<=2 ^ 24;exact aw (by assumption) (by decide)
  refine ag (ar ?_);simp only [show (I8 (S_+2 ^ k_) S_ xg).plain=aI from rfl,↓reduceIte,Bool.not_false,Nw];refine aj (hashByValue_scannable 8 (show (jT (k_:Int) t_).scannable=aI from rfl)) (ag (ar ?_));simp only [show plainKind (jT (k_:Int) t_)=aI from rfl,↓reduceIte];refine aj (O9 S_ ug k_ hk hb ..) (ag (wpAny_storeSet_of (o:={cls:= .type "set",dict:=av,data:= .set (k8 S_ v) ep (Ew S_ xg)}) ho rfl ?_ hz1));have fin:∀h',ji a_ s_.heap h'->(∃ep',h'.get? a_=ae {cls:= .type "set",dict:=av,data:= .set (k8 (S_+2 ^ k_) (HH v k_ (.int k_ t_))) ep' (Ew (S_+2 ^ k_) xg)})->Q_ aI {s_ with heap:=h',toks:=s_.toks+1}:=λh' hs ⟨ep',e⟩=>by
   refine h h' _ hs ?_ _;exact aj (hor S_ ug k_ hk hb ..) (⟨_,ep',e,hv',SZ⟩)
  have hg1:(s_.heap.update a_ (Obj.putSet (k8 (S_+2 ^ k_) (HH v k_ (.int k_ t_))) (I8 (S_+2 ^ k_) S_ xg))).get? a_=ae {cls:= .type "set",dict:=av,data:= .set (k8 (S_+2 ^ k_) (HH v k_ (.int k_ t_))) (ep+1) (I8 (S_+2 ^ k_) S_ xg)}:=
   bS (Obj.putSet (k8 (S_+2 ^ k_) (HH v k_ (.int k_ t_))) (I8 (S_+2 ^ k_) S_ xg)) ho rfl
  by_cases h4:(eZ S_).length=4
  ·(refine aj (decide_eq_true h4 ..) ?_;refine aj (if_pos rfl ..) ?_;refine aj (Ms ug hk hb h4 ..) ?_)
   refine ag (ar ?_);refine ag (wpAny_storeSet_of hg1 rfl ?_ hz1);refine ar (ar (fin _ ((bY _ a_ _).trans (bY _ a_ _)) ⟨ep+1+1,?_⟩));exact bS (Obj.putSet (k8 (S_+2 ^ k_) (HH v k_ (.int k_ t_))) (Ew (S_+2 ^ k_) xg)) hg1 rfl
  ·(refine aj (decide_eq_false h4 ..) ?_;refine aj (if_neg (by decide) ..) ?_)
   refine ar (ar (fin _ (bY _ a_ _) ⟨ep+1,?_⟩));exact fZ (Pa S_ ug k_ hk hb h4 ..) (hg1)
end nS
theorem nS{a:ay}{S k:Nat}{led:Bool}{t:HW}{Q:Bool->aq->Prop}:nS.S0 prog w A E s a S k led t Q 0:=by with_unfolding_all exact C0 _ _ _ _ _ _ _ _ _ _ _ _ nS.S0 @nS.T0 prog w A E s a S k led t Q 0
noncomputable def nT(ns:List Nat):Nat:=ns.foldl (λS k=>S ||| 2 ^ k) 0
theorem zY.at{h h':dH}{a:ay}{S:Nat}{led:Bool}(x:zY h a S led)(hk:∀o,h.get? a=ae o->h'.get? a=ae o):zY h' a S led:=let ⟨v,ep,e,r⟩:=x;⟨v,ep,hk _ e,r⟩
theorem Mw{a I l:ay}{items:Array ai}{ns:List Nat}{led:Bool}{Rr:wD->aq->Prop}(hh:A.handled=av)(iP:l≠I)(ha:a≠I/\a≠l)(hi:∀(j:Nat) (v:ai),items[j]? =ae v->∃(k:Nat) (t:HW),ns[j]? =ae k/\k < 6/\v=jT (k:Int) t)(hlen:ns.length=items.size)
 (base:dH) (hR:∀h' tk,zY h' a (nT ns) led->(∀b o,b≠a->b≠I->base.get? b=ae o->h'.get? b=ae o)->Rr (.ok (.ret .none)) {s with heap:=h',toks:=tk}):
 ∀(n i:Nat) (h:dH) (tk:Nat),items.size - i=n->i<=items.size->h.IsListIter I l i->h.IsList l items->zY h a (nT (ns.take i)) led->(∀b o,b≠a->b≠I->base.get? b=ae o->h.get? b=ae o)->
  iV (aX prog w) A (.builtin "set.update.loop" ⟨[.ref a,.ref I],[]⟩) Rr {s with heap:=h,toks:=tk}:=by
 have W:Walks prog w A.in1 I [I,l] [I] items.size (λi v=>items[i]? =ae v) (λi h=>h.IsListIter I l i/\h.IsList l items):=Walks.list (by simp [hh]) I l iP items;intro n;induction n with
 |zero=>
  intro i h tk hn hi' hit hl hS hk;have ql:i=items.size:=by lia
  subst ql;refine kO zx (aj (gR lD _ ..) ?_);show aS _ A.in1 (l0 (.ref I) >>=_) _ _ _;refine ag (W.done _ _ _ ⟨hit,hl⟩ λh' ny Tg=>?_);show aS _ A.in1 (vm eG) _ _ _;rw [d6 (by exact ll (by assumption))] at hS;exact ar (hR h' ny (hS.at λo e=>Tg _ _ (by simp [ha.1]) e) λb o h1 h2 e=>Tg b o (by simp [h2]) (hk b o h1 h2 e))
 |succ n ih=>
  intro i h tk hn hi' hit hl hS hk;have hlt:i < items.size:=by lia
  refine kO zx (aj (gR lD _ ..) ?_);show aS _ A.in1 (l0 (.ref I) >>=_) _ _ _;refine ag (W.item i _ _ _ hlt ⟨hit,hl⟩ λv h' ny hv ⟨Tb,hl'⟩ Tg=>?_);refine cC (hi i v hv) λk t hnk hk6 iC=>?_;subst iC;show aS _ A.in1 (eW [jT (k:Int) t] (setAdd a (.int (k:Int) t)) >>=_) _ _ _;refine ag (bE (nS (s:={s with heap:=h',toks:=ny}) (hS.at λo e=>Tg _ _ (by simp [ha.1]) e) hk6 λh2 tk2 hsb hS2 b=>?_));refine ar ⟨ro lD _,ih (i+1) h2 tk2 (by lia) hlt ?_ ?_ ?_ ?_⟩
  ·exact Tb.at λo e=>(hsb.2 I (gf ha.1)).trans e
  ·obtain ⟨o,ho,q⟩:=hl';exact ⟨o,(hsb.2 l (gf ha.2)).trans ho,q⟩
  ·have:nT (ns.take (i+1))=nT (ns.take i) ||| 2 ^ k:=by
    (refine aj (dE ..) ?_;refine aj (hnk ..) ?_);delta nT;simp
   refine aj (this ..) ?_;exact hS2
  ·exact λb o h1 h2 e=>(hsb.2 b h1).trans (Tg b o (by simp [h2]) (hk b o h1 h2 e))
theorem yQ{h:dH}{l:ay}:(h.push {cls:= .type "list_iterator",data:= .fields #[.ref l,.int 0 0]}).IsListIter h.objs.size l 0:=⟨_,aW _ rfl,rfl,rfl⟩
def qP.S0(prog:dG)(w:d8)(A:bh)(a l:ay)(Rr:wD->aq->Prop):Prop:=∀{s:aq} {items:Array ai} {ns:List Nat} {led:Bool} (hh:A.handled=av) (ha:a≠l) (hS:zY s.heap a 0 led) (hl:s.heap.IsList l items) (hi:∀(j:Nat) (v:ai),items[j]? =ae v->∃(k:Nat) (t:HW),ns[j]? =ae k/\k < 6/\v=jT (k:Int) t) (hlen:ns.length=items.size) (hR:∀h' tk,zY h' a (nT ns) led->(∀b o,b≠a->s.heap.get? b=ae o->h'.get? b=ae o)->Rr (.ok (.ret .none)) {s with heap:=h',toks:=tk}),iV (aX prog w) A (.call (.builtin "set.__init__") ⟨[.ref a,.ref l],[]⟩) Rr s
namespace qP
@[irreducible] def e0:=Fp sX E9 Fu cL cL s9 S0
def cT:=e0.1
def w_:=e0.2.1
def A_:=e0.2.2.1
def a_:=e0.2.2.2.1
def l_:=e0.2.2.2.2.1
def Rr_:=e0.2.2.2.2.2
theorem T0:S0 cT w_ A_ a_ l_ Rr_:=by
 intro s items ns led hh ha hS hl hi hlen hR;obtain ⟨v,ep,ho,hv,ug⟩:=id hS;have hT:s.TypeIs (.ref a_) "set":=⟨_,ho,rfl⟩;refine jj mC.init.plain F.entry_set_init (check_set_init_1 hT ?_);obtain ⟨ol,M5,hcl,nl,Ff⟩:=id hl;obtain ⟨ocls,odict,odata,oslots⟩:=ol;simp only at hcl Ff;subst hcl;subst Ff;have hsls:=F.sub_list_set;have hslf:=F.sub_list_frozenset;have iP:(lX "list" == lX "dict")=aH:=by decide
 obtain ⟨hp,g,d,tk,os⟩:=s;have Uc:hp.get? a_=ae {cls:= .type "set",dict:=av,data:= .set #[] ep (.fresh 0 0 led),slots:=#[]}:=ho;unfold Builtin.«set.__init__» noKeywords Builtin.Frozenset.updateFrom;generalize hPI:ra=PI
 wp_walk
 subst hPI;have hl1:hp.IsList l_ items:=hl;have ha1:a_ < hp.objs.size:=bN ho;have QT:l_ < hp.objs.size:=bN M5;refine lr hl1 (ag (wpAny_runValue ?_));refine Mw (s:=⟨hp,g,d,tk,os⟩) (a:=a_) (I:=hp.objs.size) (l:=l_) (items:=items) (ns:=ns) (led:=led) (by simp [hh]) (c8 QT) ⟨c8 ha1,ha⟩ hi hlen hp (λh' ny h1 h2=>?_) items.size 0 _ tk rfl (gp _) yQ (hl1.push _) ?_ (λb o h1 h2 e=>az _ e)
 ·show aS _ _ _ _ _ _;refine ar (ar ?_);exact hR h' ny h1 λb o hb e=>h2 b o hb (c8 (bN e)) e
 ·exact hS.at λo e=>az _ e
end qP
theorem qP{a l:ay}{Rr:wD->aq->Prop}:qP.S0 prog w A a l Rr:=by with_unfolding_all exact uD _ _ _ _ _ _ qP.S0 @qP.T0 prog w A a l Rr
def lQ.S0(prog:dG)(w:d8)(A:bh)(E:ai->aq->Prop)(a:ai)(Q₁:ai->aq->Prop):Prop:=∀{s:aq} (h:Q₁ (.ref s.heap.objs.size) {s with heap:=s.heap.push {cls:= .type "set",dict:=av,data:= .set #[] 0 (.fresh 0 0 (!(w.params.followText "set-order")))}}),iV (aX prog w) A (.call (.builtin "set.__new__") ⟨[.type "set",a],[]⟩) (wants Q₁ E) s
namespace lQ
@[irreducible] def e0:=Fp sX E9 Fu s9 gL s9 S0
def cT:=e0.1
def w_:=e0.2.1
def A_:=e0.2.2.1
def E_:=e0.2.2.2.1
def a_:=e0.2.2.2.2.1
def Q₁_:=e0.2.2.2.2.2
theorem T0:S0 cT w_ A_ E_ a_ Q₁_:=by
 intro s h;refine kK ?_;show aS _ A_.in1 (do iI "set.__new__" ⟨[.type "set",a_],[]⟩;NN (.builtin "set.__new__" ⟨[.type "set",a_],[]⟩)) _ _ s;refine ag (cM (F.newCall_set_1 a_) (ar ⟨ro F.plain_set_new _,kO F.entry_set_new ?_⟩));refine aj (gR F.plain_set_new _ ..) ?_;unfold Builtin.«set.__new__» Builtin.Frozenset.newClass;have q8:=sub_set_self;obtain ⟨hp,g,d,tk,os⟩:=s;dsimp only
 wp_walk
 refine gC (ar ?_);dsimp only;delta newObj;refine ag (vq (ar ?_));exact ar h
end lQ
theorem lQ(a:ai){Q₁:ai->aq->Prop}:lQ.S0 prog w A E a Q₁:=by with_unfolding_all exact uD _ _ _ _ _ _ lQ.S0 @lQ.T0 prog w A E a Q₁
def lR.S0(prog:dG)(w:d8)(A:bh)(E:ai->aq->Prop)(s:aq)(l:ay)(Q:ai->aq->Prop)(_:Nat):Prop:=∀{items:Array ai} {ns:List Nat} (hh:A.handled=av) (hl:s.heap.IsList l items) (hi:∀(j:Nat) (v:ai),items[j]? =ae v->∃(k:Nat) (t:HW),ns[j]? =ae k/\k < 6/\v=jT (k:Int) t) (hlen:ns.length=items.size) (h:∀(h':dH) (tk:Nat) (led:Bool),led= !(w.params.followText "set-order")->zY h' s.heap.objs.size (nT ns) led->(∀b o,s.heap.get? b=ae o->h'.get? b=ae o)->Q (.ref s.heap.objs.size) {s with heap:=h',toks:=tk}),aS (aX prog w) A (ku (.type "set") [.ref l]) Q E s
namespace lR
@[irreducible] def e0:=Nz sX E9 Fu s9 zK cL s9 eN S0
def cT:=e0.1
def w_:=e0.2.1
def A_:=e0.2.2.1
def E_:=e0.2.2.2.1
def s_:=e0.2.2.2.2.1
def l_:=e0.2.2.2.2.2.1
def Q_:=e0.2.2.2.2.2.2.1
theorem T0:S0 cT w_ A_ E_ s_ l_ Q_ e0.2.2.2.2.2.2.2:=by
 intro items ns hh hl hi hlen h;have hmade:=mC.made;have q8:=mC.sub;refine oz (mC.mro) λc tl hmro=>?_;have h1:=mC.notType;have h2:=mC.canCreate;have hct:=F.typeCall_set_1 (.ref l_);refine eF (kK ?_);show aS _ _ (callAny (.type "set") _) _ _ _;refine ar ⟨Code.quiet_builtin _ (by decide+kernel),kO F.entry_type_call ?_⟩;refine aj (Around.under_plain (weight_type_call_type "set" [.ref l_] []) rfl ..) ?_
 repeat (any_goals (first|assumption|wp_step))
 refine codeAny_mono (lQ (.ref l_) (E:=E_) (Q₁:=λobj s₁=>obj= .ref s_.heap.objs.size/\s₁={s_ with heap:=s_.heap.push {cls:= .type "set",dict:=av,data:= .set #[] 0 (.fresh 0 0 (!(w_.params.followText "set-order")))}}) ⟨rfl,rfl⟩) λr s₁ hr=>?_;rcases r with e|(_|_|_|obj)
 ·exact hr
 ·exact hr.elim
 ·exact hr.elim
 ·exact hr.elim
 refine dU hr λkG ma=>?_;clear hr;subst kG;subst ma;have hS:(s_.heap.push {cls:= .type "set",dict:=av,data:= .set #[] 0 (.fresh 0 0 (!(w_.params.followText "set-order")))}).get? s_.heap.objs.size=ae {cls:= .type "set",dict:=av,data:= .set #[] 0 (.fresh 0 0 (!(w_.params.followText "set-order")))}:=aW _ rfl;have hT:Shared.TypeIs {s_ with heap:=s_.heap.push {cls:= .type "set",dict:=av,data:= .set #[] 0 (.fresh 0 0 (!(w_.params.followText "set-order")))}} (.ref s_.heap.objs.size) "set":=⟨_,hS,rfl⟩;have Ud:=mC.init.lookup;have hbi:=mC.init.bind (.ref s_.heap.objs.size)
 repeat (any_goals (first|assumption|wp_step))
 have hl':(s_.heap.push {cls:= .type "set",dict:=av,data:= .set #[] 0 (.fresh 0 0 (!(w_.params.followText "set-order")))}).IsList l_ items:=hl.push _;refine aK (id hl) λol M5 z=>qP (a:=s_.heap.objs.size) (l:=l_) (items:=items) (ns:=ns) (led:= !(w_.params.followText "set-order")) (by simp [hh]) (jJ (bN M5)) ⟨λk=> .int k 0,0,hS,λk=>⟨0,rfl⟩,by decide⟩ hl' hi hlen λh' tk h3 h4=>ar (ar ?_);exact h h' tk _ rfl h3 λb o e=>h4 b o (c8 (bN e)) (az _ e)
end lR
theorem lR{l:ay}{Q:ai->aq->Prop}:lR.S0 prog w A E s l Q 0:=by with_unfolding_all exact Bz _ _ _ _ _ _ _ _ lR.S0 @lR.T0 prog w A E s l Q 0
variable {S ep i:Nat}{it a:ay}{v:Nat->ai}
theorem yR{α:Type}:∀{l:List α} {i:Nat} {x:α},l[i]? =ae x->(x::l.eraseIdx i).Perm l
 |a::l,0,x,h=>by simp at h;subst h;exact ic _
 |a::l,i+1,x,h=>by
  rw [ui] at h;exact aj (List.eraseIdx_cons_succ ..) ((jh _ _ _).trans ((yR h).cons a))
theorem Bb{α:Type}(next:Nat->Nat):∀(fuel k:Nat) (l:List α) (out:Array α),l.length<=fuel->(pickOrder.go next fuel k l out).toList.Perm (out.toList++l)
 |0,k,l,out,h=>by
  have:l=[]:=pC (by lia);subst this;exact GZ (cy _).symm
 |fuel+1,k,l,out,h=>by
  show (match l[next k % l.length]? with|some x=>pickOrder.go next fuel (k+1) (l.eraseIdx (next k % l.length)) (out.push x)|none=>out).toList.Perm _;cases hx:l[next k % l.length]? with
  |none=>
   cases l with
   |nil=>exact GZ (cy _).symm
   |cons a l=>exact absurd (su.mp hx) (Nat.not_le.mpr (ee _ (Nat.succ_pos _)))
  |some x=>
   have hi:next k % l.length < l.length:=(aB.mp hx).1
   have hl:(l.eraseIdx (next k % l.length)).length<=fuel:=by refine aj (List.length_eraseIdx_of_lt hi ..) ?_;lia
   refine (Bb next fuel (k+1) _ _ hl).trans ?_;refine aj (CD ..) ?_;refine aj (bU ..) ?_;exact List.Perm.append_left _ (yR hx)
noncomputable def tX(w:d8)(a:ay)(ep:Nat)(es:Array (Int×ai)):Array (Int×ai):=if w.params.followText "set-order" then pickOrder (w.params.setOrder a ep) es else es
theorem sa(w:d8)(a:ay)(ep:Nat)(es:Array (Int×ai)):(tX w a ep es).toList.Perm es.toList:=by
 unfold tX
 split
 ·have:=Bb (w.params.setOrder a ep) es.size 0 es.toList #[] (by exact bp _);exact this
 ·exact ic _
theorem i8:Slot "set_iterator" "__next__" "set_iterator.__next__":=
 .of (owner:="set_iterator") (n:="__next__") (by (refine aj (fg ..) ?_;refine aj (dB ..) ?_);kernel_rfl) (by decide+kernel) (by decide+kernel) (by decide+kernel) (by first|exact .inl (by decide+kernel)|exact .inr (by decide+kernel)) (by refine aj (iR ..) ?_;kernel_rfl)
theorem sb:uo TI "set_iterator.__next__"=ae Builtin.«set_iterator.__next__»:=Nr (by kernel_rfl)
theorem yS:uo TI "set.__iter__"=ae Builtin.«frozenset.__iter__»:=uQ (j:="frozenset.__iter__") (by kernel_rfl) rfl (by kernel_rfl) (by kernel_rfl)
theorem tq(a:ai):rh "set_iterator.__next__" ⟨[a],[]⟩:=by unfold rh;kernel_rfl
noncomputable def se(w:d8)(S i:Nat):Nat:=if w.params.followText "set-order" then 0 else if i=0 then 0 else (eZ S).getD (i - 1) 0+1
noncomputable abbrev yT(w:d8)(S:Nat)(v:Nat->ai)(ep:Nat):o6:={cls:= .type "set",dict:=av,data:= .set (k8 S v) ep (Ew S (!(w.params.followText "set-order")))}
structure TY(w:d8)(it a:ay)(S:Nat)(v:Nat->ai)(ep i:Nat)(h:dH):Prop where
 it:∃o,h.get? it=ae o/\o.cls= .type "set_iterator"/\o.data= .fields #[.int (se w S i) 0,.int i 0,.ref a,.int (eZ S).length 0,.int ep 0]
 at':h.get? a=ae (yT w S v ep)
theorem k9(b:Bool):(Ew S b).fits (k8 S v).size=aI:=by refine aj (jG ..) ?_;exact u5 S S b
theorem nU{Q:Bool->aq->Prop}(h:Q (w.params.followText "set-order") s):aS (aX prog w) A setsByText Q E s:=by unfold setsByText;exact ag (gC (ar h))
def lS.S0(prog:dG)(w:d8)(A:bh)(E:ai->aq->Prop)(a:ay)(S ep i:Nat)(v:Nat->ai)(_:Nat):Prop:=∀{s:aq} {Q:Option (ai×Nat)->aq->Prop} (ug:S < 64) (hs:s.heap.get? a=ae (yT w S v ep)) (hi:i < (eZ S).length) (h:∀x,(∃hh,(tX w a ep (k8 S v))[i]? =ae (hh,x))->Q (ae (x,se w S (i+1))) s),aS (aX prog w) A (setNext a (se w S i) i ep) Q E s
namespace lS
@[irreducible] def e0:=zJ sX E9 Fu s9 cL eN eN eN inferInstance eN S0
def cT:=e0.1
def w_:=e0.2.1
def A_:=e0.2.2.1
def E_:=e0.2.2.2.1
def a_:=e0.2.2.2.2.1
def S_:=e0.2.2.2.2.2.1
def Ey:=e0.2.2.2.2.2.2.1
def i_:=e0.2.2.2.2.2.2.2.1
def v_:=e0.2.2.2.2.2.2.2.2.1
theorem T0:S0 cT w_ A_ E_ a_ S_ Ey i_ v_ e0.2.2.2.2.2.2.2.2.2:=by
 intro s Q ug hs hi h;have hz:(tX w_ a_ Ey (k8 S_ v_)).size=(eZ S_).length:=by have:=(sa w_ a_ Ey (k8 S_ v_)).length_eq;simp at this;(refine aj (this ..) ?_;refine aj (jG ..) ?_;rfl)
 obtain ⟨⟨hh,x⟩,hx⟩:∃e,(tX w_ a_ Ey (k8 S_ v_))[i_]? =ae e:=⟨_,dY (by lia)⟩;have:=h x ⟨hh,hx⟩;unfold setNext;refine ag (ly hs rfl (k9 _) ?_);dsimp only;refine ag (nU ?_);cases hb:w_.params.followText "set-order" with
 |true=>refine aj (if_pos rfl ..) ?_;refine aj (if_neg (by simp) ..) (ag ?_);unfold setWalk;refine ag (ly hs rfl (k9 _) ?_);dsimp only;refine ag (nU ?_);refine aj (hb ..) ?_;refine aj (if_pos rfl ..) ?_;refine ag (gC (ar ?_));refine ar ?_;unfold tX at hx;rw [hb,if_pos rfl] at hx;unfold se at this ⊢;rw [hb,if_pos rfl] at this ⊢;show Q ((pickOrder (w_.params.setOrder a_ Ey) (k8 S_ v_))[i_]?.map λe=>(e.2,0)) s;refine aj (hx ..) ?_;exact this
 |false=>
  simp only [dj,if_false];unfold tX at hx;rw [hb,if_neg (by decide)] at hx;simp only [se,hb,dj,if_false] at this ⊢;refine f5 (λhd=>EY (show aH=aI from hd)) λz=>ag (ar (ar ?_));have hp:(Ew S_ (!aH)).place=(eZ S_).toArray:=rfl;refine aj (hp ..) ?_;refine aj (Ex S_ ug i_ (by exact cI (by assumption)) ..) ?_;refine aj (hx ..) ?_;refine aj (show (eZ S_).toArray[i_]? =ae ((eZ S_)[i_]) by simp [hi]) ?_;have e:(eZ S_).getD (i_+1 - 1) 0=(eZ S_)[i_]:=by (refine aj (Nat.add_sub_cancel ..) ?_;refine aj (bR ..) ?_;refine aj (bJ hi ..) ?_);rfl
  rw [if_neg (by lia),e] at this;exact this
end lS
theorem lS:lS.S0 prog w A E a S ep i v 0:=by with_unfolding_all exact uE _ _ _ _ _ _ _ _ _ _ lS.S0 @lS.T0 prog w A E a S ep i v 0
theorem TY.typeIs(x:TY w it a S v ep i s.heap):s.TypeIs (.ref it) "set_iterator":=let ⟨o,h1,h2,_⟩:=x.it;⟨o,h1,h2⟩
def jA.S0(prog:dG)(w:d8)(A:bh)(E:ai->aq->Prop)(s:aq)(it a:ay)(S ep i:Nat)(Q:Option ai->aq->Prop)(_:Nat):Prop:=∀{v:Nat->ai} (ug:S < 64) (iP:it≠a) (x:TY w it a S v ep i s.heap) (hi:i < (eZ S).length) (hQ:∀u h',(∃hh,(tX w a ep (k8 S v))[i]? =ae (hh,u))->TY w it a S v ep (i+1) h'->ji it s.heap h'->Q (ae u) {s with heap:=h'}),aS (aX prog w) A (l0 (.ref it)) Q E s
namespace jA
@[irreducible] def e0:=HX sX E9 Fu s9 zK cL cL eN eN eN s9 eN S0
def cT:=e0.1
def w_:=e0.2.1
def A_:=e0.2.2.1
def E_:=e0.2.2.2.1
def s_:=e0.2.2.2.2.1
def sA:=e0.2.2.2.2.2.1
def a_:=e0.2.2.2.2.2.2.1
def S_:=e0.2.2.2.2.2.2.2.1
def Ey:=e0.2.2.2.2.2.2.2.2.1
def i_:=e0.2.2.2.2.2.2.2.2.2.1
def Q_:=e0.2.2.2.2.2.2.2.2.2.2.1
theorem T0:S0 cT w_ A_ E_ s_ sA a_ S_ Ey i_ Q_ e0.2.2.2.2.2.2.2.2.2.2.2:=by
 intro v ug iP x hi hQ;refine ef (x.it) λo ho hc hd=>?_;unfold l0;refine ag (kT (dX (name:=fQ "__next__") x.typeIs i8 (dp i8 x.typeIs sb ?_ (tq _))));unfold Builtin.«set_iterator.__next__»;refine ag (ar ?_);refine ag (wpAny_fieldsOf ho hd ?_);dsimp only;refine ag (E7 x.at' rfl (k9 _) ?_);refine aj (if_neg (by rw [jG];simp) ..) ?_;refine ag (lS ug x.at' hi λu hu=>?_);show aS _ _ (setField (.ref sA) 0 (pD (se w_ S_ (i_+1))) >>=λz=>setField (.ref sA) 1 (pD ((i_:Int)+1)) >>=λz=>vm u) _ _ _;refine ag (eH ho hd (by decide) ?_);have ho1:=bS (Fk (·.setIfInBounds 0 (pD (se w_ S_ (i_+1))))) ho (iW (dP hd _));have hd1:=dP hd (·.setIfInBounds 0 (pD (se w_ S_ (i_+1))));refine ag (eH ho1 hd1 (by decide) ?_);refine ar ⟨_,rfl,ar (hQ u _ hu ⟨⟨_,bS _ ho1 (iW (dP hd1 _)),?_,?_⟩,?_⟩ ((bY ..).trans (bY ..)))⟩
 ·(refine aj (pK ..) ?_;refine aj (pK ..) ?_);exact hc
 ·refine aj (dP hd1 ..) ?_;simp [pD]
 ·refine aj (((bY ..).trans (bY ..)).2 a_ (gf iP)) ?_;exact x.at'
end jA
theorem jA{Q:Option ai->aq->Prop}:jA.S0 prog w A E s it a S ep i Q 0:=by with_unfolding_all exact C0 _ _ _ _ _ _ _ _ _ _ _ _ jA.S0 @jA.T0 prog w A E s it a S ep i Q 0
def hV.S0(prog:dG)(w:d8)(A:bh)(a:ay)(S ep:Nat)(v:Nat->ai)(_:Nat):Prop:=∀{E:ai->aq->Prop} {s:aq} {Q:Option (ai×Nat)->aq->Prop} (ug:S < 64) (hs:s.heap.get? a=ae (yT w S v ep)) (h:Q av s),aS (aX prog w) A (setNext a (se w S (eZ S).length) (eZ S).length ep) Q E s
namespace hV
@[irreducible] def e0:=Nz sX E9 Fu cL eN eN inferInstance eN S0
def cT:=e0.1
def w_:=e0.2.1
def A_:=e0.2.2.1
def a_:=e0.2.2.2.1
def S_:=e0.2.2.2.2.1
def Ey:=e0.2.2.2.2.2.1
def v_:=e0.2.2.2.2.2.2.1
theorem T0:S0 cT w_ A_ a_ S_ Ey v_ e0.2.2.2.2.2.2.2:=by
 intro E s Q ug hs h;have hz:(tX w_ a_ Ey (k8 S_ v_)).size=(eZ S_).length:=by have:=(sa w_ a_ Ey (k8 S_ v_)).length_eq;simp at this;(refine aj (this ..) ?_;refine aj (jG ..) ?_;rfl)
 have hx:(tX w_ a_ Ey (k8 S_ v_))[(eZ S_).length]? =av:=by simp [hz]
 unfold setNext;refine ag (ly hs rfl (k9 _) ?_);dsimp only;refine ag (nU ?_);cases hb:w_.params.followText "set-order" with
 |true=>refine aj (if_pos rfl ..) ?_;refine aj (if_neg (by simp) ..) (ag ?_);unfold setWalk;refine ag (ly hs rfl (k9 _) ?_);dsimp only;refine ag (nU ?_);refine aj (hb ..) ?_;refine aj (if_pos rfl ..) ?_;refine ag (gC (ar ?_));refine ar ?_;unfold tX at hx;rw [hb,if_pos rfl] at hx;show Q ((pickOrder (w_.params.setOrder a_ Ey) (k8 S_ v_))[(eZ S_).length]?.map λe=>(e.2,_)) s;refine aj (hx ..) ?_;exact h
 |false=>simp only [dj,if_false,se,hb];refine f5 (λhd=>EY (show aH=aI from hd)) λz=>ag (ar (ar ?_));have hp:(Ew S_ (!aH)).place=(eZ S_).toArray:=rfl;refine aj (hp ..) ?_;refine aj (Ex S_ ug (eZ S_).length (by exact jf _) ..) ?_;refine aj (show (k8 S_ v_)[(eZ S_).length]? =av by simp [jG]) ?_;exact h
end hV
theorem hV:hV.S0 prog w A a S ep v 0:=by with_unfolding_all exact Bz _ _ _ _ _ _ _ _ hV.S0 @hV.T0 prog w A a S ep v 0
def km.S0(prog:dG)(w:d8)(A:bh)(E:ai->aq->Prop)(s:aq)(it a:ay)(S ep:Nat)(Q:Option ai->aq->Prop):Prop:=∀{v:Nat->ai} (hh:A.handled=av) (ug:S < 64) (x:TY w it a S v ep (eZ S).length s.heap) (hQ:∀h',rx it s.heap h'->Q av {s with heap:=h'}),aS (aX prog w) A (l0 (.ref it)) Q E s
namespace km
@[irreducible] def e0:=zJ sX E9 Fu s9 zK cL cL eN eN s9 S0
def cT:=e0.1
def w_:=e0.2.1
def A_:=e0.2.2.1
def E_:=e0.2.2.2.1
def s_:=e0.2.2.2.2.1
def sA:=e0.2.2.2.2.2.1
def a_:=e0.2.2.2.2.2.2.1
def S_:=e0.2.2.2.2.2.2.2.1
def Ey:=e0.2.2.2.2.2.2.2.2.1
def Q_:=e0.2.2.2.2.2.2.2.2.2
theorem T0:S0 cT w_ A_ E_ s_ sA a_ S_ Ey Q_:=by intro v hh ug x hQ;refine ef (x.it) λo ho hc hd=>?_;unfold l0;refine ag (kT (dX (name:=fQ "__next__") x.typeIs i8 (dp i8 x.typeIs sb ?_ (tq _))));unfold Builtin.«set_iterator.__next__»;refine ag (ar ?_);refine ag (wpAny_fieldsOf ho hd ?_);dsimp only;refine ag (E7 x.at' rfl (k9 _) ?_);refine aj (if_neg (by rw [jG];simp) ..) ?_;refine ag (hV ug x.at' ?_);show aS _ _ (setField (.ref sA) 2 .none >>=_) _ _ _;refine ag (eH ho hd (by decide) ?_);show aS _ _ (TJ (.type "StopIteration") [] >>=_) _ _ _;refine nI hh ?_;refine ag (xw (T:="StopIteration") (b:=aI) ⟨_,aW _ rfl,rfl⟩ TO ?_);exact ar (hQ _ (((bY ..).extBut.push _).push _))
end km
theorem km{Q:Option ai->aq->Prop}:km.S0 prog w A E s it a S ep Q:=by with_unfolding_all exact uE _ _ _ _ _ _ _ _ _ _ km.S0 @km.T0 prog w A E s it a S ep Q
def tY.S0(prog:dG)(w:d8)(A:bh)(s:aq)(a:ay)(S ep:Nat)(v:Nat->ai)(Q:ai->aq->Prop)(_:Nat):Prop:=∀{E:ai->aq->Prop} (hs:s.heap.get? a=ae (yT w S v ep)) (hQ:Q (.ref s.heap.objs.size) {s with heap:=s.heap.push {cls:= .type "set_iterator",data:= .fields #[.int 0 0,.int 0 0,.ref a,.int (eZ S).length 0,.int ep 0]}}),aS (aX prog w) A (ra (.ref a)) Q E s
namespace tY
@[irreducible] def e0:=zJ sX E9 Fu zK cL eN eN inferInstance s9 eN S0
def cT:=e0.1
def w_:=e0.2.1
def A_:=e0.2.2.1
def s_:=e0.2.2.2.1
def a_:=e0.2.2.2.2.1
def S_:=e0.2.2.2.2.2.1
def Ey:=e0.2.2.2.2.2.2.1
def v_:=e0.2.2.2.2.2.2.2.1
def Q_:=e0.2.2.2.2.2.2.2.2.1
theorem T0:S0 cT w_ A_ s_ a_ S_ Ey v_ Q_ e0.2.2.2.2.2.2.2.2.2:=by
 intro E hs hQ;have hT:s_.TypeIs (.ref a_) "set":=⟨_,hs,rfl⟩;refine vy hT F.slot_set_iter (dp F.slot_set_iter hT yS ?_ (F.args_set_iter_1 _));unfold Builtin.«frozenset.__iter__»;refine ag (ar ?_);unfold Builtin.Frozenset.sizeOf;refine ag (ag (E7 hs rfl (k9 _) (ar ?_)));refine ag ?_;unfold setDrawn;refine ag (ly hs rfl (k9 _) ?_);dsimp only;refine ag (nU (ar ?_));refine f5 (λhd=>?_) λz=>?_
 ·have hd':(!(w_.params.followText "set-order") && aH)=aI:=hd;rw [kN] at hd';exact vK hd'
 refine ag (ar ?_);refine ag (wpAny_setEpoch_of hs rfl (k9 _) ?_);refine ag (jg (ar ⟨_,rfl,"set_iterator",_,⟨_,aW _ rfl,rfl⟩,i8.lookup,?_⟩));exact aj (jG ..) (hQ)
end tY
theorem tY{Q:ai->aq->Prop}:tY.S0 prog w A s a S ep v Q 0:=by with_unfolding_all exact uE _ _ _ _ _ _ _ _ _ _ tY.S0 @tY.T0 prog w A s a S ep v Q 0
def tZ.S0(r:ay)(_:Nat):Prop:=∀{prog:dG} {w:d8} {A:bh} {E:ai->aq->Prop} {s:aq} {Q:Bool->aq->Prop} (hT:s.TypeIs (.ref r) "set") (h:Q aH s),aS (aX prog w) A (Q4 (.ref r)) Q E s
namespace tZ
@[irreducible] def e0:=Qg cL eN S0
def r_:=e0.1
theorem T0:S0 r_ e0.2:=by
 intro prog w A E s Q hT h;unfold Q4;refine ag (h8 hT F.slot_set_len.lookup ?_);generalize hid:("set.__len__":String)=id0
 wp_delta
 refine aj (show Q0 id0=ae ("set","__len__") from by subst hid;decide+kernel) ?_;subst hid;refine ag (xw (T:="set") (b:=aI) hT (by refine aj (iR ..) ?_;kernel_rfl) ?_);refine f5 (λxa=>absurd xa (by decide)) (λz=>?_);refine f5 (λz=>?_) (λxa=>absurd (by decide+kernel) xa);refine ag (wpAny_typeOf hT ?_);exact ar h
end tZ
theorem tZ{r:ay}:tZ.S0 r 0:=by with_unfolding_all exact Fo _ _ tZ.S0 @tZ.T0 r 0
theorem tr:Slot "set_iterator" "__iter__" "set_iterator.__iter__":=
 .of (owner:="set_iterator") (n:="__iter__") (by (refine aj (fg ..) ?_;refine aj (dB ..) ?_);kernel_rfl) (by decide+kernel) (by decide+kernel) (by decide+kernel) (by first|exact .inl (by decide+kernel)|exact .inr (by decide+kernel)) (by refine aj (iR ..) ?_;kernel_rfl)
theorem yU:uo TI "set_iterator.__iter__"=ae Builtin.«dict_keyiterator.__iter__»:=uQ (j:="dict_keyiterator.__iter__") (by kernel_rfl) rfl (by kernel_rfl) (by kernel_rfl)
theorem zZ(a:ai):rh "set_iterator.__iter__" ⟨[a],[]⟩:=by unfold rh;kernel_rfl
theorem Pc(ug:S < 64):KdlSrc prog w "set" a a (eZ S).length (λi u=>∃hh,(tX w a ep (k8 S v))[i]? =ae (hh,u)) (λh=>h.get? a=ae (yT w S v ep)) where
 type:=λs h=>⟨_,h,rfl⟩
 there:=λh e=>⟨bN e,bN e⟩
 keep:=λh h' e hk=>hk a (.inl rfl) _ e
 notList:=by decide
 notTuple:=by decide
 hint:=λA E s Q e hq=>tZ ⟨_,e,rfl⟩ hq
 iter:=λA s hh e=>by
  have hlt:=bN e;refine ⟨_,λi h=>TY w s.heap.objs.size a S v ep i h,λE Q hq=>tY e hq,⟨λb hb=>by simp at hb;simp [hb],λi h h' st hk=>⟨?_,hk a (by exact ab _ aa) _ st.at'⟩,λi s Q E hi st hQ=>jA ug (jJ hlt) st hi λu h' hu st' hs=>hQ u h' s.toks hu st' λb o hb e=>hs.extBut b o (λq=>hb (by simp [q])) e,λs Q E st hQ=>km hh ug st λh' he=>hQ h' s.toks λb o hb e=>he b o (λq=>hb (by simp [q])) e,λi s Q E st hQ=>?_⟩,?_⟩
  ·exact ef (st.it) λo h1 h2 h3=>⟨o,hk _ (by exact aa) _ h1,h2,h3⟩
  ·have hT:=st.typeIs;refine vy hT tr (dp tr hT yU ?_ (zZ _));show aS _ _ (vm _) _ _ s;exact ar ⟨_,rfl,"set_iterator",_,hT,i8.lookup,hQ⟩
  ·refine ⟨⟨_,aW _ rfl,rfl,?_⟩,az _ e⟩;simp [se]
theorem um.of_vals:∀{vs:List ai} {ns:List Int},vs.length=ns.length->(∀(j:Nat) (u:ai) (n:Int),vs[j]? =ae u->ns[j]? =ae n->∃t,u= .int n t)->um vs ns
 |[],[],_,_=> .nil
 |u::vs,n::ns,hl,h=>by
  refine cJ (h 0 u n rfl rfl) λt dO=>?_;subst dO;exact .cons n t (um.of_vals (by simpa using hl) λj u n hu hn=>h (j+1) u n hu hn)
 |[],_::_,hl,_=>by simp at hl
 |_::_,[],hl,_=>by simp at hl
theorem Gp{Q:ai->aq->Prop}(hh:A.handled=av)(ug:S < 64)(hv:∀k:Nat,∃t,v k= .int k t)(hs:s.heap.get? a=ae (yT w S v ep))
 (h:∀(D:ay) (h':dH) (tk:Nat) (out:Array ai) (n:Nat),(∀b o,s.heap.get? b=ae o->h'.get? b=ae o)->s.heap.get? D=av->h'.get? D=ae (oK out n)->um out.toList ((eZ S).map fB)->Q (.ref D) {s with heap:=h',toks:=tk}):
 aS (aX prog w) A (ku (.builtin "sorted") [.ref a]) Q E s:=by
 have hz:(tX w a ep (k8 S v)).size=(eZ S).length:=by have:=(sa w a ep (k8 S v)).length_eq;simp at this;(refine aj (this ..) ?_;refine aj (jG ..) ?_;rfl)
 have Ad:(eZ S).length<=6:=by have:=bu S.testBit (aN 6);exact this
 refine gv kind_sorted plain_sorted entry_sorted (args_sorted1 _) ?_;unfold Builtin.«sorted»;refine ag (m:=checkCount "sorted" 1 1 _) (ar ?_);refine ag (kdu_collect (A:=A.in1) (Pc ug) hh hs (by show _<=2 ^ 24;exact aw (by assumption) (by decide)) λh' tk acc hk EO=>?_);have hl:acc.toList.length=(eZ S).length:=by refine aj (eK ..) ?_;exact EO.1
 refine ag (wpAny_newList ?_ (by refine aj (hl ..) ?_;show _<=2 ^ 24;exact aw (by assumption) (by decide)));have hoL:(h'.push {cls:= .type "list",data:= .seq acc.toList.toArray}).get? h'.objs.size=ae (seqObj "list" acc.toList.toArray 0):=aW _ rfl;have hI:um acc.toList ((tX w a ep (k8 S v)).toList.map (·.1)):=by refine um.of_vals (by (refine aj (hl ..) ?_;refine aj (ak ..) ?_;refine aj (eK ..) ?_);exact hz.symm) λj u n hu hn=>?_;refine cJ (EO.2 j u (by refine fZ (bV ..) ?_;exact hu)) λhh' hj=>?_;rw [aJ,bV,hj] at hn;have hm:(hh',u)∈(k8 S v).toList:=(sa w a ep (k8 S v)).mem_iff.mp (by refine gj (pH ..) ?_;exact Array.mem_of_getElem? hj);simp only [k8,aG] at hm;refine aK hm λk z e=>?_;clear hm;refine cJ (hv k) λt ht=>?_;have e1:hh'=(k:Int):=(sN e).1.symm;have e2:u= .int k t:=(sN e).2.symm.trans ht;have e3:n=hh':=(aO hn).symm;exact ⟨t,by (refine aj (e2 ..) ?_;refine aj (e3 ..) ?_;refine aj (e1 ..) ?_;rfl)⟩
 have hp:((tX w a ep (k8 S v)).toList.map (·.1)).Perm ((eZ S).map fB):=by have:=(sa w a ep (k8 S v)).map (·.1);refine this.trans (GZ ?_);simp only [k8,a0];rfl
 have hR:(eZ S).map fB=((eZ S).map fB):=rfl;have hsrt:((eZ S).map fB).Pairwise (·<=·):=by
  have:∀S,S < 64->(eZ S).Pairwise (·<=·):=by decide+kernel
  exact List.pairwise_map.mpr ((this S ug).imp λ{a b} h=>Int.ofNat_le.mpr h)
 show aS _ _ _ _ _ {s with heap:=h'.push (seqObj "list" acc.toList.toArray 0),toks:=tk};refine ag (bE (dp slot_list_sort ⟨_,hoL,rfl⟩ entry_list_sort (list_sort_tree hoL hI (by lia) λout ns' a1 a2 a3=>⟨_,rfl,?_⟩) (args_list_sort _)));have wy:ns'=(eZ S).map fB:=List.Perm.eq_of_pairwise (λa b z z h1 h2=>Int.le_antisymm h1 h2) a3 hsrt (a2.trans hp);subst wy;exact cJ (sortedHeap_at (out:=out) hoL) λe he=>ar ⟨_,rfl,h _ _ _ out e (λb o eb=>by
  have hbl:=bN (hk b o eb);refine aj (sortedHeap_old (c8 hbl) (by rw [fN];exact cI hbl) ..) ?_;exact az _ (hk b o eb)) (by
   cases hq:s.heap.get? h'.objs.size with
   |none=>rfl
   |some o=>exact absurd (bN (hk _ _ hq)) (zH _)) he a1⟩
noncomputable def Mx(S:Nat):Vw:=⟨λZ v=>∃a u ep,v= .ref a/\Z a=ae (yT G.w S u ep)/\(∀k:Nat,∃t,u k= .int k t)/\S < 64,λZ Z' v h ⟨a,u,ep,e,z,r⟩=>⟨a,u,ep,e,h _ _ z,r⟩⟩
theorem Pd{ns:List Nat}(h6:∀n∈ns,n < 6):Fn k mu (.type "set") [me mu (ns.map nV)] (Mx (nT ns)):=⟨λ{A E Z s fr vs Q} hA r hq q=>by
 refine aK (hq.one) λv eT p=>?_;subst eT;refine cE (me.at p r) λa ws n gi h1 h2=>?_;subst gi;have hl:ns.length=ws.size:=by (refine fZ (b9 h2 ..) ?_;refine aj (ak ..) ?_;rfl)
 refine lR (ns:=ns) hA.hh ⟨_,h1,rfl,n,rfl⟩ (λj u hu=>?_) hl λh' tk led hled hS hk=>?_
 ·refine aK (h2.get' (bV.trans hu)) λx hx hr=>?_;rw [aJ] at hx;refine aK (aL.mp hx) λm hm iC=>?_;subst iC;refine cJ (gF hr) λt kG=>?_;subst kG;exact ⟨m,t,hm,h6 m (ao hm),rfl⟩
 ·obtain ⟨u,ep,ho,hu,ug⟩:=hS;subst hled;have hz:=r.fresh (bp _);exact q (bI.le_put hz) ⟨_,u,ep,rfl,bI.put_self ..,hu,ug⟩ (R.freeze (r.keep (tk:=tk) hk) ho hz (r.notOwn (bp _)))⟩
theorem yV{Z:bI}:∀{vs:List ai} {ns:List Nat},um vs (ns.map fB)->bW G Z vs (ns.map nV)
 |[],[],_=> .nil
 |v::vs,n::ns,h=>by cases h with|cons _ t hr=>exact .cons (.int _ _) (yV hr)
 |[],_::_,h=>by cases h
 |_::_,[],h=>by cases h
theorem Gq{S:Nat}:Fn k mu (.builtin "sorted") [Mx S] (bZ (.list ((eZ S).map nV))):=⟨λ{A E Z s fr vs Q} hA r hq q=>by
 obtain ⟨v,rfl,a,u,ep,rfl,hz,hu,ug⟩:=hq.one;refine Gp hA.hh ug hu (r.zin _ _ hz) λD h' tk out n hk hD hl hI=>?_;have hzD:Z D=av:=by
  cases e:Z D with
  |none=>rfl
  |some o=>have:=r.zin _ _ e;rw [hD] at this;exact gK this
 exact q (bI.le_put hzD) (aZ.list (bI.put_self ..) (yV hI)) (R.freeze (r.keep (tk:=tk) hk) hl hzD λhb=>by obtain ⟨o,ho⟩:=r.liveAll hb;rw [hD] at ho;exact gK ho)⟩
theorem Gs(ns:List Nat)(b:Nat):(nT ns).testBit b=decide (b∈ns):=by
 have:∀(ns:List Nat) (S:Nat),(ns.foldl (λS k=>S ||| 2 ^ k) S).testBit b=(S.testBit b || decide (b∈ns)):=by
  intro ns;induction ns with
  |nil=>intro S;simp
  |cons n ns ih=>
   intro S;refine aj (fF ..) ?_;refine aj (ih ..) ?_;refine aj (Nat.testBit_or ..) ?_;refine aj (lC ..) ?_;refine gj (cj ..) ?_;simp only [jV,decide_eq_true_eq,aP];constructor
   ·rintro ((h|h)|h)
    ·exact .inl h
    ·exact .inr (.inl h.symm)
    ·exact .inr (.inr h)
   ·rintro (h|h|h)
    ·exact .inl (.inl h)
    ·exact .inl (.inr h.symm)
    ·exact .inr h
 unfold nT;refine aj (this ..) ?_;simp
section
variable {A:ay}
noncomputable def rT(ds:List Nat)(p:Nat):List V:=[nV (2*cc ds (sP ds p)),nV (2*cc ds (eP ds p)),nV (2*cc ds (tP ds p)),nV (lP ds p / 2),.bool (decide (lP ds p % 2=1))]
theorem So(p:Nat):D2 (QB ds p)= .ent (rT ds p):=by
 have h:cc ds (sP ds p)<=cc ds (eP ds p):=nQ (by unfold eP;lia);have e1:((cc ds (sP ds p):Nat):Int)*2=((2*cc ds (sP ds p):Nat):Int):=by lia
 have e2:((2*cc ds (sP ds p):Nat):Int)+((cc ds (eP ds p) - cc ds (sP ds p):Nat):Int)*2=((2*cc ds (eP ds p):Nat):Int):=by lia
 have e3:((cc ds (tP ds p):Nat):Int)*2=((2*cc ds (tP ds p):Nat):Int):=by lia
 have e4:((lP ds p:Nat):Int) / 2=((lP ds p / 2:Nat):Int):=by lia
 simp only [D2,QB,rT,e1,e2,e3,e4];rfl
theorem Pe:Mi ds= .list ([10,14].map λp=>V.ent (rT ds p)):=by unfold Mi;simp only [bA,vf,So]
theorem Pf(p:Nat):∃dd,ph (rT ds p)=ae dd/\zI dd=0:=⟨[.int _,.int _,.int _,.int _,.bool _],rfl,rfl⟩
noncomputable abbrev S16(ds:List Nat)(ns:List Int)(n6:Nat)(A Du Oc Sg lx Bk:ay):List (Nat×V):=(27,.list ([10,14].map λp=>V.tup (rT ds p)))::(26,.list ([10,14].map λp=>V.ent (rT ds p)))::QA ds ns n6 A Du Oc Sg lx Bk
theorem Sp(H:Hy G)(EH:gN G K)(TH:r9 G K){pm doc:ai}(he:du (bT pm doc L)){P:ib}{N:Int}{cs:List Nat}{B:Rw}(hS:Sv vs (S15 ds ns n6 A Du Oc Sg P.lx Bk))
 (next:∀vs,Sv vs (S16 ds ns n6 A Du Oc Sg P.lx Bk)->yk (k+8) (cw L vs::mu) (bT pm doc L) (je 17) Θ):
 yk (k+8) (cw L vs::mu) (bT pm doc L) (je 16) Θ:=by
 have hf:∀{vs},bq L (aM (L+1) (bk (cN 23)).names) vs∈cw L vs::mu:=aa;refine cJ (TH.g0) λg0 PY=>cJ (TH.g1) λg1 hg1=>cJ (TH.g2) λg2 hg2=>cJ (TH.g3) λg3 hg3=>cJ (TH.g4) λg4 hg4=>?_;have SZ:Sv vs ((26,.list ([10,14].map λp=>V.ent (rT ds p)))::QA ds ns n6 A Du Oc Sg P.lx Bk):=by refine fZ (Pe ..) ?_;exact hS
 have Js:∀p:Nat,(rT ds p).length<=1000:=λp=>by show 5<=1000;decide
 refine nJ (WF.f (bX (y:= .list ([10,14].map λp=>V.tup (rT ds p))) (jP [10,14] (λp=>V.ent (rT ds p)) (λp=>V.tup (rT ds p)) ⟨rfl,rfl,by decide+kernel,by decide+kernel⟩ (dA (ah (j:=26) he .loc hf (SZ.get rfl))) (by lia) (by decide) (λC1 a ha=>iu 1 he.comp .loc dk (λhb=>(f9 (xs:=rT ds a)
  (au (nR (k:=k+5) (i:=0) H EH TH PY (ah (j:=1) he.comp .loc aa rfl) rfl (Js a) (λn e=>by cases e))
  (au (nR (k:=k+5) (i:=1) H EH TH hg1 (ah (j:=1) he.comp .loc aa rfl) rfl (Js a) (λn e=>by cases e))
  (au (nR (k:=k+5) (i:=2) H EH TH hg2 (ah (j:=1) he.comp .loc aa rfl) rfl (Js a) (λn e=>by cases e))
  (au (nR (k:=k+5) (i:=3) H EH TH hg3 (ah (j:=1) he.comp .loc aa rfl) rfl (Js a) (λn e=>by cases e))
  (au (nR (k:=k+5) (i:=4) H EH TH hg4 (ah (j:=1) he.comp .loc aa rfl) rfl (Js a) (λn e=>by cases e)) aT))))) (by show 5<=2 ^ 20;decide))))) (aQ (i:=0) (j:=27) he (.cell (L+13) "told") rfl ?_) rfl rfl))
 exact next _ (SZ.set (j:=27))
noncomputable abbrev lb(P:ib)(N:Int)(cs:List Nat)(A:ay)(arms:List (Nat×Nat))(mu:Mu):Mu:=j6 P [] N cs++(bl A (arms.map kH)::gG 304 []::mu)
noncomputable abbrev Sq(ds:List Nat)(n6:Nat)(A lx Bk:ay):List (Nat×V):=[(26,.list ([10,14].map λp=>V.ent (rT ds p))),(41,.ref Bk),(23,.dict (L7 (aF ds))),(21,.ref lx),(20,.str (g9 ds n6)),(11,.list ((aN 7).map λb=>nV (cc ds b))),(10,.ref A),(42,.dict (qD (aF ds))),(7,rY (aF ds)),(4,.list (ds.map nV))]
def t4.S0(k:Nat)(mu:Mu)(vs:ej)(Θ:AF->Mu->Prop)(L A Bk:ay)(ds:List Nat)(pm doc:ai)(P:ib)(N:Int)(cs:List Nat)(B:Rw):Prop:=∀{Du Oc Sg:ay} {ns:List Int} {n6:Nat} {K:fl} (H:Hy G) (EH:gN G K) (QH:QC K) (GH:Ls G) (he:du (bT pm doc L)) (hk:vY (bT pm doc L)) (hS:Sv vs (S16 ds ns n6 A Du Oc Sg P.lx Bk)) (next:∀vs,Sv vs (Sq ds n6 A P.lx Bk)->yk (k+8) (cw L vs::cD Bk (fT (aF ds) B)::lb P N cs A (dm ds) mu) (bT pm doc L) (je 18) Θ),yk (k+8) (cw L vs::cD Bk (fT (aF ds) B)::pq P N cs A (dm ds) ds Du mu) (bT pm doc L) (je 17) Θ
namespace t4
@[irreducible] def e0:=N1 eN gD gD s9 cL cL cL gD gL gL IU Q8 gD RN S0
def k_:=e0.1
def fb:=e0.2.1
def kR:=e0.2.2.1
def Θ_:=e0.2.2.2.1
def L_:=e0.2.2.2.2.1
def A_:=e0.2.2.2.2.2.1
def wj:=e0.2.2.2.2.2.2.1
def aV:=e0.2.2.2.2.2.2.2.1
def pj:=e0.2.2.2.2.2.2.2.2.1
def g8:=e0.2.2.2.2.2.2.2.2.2.1
def P_:=e0.2.2.2.2.2.2.2.2.2.2.1
def N_:=e0.2.2.2.2.2.2.2.2.2.2.2.1
def qO:=e0.2.2.2.2.2.2.2.2.2.2.2.2.1
def B_:=e0.2.2.2.2.2.2.2.2.2.2.2.2.2
theorem T0:S0 k_ fb kR Θ_ L_ A_ wj aV pj g8 P_ N_ qO B_:=by
 intro Du Oc Sg ns n6 K H EH QH GH he hk hS next
 refine Wf.to [0,9] (Wf.frzL (j:=12) (hS.get rfl) ?_);have hS1:Sv (kR.set 12 (ae (.list ([10,14].map (u0 aV))))) ((12,.list ([10,14].map λp=>V.tup (rT aV p)))::S16 aV ns n6 A_ Du Oc Sg P_.lx wj):=hS.set (j:=12);generalize kR.set 12 (ae (.list ([10,14].map (u0 aV))))=kR at hS1;show yk (k_+8) (cw L_ kR::cD wj (fT (aF aV) B_)::lb P_ N_ qO A_ (dm aV) fb) (bT pj g8 L_) (je 17) Θ_;refine cE (GH.f275.go) λob2 z z g0 gd0 z=>cq (H.f179.go) λob3 z z z t0 td z=>?_;have hf:∀{l:Mu},bq L_ (aM (L_+1) (bk (cN 23)).names) kR∈cw L_ kR::l:=aa;have Js:∀p:Nat,∃a b c d,rT aV p=[a,b,c,d,.bool (decide (lP aV p % 2=1))]:=λp=>⟨_,_,_,_,rfl⟩
 refine nJ (Sh (Si ?_));refine Cn (c9 (ah (j:=26) he .loc hf (hS1.get rfl)) (ah (j:=12) he .loc hf (hS1.get rfl)) (I7 (rows:=[10,14].map (rT aV)) EH QH ?_)) ?_
 ·intro row Na;refine aK (aG.mp Na) λp z dO=>?_;subst dO;exact Pf p
 refine Cn (c9 (ah (j:=27) he (.cell (L_+13) "told") hf (hS1.get rfl)) (ah (j:=12) he .loc hf (hS1.get rfl)) (Ba (d:= .list ([10,14].map λp=> .tuple [.int (2*cc aV (sP aV p):Nat),.int (2*cc aV (eP aV p):Nat),.int (2*cc aV (tP aV p):Nat),.int (lP aV p / 2:Nat),.bool (decide (lP aV p % 2=1))])) rfl (by decide))) (Cn (oV (c9 (nF [10,14] (λp=>V.tup (rT aV p)) (λz=>aH) (λz=>V.int 1) ⟨rfl,rfl,by decide+kernel,by decide+kernel⟩ (dA (ah (j:=27) he (.cell (L_+13) "told") hf (hS1.get rfl))) (by lia) (by decide) (λC2 a ha=>iu 1 he.comp .loc (fS (Fy (b:=aI) (kU (ek (j4 H he.comp H.b_isinstance rfl) (au (bF (ah (j:=1) he.comp .loc aa rfl) aU (tK (e:= .bool (decide (lP aV a % 2=1))))) (au (iN H he.comp H.b_bool rfl) aT)) BX) qv))) (λhb=>aU))) (ij (xs:=[]) aT (bg rfl)) (BO (nk _ _))) rfl) ?_);refine O7 (Mr (AP hk (mn H he H.m_table rfl) t0 td (cA (ml (mn H he H.m_given rfl) g0 gd0 (cA (cf cO (e9 (FW.mono (m9 (k:=k_+6) (i:=8) (text:="") (o:=ae (P_.a,P_.b)) H GH rfl (λc hc=>eo hc) (by decide)) λy nu hy=>?_))))))));obtain ⟨f,dx,lam,it,L1,gd,ld,a,b,e1,xa,hRd,e2⟩:=hy;cases xa _ rfl;subst e1 e2;refine e9 ⟨[_,_,_,_],_,ic _,⟨_,_,aa⟩,JR.mono (Hv (k:=k_+4) (qs:=[]) H EH (.tail _ (.head _)) (by show (["read","co_exceptiontable"]:List bb).Nodup;decide) (.tail _ (.head _)) (DZ.stop rfl (by decide)) (by decide)) λy nu e=>?_⟩;refine dU e λe1 e2=>?_;clear e;subst e1 e2;refine ⟨_,ic _,bZ (.list []),aH,ij (xs:=[]) aT (bg rfl),BO (xs:=[]) rfl,?_⟩;exact OA (Wf.drop1 (Wf.drop1 (Wf.drop1 (Wf.drop1 (next _ (hS1.sub ⟨rfl,rfl,rfl,rfl,rfl,rfl,rfl,rfl,rfl,rfl,trivial⟩))))))
end t4
theorem t4{pm doc:ai}{P:ib}{N:Int}{cs:List Nat}{B:Rw}:t4.S0 k mu vs Θ L A Bk ds pm doc P N cs B:=by with_unfolding_all exact J1 _ _ _ _ _ _ _ _ _ _ _ _ _ _ t4.S0 @t4.T0 k mu vs Θ L A Bk ds pm doc P N cs B
end
def yW(h:dH)(t:ay)(items:Array ai):Prop:=∃o n,h.get? t=ae o/\o.data= .seq items n
theorem yW.at{h h':dH}{t:ay}{items:Array ai}(x:yW h t items)(hk:∀o,h.get? t=ae o->h'.get? t=ae o):yW h' t items:=let ⟨o,n,e,d⟩:=x;⟨o,n,hk o e,d⟩
theorem My:CN "tuple.__iter__"=ae .slot:=by kernel_rfl
theorem Ja:Q0 "tuple.__iter__"=ae ("tuple","__iter__"):=by kernel_rfl
section
variable {t:ay}{items:Array ai}{x:ai}
theorem xh{Q:Option ai->aq->Prop}(hit:s.heap.IsTupleIter it t i)(ht:yW s.heap t items)(hx:items[i]? =ae x)
 (hQ:∀h',h'.IsTupleIter it t (i+1)->ji it s.heap h'->Q (ae x) {s with heap:=h'}):aS (aX prog w) A (l0 (.ref it)) Q E s:=by
 refine ef (id hit) λo ho hc hd=>eD ht λol nl M5 Ff=>?_;clear ht;delta l0;refine ag (kT (dX (name:=fQ "__next__") hit.typeIs fA (dp fA hit.typeIs Bx ?_ (Ap _))));show aS _ _ (vG (.ref it) 0 >>=_) _ _ s;refine ag (dS ho hd (x:= .ref t) rfl ?_);show aS _ _ (if (cY t == eG)=aI then _ else _) _ _ s;refine aj (if_neg (show ¬((cY t == eG)=aI) from cF)) ?_;show aS _ _ (vG (.ref it) 1 >>=_) _ _ s;refine ag (dS ho hd (x:= .int i 0) rfl ?_);show aS _ _ (seqItems? (.ref t) >>=_) _ _ s;refine ag (CO M5 Ff ?_);simp only [b8,hx];refine ag (eH ho hd (by exact bp _) (ar ⟨x,rfl,ar (hQ _ ?_ (bY ..))⟩));exact ⟨_,bS _ ho (iW (dP hd _)),(pK ..).trans hc,by refine aj (dP hd ..) ?_;simp [pD]⟩
def gy.S0(prog:dG)(w:d8)(A:bh)(E:ai->aq->Prop)(s:aq)(it t:ay)(i:Nat)(Q:Option ai->aq->Prop)(_:Nat):Prop:=∀{items:Array ai} (hh:A.handled=av) (hit:s.heap.IsTupleIter it t i) (ht:yW s.heap t items) (hx:items[i]? =av) (hQ:∀h',rx it s.heap h'->Q av {s with heap:=h'}),aS (aX prog w) A (l0 (.ref it)) Q E s
namespace gy
@[irreducible] def e0:=zJ sX E9 Fu s9 zK cL cL eN s9 eN S0
def cT:=e0.1
def w_:=e0.2.1
def A_:=e0.2.2.1
def E_:=e0.2.2.2.1
def s_:=e0.2.2.2.2.1
def sA:=e0.2.2.2.2.2.1
def t_:=e0.2.2.2.2.2.2.1
def i_:=e0.2.2.2.2.2.2.2.1
def Q_:=e0.2.2.2.2.2.2.2.2.1
theorem T0:S0 cT w_ A_ E_ s_ sA t_ i_ Q_ e0.2.2.2.2.2.2.2.2.2:=by intro items hh hit ht hx hQ;refine ef (id hit) λo ho hc hd=>eD ht λol nl M5 Ff=>?_;clear ht;delta l0;refine ag (kT (dX (name:=fQ "__next__") hit.typeIs fA (dp fA hit.typeIs Bx ?_ (Ap _))));show aS _ _ (vG (.ref sA) 0 >>=_) _ _ s_;refine ag (dS ho hd (x:= .ref t_) rfl ?_);show aS _ _ (if (cY t_ == eG)=aI then _ else _) _ _ s_;refine aj (if_neg (show ¬((cY t_ == eG)=aI) from cF)) ?_;show aS _ _ (vG (.ref sA) 1 >>=_) _ _ s_;refine ag (dS ho hd (x:= .int i_ 0) rfl ?_);show aS _ _ (seqItems? (.ref t_) >>=_) _ _ s_;refine ag (CO M5 Ff ?_);simp only [b8,hx];refine ag (oj (ag (eH ho hd (by decide) ?_)));show aS _ _ (TJ (.type "StopIteration") [] >>=_) _ _ _;refine nI hh ?_;refine ag (xw (T:="StopIteration") (b:=aI) ⟨_,aW _ rfl,rfl⟩ TO ?_);exact ar (hQ _ (((bY ..).extBut.push _).push _))
end gy
theorem gy{Q:Option ai->aq->Prop}:gy.S0 prog w A E s it t i Q 0:=by with_unfolding_all exact uE _ _ _ _ _ _ _ _ _ _ gy.S0 @gy.T0 prog w A E s it t i Q 0
theorem Ez(iP:t≠it):∀(n i:Nat) (s:aq) (Q:List ai->aq->Prop),s.heap.IsTupleIter it t i->yW s.heap t items->i+n<=items.size->
 (∀h',h'.IsTupleIter it t (i+n)->ji it s.heap h'->Q ((items.toList.drop i).take n) {s with heap:=h'})->aS (aX prog w) A (draw (.ref it) n) Q E s
 |0,i,s,Q,hit,_,_,hQ=>by
  show aS _ _ (dg []) Q E s;exact ar (by exact hQ s.heap hit (JP ..))
 |n+1,i,s,Q,hit,ht,hle,hQ=>by
  have hlt:i < items.size:=by lia
  show aS _ _ (l0 (.ref it) >>=_) Q E s;refine ag (xh hit ht (x:=items[i]) (by simp [hlt]) λh₁ GL M8=>?_);refine ag (bE (Ez iP n (i+1) _ _ GL (ht.at λo e=>M8.extBut t o iP e) (by lia) λh₂ Te hs₂=>ar ?_));have hd:items.toList.drop i=items[i]::items.toList.drop (i+1):=by simp [dZ,hlt]
  have:=hQ h₂ (by refine aj (show i+(n+1)=i+1+n by lia) ?_;exact Te) (M8.trans hs₂);rw [hd,jb] at this;exact this
def nW.S0(prog:dG)(w:d8)(A:bh)(E:ai->aq->Prop)(t:ay)(Q:ai->aq->Prop):Prop:=∀{s:aq} {K:fl} {o:o6} (X:K.In s.heap) (QH:QC K) (hI:fH K (.ref 162) "__iter__"=ae (ae (.builtin "tuple.__iter__"))) (ho:s.heap.get? t=ae o) (hc:o.cls= .ref 162) (hQ:Q (.ref s.heap.objs.size) {s with heap:=s.heap.push {cls:= .type "tuple_iterator",data:= .fields #[.ref t,.int 0 0]}}),aS (aX prog w) A (ra (.ref t)) Q E s
namespace nW
@[irreducible] def e0:=Fp sX E9 Fu s9 cL s9 S0
def cT:=e0.1
def w_:=e0.2.1
def A_:=e0.2.2.1
def E_:=e0.2.2.2.1
def t_:=e0.2.2.2.2.1
def Q_:=e0.2.2.2.2.2
theorem T0:S0 cT w_ A_ E_ t_ Q_:=by
 intro s K o X QH hI ho hc hQ;obtain ⟨hp,g,d,tk,os⟩:=s;have L1:iL (aX cT w_) hp (jU (.ref t_)) (.ref 162):=sJ ho hc;have L2:=mT (M:=aX cT w_) X hI;have L5:iL (aX cT w_) hp (uh (.ref t_) (.type "tuple")) aI:=L1.andThen (looks_subIn X QH.up);have fin:∀E':ai->aq->Prop,aS (aX cT w_) A_ (ku (.builtin "tuple.__iter__") [.ref t_]) (λv s'=>v= .ref hp.objs.size/\s'=⟨hp.push {cls:= .type "tuple_iterator",data:= .fields #[.ref t_,.int 0 0]},g,d,tk,os⟩) E' ⟨hp,g,d,tk,os⟩:=λE'=>by
  refine eF (jj uA.plain PySem.F.entry_tuple_iter (@ry (aX cT w_) _ _ ⟨hp,g,d,tk,os⟩ "tuple.__iter__" "tuple" "__iter__" (.ref t_) [] [] _ My Ja L5 (PySem.F.args_tuple_iter_1 _) ?_));show aS _ _ (do vm (<- newFields "tuple_iterator" [.ref t_,pD 0])) _ _ _;exact ag (jg (ar ⟨rfl,rfl⟩))
 have tail:aS (aX cT w_) A_ (do
  match <- mA (.ref hp.objs.size) "__next__" with
  |none=>rule "iter.non-iterator";raiseError "TypeError" s!"iter() returned non-iterator of type '{<- PySem.typeNameOf (.ref hp.objs.size)}'"
  |some _=>dg (.ref hp.objs.size)) Q_ E_ ⟨hp.push {cls:= .type "tuple_iterator",data:= .fields #[.ref t_,.int 0 0]},g,d,tk,os⟩:=
  ag (h8 (T:="tuple_iterator") ⟨_,aW _ rfl,rfl⟩ fA.lookup (ar hQ))
 delta ra mA;refine ag (ag (L1.at (L2.at ?_)));dsimp only;refine ag ?_;unfold callSpecialIfBoundUnlessNone? bindSpecialIfBound? mA;refine bE (ag (ag (ag (L1.at (L2.at ?_)))));refine ag (gC (wpAny_ite ?_))
 split
 ·refine ag (cM (uA.bind _) (ar ?_));dsimp only;refine aj (if_neg (by decide) ..) (ag (eR (fin _) (λv s' ⟨e1,e2⟩=>?_) λy y z=>z));subst e1 e2;exact ar tail
 ·refine wpAny_tryCatch (ag (cM (uA.bind _) (ar ?_)));dsimp only;refine aj (if_neg (by decide) ..) (ag (eR (fin _) (λv s' ⟨e1,e2⟩=>?_) λy y z=>z));subst e1 e2;exact ar tail
end nW
theorem nW{Q:ai->aq->Prop}:nW.S0 prog w A E t Q:=by with_unfolding_all exact uD _ _ _ _ _ _ nW.S0 @nW.T0 prog w A E t Q
def kp.S0(prog:dG)(w:d8)(A:bh)(s:aq)(t:ay)(items:Array ai):Prop:=∀{E:ai->aq->Prop} {K:fl} {Q:List ai->aq->Prop} {o:o6} {n:Nat} (hh:A.handled=av) (X:K.In s.heap) (QH:QC K) (hI:fH K (.ref 162) "__iter__"=ae (ae (.builtin "tuple.__iter__"))) (ho:s.heap.get? t=ae o) (hc:o.cls= .ref 162) (hd:o.data= .seq items n) (hQ:∀h',rx s.heap.objs.size s.heap h'->Q items.toList {s with heap:=h'}),aS (aX prog w) A (NY (.ref t) items.size av) Q E s
namespace kp
@[irreducible] def e0:=Fp sX E9 Fu zK cL inferInstance S0
def cT:=e0.1
def w_:=e0.2.1
def A_:=e0.2.2.1
def s_:=e0.2.2.2.1
def t_:=e0.2.2.2.2.1
def k6:=e0.2.2.2.2.2
theorem T0:S0 cT w_ A_ s_ t_ k6:=by
 intro E K Q o n hh X QH hI ho hc hd hQ;have hlt:t_≠s_.heap.objs.size:=c8 (bN ho);have ht:yW s_.heap t_ k6:=⟨o,n,ho,hd⟩;have L1:iL (aX cT w_) s_.heap (jU (.ref t_)) (.ref 162):=sJ ho hc;have L2:=mT (M:=aX cT w_) X hI;delta NY;refine ag ?_;delta notIterableAtAll mA;refine ag (ag (L1.here (L2.here ?_)));refine ar ?_;simp only [dj,if_false];refine ag (bE (nW X QH hI ho hc ?_));have P3:=ht.at (h':=s_.heap.push {cls:= .type "tuple_iterator",data:= .fields #[.ref t_,.int 0 0]}) λo e=>az _ e;refine ag (bE (Ez hlt k6.size 0 _ _ ⟨_,aW _ rfl,rfl,rfl⟩ P3 (by lia) λh₁ GL M8=>?_));have zq:List.take k6.size (List.drop 0 k6.toList)=k6.toList:=by refine aj (fy ..) ?_;exact d6 (by exact bp _)
 refine aj (zq ..) ?_;refine aj (if_neg (by simp) ..) ?_;refine ag (bE (gy hh GL (P3.at λo e=>M8.extBut t_ o hlt e) (by simp) λh₂ he₂=>?_));simp only [Aj,dj,if_false];exact ar (hQ h₂ λb o hb e=>he₂ b o hb (M8.extBut b o hb (az _ e)))
end kp
theorem kp:kp.S0 prog w A s t items:=by with_unfolding_all exact uD _ _ _ _ _ _ kp.S0 @kp.T0 prog w A s t items
end
section
variable {Ψ:Mu->Prop}{m:bH}{P Q S:Vw}{c:Bool}{o1 o2:CmpOp}
theorem Gu(EH:gN G K)(QH:QC K)(hI:fH K (.ref 162) "__iter__"=ae (ae (.builtin "tuple.__iter__"))){ts:List bH}{kk:Nat}(h:HZ k mu env ts xs Ψ):mK k mu env (.Tuple ts kk p) (.ent xs) Ψ:=⟨λ{A E Z s fr v Q} hA r hv q=>by
 refine dK (wk EH r hv) λa o vs n dO h1 h2 h3 h4=>?_;subst dO;have hn:(jB ts env).length=vs.toList.length:=(nB ts).trans (h.len.trans h4.length.symm);refine aj (arm_assign_Tuple ..) ?_;refine ag (iH ?_);delta unpack;refine aj (hn ..) ?_;refine aj (o9 h.plain ..) ?_;refine ag (bE ?_);refine aj (eK ..) ?_;exact kp hA.hh (EH.KO.inn _ r.z0in) QH hI h1 h2 h3 λh' hx=>h.c hA (r.keep (tk:=s.toks) λb o e=>hx b o (c8 (bN e)) e) h4 q⟩
end
end
section
variable {k n6:Nat}{mu nu:Mu}{env:gP}{p pos:jC}{vs:ej}{Θ:AF->Mu->Prop}{L A Bk:ay}{ds:List Nat}{ns:List Int}{K:fl}{e:bH}{P Q S:Vw}{b c:Bool}
section
variable {l m r:bH}{o1 o2:CmpOp}
theorem Mz(hl:EV k mu env l P)(hm:EV k mu env m Q)(hr:EV k mu env r S)(h1:ta k mu o1 P Q b)(h2:ta k mu o2 Q S c)(hk:lastMarks [o1,o2] [m,r]=aH:=by with_unfolding_all rfl):PT k mu env (.Compare l [o1,o2] [m,r] p) (b && c):=⟨λ{z z z z z z} hA R q=>by
 with_reducible refine isTrue_chain ?_ hk
 refine hl.c hA R λ{v s1 Z1} z1 p1 r1=>test_link (hm.c hA r1 λ{u s2 Z2} z2 p2 r2=>h1.c hA r2 (P.mono _ _ _ z2 p1) p2 λ{w s3 Z3} z3 p3 r3=>?_);refine aj (aZ.boolE p3 ..) ?_;refine eV ?_;cases b with
 |false=>exact q (z1.trans (z2.trans z3)) r3
 |true=>refine aj (if_pos rfl ..) ?_;exact test_last (hr.c hA r3 λ{w s4 Z4} z4 p4 r4=>h2.c hA r4 (Q.mono _ _ _ (z3.trans z4) p2) p4 λ{z z z} z5 p5 r5=>(aZ.boolE p5)▸eV (q (z1.trans (z2.trans (z3.trans (z4.trans z5)))) r5))⟩
structure ItH(K:fl):Prop where
 iter:fH K (.ref 162) "__iter__"=ae (ae (.builtin "tuple.__iter__"))
noncomputable def mW(ds:List Nat)(p j:Nat):List (Nat×Nat):=((aN j).filter λb=>decide (sP ds p<=b) && decide (b < eP ds p)).map λb=>(b,tP ds p)
noncomputable def qQ(ds:List Nat)(p:Nat):List (Nat×Nat):=mW ds p 6
noncomputable def gz(ds:List Nat)(i:Nat):List (Nat×Nat):=dm ds++([10,14].take i).flatMap (qQ ds)
noncomputable abbrev cW(ds:List Nat):List (Nat×Nat):=gz ds 2
theorem yX{a b:Nat}(h:a < b):cc ds a < cc ds b:=by
 have:=nQ (ds:=ds) (show a<=b by exact eB (by assumption));have h2:∀(l:List Nat) (a b:Nat),a<=b->(l.take a).sum<=(l.take b).sum:=by
  intro l;induction l with
  |nil=>intro a b z;simp
  |cons x l ih=>
   intro a b h;cases a with
   |zero=>simp
   |succ a=>
    cases b with
    |zero=>with_reducible exact absurd (by assumption) (TR _)
    |succ b=>simp only [jb,da];have:=ih a b (by exact Qd (by assumption));lia
 unfold cc at*;have:=h2 (ds.drop 18) a b (by exact eB (by assumption));lia
theorem Co{a b:Nat}:cc ds a<=cc ds b↔a<=b:=by
 constructor
 ·intro h;rcases gX b a with q|q
  ·have:=yX (ds:=ds) q;lia
  ·exact q
 ·exact nQ
theorem Cp{a b:Nat}:cc ds a < cc ds b↔a < b:=by
 constructor
 ·intro h;rcases gX a b with q|q
  ·exact q
  ·have:=nQ (ds:=ds) q;lia
 ·exact yX
theorem qR(p j:Nat):mW ds p (j+1)=mW ds p j++(if (decide (sP ds p<=j) && decide (j < eP ds p))=aI then [(j,tP ds p)] else []):=by
 unfold mW;refine aj (qg ..) ?_;refine aj (fX ..) ?_;refine aj (bj ..) ?_;congr 1;refine aj (hZ ..) ?_;refine aj (qf ..) ?_
 split <;> rfl
theorem wm(p j:Nat):(mW ds p j).length<=j:=by unfold mW;exact aj (ak ..) (aw (bu _ _) (by simp))
theorem lT(i:Nat):(gz ds i).length<=20:=by
 unfold gz;refine aj (ba ..) ?_;refine aj (LZ ..) ?_;have h10:=wm (ds:=ds) 10 6;have h14:=wm (ds:=ds) 14 6;have:(([10,14].take i).flatMap (qQ ds)).length<=12:=by
  rcases i with _|_|i
  ·simp
  ·show (List.flatMap (qQ ds) [10]).length<=12;simp only [dF,List.flatMap_nil,cy];unfold qQ;exact aw (by assumption) (by decide)
  ·refine aj (show ([10,14]:List Nat).take (i+1+1)=[10,14] by simp) ?_;simp only [dF,List.flatMap_nil,cy,ba];unfold qQ;lia
 lia
theorem w0{i p:Nat}(h:[10,14][i]? =ae p):gz ds (i+1)=gz ds i++qQ ds p:=by unfold gz;refine aj (dE ..) ?_;refine aj (h ..) ?_;simp
def t5.S0(k:Nat)(mu:Mu)(Θ:AF->Mu->Prop)(L A Bk:ay)(ds:List Nat)(n6:Nat)(pm doc:ai)(P:ib)(N:Int)(cs:List Nat)(_:Nat):Prop:=∀{vs:ej} {ns:List Int} {K:fl} (H:Hy G) (EH:gN G K) (QH:QC K) (IH:ItH K) (he:du (bT pm doc L)) (hD:Dr ds ns n6) (hS:Sv vs (Sq ds n6 A P.lx Bk)) (hB:Fd (fG B0 0 (dm ds)) 8) (next:∀vs,Sv vs (Sq ds n6 A P.lx Bk)->Fd (fG B0 0 (cW ds)) 20->yk (k+8) (cw L vs::cD Bk (fT (aF ds) (fG B0 0 (cW ds)))::lb P N cs A (cW ds) mu) (bT pm doc L) (je 19) Θ),yk (k+8) (cw L vs::cD Bk (fT (aF ds) (fG B0 0 (dm ds)))::lb P N cs A (dm ds) mu) (bT pm doc L) (je 18) Θ
namespace t5
@[irreducible] def e0:=N1 eN gD s9 cL cL cL gD eN gL gL IU Q8 gD eN S0
def k_:=e0.1
def fb:=e0.2.1
def Θ_:=e0.2.2.1
def L_:=e0.2.2.2.1
def A_:=e0.2.2.2.2.1
def wj:=e0.2.2.2.2.2.1
def aV:=e0.2.2.2.2.2.2.1
def gO:=e0.2.2.2.2.2.2.2.1
def pj:=e0.2.2.2.2.2.2.2.2.1
def g8:=e0.2.2.2.2.2.2.2.2.2.1
def P_:=e0.2.2.2.2.2.2.2.2.2.2.1
def N_:=e0.2.2.2.2.2.2.2.2.2.2.2.1
def qO:=e0.2.2.2.2.2.2.2.2.2.2.2.2.1
theorem T0:S0 k_ fb Θ_ L_ A_ wj aV gO pj g8 P_ N_ qO e0.2.2.2.2.2.2.2.2.2.2.2.2.2:=by
 intro vs ns K H EH QH IH he hD hS hB next
 have d7:=eI aV;refine nJ (WF.f (jO (ctx:=[]) (xs:=[10,14].map λp=>V.ent (rT aV p)) (λi nu=>∃vs n,nu=cw L_ vs::cD wj (fT (aF aV) (fG B0 0 (gz aV i)))::lb P_ N_ qO A_ (gz aV i) fb/\Sv vs (Sq aV gO A_ P_.lx wj)/\Fd (fG B0 0 (gz aV i)) n/\n<=8+6*i)
  (dA (ah (j:=26) he .loc aa (hS.get rfl))) (by lia) ⟨vs,8,by rfl,hS,by exact hB,by exact bp _⟩ (λi nu h o ho=>(eo ho)) ?_ ?_))
 ·intro i x nu hx dO;refine ir dO λvs n eT hS hB hn=>?_;clear dO;subst eT;rw [aJ] at hx;refine aK (aL.mp hx) λp hp gi=>?_;subst gi;have Ul:i < 2:=by have:=(aB.mp hp).1;exact this
  refine Gu EH QH IH.iter (cv rfl rfl ?_);refine aQ (i:=0) (j:=14) he .loc rfl (cv rfl rfl ?_);refine aQ (i:=0) (j:=17) he .loc rfl (cv rfl rfl ?_);refine aQ (i:=0) (j:=29) he .loc rfl (cv rfl rfl ?_);refine aQ (i:=0) (j:=30) he .loc rfl (cv rfl rfl ?_);refine aQ (i:=0) (j:=31) he .loc rfl (iX ?_);have hS1:=((((hS.set (j:=14) (y:=nV (2*cc aV (sP aV p)))).set (j:=17) (y:=nV (2*cc aV (eP aV p)))).set (j:=29) (y:=nV (2*cc aV (tP aV p)))).set (j:=30) (y:=nV (lP aV p / 2))).set (j:=31) (y:= .bool (decide (lP aV p % 2=1)));have hf:∀{vs} {l:Mu},bq L_ (aM (L_+1) (bk (cN 23)).names) vs∈cw L_ vs::l:=aa;have P3:=HD (ds:=aV) p;have hsp:=HC (ds:=aV) p;have hep:=LX (ds:=aV) p;have b6:∀b,b<=6->cc aV b<=366:=λb hb=>Ec hD b hb;generalize ((((vs.set 14 (ae (nV (2*cc aV (sP aV p))))).set 17 (ae (nV (2*cc aV (eP aV p))))).set 29 (ae (nV (2*cc aV (tP aV p))))).set 30 (ae (nV (lP aV p / 2)))).set 31 (ae (.bool (decide (lP aV p % 2=1))))=NL at hS1 ⊢;show WS (k_+8) (cw L_ NL::cD wj (fT (aF aV) (fG B0 0 (gz aV i)))::lb P_ N_ qO A_ (gz aV i) fb) _ _ _;refine aC (bX (y:=nV (tP aV p)) (f7 (dD (ah (j:=11) he .loc hf (hS1.get rfl))) G7 (au (bM (y:=nV (cc aV (tP aV p))) (br (ah (j:=29) he .loc hf (hS1.get rfl)) aU (l9 (by decide))) (congrArg V.int (by lia))) aT) ?idx uB PySem.F.slot_list_index PySem.F.type_list_index rfl) (aQ (i:=0) (j:=15) he .loc rfl ?_) rfl rfl)
  case idx=>
   have:=Ds (k:=k_+8) (mu:=cw L_ NL::cD wj (fT (aF aV) (fG B0 0 (gz aV i)))::lb P_ N_ qO A_ (gz aV i) fb) (x:=(cc aV (tP aV p):Nat)) (ns:=(aN 7).map λb=>((cc aV b:Nat):Int)) (j:=tP aV p) (by (refine aj (aJ ..) ?_;refine aj (bz (by lia) ..) ?_);rfl) (λm hm h=>by
    rw [aJ,bz (by lia)] at h;have h1:=Nn (aO h);have:=yX (ds:=aV) hm;lia) (by decide)
   rw [a0] at this;exact this
  have hS2:=hS1.set (j:=15) (y:=nV (tP aV p));generalize NL.set 15 (ae (nV (tP aV p)))=vs2 at hS2;have hns2:=hS2.sub (S':=(15,nV (tP aV p))::(17,nV (2*cc aV (eP aV p)))::(14,nV (2*cc aV (sP aV p)))::Sq aV gO A_ P_.lx wj) ⟨rfl,rfl,rfl,rfl,rfl,rfl,rfl,rfl,rfl,rfl,rfl,rfl,rfl,trivial⟩;show WS (k_+8) (cw L_ vs2::cD wj (fT (aF aV) (fG B0 0 (gz aV i)))::lb P_ N_ qO A_ (gz aV i) fb) _ _ _;refine cq (H.f256.go) λob2 z z z Uq GM z=>?_;have Nb:=lT (ds:=aV) i;refine aC (jO (ctx:=[]) (xs:=(aN 6).map nV) (λj nu=>∃vs n,nu=cw L_ vs::cD wj (fT (aF aV) (fG B0 0 (gz aV i++mW aV p j)))::lb P_ N_ qO A_ (gz aV i++mW aV p j) fb/\Sv vs ((15,nV (tP aV p))::(17,nV (2*cc aV (eP aV p)))::(14,nV (2*cc aV (sP aV p)))::Sq aV gO A_ P_.lx wj)/\Fd (fG B0 0 (gz aV i++mW aV p j)) n/\n<=8+6*i+j)
   (fK (n:=6) (iN H he H.b_range rfl) aU rfl (by decide)) (by lia) ⟨vs2,n,by simp [mW],hns2,by simpa [mW] using hB,by lia⟩ (λi nu h o ho=>(eo ho)) ?_ ?_)
  ·intro j x nu hx iC;refine ir iC λvs n kG hS hB hn=>?_;clear iC;subst kG;rw [aJ] at hx;refine aK (aL.mp hx) λj' hj' ma=>?_;subst ma;have HS:j < 6:=by have:=(aB.mp hj').1;exact this
   have:j'=j:=by rw [bz HS] at hj';exact (aO hj').symm
   subst this;refine aQ (i:=0) (j:=9) he (.cell (L_+8) "block") rfl ?_;have hS3:=hS.set (j:=9) (y:=nV j');generalize vs.set 9 (ae (nV j'))=Ur at hS3 ⊢;show WS (k_+8) (cw L_ Ur::cD wj (fT (aF aV) (fG B0 0 (gz aV i++mW aV p j')))::lb P_ N_ qO A_ (gz aV i++mW aV p j') fb) _ _ _;have hlen:(gz aV i++mW aV p j').length<=100:=by refine aj (ba ..) ?_;have:=wm (ds:=aV) p j';lia
   have hT:(decide ((2*cc aV (sP aV p):Nat)<=(2*(cc aV j':Int))) && decide (2*(cc aV j':Int) < (2*cc aV (eP aV p):Nat)))=(decide (sP aV p<=j') && decide (j' < eP aV p)):=by have h1:=Co (ds:=aV) (a:=sP aV p) (b:=j');have h2:=Cp (ds:=aV) (a:=j') (b:=eP aV p);refine gj (cj ..) ?_;simp only [dQ,decide_eq_true_eq];lia
   have hb7:((aN 7).map λb=>nV (cc aV b))[j']? =ae (nV (cc aV j')):=by (refine aj (aJ ..) ?_;refine aj (bz (by exact cI (by assumption)) ..) ?_);rfl
   refine aC (iY (oV (Mz (ah (j:=14) he .loc hf (hS3.get rfl)) (br aU (bF (dD (ah (j:=11) he .loc hf (hS3.get rfl))) (ah (j:=9) he (.cell (L_+8) "block") hf (hS3.get rfl)) (ew (inj:=λb=>nV (cc aV b)) (bz (show j' < 7 by exact cI (by assumption))) (by decide))) (mY (by decide))) (ah (j:=17) he .loc hf (hS3.get rfl)) cm_le Da) hT) (λh=>?_) λh=>?_)
   ·have hq:∀b:Nat,b < 6->(aN 6)[b]? =ae b:=λb hb=>bz hb;have hq5:tP aV p∈[1,2,3,4,5]:=by
     rcases (by lia:tP aV p=1\/tP aV p=2\/tP aV p=3\/tP aV p=4\/tP aV p=5) with h|h|h|h|h <;> refine aj (h ..) ?_ <;> decide
    generalize hLa:gz aV i++mW aV p j'=La at hlen hB ⊢;have hA:bl A_ (La.map kH)∈cw L_ Ur::cD wj (fT (aF aV) (fG B0 0 La))::lb P_ N_ qO A_ La fb:=ao (i:=9) rfl;have GE:=A8 (k:=k_+5) (mu:=cw L_ Ur::cD wj (fT (aF aV) (fG B0 0 La))::lb P_ N_ qO A_ La fb) (pl:=La.length) (q:=(j',tP aV p)) H d7 hB (by lia) HS;refine aC (qB (i:=1) (D:=wj) (x:=cB (aF aV+tP aV p)) (y:=rq (aF aV) (kl (fG B0 0 La) La.length (j',tP aV p)) (tP aV p)) (ju (ys:=[rq (aF aV) (fG B0 0 La) (tP aV p),.tup [.int (if j'=tP aV p then 0 else 1),.int 1,.int La.length,.int ((La.length:Int)*La.length),cV [(cB (aF aV+j'),1)]]]) (mn H he H.m_stats rfl) Uq GM (au (bF (wJ (ah (j:=41) he (.cell (L_+15) "book") hf (hS3.get rfl)) (ab _ aa)) (bF (dD (ah (j:=7) he (.cell (L_+6) "names") hf (hS3.get rfl))) (ah (j:=15) he .loc hf (hS3.get rfl)) (ew (inj:=λb=>V.str (cB (aF aV+b))) (hq (tP aV p) P3.2) (by decide))) (mh (gb d7 (by decide) hq5))) (au (f9 (xs:=[.int (if j'=tP aV p then 0 else 1),.int 1,.int La.length,.int ((La.length:Int)*La.length),cV [(cB (aF aV+j'),1)]]) (au (bM (iZ (iN H he H.b_int rfl) (au (mJ (ah (j:=9) he (.cell (L_+8) "block") hf (hS3.get rfl)) (ah (j:=15) he .loc hf (hS3.get rfl)) FA) aT) rG) ?c1) (au aU (au (bM (ek (j4 H he H.b_len rfl) (au (uG (ah (j:=10) he (.cell (L_+9) "arms") hf (hS3.get rfl)) hA) aT) (mi (by refine aj (ak ..) ?_;exact aw (by assumption) (by decide)))) ?c2) (au (bM (br (ek (j4 H he H.b_len rfl) (au (uG (ah (j:=10) he (.cell (L_+9) "arms") hf (hS3.get rfl)) hA) aT) (mi (by refine aj (ak ..) ?_;exact aw (by assumption) (by decide)))) aU (BR ?c3 (by decide))) ?c4) (au (bF (pM (ah (j:=23) he .loc hf (hS3.get rfl))) (bF (dD (ah (j:=7) he (.cell (L_+6) "names") hf (hS3.get rfl))) (ah (j:=9) he (.cell (L_+8) "block") hf (hS3.get rfl)) (ew (inj:=λb=>V.str (cB (aF aV+b))) (hq j' HS) (by decide))) (mh (gb d7 (by decide) (aY.mpr HS)))) aT))))) (by show 5<=2 ^ 20;decide)) aT)) (FW.mono GE λy nu h=>h)) (ah (j:=41) he (.cell (L_+15) "book") hf (hS3.get rfl)) (bF (dD (ah (j:=7) he (.cell (L_+6) "names") hf (hS3.get rfl))) (ah (j:=15) he .loc hf (hS3.get rfl)) (ew (inj:=λb=>V.str (cB (aF aV+b))) (hq (tP aV p) P3.2) (by decide))) rfl (by show 5<=2 ^ 24;decide) ?_)
    case c1=>
     refine congrArg V.int ?_;by_cases e:j'=tP aV p
     ·refine aj (e ..) ?_;simp
     ·(refine aj (if_neg e ..) ?_;refine aj (if_pos (by simp;lia) ..) ?_;rfl)
    case c2=>(refine aj (ak ..) ?_;rfl)
    case c3=>refine aj (ak ..) ?_;lia
    case c4=>refine aj (ak ..) ?_;show V.int ((La.length:Int) ^ 2)=_;refine aj (Int.pow_succ ..) ?_;refine aj (Int.pow_succ ..) ?_;refine aj (Int.pow_zero ..) ?_;refine aj (sS ..) ?_;rfl
    rw [show (j',tP aV p).2=tP aV p from rfl] at*;have S1:=Ep (low:=aF aV) (B:=fG B0 0 La) (pl:=La.length) (q:=(j',tP aV p)) d7 hq5;show WS (k_+8) (cw L_ Ur::cD wj (jF (fT (aF aV) (fG B0 0 La)) (cB (aF aV+tP aV p)) (rq (aF aV) (kl (fG B0 0 La) La.length (j',tP aV p)) (tP aV p)))::lb P_ N_ qO A_ La fb) _ _ _;refine aj (S1 ..) (aC (ig (mZ (ah (j:=10) he (.cell (L_+9) "arms") hf (hS3.get rfl)) (j5 (xs:=La.map kH) (ao (i:=9) rfl)) (au (f9 (xs:=[nV j',nV (tP aV p)]) (au (ah (j:=9) he (.cell (L_+8) "block") hf (hS3.get rfl)) (au (ah (j:=15) he .loc hf (hS3.get rfl)) aT)) (by show 2<=2 ^ 20;decide)) aT) (kA (i:=9) rfl (by refine aj (ak ..) ?_;exact b7 (by assumption) (by decide)) ?_) uB PySem.F.slot_list_append PySem.F.type_list_append rfl)));have hgo:fG B0 0 (La++[(j',tP aV p)])=kl (fG B0 0 La) La.length (j',tP aV p):=by (refine aj (kF ..) ?_;refine aj (eC ..) ?_;rfl)
    refine bC (bC ⟨Ur,n+1,?_,hS3.sub ⟨rfl,rfl,rfl,rfl,rfl,rfl,rfl,rfl,rfl,rfl,rfl,rfl,rfl,trivial⟩,?_,by lia⟩)
    ·(refine aj (qR ..) ?_;refine aj (h ..) ?_;refine aj (if_pos rfl ..) ?_;refine fZ (bU ..) ?_;refine aj (hLa ..) ?_;refine aj (hgo ..) ?_)
     show _::_::(j6 P_ [] N_ qO++(bl A_ (La.map kH++[kH (j',tP aV p)])::gG 304 []::fb))=_;refine aj (show La.map kH++[kH (j',tP aV p)]=(La++[(j',tP aV p)]).map kH by simp) ?_;rfl
    ·(refine aj (qR ..) ?_;refine aj (h ..) ?_;refine aj (if_pos rfl ..) ?_;refine fZ (bU ..) ?_;refine aj (hLa ..) ?_;refine aj (hgo ..) ?_)
     exact hB.step HS
   ·refine bC (bC ⟨Ur,n,?_,hS3.sub ⟨rfl,rfl,rfl,rfl,rfl,rfl,rfl,rfl,rfl,rfl,rfl,rfl,rfl,trivial⟩,?_,by lia⟩)
    ·(refine aj (qR ..) ?_;refine aj (h ..) ?_);simp
    ·(refine aj (qR ..) ?_;refine aj (h ..) ?_);simpa using hB
  ·intro nu mE;refine ir mE λvs n q7 hS hB hn=>?_;clear mE;subst q7;refine bC (bC ⟨vs,n,?_,hS.sub ⟨rfl,rfl,rfl,rfl,rfl,rfl,rfl,rfl,rfl,rfl,trivial⟩,?_,?_⟩)
   ·(refine aj (w0 hp ..) ?_;refine aj (ak ..) ?_;refine aj (fq ..) ?_);rfl
   ·refine aj (w0 hp ..) ?_;rw [ak,fq] at hB;exact hB
   ·rw [ak,fq] at hn;lia
 ·intro nu ue;refine ir ue λvs n mP hS hB hn=>?_;clear ue;subst mP;exact bC (next vs hS ⟨hB.lt,hB.nd,λb=>aw (hB.len b) hn⟩)
end t5
theorem t5{pm doc:ai}{P:ib}{N:Int}{cs:List Nat}:t5.S0 k mu Θ L A Bk ds n6 pm doc P N cs 0:=by with_unfolding_all exact J1 _ _ _ _ _ _ _ _ _ _ _ _ _ _ t5.S0 @t5.T0 k mu Θ L A Bk ds n6 pm doc P N cs 0
end
variable {es:List (bb×V)}
theorem MA{is:List Int}(he:es.map (·.2)=is.map .int):Fn k mu (.builtin "sum") [Im "dict_values" es] (bZ (.int is.sum)):=⟨λ{A E Z s fr vs Q} hA r hq q=>by
 obtain ⟨v,rfl,a,d,o,rfl,hz,hc,hd,p⟩:=hq.one;refine jZ (m7 r p) λd' kvs ep e1 hs hD hO hk hr hzd PR=>?_;cases e1;have KS:=kdl_values (prog:=G.prog) (w:=G.w) (knd:=strKind G.prog G.w) (r:=a) (d:=d) (kvs:=kvs) (ep:=ep);have hok:s.heap.IsValuesView a d/\s.heap.DictAt (strKind G.prog G.w) d kvs ep:=⟨⟨o,r.zin _ _ hz,hc,hd⟩,hD⟩;have SO:kvs.length=is.length:=by (refine fZ (ak (f:=(·.1)) ..) ?_;refine aj (hk ..) ?_;refine aj (ak ..) ?_;refine fZ (ak (f:=(·.2)) ..) ?_;refine aj (he ..) ?_;refine aj (ak ..) ?_;rfl)
 refine PySem.call_sum_walkAnyS (cC (KS.iter A.in1 s hA.hh hok) λoI St hit W st=>?_);refine hit _ _ ⟨s.heap.objs.size,_,_,_,kvs.length,_,_,(λi=>is.getD i 0),rfl,W.toS,st,λb hb=>?_,λi u hu=>?_,λs' t' hm=>?_⟩
 ·show b < (s.heap.push oI).objs.size;refine aj (fN ..) ?_;rcases aP.mp hb with e|hb
  ·refine aj (e ..) ?_;exact jf _
  ·refine aj (aA.mp hb ..) ?_;exact cI (KS.there _ hok).2
 ·refine cJ hu λkey hx=>?_;clear hu;have h2:(kvs.map (·.2))[i]? =ae u:=by (refine aj (aJ ..) ?_;refine aj (hx ..) ?_);rfl
  refine aK (hr.get' h2) λx' h3 h4=>?_;rw [he,aJ] at h3;refine aK (aL.mp h3) λn hn gi=>?_;subst gi;refine cJ (gF h4) λt iC=>?_;subst iC;exact ⟨t,by show jT n t=jT (is.getD i 0) t;(refine aj (bR ..) ?_;refine aj (hn ..) ?_);rfl⟩
 ·have hk2:∀b o,s.heap.get? b=ae o->s'.heap.get? b=ae o:=λb o e=>
   hm.heap b o (λhI=>absurd (bN e) (by refine aj (aA.mp hI ..) ?_;exact zH _)) (az _ e)
  refine aj (Moved.eq_with hm ..) ?_;refine aj (SO ..) ?_;refine aj (AH is is.length (bp _) ..) ?_;refine aj (cK ..) ?_;exact q .rfl (aZ.int _ _) (r.keep (tk:=s'.toks) hk2)⟩
noncomputable def gT(arms:List (Nat×Nat))(b:Nat):List Nat:=(arms.filter λq=>q.2 == b).map (·.1)
noncomputable def sL(arms:List (Nat×Nat))(b:Nat):List Nat:=eZ (nT (gT arms b))
noncomputable abbrev dh(ds:List Nat):List (List Nat):=(aN 6).map (sL (cW ds))
noncomputable abbrev lU(ds:List Nat):Rw:=fG B0 0 (cW ds)
theorem qS:∀q∈cW ds,q.1 < 6/\1<=q.2/\q.2 < 6:=λq hq=>by
 unfold cW gz at hq;rcases bc.mp hq with h|h
 ·exact kf ds q h
 ·refine aK (bG.mp h) λp z hp=>?_;unfold qQ mW at hp;refine aK (aG.mp hp) λb hb kG=>?_;subst kG;have h1:=HD (ds:=ds) p;exact ⟨aY.mp (bo.mp hb).1,h1.1,h1.2⟩
noncomputable abbrev Gv(P:ib)(N:Int)(cs:List Nat)(mu:Mu):Mu:=j6 P [] N cs++(gG 304 []::mu)
noncomputable abbrev S19(ds:List Nat)(n6:Nat)(lx:ay):List (Nat×V):=[(32,.list ((dh ds).map wV)),(41,.dict (fT (aF ds) (lU ds))),(10,.list ((cW ds).map kH)),(21,.ref lx),(20,.str (g9 ds n6)),(42,.dict (qD (aF ds))),(7,rY (aF ds)),(4,.list (ds.map nV))]
theorem Sr(H:Hy G){pm doc:ai}(he:du (bT pm doc L)){P:ib}{N:Int}{cs:List Nat}(hS:Sv vs (Sq ds n6 A P.lx Bk))
 (next:∀vs,Sv vs (S19 ds n6 P.lx)->WS (k+8) (cw L vs::Gv P N cs mu) (bT pm doc L) (je 20) Θ):
 WS (k+8) (cw L vs::cD Bk (fT (aF ds) (lU ds))::lb P N cs A (cW ds) mu) (bT pm doc L) (je 19) Θ:=by
 refine WF.frzD (j:=41) (hS.get rfl) (WF.to [0,7] (WF.frzL (j:=10) ((hS.set (j:=41) (y:= .dict (fT (aF ds) (lU ds)))).get rfl) ?_));have hS1:=(hS.set (j:=41) (y:= .dict (fT (aF ds) (lU ds)))).set (j:=10) (y:= .list ((cW ds).map kH));generalize (vs.set 41 (ae (.dict (fT (aF ds) (lU ds))))).set 10 (ae (.list ((cW ds).map kH)))=NL at hS1 ⊢;show WS (k+8) (cw L NL::Gv P N cs mu) (bT pm doc L) (je 19) Θ;have hf:∀{vs} {l:Mu},bq L (aM (L+1) (bk (cN 23)).names) vs∈cw L vs::l:=aa;have Nb:=lT (ds:=ds) 2;refine aC (FM (aN 6) nV (λb=>wV (sL (cW ds) b)) ⟨rfl,rfl,by decide+kernel,by decide+kernel⟩ (fK (n:=6) (iN H he H.b_range rfl) aU rfl (by decide)) (by lia) (by decide) (λC3 b hb=>iu 1 he.comp (.cell (C3+1) "block") dk (λz=>(ek (j4 H he.comp H.b_sorted rfl) (au (iZ (iN H he.comp H.b_set rfl) (au (dD (bM (nF (cW ds) kH (λq=>((q.2:Int) == (b:Int))) (λq=>nV q.1) ⟨rfl,rfl,by decide+kernel,by decide+kernel⟩ (dA (ah (j:=10) he.comp (.cell (L+9) "arms") (ab _ hf) (hS1.get rfl))) (by lia) (aw Nb (by decide)) (λC4 q hq=>tI 1 2 he.comp.comp .loc .loc (fS (c9 (ah (j:=2) he.comp.comp .loc aa rfl) (ah (j:=1) he.comp.comp (.cell (C3+1) "block") (ab _ aa) rfl) qu)) (λhb=>(ah (j:=1) he.comp.comp .loc aa rfl)))) ?c1)) aT) (Pd (ns:=gT (cW ds) b) ?c2)) aT) Gq))) rfl (λD=>fL.list (aQ (i:=0) (j:=32) he .loc rfl ?_)))
 case c1=>
  delta gT;refine aj (a0 ..) (congrArg V.list ?_);have:(cW ds).filter (λq=>((q.2:Int) == (b:Int)))=(cW ds).filter λq=>q.2 == b:=fz λq z=>by
   refine gj (cj ..) ?_;simp only [beq_iff_eq];lia
  refine aj (this ..) ?_;rfl
 case c2=>intro n hn;refine aK (aG.mp hn) λq hq ma=>?_;subst ma;exact (qS q (bo.mp hq).1).1
 have e:V.list ((aN 6).map λb=>wV (sL (cW ds) b))= .list ((dh ds).map wV):=by refine aj (a0 ..) ?_;rfl
 exact next _ ((hS1.set (j:=32)).sub ⟨congrArg ae e,rfl,rfl,rfl,rfl,rfl,rfl,rfl,trivial⟩)
noncomputable def T0(b:Nat):Nat:=if b=0 then 1 else 63
noncomputable abbrev S20(ds:List Nat)(n6:Nat)(lx T:ay):List (Nat×V):=(46,.ref T)::S19 ds n6 lx
theorem Ss(H:Hy G){pm doc:ai}(he:du (bT pm doc L))(hS:Sv vs (S19 ds n6 A))
 (next:∀vs T,Sv vs (S20 ds n6 A T)->WS (k+8) (cD T (ot (aF ds) T0)::cw L vs::mu) (bT pm doc L) (je 21) Θ):
 WS (k+8) (cw L vs::mu) (bT pm doc L) (je 20) Θ:=by
 have d7:=eI ds;have hf:∀{vs} {l:Mu},bq L (aM (L+1) (bk (cN 23)).names) vs∈cw L vs::l:=aa;refine cq (H.f72.go) λob Uh cd' Jp h0 hd z=>aC (b4 (yB H.B (aN 6) (λb=>V.str (cB (aF ds+b))) (λb=>(cB (aF ds+b),V.str (iy (aF ds) (T0 b)))) ⟨rfl,rfl,by decide+kernel,by decide+kernel⟩ (dA (ah (j:=7) he (.cell (L+6) "names") hf (hS.get rfl))) (by lia) (by decide) (λC5 b hb=>BQ 1 he.comp .loc dk (λz=>(ah (j:=1) he.comp .loc aa rfl)) (λz=>(ju (ys:=[nV (T0 b*2 ^ aF ds)]) (mn H he.comp H.m_flags rfl) h0 hd (au (uH (b:=decide (b=0)) (oV (c9 (ah (j:=1) he.comp .loc aa rfl) (bF (dD (ah (j:=7) he.comp (.cell (L+6) "names") (ab _ hf) (hS.get rfl))) aU (ew (j:=0) (a:=0) (inj:=λb=>V.str (cB (aF ds+b))) rfl (by decide))) rB) ?c1) (λh=>bM (bF (pM (ah (j:=42) he.comp (.cell (L+16) "flags") (ab _ hf) (hS.get rfl))) (ah (j:=1) he.comp .loc aa rfl) (mh (gb d7 (λc hc=>aY.mp hc) hb))) ?c2) (λh=>bM (ek (j4 H he.comp H.b_sum rfl) (au (f7 (ah (j:=42) he.comp (.cell (L+16) "flags") (ab _ hf) (hS.get rfl)) rN aT AJ NZ PySem.F.slot_dict_values PySem.F.type_dict_values rfl) aT) (MA (is:=(aN 6).map λb=>((2 ^ (aF ds+b):Nat):Int)) ?c3)) ?c4)) aT) ?c5))) ?c6 (λT=>fL.ref (aQ (i:=1) (j:=46) he (.cell (L+20) "table") rfl ?_))) rfl rfl)
 case c1=>exact (rS d7 (aY.mp hb) (show 0 < 6 by decide)).trans (by cases b <;> rfl)
 case c2=>have:=of_decide_eq_true h;subst this;show nV (2 ^ (aF ds+0))=_;simp [T0]
 case c3=>delta qD bD;rw [a0,a0];rfl
 case c4=>
  have zm:=of_decide_eq_false h;have e:((aN 6).map λb=>((2 ^ (aF ds+b):Nat):Int)).sum=((63*2 ^ aF ds:Nat):Int):=by simp only [Nat.pow_add];show ((2 ^ aF ds*2 ^ 0:Nat):Int)+(((2 ^ aF ds*2 ^ 1:Nat):Int)+(((2 ^ aF ds*2 ^ 2:Nat):Int)+(((2 ^ aF ds*2 ^ 3:Nat):Int)+(((2 ^ aF ds*2 ^ 4:Nat):Int)+(((2 ^ aF ds*2 ^ 5:Nat):Int)+0)))))=_;generalize 2 ^ aF ds=X;lia
  refine aj (e ..) ?_;delta T0;refine aj (if_neg zm ..) ?_;rfl
 case c5=>
  have hT:T0 b < 64/\T0 b≠0:=by delta T0;split <;> decide
  have M0:=qh (aF ds);have h33:T0 b*2 ^ aF ds < 2 ^ 33:=by
   have h1:2 ^ aF ds<=2 ^ 27:=e8 (by decide) (by exact CI (by assumption));have h2:T0 b*2 ^ aF ds<=63*2 ^ 27:=JK (by lia) h1
   with_reducible exact b7 (by assumption) (by decide)
  have M1:∀nu:Mu,FW (k+8) nu (.ref 72) [nV (T0 b*2 ^ aF ds)] λy nu'=>y= .str (iy (aF ds) (T0 b))/\nu'=nu:=λnu=>by
   have:=oQ (k:=k+6) (mu:=nu) H (Nat.mul_ne_zero hT.2 (by exact jJ (by assumption))) h33
   rwa [rR hT.1 d7] at this
  exact M1 _
 case c6=>exact jx d7 (aN 6) (λb hb=>aY.mp hb) lp
 exact next _ T (hS.set (j:=46))
variable {xs:List V}
section
variable {o i:bH}{Φ:V->Mu->Prop}{Θ:Bool->Mu->Prop}
structure GiE(k:Nat)(mu:Mu)(P Q:Vw)(Φ:V->Mu->Prop):Prop where
 c:∀{A:bh} {E:ai->aq->Prop} {Z:bI} {s:aq} {fr:Mu} {v u:ai} {T:ai->aq->Prop},Rm k A->R Z (mu++fr) s->P.p Z v->Q.p Z u->(∀{w s' Z' y nu},Z.le Z'->aZ G Z' w y->R Z' (nu++fr) s'->Φ y nu->T w s')->
  (∃U id,iQ (.type U) "__getitem__"=dg (ae (.builtin id))/\s.TypeIs v U)/\aS (aX G.prog G.w) A (JB v u) T E s
theorem Pg(ho:EV k mu env o P)(hi:EV k mu env i Q)(g:GiE k mu P Q Φ)(hs:∀a b,∃ops,NP i aH a b=operate ops (JB a b):=by intro a b;exact ⟨_,rfl⟩):
 WE k mu env (.Subscript o i p) Φ:=⟨λ{z z z z z z} hA r q=>Ku hs (ho.c hA r λ{z z z} z1 q1 r1=>hi.c hA r1 λ{z z z} z2 q2 r2 T' t=>g.c hA r2 (P.mono _ _ _ z2 q1) q2 λ{z z z z z} z3 q3 r3 w=>t (q (z1.trans (z2.trans z3)) q3 r3 w))⟩
theorem Ph{lo hi st:Option Int}(h0:st≠ae 0)(hn:xs.length<=2 ^ 23)(hΦ:∀D,fL D (bl D (jq xs lo hi st)::mu) Φ):GiE k mu (me mu xs) (Ru lo hi st) Φ:=⟨λ{A E Z s fr v u T} hA r hp hq q=>by
 refine cE (me.at hp r) λa vs n dO h1 h2=>?_;subst dO;obtain ⟨b,vl,vu,vst,o,rfl,hz,hc,hd,p1,p2,p3⟩:=hq;have hL:s.heap.IsList a vs:=⟨_,h1,rfl,n,rfl⟩;refine ⟨⟨"list",_,E1,hL.typeIs⟩,?_⟩;refine wpAny_getItem_list_slice hL ⟨o,r.zin _ _ hz,hc,hd⟩ p1 p2 p3 h0 ?_ (b9 h2▸aw hn (show 2 ^ 23<=2 ^ 24 by decide));exact (hΦ s.heap.objs.size).c (fr:=fr) (r.addNew (tk:=s.toks) (h':=s.heap.push {cls:= .type "list",data:= .seq (xq vs lo hi st)}) (bl s.heap.objs.size (jq xs lo hi st)) (λb o e=>az _ e) ⟨xq vs lo hi st,0,aW _ rfl,AG h2⟩ eg λz h=>kX h) q⟩
theorem MB{ps:jC}(h:WT k mu env e λb nu=>Θ (!b) nu):WT k mu env (.UnaryOp .Not e ps) Θ:=⟨λ{z z z z z z} hA R q=>wpAny_isTrue_Not (h.c hA R q)⟩
theorem HI(h:WE k mu env e λy nu=>∃b,y= .bool b/\Θ b nu)(he:autoParam (isTrue e env (dW e env)=(do let v <- dW e env;iE e.pos;eW [v] (truthy v))) aR):WT k mu env e Θ:=⟨λ{z z z z z z} hA R q=>by
 with_reducible refine wpAny_isTrue_value ?_ he
 exact h.c hA R λz1 q1 r1 ⟨b,e1,w⟩=>(aZ.boolE (e1▸q1))▸eV (q z1 r1 w)⟩
theorem Jb:jq (aN 6) av (ae 0) (ae (-1))=[5,4,3,2,1]:=by decide
end
theorem EA{a a':Nat}:∀{w:List Nat},a∈w->∃p x q,w=p++x::q/\(x=a\/x=a')/\a∉p/\a'∉p
 |c::w,h=>by
  by_cases hc:c=a\/c=a'
  ·exact ⟨[],c,w,rfl,hc,by simp,by simp⟩
  ·have hca:c≠a:=λe=>hc (.inl e);have hca':c≠a':=λe=>hc (.inr e);refine lG (EA (a':=a') (w:=w) (by rcases aP.mp h with e|e;exact absurd e.symm hca;exact e)) λp x q e hx h1 h2=>?_;exact ⟨c::p,x,q,by rw [e];rfl,hx,by simp [h1,gf hca],by simp [h2,gf hca']⟩
theorem ei.join{hs:List (List Nat)}{b x:Nat}{p q u:List Nat}(h:ei hs b (p++x::q))(hu:ei hs x u):ei hs b (p++x::u):=by
 have h1:ei hs b ((p++[x])++q):=by simpa using h
 rw [ei.append] at h1;have e:(b::(p++[x])).getLast (by simp)=x:=by rw [kg (by simp)];simp
 have h2:ei hs b ((p++[x])++u):=by rw [ei.append,e];exact ⟨h1.1,hu⟩
 simpa using h2
theorem gI.through{hs:List (List Nat)}{b a x:Nat}{p q:List Nat}(hw:ei hs b (p++x::q))(hp:a∉p)(xa:a≠b)(hd:gI hs b a):gI hs x a:=by
 by_cases hax:a=x
 ·exact .inl hax
 ·have hd':∀v,wb hs b [0] v->a∈v:=by
   rcases hd with e|⟨_,e⟩
   ·exact absurd e xa
   ·exact e
  refine .inr ⟨λe0=>?_,λu hu=>?_⟩
  ·subst e0;have hb:=hw.join (u:=[]) trivial;obtain ⟨v,hv,M7,q8⟩:=k0 hb ⟨0,by rw [dn _ (List.cons_ne_nil 0 [])];rfl,aA.mpr rfl⟩;rcases bc.mp (q8 a (hd' v ⟨hv,M7⟩)) with h|h
   ·exact hp h
   ·exact hax (by simpa using h)
  refine aK (hu.2) λc hc hm=>?_;have iP:u≠[]:=by rintro rfl;simp at hc
  have hb:=hw.join hu.1.back;have hl:∃d,(p++x::u).getLast? =ae d/\d∈[0]:=⟨c,by rw [dn _ (by simp),show x::u=[x]++u from rfl,dn _ iP];exact hc,hm⟩;refine ef (k0 hb hl) λv hv M7 q8=>?_;rcases bc.mp (q8 a (hd' v ⟨hv,M7⟩)) with h|h
  ·exact absurd h hp
  ·rcases aP.mp h with h|h
   ·exact absurd h hax
   ·exact h
theorem Jc{hs:List (List Nat)}{b a a':Nat}(hr:∃w,wb hs b [0] w)(h:gI hs b a)(h':gI hs b a')(hn:a≠b)(SN:a'≠b):gI hs a a'\/gI hs a' a:=by
 refine cJ hr λw hw=>?_;clear hr;have ha:a∈w:=by
  rcases h with e|⟨_,e⟩
  ·exact absurd e hn
  ·exact e w hw
 refine lG (EA (a':=a') ha) λp x q e hx h1 h2=>?_;have hb:=hw.1.back;rw [e] at hb;rcases hx with rfl|rfl
 ·exact .inl (gI.through hb h2 SN h')
 ·exact .inr (gI.through hb h1 hn h)
theorem gI.trans{hs:List (List Nat)}{a b c:Nat}(h:gI hs b a)(h':gI hs c b):gI hs c a:=by
 by_cases QP:b=c
 ·subst QP;exact h
 by_cases xa:a=b
 ·subst xa;exact h'
 rcases h' with e|⟨zC,e⟩
 ·exact absurd e QP
 rcases h with e1|⟨zm,e1⟩
 ·exact absurd e1 xa
 refine .inr ⟨zC,λw hw=>?_⟩;have M6:=e w hw;refine oz (eY M6) λp q P2=>?_;have hb:=hw.1.back;rw [P2] at hb;refine aK (hw.2) λd hd hm=>?_;by_cases hq:q=[]
 ·subst hq;have:d=b:=by rw [P2,dn _ (by simp)] at hd;simpa using hd.symm
  have Jt:d=0:=by simpa using hm
  exact absurd (this.symm.trans Jt) zm
 ·have EP:ei hs b q:=by
   have h1:ei hs c ((p++[b])++q):=by simpa using hb
   rw [ei.append] at h1;have e:(c::(p++[b])).getLast (by simp)=b:=by rw [kg (by simp)];simp
   rw [e] at h1;exact h1.2
  have hl:∃d,q.getLast? =ae d/\d∈[0]:=by refine ⟨d,?_,hm⟩;rw [P2,dn _ (by simp),show b::q=[b]++q from rfl,dn _ hq] at hd;exact hd
  refine ef (k0 EP hl) λv hv M7 q8=>?_;rw [P2];exact bL _ (ab _ (q8 a (e1 v ⟨hv,M7⟩)))
noncomputable abbrev Ed:=List (Nat×Nat)
noncomputable def sf(E:Ed):List Nat->Prop
 |a::b::p=>(a,b)∈E/\sf E (b::p)
 |_=>True
structure sZ(E:Ed)(A B:Nat->Prop)(p:List Nat):Prop where
 ch:sf E p
 st:∃a,p.head? =ae a/\A a
 en:∃b,p.getLast? =ae b/\B b
theorem sf.mono{E E':Ed}(h:∀x∈E,x∈E'):∀{p:List Nat},sf E p->sf E' p
 |[],_=>trivial
 |[_],_=>trivial
 |_::_::_,hc=>⟨h _ hc.1,hc.2.mono h⟩
theorem sZ.mono{E E':Ed}{A B:Nat->Prop}{p:List Nat}(h:∀x∈E,x∈E')(hp:sZ E A B p):sZ E' A B p:=⟨hp.ch.mono h,hp.st,hp.en⟩
theorem sf.left{E:Ed}:∀{u v:List Nat},sf E (u++v)->sf E u
 |[],_,_=>trivial
 |[_],_,_=>trivial
 |_::_::_,_,h=>⟨h.1,sf.left (u:=_::_) h.2⟩
theorem sf.right{E:Ed}:∀{u v:List Nat},sf E (u++v)->sf E v
 |[],_,h=>h
 |[_],[],_=>trivial
 |[_],_::_,h=>h.2
 |_::b::u,v,h=>sf.right (u:=b::u) h.2
theorem sf.glue{E:Ed}:∀{u v:List Nat} {z:Nat},sf E (u++[z])->sf E (z::v)->sf E (u++z::v)
 |[],_,_,_,h=>h
 |[a],_,_,h,h'=>⟨h.1,h'⟩
 |a::b::u,v,z,h,h'=>⟨h.1,sf.glue (u:=b::u) h.2 h'⟩
theorem sf.uses{x y:Nat}{E:Ed}:∀{p:List Nat},sf ((x,y)::E) p->sf E p\/∃u v,p=u++x::y::v/\sf E (u++[x])
 |[],_=> .inl trivial
 |[_],_=> .inl trivial
 |a::b::p,h=>by
  rcases aP.mp h.1 with e|e
  ·injection e with e1 e2
   subst e1;subst e2;exact .inr ⟨[],p,rfl,trivial⟩
  ·rcases sf.uses h.2 with h'|⟨u,v,e',h'⟩
   ·exact .inl ⟨e,h'⟩
   ·refine .inr ⟨a::u,v,by refine aj (e' ..) ?_;rfl,?_⟩;cases u with
    |nil=>
     have:b=x:=by injection e'
     subst this;exact ⟨e,trivial⟩
    |cons c u=>
     have:b=c:=by injection e'
     subst this;exact ⟨e,h'⟩
theorem sf.uses'{x y:Nat}{E:Ed}:∀{p:List Nat},sf ((x,y)::E) p->sf E p\/∃u v,p=u++x::y::v/\sf E (y::v)
 |[],_=> .inl trivial
 |[_],_=> .inl trivial
 |a::b::p,h=>by
  rcases sf.uses' h.2 with h'|⟨u,v,e',h'⟩
  ·rcases aP.mp h.1 with e|e
   ·injection e with e1 e2
    subst e1;subst e2;exact .inr ⟨[],p,rfl,h'⟩
   ·exact .inl ⟨e,h'⟩
  ·exact .inr ⟨a::u,v,by refine aj (e' ..) ?_;rfl,h'⟩
theorem pZ{s:Nat}:∀{p:List Nat},s∈p->∃u v,p=u++s::v/\s∉u
 |a::p,h=>by
  by_cases e:a=s
  ·exact ⟨[],p,by refine aj (e ..) ?_;rfl,by simp⟩
  ·refine eD (pZ (p:=p) (by rcases aP.mp h with h|h;exact absurd h.symm e;exact h)) λu v h1 h2=>?_;exact ⟨a::u,v,by refine aj (h1 ..) ?_;rfl,by simp [h2,gf e]⟩
theorem Cq{s:Nat}:∀{p:List Nat},s∈p->∃u v,p=u++s::v/\s∉v
 |a::p,h=>by
  by_cases e:s∈p
  ·exact eD (Cq e) λu v h1 h2=>⟨a::u,v,by refine aj (h1 ..) ?_;rfl,h2⟩
  ·rcases aP.mp h with h|h
   ·exact ⟨[],p,by refine aj (h ..) ?_;rfl,e⟩
   ·exact absurd h e
theorem sg{α:Type _}(u:List α){v:List α}(h:v≠[]):(u++v).getLast? =v.getLast? :=by (refine aj (TQ ..) ?_;refine aj (gu h ..) ?_);rfl
theorem u6{u v:List Nat}{z:Nat}:(u++z::v).head? =(u++[z]).head? :=by cases u <;> rfl
theorem sZ.pre{E:Ed}{A B C:Nat->Prop}{u v:List Nat}{z:Nat}(h:sZ E A B (u++z::v))(hz:C z):sZ E A C (u++[z]):=
 ⟨sf.left (v:=v) (by simpa using h.ch),by refine fZ (u6 (v:=v) ..) ?_;exact h.st,z,by simp,hz⟩
theorem sZ.suf{E:Ed}{A B C:Nat->Prop}{u v:List Nat}{z:Nat}(h:sZ E A B (u++z::v))(hz:C z):sZ E C B (z::v):=
 ⟨h.ch.right,⟨z,rfl,hz⟩,by refine fZ (sg u (by simp) ..) ?_;exact h.en⟩
theorem sZ.join{E:Ed}{A B C D:Nat->Prop}{u v p q:List Nat}{z:Nat}(h:sZ E A B (u++z::p))(h':sZ E C D (v++z::q)):sZ E A D (u++z::q):=
 ⟨sf.glue (sf.left (v:=p) (by simpa using h.ch)) h'.ch.right,by (refine aj (u6 ..) ?_;refine fZ (u6 (v:=p) ..) ?_);exact h.st,by (refine aj (sg _ (by simp) ..) ?_;refine fZ (sg v (by simp) ..) ?_);exact h'.en⟩
theorem HK{u v:List Nat}{z c:Nat}(h:c∈u++[z]):c∈u++z::v:=by
 rcases bc.mp h with h|h
 ·exact aE _ h
 ·exact bL _ (by refine aj (aA.mp h ..) ?_;exact aa)
def Su(p q:List Nat):Prop:=∀z∈p,z∉q
theorem xI:∀(E:Ed) (A B:Nat->Prop),(∀c,∃p,sZ E A B p/\c∉p)->∃p q,sZ E A B p/\sZ E A B q/\Su p q
 |[],A,B,H=>by
  have one:∀{p:List Nat},sZ [] A B p->∃a,p=[a]/\A a/\B a:=by
   intro p hp;obtain ⟨ch,⟨a,ha,hA⟩,b,hb,hB⟩:=hp
   match p,ch,ha,hb with
   |[c],_,ha,hb=>simp at ha hb;subst ha;subst hb;exact ⟨_,rfl,hA,hB⟩
   |_::_::_,ch,_,_=>exact absurd ch.1 (by simp)
  refine aK (H 0) λp hp w=>aK (one hp) λa eT w=>?_;subst eT;exact aK (H a) λq hq hn=>⟨[a],q,hp,hq,λz hz=>by refine aj (aA.mp hz ..) ?_;exact hn⟩
 |(x,y)::E,A,B,H=>by
  have up:∀z∈E,z∈(x,y)::E:=λz hz=>ab _ hz;by_cases h1:∀c,∃p,sZ E A B p/\c∉p
  ·exact cC (xI E A B h1) λp q hp hq hs=>⟨p,q,hp.mono up,hq.mono up,hs⟩
  ·refine cJ (Classical.not_forall.mp h1) λs hs=>?_;have cut:∀p,sZ E A B p->s∈p:=λp hp=>bO λhn=>hs ⟨p,hp,hn⟩;have HA:∀c,∃p,sZ E A (λz=>z=s\/z=x) p/\c∉p:=by
    intro c;refine aK (H c) λp hp hc=>?_;rcases hp.ch.uses with h|⟨u,v,e,h⟩
    ·refine eD (pZ (cut p ⟨h,hp.st,hp.en⟩)) λu v e w=>?_;have hp':sZ E A B (u++s::v):=e▸⟨h,hp.st,hp.en⟩;exact ⟨u++[s],hp'.pre (.inl rfl),λhm=>hc (by refine aj (e ..) ?_;exact HK hm)⟩
    ·refine ⟨u++[x],⟨h,?_,x,by simp,.inr rfl⟩,λhm=>hc (by refine aj (e ..) ?_;exact HK hm)⟩;have:=hp.st;rw [e,u6] at this;exact this
   have HB:∀c,∃p,sZ E (λz=>z=s\/z=y) B p/\c∉p:=by
    intro c;refine aK (H c) λp hp hc=>?_;rcases hp.ch.uses' with h|⟨u,v,e,h⟩
    ·refine eD (pZ (cut p ⟨h,hp.st,hp.en⟩)) λu v e w=>?_;have hp':sZ E A B (u++s::v):=e▸⟨h,hp.st,hp.en⟩;exact ⟨s::v,hp'.suf (.inl rfl),λhm=>hc (by refine aj (e ..) ?_;exact bL _ hm)⟩
    ·refine ⟨y::v,⟨h,⟨y,rfl,.inr rfl⟩,?_⟩,λhm=>hc (by refine aj (e ..) ?_;exact bL _ (ab _ hm))⟩;have:=hp.en;rw [e,show u++x::y::v=(u++[x])++y::v by simp,sg _ (by simp)] at this;exact this
   refine cC (xI E A _ HA) λp1 p2 hp1 hp2 hps=>cC (xI E _ B HB) λq1 q2 Ta PX hqs=>?_;obtain ⟨ps,px,Th,HV,hpd⟩:∃ps px,sZ E A (·=s) ps/\sZ E A (·=x) px/\Su ps px:=by
    refine aK (hp1.en) λb1 e1 o1=>aK (hp2.en) λb2 e2 o2=>?_;have m1:=df e1;have m2:=df e2;have iP:b1≠b2:=λe=>hps b1 m1 (e▸m2);rcases o1 with rfl|rfl <;> rcases o2 with rfl|rfl
    ·exact absurd rfl iP
    ·exact ⟨p1,p2,⟨hp1.ch,hp1.st,_,e1,rfl⟩,⟨hp2.ch,hp2.st,_,e2,rfl⟩,hps⟩
    ·exact ⟨p2,p1,⟨hp2.ch,hp2.st,_,e2,rfl⟩,⟨hp1.ch,hp1.st,_,e1,rfl⟩,λz h h'=>hps z h' h⟩
    ·exact absurd rfl iP
   obtain ⟨qs,qy,Ti,hqy,hqd⟩:∃qs qy,sZ E (·=s) B qs/\sZ E (·=y) B qy/\Su qs qy:=by
    refine aK (Ta.st) λb1 e1 o1=>aK (PX.st) λb2 e2 o2=>?_;have m1:=sV e1;have m2:=sV e2;have iP:b1≠b2:=λe=>hqs b1 m1 (e▸m2);rcases o1 with rfl|rfl <;> rcases o2 with rfl|rfl
    ·exact absurd rfl iP
    ·exact ⟨q1,q2,⟨Ta.ch,⟨_,e1,rfl⟩,Ta.en⟩,⟨PX.ch,⟨_,e2,rfl⟩,PX.en⟩,hqs⟩
    ·exact ⟨q2,q1,⟨PX.ch,⟨_,e2,rfl⟩,PX.en⟩,⟨Ta.ch,⟨_,e1,rfl⟩,Ta.en⟩,λz h h'=>hqs z h' h⟩
    ·exact absurd rfl iP
   have ms:s∈ps:=by obtain ⟨b,e,rfl⟩:=Th.en;exact df e
   have mq:s∈qs:=by obtain ⟨b,e,rfl⟩:=Ti.st;exact sV e
   refine eD (pZ ms) λu u' eu hu=>eD (Cq mq) λv' v ev hv=>?_;have spx:s∉px:=hpd s ms;have sqy:s∉qy:=hqd s mq;subst eu;subst ev;have mx:x∈px:=by obtain ⟨b,e,rfl⟩:=HV.en;exact df e
   have my:y∈qy:=by obtain ⟨b,e,rfl⟩:=hqy.st;exact sV e
   have noc:∀{C D:Nat->Prop} {l1 r1 l2 r2:List Nat} {z:Nat},sZ E A C (l1++z::r1)->sZ E D B (l2++z::r2)->s∉l1->z≠s->s∉r2->False:=by
    intro C D l1 r1 l2 r2 z ha hb n1 n2 n3;have:=cut _ (ha.join hb);simp at this;rcases this with h|h|h
    ·exact n1 h
    ·exact n2 h.symm
    ·exact n3 h
   refine ⟨u++s::v,px++qy,(Th.join Ti).mono up,?_,?_⟩
   ·refine aK (HV.en) λb e hb=>aK (hqy.st) λa e' ha=>?_;have hb':b=x:=hb;have ha':a=y:=ha;subst hb';subst ha';obtain ⟨p0,rfl⟩:∃p0,px=p0++[b]:=by
     have iP:px≠[]:=by rintro rfl;exact gK e
     refine ⟨px.dropLast,?_⟩;have h1:=GY iP;rw [gu iP] at e;rw [aO e] at h1;exact h1.symm
    obtain ⟨q0,rfl⟩:∃q0,qy=a::q0:=by
     cases qy with
     |nil=>exact gK e'
     |cons c l=>exact ⟨l,by (refine aj (aO e' ..) ?_;rfl)⟩
    refine ⟨?_,?_,?_⟩
    ·have h1:sf ((b,a)::E) (p0++b::(a::q0)):=sf.glue (HV.ch.mono up) ⟨aa,hqy.ch.mono up⟩;simpa using h1
    ·refine aK (HV.st) λc hc hA=>⟨c,?_,hA⟩
     refine fZ (hc ..) ?_;cases p0 <;> rfl
    ·exact aK (hqy.en) λc hc hB=>⟨c,by refine aj (sg _ (by simp) ..) ?_;exact hc,hB⟩
   ·intro z hz MV;rcases bc.mp hz with h|h
    ·rcases bc.mp MV with h'|h'
     ·exact hpd z (aE _ h) h'
     ·refine oz (eY h) λl1 r1 e1=>oz (eY h') λl2 r2 e2=>?_;subst e1;subst e2;have ha:sZ E A (·=s) (l1++z::(r1++s::u')):=by simpa using Th
      exact noc ha hqy (λhm=>hu (aE _ hm)) (λe=>hu (by refine fZ (e ..) ?_;simp)) λhm=>sqy (by simp [hm])
    ·rcases aP.mp h with h|h
     ·subst h;rcases bc.mp MV with h'|h'
      ·exact spx h'
      ·exact sqy h'
     ·rcases bc.mp MV with h'|h'
      ·refine oz (eY h') λl1 r1 e1=>oz (eY h) λl2 r2 e2=>?_;subst e1;subst e2;have hb:sZ E (·=s) B ((v'++s::l2)++z::r2):=by simpa using Ti
       exact noc HV hb (λhm=>spx (by simp [hm])) (λe=>hv (by refine fZ (e ..) ?_;simp)) λhm=>hv (by simp [hm])
      ·exact hqd z (by simp [h]) h'
def wo(hs:List (List Nat))(b o:Nat):Prop:=gI hs b o/\o≠b
def Gw(hs:List (List Nat))(x z:Nat):Prop:=∃p∈hs.getD z [],gI hs p x/\¬wo hs z x
inductive iB(hs:List (List Nat))(S:List Nat):Nat->Prop
 |set {x z:_}:x∈S->Gw hs x z->iB hs S z
 |next {x z:_}:iB hs S x->Gw hs x z->iB hs S z
def zA(hs:List (List Nat))(S:List Nat)(x:Nat):Prop:=x∈S\/iB hs S x
theorem iB.of{hs:List (List Nat)}{S:List Nat}{x z:Nat}(h:zA hs S x)(hf:Gw hs x z):iB hs S z:=by
 rcases h with h|h
 ·exact .set h hf
 ·exact .next h hf
structure Gr(hs:List (List Nat)):Prop where
 reach:∀b,b≠0->(∃c,b∈hs.getD c []\/c∈hs.getD b [])->∃w,wb hs b [0] w
 entry:hs.getD 0 []=[]
theorem gI.zero{hs:List (List Nat)}{o:Nat}(h:gI hs 0 o):o=0:=by
 rcases h with h|⟨h,_⟩
 ·exact h
 ·exact absurd rfl h
theorem Bc{hs:List (List Nat)}{S:List Nat}{x p z:Nat}(hx:zA hs S x)(hp:p∈hs.getD z [])(hd:gI hs p x)(hn:¬iB hs S z):wo hs z x:=
 bO λh=>hn (iB.of hx ⟨p,hp,hd,h⟩)
theorem Bd{hs:List (List Nat)}{S:List Nat}{x:Nat}(hx:zA hs S x):∀{w:List Nat} {z:Nat},ei hs z (w++[x])->(∀c∈w,¬zA hs S c)->¬iB hs S z->wo hs z x
 |[],z,hb,_,hn=>Bc hx hb.1 gI.self hn
 |c::w,z,hb,hw,hn=>by
  have hc:=hw c aa;have:=Bd hx hb.2 (λd hd=>hw d (ab _ hd)) (λh=>hc (.inr h));exact Bc hx hb.1 this.1 hn
def Cut(hs:List (List Nat))(S:List Nat)(c y:Nat):Prop:=y=c\/(y∉S/\∀w,ei hs y w->(∃d,w.getLast? =ae d/\d∈S)->c∈w)
theorem Cut.head{hs:List (List Nat)}{S:List Nat}{c y p:Nat}(h:∀w,ei hs y w->(∃d,w.getLast? =ae d/\d∈S)->c∈w)(hp:p∈hs.getD y []):Cut hs S c p:=by
 by_cases e:p=c
 ·exact .inl e
 ·refine .inr ⟨λuc=>?_,λw hw hl=>?_⟩
  ·have:=h [p] ⟨hp,trivial⟩ ⟨p,rfl,uc⟩;exact e (aA.mp this).symm
  ·have iP:w≠[]:=by
    rintro rfl;refine aK hl λd hd z=>?_;clear hl;simp at hd
   refine aK hl λd hd hm=>?_;clear hl;have:=h (p::w) ⟨hp,hw⟩ ⟨d,by (refine aj (show p::w=[p]++w from rfl) ?_;refine aj (dn _ iP ..) ?_);exact hd,hm⟩;rcases aP.mp this with e'|e'
   ·exact absurd e'.symm e
   ·exact e'
theorem gI.walk{hs:List (List Nat)}{b a:Nat}(h:gI hs b a)(hn:a≠b){w:List Nat}(hw:ei hs b w)(hl:w.getLast? =ae 0):a∈w:=by
 refine ef (k0 (marks:=[0]) hw ⟨0,hl,by decide⟩) λv hv M7 q8=>?_;rcases h with e|⟨_,e⟩
 ·exact absurd e hn
 ·exact q8 a (e v ⟨hv,M7⟩)
theorem yY{hs:List (List Nat)}{b a:Nat}{p q:List Nat}(h:ei hs b (p++a::q)):ei hs a q:=by
 have h1:ei hs b ((p++[a])++q):=by simpa using h
 rw [ei.append] at h1;have e:(b::(p++[a])).getLast (by simp)=a:=by refine aj (kg (by simp) ..) ?_;simp
 rw [e] at h1;exact h1.2
theorem yZ{p q:List Nat}{a:Nat}(ha:a≠0)(h:(p++a::q).getLast? =ae 0):q.getLast? =ae 0:=by
 rw [dn _ (by simp)] at h;cases q with
 |nil=>exact absurd (aO h) ha
 |cons c q=>refine fZ (h ..) ?_;rfl
theorem gI.anti{hs:List (List Nat)}{a b:Nat}(hr:b≠0->∃w,wb hs b [0] w)(h:gI hs b a)(h':gI hs a b):a=b:=by
 by_cases hb:b=0
 ·subst hb;exact h.zero
 by_cases ha:a=0
 ·subst ha;exact h'.zero.symm
 apply bO;intro hn;have key:∀n,∀w,w.length=n->ei hs b w->w.getLast? =ae 0->False:=by
  intro n;induction n using vH with
  |ind n ih=>intro w hlen hw hl;refine oz (eY (h.walk hn hw hl)) λp q e=>?_;subst e;have hq:=yY hw;have hql:=yZ ha hl;refine oz (eY (h'.walk (gf hn) hq hql)) λp' q' e'=>?_;subst e';refine ih q'.length ?_ q' rfl (yY hq) (yZ hb hql);refine fZ (hlen ..) ?_;simp only [ba,bK];lia
 obtain ⟨w,hw,c,hc,hm⟩:=hr hb;have:c=0:=by simpa using hm
 subst this;exact key _ w rfl hw.back hc
theorem ei.lt{hs:List (List Nat)}(lt:∀b,∀c∈hs.getD b [],c < 6):∀{w:List Nat} {b:Nat},ei hs b w->∀c∈w,c < 6
 |[],_,_,_,h=>eo h
 |d::w,b,hw,c,h=>by
  rcases aP.mp h with e|e
  ·refine aj (e ..) ?_;exact lt b d hw.1
  ·exact ei.lt lt hw.2 c e
theorem u7{hs:List (List Nat)}{S:List Nat}{c x z:Nat}(h0:0∈S)(he:hs.getD 0 []=[])(lt:∀b,∀c∈hs.getD b [],c < 6)(hr:∀y,y≠0->y < 6->∃w,wb hs y [0] w)(ih:Cut hs S c x->x=c)(hf:Gw hs x z)(zq:∀w,ei hs z w->(∃d,w.getLast? =ae d/\d∈S)->c∈w):z=c:=by
 apply bO;intro hn;refine ef hf λp hp HV wy=>?_;clear hf;have Nc:z≠0:=by rintro rfl;rw [he] at hp;exact eo hp
 have hdc:gI hs z c:= .inr ⟨Nc,λw hw=>zq w hw.1.back (by
  refine aK (hw.2) λd hd hm=>?_;exact ⟨d,hd,by
   have:d=0:=by simpa using hm
   refine aj (this ..) ?_;exact h0⟩)⟩
 have uf:c < 6:=by
  by_cases JV:p=0
  ·subst JV;have:=zq [0] ⟨hp,trivial⟩ ⟨0,rfl,h0⟩;refine aj (aA.mp this ..) ?_;decide
  ·obtain ⟨w,hw,d,hd,hm⟩:=hr p JV (lt z p hp);have Jt:d=0:=by simpa using hm
   have iP:w≠[]:=by rintro rfl;simp at hd
   have hb:ei hs z (p::w):=⟨hp,hw.back⟩;exact hb.lt lt c (zq _ hb ⟨d,by (refine aj (show p::w=[p]++w from rfl) ?_;refine aj (dn _ iP ..) ?_);exact hd,Jt▸h0⟩)
 have P0:x≠c:=λe=>wy (e▸⟨hdc,gf hn⟩);have bad:gI hs c x->False:=λh=>by
  by_cases hxz:x=z
  ·subst hxz;exact hn (gI.anti (λhc=>hr c hc uf) h hdc)
  ·exact wy ⟨h.trans hdc,hxz⟩
 have hcp:=Cut.head zq hp;rcases hcp with e|⟨hpS,hpw⟩
 ·exact bad (e▸HV)
 by_cases QV:x=p
 ·exact P0 (ih (QV▸.inr ⟨hpS,hpw⟩))
 have JV:p≠0:=λe=>hpS (e▸h0);obtain ⟨w,hw,d,hd,hm⟩:=hr p JV (lt z p hp);have Jt:d=0:=by simpa using hm
 subst Jt;refine eD (pZ (HV.walk QV hw.back hd)) λu v e hu=>?_;have hb:=hw.back;rw [e] at hb;have hcu:c∉u:=λhm=>by
  refine oz (eY hm) λu1 u2 e1=>?_;rw [e1] at hb hu;exact bad (gI.through (p:=u1) (q:=u2++x::v) (by simpa using hb) (λh=>hu (by simp [h])) QV HV)
 refine P0 (ih (.inr ⟨λhxS=>?_,λw' hw' hl=>?_⟩))
 ·have:=hpw (u++[x]) (hb.join (u:=[]) trivial) ⟨x,by simp,hxS⟩;rcases bc.mp this with h|h
  ·exact hcu h
  ·exact P0 (aA.mp h).symm
 ·refine aK hl λd hd hm=>?_;clear hl;have iP:w'≠[]:=by rintro rfl;simp at hd
  have:=hpw (u++x::w') (hb.join hw') ⟨d,by (refine aj (dn _ (by simp) ..) ?_;refine aj (show x::w'=[x]++w' from rfl) ?_;refine aj (dn _ iP ..) ?_);exact hd,hm⟩;rcases bc.mp this with h|h
  ·exact absurd h hcu
  ·rcases aP.mp h with h|h
   ·exact absurd h.symm P0
   ·exact h
theorem Pi{hs:List (List Nat)}{S:List Nat}{c x:Nat}(h0:0∈S)(he:hs.getD 0 []=[])(lt:∀b,∀c∈hs.getD b [],c < 6)(hr:∀y,y≠0->y < 6->∃w,wb hs y [0] w)(hx:iB hs S x):Cut hs S c x->x=c:=by
 induction hx with
 |set uc hf=>exact λh=>h.elim id λh=>u7 h0 he lt hr (λh=>h.elim id λh=>absurd uc h.1) hf h.2
 |next _ hf ih=>exact λh=>h.elim id λh=>u7 h0 he lt hr ih hf h.2
theorem MC{hs:List (List Nat)}{S:List Nat}{c x:Nat}(h0:0∈S)(he:hs.getD 0 []=[])(lt:∀b,∀c∈hs.getD b [],c < 6)(hr:∀y,y≠0->y < 6->∃w,wb hs y [0] w)(hx:iB hs S x)(zq:∀w,ei hs x w->(∃d,w.getLast? =ae d/\d∈S)->c∈w):x=c:=by
 cases hx with
 |set uc hf=>exact u7 h0 he lt hr (λh=>h.elim id λh=>absurd uc h.1) hf zq
 |next h hf=>exact u7 h0 he lt hr (Pi h0 he lt hr h) hf zq
def kq.S0(hs:List (List Nat))(S:List Nat)(z _:Nat):Prop:=∀(h0:0∈S) (lt:∀b,∀c∈hs.getD b [],c < 6) (hr:∀y,y≠0->y < 6->∃w,wb hs y [0] w) (hz:iB hs S z),∃w y,ei hs z (w++[y])/\zA hs S y/\¬wo hs z y/\∀c∈w,¬zA hs S c
namespace kq
@[irreducible] def e0:=G1 gD gD eN eN S0
def kE:=e0.1
def S_:=e0.2.1
def z_:=e0.2.2.1
theorem T0:S0 kE S_ z_ e0.2.2.2:=by
 intro h0 lt hr hz;obtain ⟨x,hx,p,hp,HV,wy⟩:∃x,zA kE S_ x/\Gw kE x z_:=by
  cases hz with
  |set h hf=>exact ⟨_,.inl h,hf⟩
  |next h hf=>exact ⟨_,.inr h,hf⟩
 obtain ⟨u,hu,hxu⟩:∃u,ei kE z_ (u++[x])/\∀u1 y u2,u=u1++y::u2->gI kE y x:=by
  by_cases QV:x=p
  ·exact ⟨[],⟨QV▸hp,trivial⟩,λu1 y u2 e=>by simp at e⟩
  ·have JV:p≠0:=λe=>by subst e;exact QV HV.zero
   obtain ⟨w,hw,d,hd,hm⟩:=hr p JV (lt z_ p hp);have Jt:d=0:=by simpa using hm
   subst Jt;refine eD (pZ (HV.walk QV hw.back hd)) λu v e hxu=>?_;have hb:=hw.back;rw [e] at hb;refine ⟨p::u,⟨hp,hb.join (u:=[]) trivial⟩,λu1 y u2 e'=>?_⟩;cases u1 with
   |nil=>injection e' with e1 e2;refine fZ (e1 ..) ?_;exact HV
   |cons a u1=>
    injection e' with e1 e2
    rw [e2] at hb hxu;exact gI.through (p:=u1) (q:=u2++x::v) (by simpa using hb) (λh=>hxu (by simp [h])) QV HV
 by_cases hM:∃c∈u,zA kE S_ c
 ·
  have first:∀{l:List Nat},(∃c∈l,zA kE S_ c)->∃u1 y u2,l=u1++y::u2/\zA kE S_ y/\∀c∈u1,¬zA kE S_ c:=by
   intro l;induction l with
   |nil=>rintro ⟨c,hc,_⟩;exact eo hc
   |cons a l ih=>
    intro h;by_cases ha:zA kE S_ a
    ·exact ⟨[],a,l,rfl,ha,λc hc=>eo hc⟩
    ·obtain ⟨u1,y,u2,e,h1,h2⟩:=ih (by
      refine aK h λc hc hm=>?_;clear h;rcases aP.mp hc with e|e
      ·exact absurd (e▸hm) ha
      ·exact ⟨c,e,hm⟩)
     exact ⟨a::u1,y,u2,by refine aj (e ..) ?_;rfl,h1,λc hc=>by
      rcases aP.mp hc with e|e
      ·exact e▸ha
      ·exact h2 c e⟩
  refine cE (first hM) λu1 y u2 e hy h1=>?_;have hd:=hxu u1 y u2 e;refine ⟨u1,y,?_,hy,λuc=>?_,h1⟩
  ·rw [e] at hu;exact ei.join (q:=u2++[x]) (u:=[]) (by simpa using hu) trivial
  ·by_cases hxz:x=z_
   ·subst hxz;have Us:y < 6:=by rw [e] at hu;exact hu.lt lt y (by simp)
    exact uc.2 (gI.anti (λhy0=>hr y hy0 Us) hd uc.1).symm
   ·exact wy ⟨hd.trans uc.1,hxz⟩
 ·exact ⟨u,x,hu,hx,wy,λc hc hm=>hM ⟨c,hc,hm⟩⟩
end kq
theorem kq{hs:List (List Nat)}{S:List Nat}{z:Nat}:kq.S0 hs S z 0:=by with_unfolding_all exact vJ _ _ _ _ kq.S0 @kq.T0 hs S z 0
noncomputable def Be(hs:List (List Nat)):Ed:=(aN hs.length).flatMap λb=>(hs.getD b []).map λc=>(b,c)
theorem Pj{hs:List (List Nat)}{b c:Nat}:(b,c)∈Be hs↔c∈hs.getD b []:=by
 unfold Be;refine gj (bG ..) ?_;constructor
 ·intro dO;refine aK dO λd z h=>?_;clear dO;refine aK (aG.mp h) λe h1 h2=>?_;injection h2 with h3 h4
  subst h3;subst h4;exact h1
 ·intro h;refine ⟨b,?_,aG.mpr ⟨c,h,rfl⟩⟩;refine gj (aY ..) ?_;rcases gX b hs.length with h'|h'
  ·exact h'
  ·rw [bR,il h'] at h;exact eo h
theorem y5{hs:List (List Nat)}:∀{w:List Nat} {b:Nat},sf (Be hs) (b::w)↔ei hs b w
 |[],_=>⟨λz=>trivial,λz=>trivial⟩
 |c::w,b=>by
  show (_/\sf (Be hs) (c::w))↔(_/\ei hs c w);refine gj (Pj ..) ?_;refine gj (y5 ..) ?_;rfl
def nX.S0(hs:List (List Nat))(S:List Nat)(z _:Nat):Prop:=∀(h0:0∈S) (he:hs.getD 0 []=[]) (lt:∀b,∀c∈hs.getD b [],c < 6) (hr:∀y,y≠0->y < 6->∃w,wb hs y [0] w) (hz:iB hs S z) (Nc:z≠0) (JW:z < 6),∃w1 w2,wb hs z S w1/\wb hs z S w2/\Su w1 w2
namespace nX
@[irreducible] def e0:=G1 gD gD eN eN S0
def kE:=e0.1
def S_:=e0.2.1
def z_:=e0.2.2.1
theorem T0:S0 kE S_ z_ e0.2.2.2:=by
 intro h0 he lt hr hz Nc JW;have H:∀c,∃p,sZ (Be kE) (λa=>a∈kE.getD z_ []) (λa=>a∈S_) p/\c∉p:=by
  intro c;obtain ⟨w,hw,hl,hc⟩:∃w,ei kE z_ w/\(∃d,w.getLast? =ae d/\d∈S_)/\c∉w:=by
   by_cases P4:z_=c
   ·obtain ⟨w,hw,d,hd,hm⟩:=hr z_ Nc JW;have Jt:d=0:=by simpa using hm
    subst Jt;by_cases hzw:z_∈w
    ·refine eD (Cq hzw) λu v e hv=>?_;have hb:=hw.back;rw [e] at hb hd;exact ⟨v,yY hb,⟨0,yZ Nc hd,h0⟩,P4▸hv⟩
    ·exact ⟨w,hw.back,⟨0,hd,h0⟩,P4▸hzw⟩
   ·apply bO;intro Bt;have all:∀w,ei kE z_ w->(∃d,w.getLast? =ae d/\d∈S_)->c∈w:=λw h1 h2=>bO λh3=>Bt ⟨w,h1,h2,h3⟩;exact P4 (MC h0 he lt hr hz all)
  refine aK hl λd hd hm=>?_;clear hl;cases w with
  |nil=>simp at hd
  |cons a w=>exact ⟨a::w,⟨y5.mpr hw.2,⟨a,rfl,hw.1⟩,d,hd,hm⟩,hc⟩
 refine cC (xI _ _ _ H) λp q hp hq uc=>?_;have mk:∀{p:List Nat},sZ (Be kE) (λa=>a∈kE.getD z_ []) (λa=>a∈S_) p->∃v,wb kE z_ S_ v/\∀c∈v,c∈p:=by
  intro p hp;obtain ⟨ch,⟨a,ha,hA⟩,d,hd,hm⟩:=hp;cases p with
  |nil=>exact gK ha
  |cons b p=>have:b=a:=aO ha;subst this;exact ef (k0 (b:=z_) (marks:=S_) (w:=b::p) ⟨hA,y5.mp ch⟩ ⟨d,hd,hm⟩) λv hv M7 q8=>⟨v,⟨hv,M7⟩,q8⟩
 exact aK (mk hp) λv1 h1 s1=>aK (mk hq) λv2 h2 s2=>⟨v1,v2,h1,h2,λz_ hz MV=>uc z_ (s1 z_ hz) (s2 z_ MV)⟩
end nX
theorem nX{hs:List (List Nat)}{S:List Nat}{z:Nat}:nX.S0 hs S z 0:=by with_unfolding_all exact vJ _ _ _ _ nX.S0 @nX.T0 hs S z 0
structure Jd(hs:List (List Nat))(S:List Nat)(z v:Nat):Prop where
 mem:zA hs S v
 sd:wo hs z v
 near:∀y,zA hs S y->wo hs z y->gI hs v y
theorem Cr{hs:List (List Nat)}{y v:Nat}(h:¬gI hs y v)(hy:y≠0):∃u,ei hs y u/\u.getLast? =ae 0/\v∉u:=by
 apply bO;intro Bt;refine h (.inr ⟨hy,λw hw=>bO λhv=>Bt ⟨w,hw.1.back,?_,hv⟩⟩);refine aK (hw.2) λd hd hm=>?_;have Jt:d=0:=by simpa using hm
 exact Jt▸hd
theorem tu{hs:List (List Nat)}{S:List Nat}{z v y:Nat}{w:List Nat}(hr:∀y,y≠0->y < 6->∃w,wb hs y [0] w)(lt:∀b,∀c∈hs.getD b [],c < 6)(hn:¬iB hs S z)(nv:Jd hs S z v)
 (hw:ei hs z (w++[y])) (hy:zA hs S y) (hu:∀c∈w,¬zA hs S c):y=v:=by
 have GM:=Bd hy hw hu hn;have hd:=nv.near y hy GM;have Us:y < 6:=hw.lt lt y (by exact bL _ aa);apply bO;intro iP;by_cases hy0:y=0
 ·subst hy0;have h1:=nv.sd.1.walk nv.sd.2 hw (by simp);rcases bc.mp h1 with h|h
  ·exact hu v h nv.mem
  ·exact iP (aA.mp h).symm
 ·have hnd:¬gI hs y v:=λh=>iP (by
   by_cases GI:v=0
   ·subst GI;exact hd.zero
   ·exact (gI.anti (λx=>hr y hy0 Us) h hd).symm)
  refine ef (Cr hnd hy0) λu hu1 hu2 hu3=>?_;have hne':u≠[]:=by rintro rfl;simp at hu2
  have h1:=nv.sd.1.walk nv.sd.2 (w:=w++y::u) (ei.join (q:=[]) hw hu1) (by (refine aj (dn _ (by simp) ..) ?_;refine aj (show y::u=[y]++u from rfl) ?_;refine aj (dn _ hne' ..) ?_);exact hu2);rcases bc.mp h1 with h|h
  ·exact hu v h nv.mem
  ·rcases aP.mp h with h|h
   ·exact iP h.symm
   ·exact hu3 h
section
variable {hs:List (List Nat)}{cs:Nat->Cs}{S S':Nat->Nat}{m i j w:Nat}{ws:List Nat}
theorem QE{S o:Nat}(h:S < 64)(hb:S.testBit o=aI):o < 6:=by
 rcases gX o 6 with q|q
 ·exact q
 ·have:S.testBit o=aH:=vg (cb h (by refine aj (show (64:Nat)=2 ^ 6 from rfl) ?_;exact e8 (by decide) q));rw [this] at hb;exact vK hb
theorem xJ:cU S cs j < 64:=DE _
theorem y6{o:Nat}(ho:o < 6):(cU S cs j).testBit o=(o == j || (cs j).all λc=>(S c.1).testBit o):=kB _ ho
theorem Je(h:∀b o,(S' b).testBit o=aI->(S b).testBit o=aI){o:Nat}(hb:(cU S' cs j).testBit o=aI):(cU S cs j).testBit o=aI:=by
 have ho:=QE xJ hb;rw [y6 ho] at hb ⊢;rw [jV] at hb ⊢;rcases hb with hb|hb
 ·exact .inl hb
 ·rw [fW] at hb ⊢;exact .inr λc hc=>h _ _ (hb c hc)
theorem Gx(h:∀c∈cs j,S' c.1=S c.1):cU S' cs j=cU S cs j:=by unfold cU;congr 1;funext o;congr 1;refine gj (cj ..) ?_;refine gj (fW ..) ?_;refine gj (fW ..) ?_;exact ⟨λq c hc=>by refine fZ (h c hc ..) ?_;exact q c hc,λq c hc=>by refine aj (h c hc ..) ?_;exact q c hc⟩
theorem Sw:∀S,S < 64->∀S',S' < 64->(∀o,o < 6->S'.testBit o=aI->S.testBit o=aI)->S'≠S->(eZ S').length < (eZ S).length:=by decide+kernel
noncomputable def Ct(S:Nat->Nat):Nat:=(eZ (S 1)).length+(eZ (S 2)).length+(eZ (S 3)).length+(eZ (S 4)).length+(eZ (S 5)).length
theorem Pk(hw:w∈[1,2,3,4,5])(h0:∀b,b≠w->S' b=S b)(h:(eZ (S' w)).length < (eZ (S w)).length):Ct S' < Ct S:=by
 unfold Ct;simp only [aP,e7,or_false] at hw;rcases hw with rfl|rfl|rfl|rfl|rfl
 ·(refine aj (h0 2 (by decide) ..) ?_;refine aj (h0 3 (by decide) ..) ?_;refine aj (h0 4 (by decide) ..) ?_;refine aj (h0 5 (by decide) ..) ?_);lia
 ·(refine aj (h0 1 (by decide) ..) ?_;refine aj (h0 3 (by decide) ..) ?_;refine aj (h0 4 (by decide) ..) ?_;refine aj (h0 5 (by decide) ..) ?_);lia
 ·(refine aj (h0 2 (by decide) ..) ?_;refine aj (h0 1 (by decide) ..) ?_;refine aj (h0 4 (by decide) ..) ?_;refine aj (h0 5 (by decide) ..) ?_);lia
 ·(refine aj (h0 2 (by decide) ..) ?_;refine aj (h0 3 (by decide) ..) ?_;refine aj (h0 1 (by decide) ..) ?_;refine aj (h0 5 (by decide) ..) ?_);lia
 ·(refine aj (h0 2 (by decide) ..) ?_;refine aj (h0 3 (by decide) ..) ?_;refine aj (h0 4 (by decide) ..) ?_;refine aj (h0 1 (by decide) ..) ?_);lia
noncomputable def oZ(cs:Nat->Cs)(S:Nat->Nat)(w:Nat):Nat->Nat:=λb=>if b=w then cU S cs w else S b
noncomputable def qa(cs:Nat->Cs)(w:Nat):List Nat:=[1,2,3,4,5].filter λo=>(cs o).any λc=>c.1 == w
noncomputable def qT(cs:Nat->Cs)(S:Nat->Nat)(ws:List Nat)(w:Nat):(Nat->Nat)×List Nat:=(oZ cs S w,if cU S cs w=S w then [] else qa cs w)
structure Sx(hs:List (List Nat))(cs:Nat->Cs):Prop where
 lt:∀j,∀c∈cs j,c.1 < 6
 mem:∀j,j∈[1,2,3,4,5]->∀c,c∈hs.getD j []↔c∈(cs j).map (·.1)
structure HJ(hs:List (List Nat))(cs:Nat->Cs)(m i:Nat)(ws:List Nat)(S:Nat->Nat):Prop where
 in5:∀w∈ws,w∈[1,2,3,4,5]
 ok:∀b,S b < 64/\S b≠0
 z:S 0=1
 dec:∀j∈[1,2,3,4,5],∀o,(cU S cs j).testBit o=aI->(S j).testBit o=aI
 don:∀j∈[1,2,3,4,5],cU S cs j=S j\/j∈ws.drop i
 dom:∀j∈[1,2,3,4,5],∀o,o < 6->gI hs j o->(S j).testBit o=aI
 le:i<=ws.length
 len:ws.length+5*Ct S<=200
 ms:m=6*Ct S+(ws.length - i)
theorem HJ.start:HJ hs cs 185 0 [5,4,3,2,1] T0 where
 in5:=by decide
 ok:=λb=>by unfold T0;split <;> decide
 z:=rfl
 dec:=λj hj o ho=>by
  have h6:=QE xJ ho;have:T0 j=63:=by unfold T0;rw [if_neg];rintro rfl;revert hj;decide
  refine aj (this ..) ?_;have:∀o,o < 6->(63:Nat).testBit o=aI:=by decide
  exact this o h6
 don:=λj hj=> .inr (by revert hj;simp only [fy,aP,e7,or_false];lia)
 dom:=λj hj o ho y=>by
  have:T0 j=63:=by unfold T0;rw [if_neg];rintro rfl;revert hj;decide
  refine aj (this ..) ?_;have:∀o,o < 6->(63:Nat).testBit o=aI:=by decide
  exact this o ho
 le:=gp _
 len:=by decide
 ms:=by decide
def HJ.step.S0(hs:List (List Nat))(cs:Nat->Cs)(S:Nat->Nat)(m i:Nat)(ws:List Nat):Prop:=∀{w:Nat} (C:Sx hs cs) (h:HJ hs cs m i ws S) (hw:ws[i]? =ae w),∃m',m' < m/\HJ hs cs m' (i+1) (ws++(qT cs S ws w).2) (qT cs S ws w).1
namespace HJ.step
@[irreducible] def e0:=Fp gD inferInstance inferInstance eN eN gD S0
def kE:=e0.1
def qO:=e0.2.1
def S_:=e0.2.2.1
def m_:=e0.2.2.2.1
def i_:=e0.2.2.2.2.1
def qJ:=e0.2.2.2.2.2
theorem T0:S0 kE qO S_ m_ i_ qJ:=by
 intro w C h hw;have hlt:i_ < qJ.length:=(aB.mp hw).1;have QW:=h.in5 w (ao hw);have hw0:w≠0:=by rintro rfl;revert QW;decide
 have HU:qJ.drop i_=w::qJ.drop (i_+1):=by refine aj (dZ hlt ..) ?_;congr 1;exact (aB.mp hw).2
 unfold qT;by_cases he:cU S_ qO w=S_ w
 ·have hT:oZ qO S_ w=S_:=by
   funext b;unfold oZ;by_cases hb:b=w
   ·(refine aj (if_pos hb ..) ?_;refine aj (he ..) ?_;refine aj (hb ..) ?_;rfl)
   ·(refine aj (if_neg hb ..) ?_;rfl)
  refine aj (if_pos he ..) ?_;refine aj (hT ..) ?_;simp only [cy];refine ⟨6*Ct S_+(qJ.length - (i_+1)),by refine aj (h.ms ..) ?_;lia,h.in5,h.ok,h.z,h.dec,λj hj=>?_,h.dom,hlt,h.len,rfl⟩;rcases h.don j hj with q|q
  ·exact .inl q
  ·rw [HU] at q;rcases aP.mp q with rfl|q
   ·exact .inl he
   ·exact .inr q
 ·refine aj (if_neg he ..) ?_;simp only;have h0:∀b,b≠w->oZ qO S_ w b=S_ b:=λb hb=>if_neg hb;have Ut:oZ qO S_ w w=cU S_ qO w:=if_pos rfl;have q8:∀b o,(oZ qO S_ w b).testBit o=aI->(S_ b).testBit o=aI:=λb o hb=>by
   by_cases e:b=w
   ·rw [e,Ut] at hb;refine aj (e ..) ?_;exact h.dec w QW o hb
   ·rw [h0 b e] at hb;exact hb
  have hpop:Ct (oZ qO S_ w) < Ct S_:=Pk QW h0 (by refine aj (Ut ..) ?_;exact Sw _ (h.ok w).1 _ xJ (λo y q=>h.dec w QW o q) he);have hcl:(qa qO w).length<=5:=bu _ _;refine ⟨6*Ct (oZ qO S_ w)+((qJ++qa qO w).length - (i_+1)),by (refine aj (h.ms ..) ?_;refine aj (ba ..) ?_);lia,λx hx=>?_,λb=>?_,by refine aj (h0 0 (gf hw0) ..) ?_;exact h.z,λj hj o ho=>?_,λj hj=>?_,λj hj o ho hd=>?_,by refine aj (ba ..) ?_;lia,by refine aj (ba ..) ?_;have:=h.len;lia,rfl⟩
  ·rcases bc.mp hx with q|q
   ·exact h.in5 x q
   ·exact (bo.mp q).1
  ·by_cases e:b=w
   ·(refine aj (e ..) ?_;refine aj (Ut ..) ?_);exact ⟨xJ,DH S_ qO (by revert QW;simp only [aP,e7,or_false];lia)⟩
   ·refine aj (h0 b e ..) ?_;exact h.ok b
  ·have h1:=Je q8 ho;by_cases e:j=w
   ·(refine aj (e ..) ?_;refine aj (Ut ..) ?_);rw [e] at h1;exact h1
   ·refine aj (h0 j e ..) ?_;exact h.dec j hj o h1
  ·by_cases hc:∃c∈qO j,c.1=w
   ·right
    refine aj (gq (by lia) ..) (bL _ (bo.mpr ⟨hj,?_⟩));refine aK hc λc Uu hc2=>?_;clear hc;exact gj (cS ..) (⟨c,Uu,by refine aj (hc2 ..) ?_;exact beq_self_eq_true w⟩)
   ·have hcg:cU (oZ qO S_ w) qO j=cU S_ qO j:=Gx λc Uu=>h0 _ λe=>hc ⟨c,Uu,e⟩;refine aj (hcg ..) ?_;by_cases e:j=w
    ·left;(refine aj (e ..) ?_;refine aj (Ut ..) ?_;rfl)
    ·rcases h.don j hj with q|q
     ·left;(refine aj (q ..) ?_;refine aj (h0 j e ..) ?_;rfl)
     ·right
      rw [HU] at q;rcases aP.mp q with q|q
      ·exact absurd q e
      ·exact aj (gq (by lia) ..) (aE _ q)
  ·by_cases e:j=w
   ·(refine aj (e ..) ?_;refine aj (Ut ..) ?_;refine aj (y6 ho ..) ?_)
    rw [e] at hd;rcases hd.step with q|q
    ·refine aj (q ..) ?_;simp
    ·refine aj (jV ..) ?_
     right
     refine gj (fW ..) ?_;intro c hc;have hcd:=q c.1 ((C.mem w QW c.1).mpr (aG.mpr ⟨c,hc,rfl⟩));have uf:=C.lt w c hc;by_cases zC:c.1=0
     ·rw [zC] at hcd ⊢;(refine aj (h.z ..) ?_;refine aj (hcd.zero ..) ?_);rfl
     ·exact h.dom c.1 (by simp only [aP,e7,or_false];lia) o ho hcd
   ·refine aj (h0 j e ..) ?_;exact h.dom j hj o ho hd
end HJ.step
theorem HJ.step:HJ.step.S0 hs cs S m i ws:=by with_unfolding_all exact uD _ _ _ _ _ _ HJ.step.S0 @HJ.step.T0 hs cs S m i ws
theorem HJ.fin(C:Sx hs cs)(h:HJ hs cs m ws.length ws S):∀j∈[1,2,3,4,5],∀o,o < 6->((S j).testBit o=aI↔gI hs j o):=by
 have fixd:∀j∈[1,2,3,4,5],cU S cs j=S j:=λj hj=>(h.don j hj).elim id λq=>by rw [ox] at q;exact eo q
 have in5:∀b,b≠0->b < 6->b∈[1,2,3,4,5]:=λb h0 h6=>by simp only [aP,e7,or_false];lia
 intro j hj o ho;have hj0:j≠0:=by rintro rfl;revert hj;decide
 have HS:j < 6:=by revert hj;simp only [aP,e7,or_false];lia
 have key:=LU (hs:=hs) (D:=λb o=>gI hs b o\/(b < 6/\o < 6/\(S b).testBit o=aI)) (λo q=>by
  rcases q with q|⟨_,h6,q⟩
  ·exact q.zero
  ·rw [h.z] at q;have:∀o,o < 6->(1:Nat).testBit o=aI->o=0:=by decide
   exact this o h6 q) (λb o hb q=>by
  rcases q with q|⟨q6,h6,q⟩
  ·rcases q.step with e|e
   ·exact .inl e
   ·exact .inr λc hc=> .inl (e c hc)
  ·have zD:=in5 b hb q6;rw [<- fixd b zD,y6 h6,jV] at q;rcases q with q|q
   ·exact .inl (by simpa using q)
   ·refine .inr λc hc=>aK (aG.mp ((C.mem b zD c).mp hc)) λc' zp dO=>?_;subst dO;rw [fW] at q;exact .inr ⟨C.lt b c' zp,h6,q c' zp⟩) (λb o y hd=> .inl hd) (b:=j) (o:=o) hj0
 exact ⟨λq=>key.mp (.inr ⟨HS,ho,q⟩),h.dom j hj o ho⟩
end
variable {T W fd:ay}
theorem jH{α:Type}{p:List α->Prop}(h0:p [])(h1:∀l a,p l->p (l++[a])):∀l,p l:=λl=>by
 have:∀r:List α,p r.reverse:=λr=>by
  induction r with
  |nil=>exact h0
  |cons a r ih=>refine aj (CQ ..) ?_;exact h1 _ _ ih
 have:=this l.reverse
 rwa [List.reverse_reverse] at this
noncomputable def cR(l:List Nat):Cs:=l.foldl k7 []
theorem qU(arms:List (Nat×Nat))(q:Nat×Nat)(b:Nat):gT (arms++[q]) b=gT arms b++(if q.2=b then [q.1] else []):=by
 delta gT;refine aj (fX ..) ?_;refine aj (bj ..) ?_;refine aj (hZ ..) ?_;refine aj (qf ..) ?_;by_cases h:q.2=b
 ·simp [h]
 ·simp [h]
theorem Bf(arms:List (Nat×Nat))(b:Nat):(fG B0 0 arms).cs b=cR (gT arms b):=by
 induction arms using jH with
 |h0=>rfl
 |h1 l q ih=>
  refine aj (kF ..) ?_;refine aj (qU ..) ?_;show (if b=q.2 then k7 ((fG B0 0 l).cs b) q.1 else (fG B0 0 l).cs b)=_;unfold cR at*;refine aj (fu ..) ?_;refine fZ (ih ..) ?_;by_cases h:b=q.2
  ·(refine aj (if_pos h ..) ?_;refine aj (if_pos h.symm ..) ?_);rfl
  ·(refine aj (if_neg h ..) ?_;refine aj (if_neg (gf h) ..) ?_);rfl
set_option tactic.hygienic true in
theorem qb(l:List Nat)(c:Nat):c∈(cR l).map (·.1)↔c∈l:=by
 induction l using jH with
 |h0=>simp [cR]
 |h1 l a ih=>
  unfold cR at*;refine aj (fu ..) ?_;show c∈(k7 _ a).map (·.1)↔_;refine aj (oY ..) ?_;refine gj (bc ..) ?_;refine gj (aA ..) ?_
  split
  ·rename_i h;refine gj (ih ..) (⟨.inl,λq=>q.elim id λe=>?_⟩);subst e;exact ih.mp h
  ·(refine gj (bc ..) ?_;refine gj (ih ..) ?_;refine gj (aA ..) ?_;rfl)
theorem nt(arms:List (Nat×Nat))(b c:Nat):c∈sL arms b↔c < 6/\c∈gT arms b:=by delta sL eZ;refine gj (bo ..) ?_;refine gj (aY ..) ?_;refine aj (Gs ..) ?_;refine aj (decide_eq_true_eq ..) ?_;rfl
theorem kr{b c:Nat}(h:c∈gT (cW ds) b):c < 6:=by refine aK (aG.mp h) λq hq dO=>?_;subst dO;exact (qS q (bo.mp hq).1).1
theorem t7{b:Nat}(h:b < 6):(dh ds).getD b []=sL (cW ds) b:=by (refine aj (bR ..) ?_;refine aj (aJ ..) ?_;refine aj (bz h ..) ?_);rfl
theorem MD{b:Nat}(h:6<=b):(dh ds).getD b []=[]:=by (refine aj (bR ..) ?_;refine aj (il (by exact h) ..) ?_);rfl
theorem Pm(hB:Fd (lU ds) 20):Sx (dh ds) (lU ds).cs where
 lt:=λj c hc=>hB.lt j c hc
 mem:=λj hj c=>by
  have h6:j < 6:=by revert hj;simp only [aP,e7,or_false];lia
  refine aj (t7 h6 ..) ?_;refine gj (nt ..) ?_;refine aj (Bf ..) ?_;refine gj (qb ..) ?_;exact ⟨λq=>q.2,λq=>⟨kr q,q⟩⟩
theorem sh:zW (dh ds) where
 len:=by rfl
 lt:=λb c hc=>by
  rcases gX b 6 with h|h
  ·rw [t7 h,nt] at hc;exact hc.1
  ·rw [MD h] at hc;exact eo hc
 nd:=λb=>by
  rcases gX b 6 with h|h
  ·refine aj (t7 h ..) ?_;exact lp.filter _
  ·refine aj (MD h ..) ?_;exact kQ
noncomputable def exA:bH->CW| .Lambda a _ _ _=>a|_=>Fs
noncomputable def exB:bH->bH| .Lambda _ b _ _=>b|_=> .Constant .none 0 ⟨0,0,0,0⟩
noncomputable def exS:bH->eU| .Lambda _ _ s _=>s|_=>BA
noncomputable def QF:ed->bH| .If (.UnaryOp _ (.Call _ args _ _) _) _ _ _=>args.getD 3 (.Constant .none 0 ⟨0,0,0,0⟩)|_=> .Constant .none 0 ⟨0,0,0,0⟩
noncomputable def lz:bb:=md (cN 23)++".<locals>."++"<lambda>"
noncomputable def HL:bH:=QF ((fR (cN 23)).getD 21 (.Pass ⟨0,0,0,0⟩))
noncomputable abbrev pv(L c:ay)(ct:ai):cm:=yq lz (exA HL) (exB HL) (exS HL) [("table",L+20),("flags",L+16),("book",L+15)] c ct
structure Sy(G:Gd):Prop where
 la:DV G 306 304
def lV.S0(mu:Mu)(L T:ay)(ds:List Nat)(c':ay)(ct:ai)(ws:List Nat)(S:Nat->Nat)(w i4:Nat):Prop:=∀{k:Nat} {vs:ej} {fd:ay} {n6 m i:Nat} {lx:ay} (H:Hy G) (hB:Fd (lU ds) 20) (hS:Sv vs (S20 ds n6 lx T)) (hJ:HJ (dh ds) (lU ds).cs m i ws S) (hw:ws[i]? =ae w) (h1:cw L vs∈mu) (h2:mj fd (eh (pv L c' ct) av)∈mu) (h3:gG 304 [(273,49,c',lz)]∈mu) (h4:mu[i4]? =ae (cD T (ot (aF ds) S))),FW (k+5) mu (.ref fd) [.str (cB (aF ds+w))] λy nu=>y= .list ((qT (lU ds).cs S ws w).2.map λw=>V.str (cB (aF ds+w)))/\nu=mu.set i4 (cD T (ot (aF ds) (qT (lU ds).cs S ws w).1))
namespace lV
@[irreducible] def e0:=zJ gD cL cL gD cL gL gD inferInstance eN eN S0
def fb:=e0.1
def L_:=e0.2.1
def T_:=e0.2.2.1
def aV:=e0.2.2.2.1
def c'_:=e0.2.2.2.2.1
def NC:=e0.2.2.2.2.2.1
def qJ:=e0.2.2.2.2.2.2.1
def S_:=e0.2.2.2.2.2.2.2.1
def w_:=e0.2.2.2.2.2.2.2.2.1
def i4_:=e0.2.2.2.2.2.2.2.2.2
theorem T0:S0 fb L_ T_ aV c'_ NC qJ S_ w_ i4_:=by
 intro k vs fd n6 m i lx H hB hS hJ hw h1 h2 h3 h4;have d7:=eI aV;refine FL H.B (names:=["name"]) (vals':=λz=>[ae (.str (cB (aF aV+w_)))]) (Kn.obj h2) rfl (Kn.code h3 (q:=(273,49,c'_,lz)) aa) rfl (λvs h=>?_) (by show (aM 0 (exS HL).names).nd;decide+kernel) (λL_=>⟨rfl,rfl,rfl⟩) (λL2=>?_) (λL2=>?_)
 ·exact uP h λa=>rfl
 ·exact .cons (j:=0) .loc rfl .nil
 have he:du (dT (pv L_ c'_ NC) fd L2):=⟨rfl,rfl,rfl⟩;refine cq (H.f302.go) λob Uh cd' Jp h0 hd z=>?_;have QW:=hJ.in5 w_ (ao hw);refine ml (mn H he H.m_hear rfl) h0 hd (cA (cf (ah (j:=41) (L:=L_) (lay:=aM (L_+1) (bk (cN 23)).names) he (.free (L_+15) "book" rfl rfl rfl rfl rfl) (ab _ h1) (hS.get rfl)) (cA (cf (ah (j:=46) (L:=L_) (lay:=aM (L_+1) (bk (cN 23)).names) he (.free (L_+20) "table" rfl rfl rfl rfl rfl) (ab _ h1) (hS.get rfl)) (cA (cf (ah (j:=42) (L:=L_) (lay:=aM (L_+1) (bk (cN 23)).names) he (.free (L_+16) "flags" rfl rfl rfl rfl rfl) (ab _ h1) (hS.get rfl)) (cA (cf (ah (j:=0) he .loc aa rfl) (e9 ?_)))))))));refine (tL (k:=k) (i:=i4_+1) (T:=T_) (S:=S_) (B:=lU aV) (j:=w_) H d7 h4 hJ.ok (λb c hc=>hB.lt b c hc) (λb=>aw (hB.len b) (by decide)) QW).mono λy nu hy=>?_;delta qT;have key:nu=vR (pv L_ c'_ NC) L2 [ae (.str (cB (aF aV+w_)))]::fb.set i4_ (cD T_ (ot (aF aV) (oZ (lU aV).cs S_ w_)))->y= .list ((if cU S_ (lU aV).cs w_=S_ w_ then [] else qa (lU aV).cs w_).map λw_=>V.str (cB (aF aV+w_)))->jK y nu (λy nu=>y= .list ((oZ (lU aV).cs S_ w_,if cU S_ (lU aV).cs w_=S_ w_ then [] else qa (lU aV).cs w_).2.map λw_=>V.str (cB (aF aV+w_)))/\nu=fb.set i4_ (cD T_ (ot (aF aV) (oZ (lU aV).cs S_ w_,if cU S_ (lU aV).cs w_=S_ w_ then [] else qa (lU aV).cs w_).1))):=λe1 e2=>by
  refine aj (e1 ..) ?_;exact jK.tail (jK.keep ⟨e2,rfl⟩)
 rcases hy with ⟨q1,q2,q3⟩|⟨q1,q2,q3⟩
 ·have hT:oZ (lU aV).cs S_ w_=S_:=by
   funext b;delta oZ;by_cases hb:b=w_
   ·(refine aj (if_pos hb ..) ?_;refine aj (q1 ..) ?_;refine aj (hb ..) ?_;rfl)
   ·(refine aj (if_neg hb ..) ?_;rfl)
  refine key ?_ (by (refine aj (q2 ..) ?_;refine aj (if_pos q1 ..) ?_);rfl);refine aj (q3 ..) ?_;refine aj (hT ..) ?_;refine aj (j0 _ h4 ..) ?_;refine fZ (gh h4 ..) ?_;rfl
 ·refine key ?_ (by (refine aj (q2 ..) ?_;refine aj (if_neg q1 ..) ?_);rfl);refine aj (q3 ..) ?_;rfl
end lV
theorem lV{c':ay}{ct:ai}{ws:List Nat}{S:Nat->Nat}{w i4:Nat}:lV.S0 mu L T ds c' ct ws S w i4:=by with_unfolding_all exact uE _ _ _ _ _ _ _ _ _ _ lV.S0 @lV.T0 mu L T ds c' ct ws S w i4
noncomputable abbrev S21(ds:List Nat)(n6:Nat)(lx:ay)(S:Nat->Nat):List (Nat×V):=(46,.dict (ot (aF ds) S))::S19 ds n6 lx
structure si(hs:List (List Nat))(S:Nat->Nat):Prop where
 fin:∀j∈[1,2,3,4,5],∀o,o < 6->((S j).testBit o=aI↔gI hs j o)
 ok:∀b,S b < 64/\S b≠0
 z:S 0=1
noncomputable abbrev QG(P:ib)(N:Int)(cs:List Nat)(L fd T c':ay)(ct:ai)(vs:ej)(low:Nat)(mu:Mu)(S:Nat->Nat):Mu:=mj fd (eh (pv L c' ct) av)::cD T (ot low S)::cw L vs::((j6 P [] N cs).drop 1++(gG 304 [(273,49,c',lz)]::mu))
theorem Sz(H:Hy G)(LH:fM G K)(BH:yx K)(LL:Sy G){pm doc:ai}(he:du (bT pm doc L)){P:ib}(PO:mV P){N:Int}{cs:List Nat}(hS:Sv vs (S20 ds n6 P.lx T))(hR:pn ds n6 17 cs)(hB:Fd (lU ds) 20)
 (next:∀vs cs' S c',Sv vs (S21 ds n6 P.lx S)->pn ds n6 18 cs'->si (dh ds) S->WS (k+8) (cw L vs::(j6 P [] N cs'++(gG 304 [(273,49,c',lz)]::mu))) (bT pm doc L) (je 22) Θ):
 WS (k+8) (cD T (ot (aF ds) T0)::cw L vs::Gv P N cs mu) (bT pm doc L) (je 21) Θ:=by
 have hf:∀{vs} {l:Mu} {a:cX},bq L (aM (L+1) (bk (cN 23)).names) vs∈a::cw L vs::l:=ab _ aa;have hf2:∀{vs} {l:Mu} {a b:cX},bq L (aM (L+1) (bk (cN 23)).names) vs∈a::b::cw L vs::l:=ab _ (ab _ aa);refine cq (H.f297.go) λob2 x x x r0 rd x=>aK (hR.tok O1) λcs' ht Tf=>aC (xS (MB (HI (ml (mn H he H.m_run rfl) r0 rd (cA (cf (ah (j:=21) he (.cell (L+11) "lexer") hf (hS.get rfl)) (cA (Pg (dD (ah (j:=7) he (.cell (L+6) "names") hf (hS.get rfl))) (jo dM (eO aU) (eO (o8 aU))) (Ph (by decide) (by simp) λW=>?_)))))))));refine aj (jr ..) ?_;refine aj (show jq (aN 6) av (ae 0) (ae (-1))=[5,4,3,2,1] from Jb) ?_;refine fL.ref (cA (cf cO (cA (Cc (i:=10) he rfl LL.la H.B rfl rfl rfl rfl λfd c' ct=>e9 ?_))));have CK:=Pm hB;show FW (k+8) (mj fd (eh (pv L c' ct) av)::bl W ([5,4,3,2,1].map λb=>V.str (cB (aF ds+b)))::cD T (ot (aF ds) T0)::cw L vs::(j6 P [] N cs++(gG 304 [(273,49,c',lz)]::mu))) (.ref 297) [.ref P.lx,.ref W,.str "done",.ref fd] _;refine FW.to [1,3] ?_;show FW (k+8) (bl W ([5,4,3,2,1].map λb=>V.str (cB (aF ds+b)))::bl P.pb []::QG P N cs L fd T c' ct vs (aF ds) mu T0) (.ref 297) [.ref P.lx,.ref W,.str "done",.ref fd] _;have RH:rV (k+4) (λb=>cB (aF ds+b)) P.lx P.dx P.pb W fd (tj (N - (cs.count 10:Nat)) (.ref P.f) P.pb) (eh (pv L c' ct) av) (pv L c' ct) (QG P N cs L fd T c' ct vs (aF ds) mu) (qT (lU ds).cs) (HJ (dh ds) (lU ds).cs) (λc nu ws S=>c="done"/\nu=j6 P [] N cs'++(bl W (ws.map λb=>V.str (cB (aF ds+b)))::mj fd (eh (pv L c' ct) av)::cD T (ot (aF ds) S)::cw L vs::gG 304 [(273,49,c',lz)]::mu)):=⟨
  λS=>ao (i:=3) rfl,
  nN _ _ _,
  ab _ (ab _ (ab _ aa)),
  yN _ _ _,
  by show ("push_token":bb)∉(["lineno","instream","whitespace","pushback"]:List bb);decide,
  rfl,
  λS ws q=>Kn.obj (ao (i:=2) rfl),
  λm i ws S h=>⟨by have:=h.len;lia,h.le⟩,
  λm i ws S w h hw=>((lV (k:=k+2) (i4:=3) H hB hS h hw (ao (i:=4) rfl) (ao (i:=2) rfl) (ao (i:=11) rfl) rfl).mono λy nu e=>⟨e.1,by refine aj (e.2 ..) ?_;rfl⟩),
  λm i ws S w h hw=>h.step CK hw,
  λm ws S h=>by
   refine FW.to [1,4,4,4,4,4,4] (FW.mono (FW.app (bl W (ws.map λb=>V.str (cB (aF ds+b)))::mj fd (eh (pv L c' ct) av)::cD T (ot (aF ds) S)::cw L vs::gG 304 [(273,49,c',lz)]::mu) (xG (k:=k+2) H LH BH PO ht hR.len)) λy nu he=>?_);refine ef he λnu' e1 e2 e3=>?_;clear he;subst e1 e3;exact ⟨"done",by (refine aj (e2 ..) ?_;refine aj (Ck ..) ?_;rfl),rfl,rfl⟩⟩
 refine Qt (k:=k+4) H LH RH HJ.start λm ws S c nu hJ hf=>dU hf λe2 e3=>?_;clear hf;subst e2 e3;refine ⟨aI,by rfl,?_⟩;show WS (k+8) _ (bT pm doc L) [] _;refine bC ?_;show WS (k+8) (j6 P [] N cs'++(bl W (ws.map λb=>V.str (cB (aF ds+b)))::mj fd (eh (pv L c' ct) av)::cD T (ot (aF ds) S)::cw L vs::gG 304 [(273,49,c',lz)]::mu)) (bT pm doc L) (je 22) Θ;refine WF.to [7,7] (WF.drop1 (WF.drop1 (WF.to [8,7] (WF.frzD (j:=46) (hS.get rfl) ?_))));exact next _ cs' S c' (((hS.set (j:=46) (y:= .dict (ot (aF ds) S))).sub ⟨rfl,rfl,rfl,rfl,rfl,rfl,rfl,rfl,rfl,trivial⟩)) Tf ⟨hJ.fin CK,hJ.ok,hJ.z⟩
section
variable {Hm Nt cx dc lx:ay}{S:Nat->Nat}
noncomputable abbrev Gy(low:Nat)(l:List Nat):V:= .list (l.map λo=>V.str (cB (low+o)))
noncomputable def qW(low:Nat)(F:Nat->List Nat):List (bb×V):=bD low (aN 6) λb=>Gy low (F b)
noncomputable def qc(low n:Nat)(h:Nat->Nat):List (bb×V):=bD low ((aN n).map (·+1)) λb=> .str (cB (low+h b))
noncomputable abbrev Jf(ds:List Nat)(n6:Nat)(lx:ay)(S:Nat->Nat)(Hm Nt cx:ay):List (Nat×V):=(34,.ref cx)::(44,.ref Nt)::(33,.ref Hm)::S21 ds n6 lx S
theorem SA(H:Hy G)(LH:fM G K)(NH:uS K){pm doc:ai}(he:du (bT pm doc L))(hS:Sv vs (S21 ds n6 lx S))
 (next:∀vs Hm Nt cx dc,Sv vs (Jf ds n6 lx S Hm Nt cx)->WS (k+8) (cw L vs::cD Hm (qc (aF ds) 0 λz=>0)::cD Nt (qW (aF ds) λz=>[])::gH cx 245 dc [("comp_select_list",DK)]::mu) (bT pm doc L) (je 23) Θ):
 WS (k+8) (cw L vs::mu) (bT pm doc L) (je 22) Θ:=by
 have d7:=eI ds;refine aC (b4 (Ce (cA (xY H.B λHm=>fL.ref (cA (yB H.B (aN 6) (λb=> .str (cB (aF ds+b))) (λb=>(cB (aF ds+b),Gy (aF ds) [])) ⟨rfl,rfl,by decide+kernel,by decide+kernel⟩ (dA (ah (j:=7) he (.cell (L+6) "names") (ao (i:=1) rfl) (hS.get rfl))) (by lia) (by decide) (λC4 a ha=>BQ 1 he.comp .loc dk (λhb=>(ah (j:=1) he.comp .loc aa rfl)) (λhb=>ij (xs:=[]) aT (bg rfl))) (jx d7 (aN 6) (λb hb=>aY.mp hb) lp) (λNt=>fL.ref (cA (B6 LH.KO NH.k245 (mn H he H.m_comp rfl) (cA (cf (y:=DK) (ij (au (f9 (xs:=[.int 0,.int (-1)]) (au aU (au (o8 aU) aT)) (by show 2<=2 ^ 20;decide)) (au (f9 (xs:=[.int 1,.int (-2)]) (au aU (au (o8 aU) aT)) (by show 2<=2 ^ 20;decide)) (au (f9 (xs:=[.int 2,.int (-3)]) (au aU (au (o8 aU) aT)) (by show 2<=2 ^ 20;decide)) aT))) (by show 3<=2 ^ 20;decide)) (e9 (FW.mono (Iy H LH NH) λy2 ud hy=>?_)))))))))))) rfl rfl);refine eD hy λcx dc e3 e4=>?_;clear hy;subst e3 e4;refine e9 ⟨by show 3<=2 ^ 20;decide,i7 (cv rfl rfl ?_)⟩;refine aQ (i:=3) (j:=33) he .loc rfl (cv rfl rfl ?_);refine aQ (i:=3) (j:=44) he (.cell (L+18) "noted") rfl (cv rfl rfl ?_);refine aQ (i:=3) (j:=34) he .loc rfl (iX ?_);exact WF.from [3,2,1,0] rfl (next _ Hm Nt cx dc (((hS.set (j:=33) (y:= .ref Hm)).set (j:=44) (y:= .ref Nt)).set (j:=34) (y:= .ref cx)))
end
section
variable {x y:bH}{scope:eU}{C:ay}{v1 v2 v3 z:V}
theorem Pn(h1:PE k mu env x (.bool b))(h2:b=aI->PE k mu env y (.bool c)):PE k mu env (.BoolOp .And [x,y] pos) (.bool (b && c)):=⟨λ{z z z z z z} hA r q=>by
 refine wpAny_And2 (h1.c hA r λ{v s1 Z1} z1 q1 r1=>?_);refine aj (aZ.boolE q1 ..) (eV ?_);cases b with
 |false=>exact q z1 (.bool _) r1
 |true=>exact (h2 rfl).c hA r1 λ{z z z} z2=>q (z1.trans z2)⟩
theorem Bg(hl:es.length<=1000):Fn k mu (.type "list") [bZ (.dict es)] (bZ (.list (es.map λq=> .str q.1))):=⟨λ{A E Z s fr vs Q} hA r hq q=>by
 refine aK (hq.one) λv dO p=>?_;subst dO;refine jZ (m7 r p) λd kvs ep eT hs hD hO hk hr hzd PR=>?_;subst eT;have hlen:kvs.length=es.length:=by (refine fZ (ak (f:=(·.1)) ..) ?_;refine aj (hk ..) ?_;refine aj (ak ..) ?_;rfl)
 refine kdl_call (kdl_dict (prog:=G.prog) (w:=G.w) (knd:=strKind G.prog G.w) (kvs:=kvs) (ep:=ep) hs) hA.hh hD (by show _<=2 ^ 24;lia) λh' tk SS c' Tg hg hi=>?_;have hz:=r.fresh (bp s.heap.objs.size);refine q (bI.le_put hz) (aZ.list (vs:=SS) (n:=c') (bI.put_self ..) (bW.ofGets ?_ λi v y hv hy=>?_)) (R.freeze (r.keep (tk:=tk) Tg) hg hz (r.notOwn (bp _)))
 ·have:=hi.1;simp;lia
 ·refine eD (hi.2 i v (bV.symm.trans hv)) λkey x h1 h2=>?_;have h3:(es.map (·.1))[i]? =ae key:=by (refine fZ (hk ..) ?_;refine aj (aJ ..) ?_;refine aj (h1 ..) ?_);rfl
  rw [aJ] at h3 hy;refine aK (aL.mp h3) λq h4 gi=>?_;subst gi;rw [h4] at hy
  (have lA:=aO hy;clear hy;subst lA)
  refine cJ (E0 (show Value.isStrOf q.1 v=aI from h2)) λt iC=>?_;subst iC;exact .str _ _⟩
theorem Po{x:bb}{d:V}:Fn k mu (.builtin "dict.get") [bZ (.dict es),bZ (.str x),bZ d] (bZ ((mf es x).getD d)):=⟨λ{A E Z s fr vs Q} hA r hq q=>by
 refine lG (hq.three) λv u w kG q1 q2 q3=>?_;subst kG;refine jZ (m7 r q1) λdd kvs ep ma hs hD hO hk hr hzd PR=>?_;subst ma;refine cJ (gV q2) λtk mE=>?_;subst mE;refine JG Q5 hO.typeIs PySem.F.entry_dict_get (PySem.F.args_dict_get_3 _ _ _) (meets_dict_get_default (knd:=strKind G.prog G.w) (d:=dd) (hkey:=zu G.prog G.w _ tk) (hd:=hs) (dflt:=_)) ⟨_,hO.mapOf,?_⟩;cases hg:mf es x with
 |none=>rw [hg] at q;refine aj (tg hk hg ..) ?_;exact q .rfl q3 r.toks
 |some y=>rw [hg] at q;refine aK (uL hk hr hg) λv' h1 h2=>aj (h1 ..) ?_;exact q .rfl h2 r.toks⟩
theorem SD{di:gP}{t u m:bb}{ifs:List bH}{elt:bH}{kk kk2:Nat}{p1 p2 p3 p4:jC}(i j l:Nat)(he:du di)(s1:Sl di C (aM (C+1) scope.names) t i)(s2:Sl di C (aM (C+1) scope.names) u j)(s3:Sl di C (aM (C+1) scope.names) m l)
 (hi:xc k (nE scope C ((((nones (aM (C+1) scope.names)).set i (ae v1)).set j (ae v2)).set l (ae v3))::mu) di ifs b) (h:b=aI->PE k (nE scope C ((((nones (aM (C+1) scope.names)).set i (ae v1)).set j (ae v2)).set l (ae v3))::mu) di elt z)
 (hf1:autoParam ((di.kindOf t == ae .free)=aH) aR) (hf2:autoParam ((di.kindOf u == ae .free)=aH) aR) (hf3:autoParam ((di.kindOf m == ae .free)=aH) aR):
 zP k mu scope C di (.Tuple [.Name t p1,.Tuple [.Name u p2,.Name m p3] kk2 p4] kk p) ifs elt (.tup [v1,.tup [v2,v3]]) b z:=
 ⟨_,i7 (cv rfl rfl (aQ (i:=0) he s1 rfl (cv rfl rfl (xC he s2 s3 hf2 hf3 |>.mono λnu e=>by subst e;exact iX rfl)) hf1)),hi,h⟩
theorem Bh{α:Type}{as:List α}:jq as av av (ae 1)=as/\(as.length=6->jq as av av (ae (-1))=as.reverse):=by
 constructor
 ·have e:c7 av av (ae 1) as.length=(((0:Nat):Int),((0+as.length:Nat):Int),1):=by
   unfold c7;simp
  unfold jq;refine aj (e ..) ?_;simp only;refine aj (pT ..) ?_;refine aj (pU ..) ?_;refine aj (fy ..) ?_;refine aj (cK ..) ?_;rfl
 ·intro h;unfold jq;refine aj (h ..) ?_;refine aj (show zv (c7 av av (ae (-1)) 6).1 (c7 av av (ae (-1)) 6).2.1 (c7 av av (ae (-1)) 6).2.2=[5,4,3,2,1,0] from by decide) ?_;exact len6 h λa b c d e f=>rfl
theorem HM{A:bh}{s:aq}{Z:bI}{kb:List (bb×ai)}{es:List (bb×Int)}(hkb:kb.map (·.1)=(es.map λq=>(q.1,V.int q.2)).map (·.1))(hrb:bW G Z (kb.map (·.2)) ((es.map λq=>(q.1,V.int q.2)).map (·.2)))(hnd:(es.map (·.1)).Nodup):
 ∀{fs:List (bb×Int)} {ka:List (bb×ai)},(∀q∈fs,q∈es)->ka.map (·.1)=fs.map (·.1)->bW G Z (ka.map (·.2)) (fs.map λq=>V.int q.2)->KeqHits A s kb ka aI
 |[],[],_,_,_=> .nil
 |[],_::_,_,h,_=>by exact J3 h
 |_::_,[],_,h,_=>by exact Q9 h
 |q::fs,(key,v)::ka,ql,h1,h2=>by
  simp only [bA,GP] at h1;refine dU h1 λh1a h1b=>?_;clear h1;have h1a:key=q.1:=h1a;subst h1a;cases h2 with
  |cons hv hr=>
  have hg:mf (es.map λq=>(q.1,V.int q.2)) q.1=ae (.int q.2):=by
   have hq:=ql q aa;clear ql h1b hkb hrb hr;induction es with
   |nil=>exact eo hq
   |cons a es ih=>
    rw [bA,cg] at hnd;unfold mf at ih ⊢;refine aj (bA ..) ?_;refine aj (jW ..) ?_;rcases aP.mp hq with e|e
    ·subst e;simp
    ·have iP:a.1≠q.1:=λe2=>hnd.1 (e2▸aG.mpr ⟨q,e,rfl⟩);simp only [iP,decide_false];exact ih hnd.2 e
  refine aK (uL hkb hrb hg) λy h3 h4=>cJ (gF hv) λt1 q7=>?_;subst q7;refine cJ (gF h4) λt2 ue=>?_;subst ue;have he:=SeqAt.EqAt.int_int (A:=A) (s:=s) q.2 t1 q.2 t2;rw [beq_self_eq_true] at he;exact .hit h3 he (HM hkb hrb hnd (λr hr=>ql r (ab _ hr)) h1b hr)
theorem EB{A:bh}{E:ai->aq->Prop}{s:aq}{Z:bI}{v u:ai}{es:List (bb×Int)}{Q:Bool->aq->Prop}(r:R Z mu s)(hu:A.units < 9900)(hnd:(es.map (·.1)).Nodup)(h1:aZ G Z v (.dict (es.map λq=>(q.1,V.int q.2))))(h2:aZ G Z u (.dict (es.map λq=>(q.1,V.int q.2))))(h:Q aI s):
 aS (aX G.prog G.w) A (eqBool v u) Q E s:=by
 refine qr (m7 r h1) λd1 k1 ep1 mP zi z hO1 S8 hr1 z=>?_;subst mP;refine qr (m7 r h2) λd2 k2 ep2 so GF z hO2 hk2 hr2 z=>?_;subst so;by_cases hd:d1=d2
 ·subst hd;exact SeqAt.EqAt.same _ G.prog G.w E Q h
 ·unfold eqBool;refine bE (f5 (λxa=>absurd (by have:=jE xa;injection this) hd) (λz=>?_));have hl:k1.length=k2.length:=by have a:=congrArg kM S8;have b:=congrArg kM hk2;simp at a b;lia
  refine ag (keq_eq zi GF hO1 hO2 hu (λz=>HM hk2 hr2 hnd (λq hq=>hq) (S8.trans (by refine aj (a0 ..) ?_;rfl)) (by rw [a0] at hr1;exact hr1)) ?_);refine aj (hl ..) ?_;refine aj (beq_self_eq_true ..) ?_;refine aj (Nw ..) ?_;exact eV h
theorem ME{A:bh}{E:ai->aq->Prop}{s:aq}{l b:ay}{items items2:Array ai}{Q:ai->aq->Prop}(hl:s.heap.IsTuple l items)(hb:s.heap.IsTuple b items2)(hs:items.size=items2.size)(hu:A.units < 9900)
 (he:∀j (h1:j < items.size) (h2:j < items2.size) (E:ai->aq->Prop) (Q:Bool->aq->Prop),Q aI s->aS (aX G.prog G.w) A.in1 (eqBool items[j] items2[j]) Q E s) (h:Q (.bool aH) s):aS (aX G.prog G.w) A (compareOp .NotEq (.ref l) (.ref b)) Q E s:=by
 obtain ⟨⟨cls,dd,data,sl⟩,ho,hc,n,hd⟩:=id hl;obtain ⟨⟨cls2,dd2,data2,sl2⟩,NK,hc2,n2,hd2⟩:=id hb;simp only at hc hd hc2 hd2;subst hc hd hc2 hd2;refine wpAny_richCompare_same_room (op:= .NotEq) hl.typeIs hb.typeIs Q6 (dp Q6 hl.typeIs PySem.F.entry_tuple_ne ?_ (PySem.F.args_tuple_ne_2 _ _)) hu;obtain ⟨hp,g,d,tk,os⟩:=s;have f2:=AutoSeq1.sub_tuple_tuple
 wp_walk using AutoSeq1.wpAny_loadPart' ho,AutoSeq1.wpAny_loadPart' NK,wpAny_forIn_list _ (λrest acc s'=>acc.1=av/\s'=⟨hp,g,d,tk,os⟩/\∃i,rest=(items.toList.zip items2.toList).drop i) _
 case turn=>
  rintro ⟨u,v⟩ rest acc s' ⟨ha,rfl,i,hz⟩;have hlt:i < (items.toList.zip items2.toList).length:=uz λq=>by rw [Qe q] at hz;exact J3 hz
  have M9:i < items.size/\i < items2.size:=by simp at hlt;omega
  rw [dZ hlt] at hz;refine dU (s7 hz) λe1 e2=>?_;have hu:u=items[i]:=by have:=congrArg uy e1;simpa using this
  have hv:v=items2[i]:=by have:=congrArg Prod.snd e1;simpa using this
  subst hu hv;refine ag (he i M9.1 M9.2 _ _ ?_)
  wp_walk
  exact ⟨rfl,rfl,i+1,e2⟩
 case fin=>
  rintro ⟨acc1,acc2⟩ s' ⟨ha,rfl,i,hz⟩;simp only at ha;subst ha
  wp_walk
  refine ⟨_,rfl,?_,?_⟩
  ·simp [qj]
  ·simpa [qj,hs] using h
 case h=>exact ⟨rfl,rfl,0,rfl⟩
end
def okEq(x:V):Prop:=(∃i,x= .int i)\/∃es:List (bb×Int),(es.map (·.1)).Nodup/\x= .dict (es.map λq=>(q.1,V.int q.2))
theorem MF(h:∀x∈xs,okEq x):ta k mu .NotEq (bZ (.tup xs)) (bZ (.tup xs)) aH:=⟨λ{A E Z s fr v u T} hA r hp hq q=>by
 have hu:=hA.uni;refine dK (aZ.tup_inv hp) λa o vs n dO z1 z2 z3 z4=>?_;subst dO;refine dK (aZ.tup_inv hq) λa' o' rr n' eT y1 y2 y3 y4=>?_;subst eT;refine ME ⟨o,r.zin _ _ z1,z2,n,z3⟩ ⟨o',r.zin _ _ y1,y2,n',y3⟩ ((b9 z4).symm.trans (b9 y4)) (by lia) (λj h1 h2 E Q hQ=>?_) (q .rfl (.bool _) r);refine aK (z4.get' (bV.trans (dY h1))) λx hx hr1=>?_;have hr2:=nC y4 hx (dY h2);rcases h x (ao hx) with ⟨i,rfl⟩|⟨es,hnd,rfl⟩
 ·refine cJ (gF hr1) λt1 e1=>cJ (gF hr2) λt2 e2=>?_;have he:=SeqAt.EqAt.int_int (A:=A.in1) (s:=s) i t1 i t2;rw [beq_self_eq_true] at he;refine aj (e1 ..) ?_;refine aj (e2 ..) ?_;exact he G.prog G.w E Q hQ
 ·exact EB r (by have:A.in1.units=A.units+1:=rfl;lia) hnd hr1 hr2 hQ⟩
noncomputable def ja(arms:List (Nat×Nat))(b:Nat):List ((Nat×Nat)×Nat):=arms.zipIdx.filter λq=>q.1.2 == b
theorem qd(arms:List (Nat×Nat))(q:Nat×Nat)(b:Nat):ja (arms++[q]) b=ja arms b++(if q.2=b then [(q,arms.length)] else []):=by unfold ja;refine aj (List.zipIdx_append ..) ?_;refine aj (fX ..) ?_;congr 1;simp only [oy,List.zipIdx_nil,eC,hZ,qf];by_cases h:q.2=b <;> simp [h]
theorem jI(arms:List (Nat×Nat))(b:Nat):(ja arms b).map (·.1.1)=gT arms b:=by
 induction arms using jH with
 |h0=>rfl
 |h1 l q ih=>
  refine aj (qd ..) ?_;refine aj (qU ..) ?_;refine aj (bj ..) ?_;refine aj (ih ..) ?_
  split <;> rfl
theorem EC(arms:List (Nat×Nat))(b:Nat):(ja arms b).length<=arms.length:=by unfold ja;exact aw (bu _ _) (by simp)
theorem Pp(arms:List (Nat×Nat))(b:Nat):∀q∈ja arms b,q.2 < arms.length:=λq hq=>by
 have:=List.mem_zipIdx (bo.mp hq).1;omega
theorem bk_b(arms:List (Nat×Nat))(b:Nat):(fG B0 0 arms).b b=((ja arms b).length:Nat):=by
 induction arms using jH with
 |h0=>rfl
 |h1 l q ih=>
  refine aj (kF ..) ?_;refine aj (qd ..) ?_;refine aj (ba ..) ?_;show (if b=q.2 then 1+(fG B0 0 l).b b else (fG B0 0 l).b b)=_;refine aj (ih ..) ?_;by_cases h:b=q.2
  ·(refine aj (if_pos h ..) ?_;refine aj (if_pos h.symm ..) ?_);simp;lia
  ·(refine aj (if_neg h ..) ?_;refine aj (if_neg (gf h) ..) ?_);simp
theorem bk_c(arms:List (Nat×Nat))(b:Nat):(fG B0 0 arms).c b=((ja arms b).map λq=>((q.2:Nat):Int)).sum:=by
 induction arms using jH with
 |h0=>rfl
 |h1 l q ih=>
  refine aj (kF ..) ?_;refine aj (qd ..) ?_;refine aj (bj ..) ?_;refine aj (vt ..) ?_;show (if b=q.2 then ((0+l.length:Nat):Int)+(fG B0 0 l).c b else (fG B0 0 l).c b)=_;refine aj (ih ..) ?_;by_cases h:b=q.2
  ·(refine aj (if_pos h ..) ?_;refine aj (if_pos h.symm ..) ?_);simp;lia
  ·(refine aj (if_neg h ..) ?_;refine aj (if_neg (gf h) ..) ?_);simp
theorem bk_d(arms:List (Nat×Nat))(b:Nat):(fG B0 0 arms).d b=((ja arms b).map λq=>((q.2:Nat):Int)*q.2).sum:=by
 induction arms using jH with
 |h0=>rfl
 |h1 l q ih=>
  refine aj (kF ..) ?_;refine aj (qd ..) ?_;refine aj (bj ..) ?_;refine aj (vt ..) ?_;show (if b=q.2 then ((0+l.length:Nat):Int)*((0+l.length:Nat):Int)+(fG B0 0 l).d b else (fG B0 0 l).d b)=_;refine aj (ih ..) ?_;refine aj (eC ..) ?_;by_cases h:b=q.2
  ·(refine aj (if_pos h ..) ?_;refine aj (if_pos h.symm ..) ?_);simp;lia
  ·(refine aj (if_neg h ..) ?_;refine aj (if_neg (gf h) ..) ?_);simp
theorem bk_a(arms:List (Nat×Nat))(b:Nat):(fG B0 0 arms).a b=((ja arms b).length:Nat) - ((gT arms b).count b:Nat):=by
 induction arms using jH with
 |h0=>rfl
 |h1 l q ih=>
  refine aj (kF ..) ?_;refine aj (qd ..) ?_;refine aj (qU ..) ?_;refine aj (ba ..) ?_;refine aj (sW ..) ?_;show (if b=q.2 then (if q.1=q.2 then (0:Int) else 1)+(fG B0 0 l).a b else (fG B0 0 l).a b)=_;refine aj (ih ..) ?_;by_cases h:b=q.2
  ·(refine aj (if_pos h ..) ?_;refine aj (if_pos h.symm ..) ?_;refine aj (if_pos h.symm ..) ?_)
   by_cases e:q.1=q.2
   ·(refine aj (if_pos e ..) ?_;refine aj (h ..) ?_;refine aj (e ..) ?_);simp;lia
   ·refine aj (if_neg e ..) ?_;have:Ao b [q.1]=0:=by refine gj (mD ..) ?_;intro hm;rw [aA] at hm;exact e (by refine fZ (hm ..) ?_;exact h)
    refine aj (this ..) ?_;simp;lia
  ·(refine aj (if_neg h ..) ?_;refine aj (if_neg (gf h) ..) ?_;refine aj (if_neg (gf h) ..) ?_);simp
noncomputable def fE(l:List Nat):List Nat:=l.foldl (λacc c=>if c∈acc then acc else acc++[c]) []
theorem nY(l:List Nat)(a:Nat):fE (l++[a])=if a∈fE l then fE l else fE l++[a]:=by unfold fE;refine aj (fu ..) ?_;rfl
set_option tactic.hygienic true in
theorem nx(l:List Nat)(c:Nat):c∈fE l↔c∈l:=by
 induction l using jH with
 |h0=>simp [fE]
 |h1 l a ih=>
  refine aj (nY ..) ?_;refine gj (bc ..) ?_;refine gj (aA ..) ?_
  split
  ·rename_i h;refine gj (ih ..) (⟨.inl,λq=>q.elim id λe=>?_⟩);subst e;exact ih.mp h
  ·(refine gj (bc ..) ?_;refine gj (ih ..) ?_;refine gj (aA ..) ?_;rfl)
set_option tactic.hygienic true in
theorem w9(l:List Nat):(fE l).Nodup:=by
 induction l using jH with
 |h0=>exact kQ
 |h1 l a ih=>
  refine aj (nY ..) ?_
  split
  ·exact ih
  ·rename_i h;exact gj (bP ..) (⟨ih,by simp,λx hx y hy e=>by rw [aA] at hy;subst hy;subst e;exact h hx⟩)
theorem sj(l:List Nat):cR l=(fE l).map λc=>(c,((l.count c:Nat):Int)):=by
 induction l using jH with
 |h0=>rfl
 |h1 l a ih=>
  have e1:cR (l++[a])=k7 (cR l) a:=by unfold cR;refine aj (fu ..) ?_;rfl
  refine aj (e1 ..) ?_;refine aj (ih ..) ?_;refine aj (nY ..) ?_;unfold k7;have GJ:((fE l).map λc=>(c,((l.count c:Nat):Int))).any (λp=>p.1=a)=decide (a∈fE l):=by
   refine gj (cj ..) ?_;refine gj (cS ..) ?_;refine aj (decide_eq_true_eq ..) ?_;constructor
   ·intro gi;refine aK gi λq hq h=>?_;clear gi;refine aK (aG.mp hq) λc hc iC=>?_;subst iC;have:c=a:=by simpa using h
    exact this▸hc
   ·intro h;exact ⟨_,aG.mpr ⟨a,h,rfl⟩,by simp⟩
  refine aj (GJ ..) ?_;by_cases h:a∈fE l
  ·(refine aj (decide_eq_true h ..) ?_;refine aj (if_pos rfl ..) ?_;refine aj (if_pos h ..) ?_;refine aj (a0 ..) ?_)
   refine b5 λc hc=>?_;simp only [l7];by_cases e:c=a
   ·subst e;simp
   ·(refine aj (if_neg e ..) ?_;refine aj (sW ..) ?_;refine aj (show Ao c [a]=0 from mD.mpr (by simp [e])) ?_);simp
  ·(refine aj (decide_eq_false h ..) ?_;refine aj (if_neg (by decide) ..) ?_;refine aj (if_neg h ..) ?_;refine aj (bj ..) ?_)
   have h0:a∉l:=λq=>h ((nx l a).mpr q);congr 1
   ·refine b5 λc hc=>?_;have e:c≠a:=λe=>h (e▸hc);(refine aj (sW ..) ?_;refine aj (show Ao c [a]=0 from mD.mpr (by simp [e])) ?_);simp
   ·(refine aj (List.map_singleton ..) ?_;refine aj (sW ..) ?_;refine aj (mD.mpr h0 ..) ?_);simp
theorem MG{nm:Nat->bb}{g:Nat->V}:∀l:List Nat,(∀a∈l,∀b∈l,nm a=nm b->a=b)->rF (l.map λc=>(nm c,g c))=(fE l).map λc=>(nm c,g c):=by
 intro l;induction l using jH with
 |h0=>intro z;rfl
 |h1 l a ih=>
  intro Tj;have hi:∀x∈l,∀y∈l,nm x=nm y->x=y:=λx hx y hy=>Tj x (aE _ hx) y (aE _ hy);refine aj (bj ..) ?_;refine aj (List.map_singleton ..) ?_;refine aj (xW ..) ?_;refine aj (ih hi ..) ?_;refine aj (nY ..) ?_;have GJ:((fE l).map λc=>(nm c,g c)).any (λkv=>kv.1=nm a)=decide (a∈fE l):=by
   refine gj (cj ..) ?_;refine gj (cS ..) ?_;refine aj (decide_eq_true_eq ..) ?_;constructor
   ·intro kG;refine aK kG λq hq h=>?_;clear kG;refine aK (aG.mp hq) λc hc ma=>?_;subst ma;have zp:=(nx l c).mp hc;have:c=a:=Tj c (aE _ zp) a (by exact bL _ aa) (by simpa using h);exact this▸hc
   ·intro h;exact ⟨_,aG.mpr ⟨a,h,rfl⟩,by simp⟩
  unfold jF;refine aj (GJ ..) ?_;by_cases h:a∈fE l
  ·(refine aj (decide_eq_true h ..) ?_;refine aj (if_pos rfl ..) ?_;refine aj (if_pos h ..) ?_;refine aj (a0 ..) ?_)
   refine b5 λc hc=>?_;simp only [l7];have zp:=(nx l c).mp hc;by_cases e:nm c=nm a
   ·have:c=a:=Tj c (aE _ zp) a (by exact bL _ aa) e;subst this;simp
   ·(refine aj (if_neg e ..) ?_;rfl)
  ·(refine aj (decide_eq_false h ..) ?_;refine aj (if_neg (by decide) ..) ?_;refine aj (if_neg h ..) ?_;refine aj (bj ..) ?_);rfl
theorem ED:∀i,i < 33->cnt 44 (cB i).cps.toList=0:=by decide+kernel
theorem Cu(c:Nat):∀l m:List Nat,cnt c (l++m)=cnt c l+cnt c m
 |[],m=>by simp [cnt_nil]
 |a::l,m=>by (refine aj (fU ..) ?_;refine aj (cnt_cons ..) ?_;refine aj (cnt_cons ..) ?_;refine aj (Cu c l m ..) ?_);lia
theorem EE:∀ts:List (List Nat),(∀t∈ts,cnt 44 t=0)->ts≠[]->cnt 44 (glue ts)=(ts.length:Int) - 1
 |[],_,h=>absurd rfl h
 |[t],h,_=>by (rewrite [glue];refine aj (h t aa ..) ?_);simp
 |t::u::r,h,_=>by
  (rewrite [glue];refine aj (Cu ..) ?_;refine aj (Cu ..) ?_;refine aj (h t aa ..) ?_;refine aj (EE (u::r) (λx hx=>h x (ab _ hx)) (by simp) ..) ?_;refine aj (cnt_cons ..) ?_;refine aj (cnt_cons ..) ?_;refine aj (cnt_nil ..) ?_;refine aj (if_pos rfl ..) ?_;refine aj (if_neg (show ¬(32:Nat)=44 by decide) ..) ?_)
  simp only [bK];lia
theorem u9{low S:Nat}(hl:low < 28)(hS:S < 64/\S≠0):Nm (iy low S) ","=((eZ S).length - 1:Nat):=by
 have iP:=B4 hS.1 hS.2;show Nm (iy low S) ⟨#[44]⟩=_;rw [count_cnt];unfold iy;cases hb:eZ S with
 |nil=>exact absurd hb iP
 |cons a l=>
  rw [bA,yg,EE _ (λt ht=>?_) (by simp)]
  ·simp
  ·rw [<- bA (f:=λb=>cB (low+b)),<- hb,a0] at ht;refine aK (aG.mp ht) λb hbm mE=>?_;subst mE;exact ED _ (by have:=vT hbm;lia)
end
section
variable {k n6 b:Nat}{mu nu:Mu}{vs:ej}{Θ:AF->Mu->Prop}{L Hm Nt cx dc lx:ay}{ds:List Nat}{K:fl}{S:Nat->Nat}
noncomputable def HN:ed->List ed| .For _ _ b _ _=>b|_=>[]
noncomputable def y7(n:Nat):List ed:=(HN ((fR (cN 23)).getD 23 (.Pass ⟨0,0,0,0⟩))).drop n
noncomputable abbrev QI(q:(Nat×Nat)×Nat):V:= .tup [nV q.2,nV q.1.1]
noncomputable abbrev zB(ds:List Nat)(b:Nat):List ((Nat×Nat)×Nat):=ja (cW ds) b
noncomputable abbrev cls(ds:List Nat)(b:Nat):List Nat:=gT (cW ds) b
noncomputable abbrev S23(ds:List Nat)(n6:Nat)(lx:ay)(S:Nat->Nat)(Hm Nt cx:ay)(b:Nat):List (Nat×V):=(9,nV b)::Jf ds n6 lx S Hm Nt cx
noncomputable abbrev Pq(ds:List Nat)(n6:Nat)(lx:ay)(S:Nat->Nat)(Hm Nt cx:ay)(b:Nat)(W:List (List Nat)):List (Nat×V):=(36,.list (W.map wV))::(35,FU (aF ds) (cR (cls ds b)))::(27,.list ((zB ds b).map QI))::S23 ds n6 lx S Hm Nt cx b
theorem Pr:(cls ds b).length<=20:=by refine aj (show cls ds b=(ja (cW ds) b).map (·.1.1) from (jI _ _).symm) ?_;refine aj (ak ..) ?_;exact aw (EC _ _) (lT 2)
theorem qX:(zB ds b).length<=20:=aw (EC _ _) (lT 2)
theorem EF(l:List Nat)(c:Nat):(l.map fB).countP (· == (c:Int))=l.count c:=by refine aj (List.countP_map ..) ?_;delta Ao;congr 1;funext x;refine gj (cj ..) ?_;simp only [l7,beq_iff_eq];exact Nx
def y8.S0(k:Nat)(mu:Mu)(vs:ej)(Θ:AF->Mu->Prop)(L Hm Nt:ay)(ds:List Nat)(b:Nat)(pm doc:ai)(_:Nat):Prop:=∀{cx lx:ay} {n6:Nat} {S:Nat->Nat} (H:Hy G) (he:du (bT pm doc L)) (hb:b < 6) (hS:Sv vs (S23 ds n6 lx S Hm Nt cx b)) (next:∀vs W,Sv vs (Pq ds n6 lx S Hm Nt cx b W)->W.length<=2000->(∀w,w∈W↔wb (dh ds) b [0] w)->WS (k+8) (cw L vs::mu) (bT pm doc L) (y7 3) Θ),WS (k+8) (cw L vs::mu) (bT pm doc L) (y7 0) Θ
namespace y8
@[irreducible] def e0:=HX eN gD gD s9 cL cL cL gD eN gL gL eN S0
def k_:=e0.1
def fb:=e0.2.1
def kR:=e0.2.2.1
def Θ_:=e0.2.2.2.1
def L_:=e0.2.2.2.2.1
def xK:=e0.2.2.2.2.2.1
def xi:=e0.2.2.2.2.2.2.1
def aV:=e0.2.2.2.2.2.2.2.1
def b_:=e0.2.2.2.2.2.2.2.2.1
def pj:=e0.2.2.2.2.2.2.2.2.2.1
def g8:=e0.2.2.2.2.2.2.2.2.2.2.1
theorem T0:S0 k_ fb kR Θ_ L_ xK xi aV b_ pj g8 e0.2.2.2.2.2.2.2.2.2.2.2:=by
 intro cx lx n6 S H he hb hS next
 have d7:=eI aV;have hf:∀{kR} {l:Mu},bq L_ (aM (L_+1) (bk (cN 23)).names) kR∈cw L_ kR::l:=aa;have Nb:=lT (ds:=aV) 2;refine aC (bX (y:= .list ((zB aV b_).map QI)) (bM (nF (cW aV).zipIdx (λq=>V.tup [.int (q.2:Nat),kH q.1]) (λq=>((q.1.2:Int) == (b_:Int))) QI ⟨rfl,rfl,by decide+kernel,by decide+kernel⟩ (sC (iN H he H.b_enumerate rfl) (ah (j:=10) he (.cell (L_+9) "arms") hf (hS.get rfl))) (by lia) (by refine aj (eX ..) ?_;exact aw Nb (by decide)) (λC1 q hq=>SD 1 2 3 he.comp .loc .loc .loc (fS (c9 (ah (j:=3) he.comp .loc aa rfl) (ah (j:=9) he.comp (.cell (L_+8) "block") (ab _ hf) (hS.get rfl)) qu)) (λz=>f9 (xs:=[nV q.2,nV q.1.1]) (au (ah (j:=1) he.comp .loc aa rfl) (au (ah (j:=2) he.comp .loc aa rfl) aT)) (by show 2<=2 ^ 20;decide)))) ?c1) (aQ (i:=0) (j:=27) he (.cell (L_+13) "told") rfl ?_) rfl rfl)
 case c1=>refine congrArg V.list ?_;congr 1;delta zB ja;refine fz λq z=>?_;refine gj (cj ..) ?_;simp only [beq_iff_eq];exact Nx
 have hS1:=hS.set (j:=27) (y:= .list ((zB aV b_).map QI));have uf:∀q∈zB aV b_,q.1.1 < 6:=λq hq=>by
  have:q.1.1∈cls aV b_:=by refine aj (show cls aV b_=(ja (cW aV) b_).map (·.1.1) from (jI _ _).symm) ?_;exact aG.mpr ⟨q,hq,rfl⟩
  exact kr this
 refine aC (WX_dc H.B (zB aV b_) QI (λz=>aI) (λq=>(cB (aF aV+q.1.1),V.int ((cls aV b_).count q.1.1:Nat))) ⟨rfl,rfl,by decide+kernel,by decide+kernel⟩ (dA (ah (j:=27) he (.cell (L_+13) "told") hf (hS1.get rfl))) (by lia) (aw qX (by decide)) (λC1 q hq=>KF 1 2 he.comp .loc .loc dk (λz=>(bF (dD (ah (j:=7) he.comp (.cell (L_+6) "names") (ab _ hf) (hS1.get rfl))) (ah (j:=2) he.comp .loc aa rfl) (ew (j:=q.1.1) (inj:=λb_=>V.str (cB (aF aV+b_))) (bz (uf q hq)) (by decide)))) (λz=>bM (f7 (dD (bM (jP (zB aV b_) QI (λq=>nV q.1.1) ⟨rfl,rfl,by decide+kernel,by decide+kernel⟩ (dA (ah (j:=27) he.comp (.cell (L_+13) "told") (ab _ hf) (hS1.get rfl))) (by lia) (aw qX (by decide)) (λC2 r hr=>tI 1 2 he.comp.comp .loc .loc dk (λz=>(ah (j:=2) he.comp.comp .loc aa rfl)))) (y:= .list (((cls aV b_).map fB).map .int)) ?c1)) G7 (au (ah (j:=2) he.comp .loc aa rfl) aT) Dq uB PySem.F.slot_list_count PySem.F.type_list_count rfl) ?c2)) rfl (λD=>?_))
 case c1=>refine congrArg V.list ?_;refine aj (show cls aV b_=(ja (cW aV) b_).map (·.1.1) from (jI _ _).symm) ?_;refine aj (a0 ..) ?_;refine aj (a0 ..) ?_;rfl
 case c2=>(refine aj (EF ..) ?_;rfl)
 rw [kz,show ((zB aV b_).map λq=>(cB (aF aV+q.1.1),V.int ((cls aV b_).count q.1.1:Nat)))=(cls aV b_).map (λc=>(cB (aF aV+c),V.int ((cls aV b_).count c:Nat))) by
  conv=>rhs;rw [show cls aV b_=(ja (cW aV) b_).map (·.1.1) from (jI _ _).symm,a0]
  rw [jI];rfl,MG (nm:=λc=>cB (aF aV+c)) (g:=λc=>V.int ((cls aV b_).count c:Nat)) (cls aV b_) (λx hx y hy e=>(wY d7 (kr hx) (kr hy)).mp e),show ((fE (cls aV b_)).map λc=>(cB (aF aV+c),V.int ((cls aV b_).count c:Nat)))=(cR (cls aV b_)).map (λq=>(cB (aF aV+q.1),V.int q.2)) by rw [sj,a0];rfl]
 refine fL.dict (aQ (i:=0) (j:=35) he .loc rfl ?_);have hS2:=hS1.set (j:=35) (y:=FU (aF aV) (cR (cls aV b_)));refine cq (H.f290.go) λob z z z h0 hd z=>aC (b4 (ml (mn H he H.m_back rfl) h0 hd (cA (cf (ah (j:=32) he .loc hf (hS2.get rfl)) (cA (cf (ah (j:=9) he (.cell (L_+8) "block") hf (hS2.get rfl)) (cA (cf (ij (xs:=[.int 0]) (au aU aT) (by show 1<=2 ^ 20;decide)) (e9 (FW.mono (R9 (k:=k_+6) (hs:=dh aV) (block:=b_) (marks:=[0]) H sh hb (by decide)) λy nu ⟨e1,W,e2,hl,hw⟩=>?_))))))))) rfl rfl);subst e1 e2;exact aQ (i:=0) (j:=36) he (.cell (L_+14) "ways") rfl (next _ W (hS2.set (j:=36) (y:= .list (W.map wV))) hl hw)
end y8
theorem y8{pm doc:ai}:y8.S0 k mu vs Θ L Hm Nt ds b pm doc 0:=by with_unfolding_all exact C0 _ _ _ _ _ _ _ _ _ _ _ _ y8.S0 @y8.T0 k mu vs Θ L Hm Nt ds b pm doc 0
theorem Gz{low:Nat}(hl:low < 28)(l:List Nat)(h6:∀c∈l,c < 6)(hb:b < 6):(mf ((cR l).map λq=>(cB (low+q.1),V.int q.2)) (cB (low+b))).getD (.int 0)= .int (l.count b:Nat):=by
 refine aj (sj ..) ?_;refine aj (a0 ..) ?_;by_cases h:b∈l
 ·have:=gb (low:=low) (l:=fE l) (f:=λc=>V.int (l.count c:Nat)) hl (λc hc=>h6 c ((nx l c).mp hc)) ((nx l b).mpr h);unfold bD at this;refine aj (show ((fE l).map ((λq:Nat×Int=>(cB (low+q.1),V.int q.2))∘λc=>(c,((l.count c:Nat):Int))))=(fE l).map λb=>(cB (low+b),V.int (l.count b:Nat)) from rfl) ?_;refine aj (this ..) ?_;rfl
 ·have hc:l.count b=0:=mD.mpr h;refine aj (hc ..) ?_;have:mf ((fE l).map ((λq:Nat×Int=>(cB (low+q.1),V.int q.2))∘λc=>(c,((l.count c:Nat):Int)))) (cB (low+b))=av:=by
   delta mf;refine gj (Qa ..) ?_;refine gj (Ak ..) ?_;intro q hq;refine aK (aG.mp hq) λc hc dO=>?_;subst dO;intro e;have zp:=(nx l c).mp hc;have:c=b:=(wY hl (h6 c zp) hb).mp (by simpa using e);exact h (this▸zp)
  refine aj (this ..) ?_;rfl
theorem SE(b:Nat):rq (aF ds) (lU ds) b= .tup [.int (((zB ds b).length:Nat) - ((cls ds b).count b:Nat)),.int ((zB ds b).length:Nat),.int ((zB ds b).map λq=>((q.2:Nat):Int)).sum,.int ((zB ds b).map λq=>((q.2:Nat):Int)*q.2).sum,FU (aF ds) (cR (cls ds b))]:=by show V.tup [.int ((fG B0 0 (cW ds)).a b),.int ((fG B0 0 (cW ds)).b b),.int ((fG B0 0 (cW ds)).c b),.int ((fG B0 0 (cW ds)).d b),FU (aF ds) ((fG B0 0 (cW ds)).cs b)]=_;refine aj (bk_a ..) ?_;refine aj (bk_b ..) ?_;refine aj (bk_c ..) ?_;refine aj (bk_d ..) ?_;refine aj (Bf ..) ?_;rfl
theorem MH:∀i,i < 33->pG (cB i)=aI:=by decide+kernel
theorem Bi:∀{l:List bb},(∀x∈l,pG x=aI)->ph (l.map .str)=ae (l.map .str)/\zI (l.map PyData.str)=0
 |[],_=>⟨rfl,rfl⟩
 |x::l,h=>by
  refine dU (Bi λy hy=>h y (ab _ hy)) λh1 h2=>⟨?_,?_⟩
  ·show (if pG x then ae (PyData.str x) else av).bind (λd=>(ph (l.map .str)).map (d::·))=_;rw [h1,if_pos (h x aa)];rfl
  ·simp [zI,PyData.depth] at h2 ⊢;exact h2
theorem Jg{l:List bb}(h:∀x∈l,pG x=aI):ta k mu .NotEq (bZ (.list (l.map .str))) (bZ (.list (l.map .str))) aH:=by exact dU (Bi h) λh1 h2=>Ba (d:= .list (l.map .str)) (congrArg (Option.map PyData.list) h1) (by simp [PyData.depth,h2])
theorem Jh(l:List Nat):(fE l).length<=l.length:=by
 induction l using jH with
 |h0=>exact bp _
 |h1 l a ih=>
  refine aj (nY ..) ?_;refine aj (ba ..) ?_
  split
  ·exact aw ih (dC _ _)
  ·refine aj (ba ..) ?_;simpa using ih
theorem EG:∀q∈cR (cls ds b),q.1 < 6:=λq hq=>kr ((qb _ _).mp (aG.mpr ⟨q,hq,rfl⟩))
theorem MI:((cR (cls ds b)).map (·.1)).Nodup:=by refine aj (sj ..) ?_;refine aj (a0 ..) ?_;exact aj (show ((fE (cls ds b)).map ((λx:Nat×Int=>x.1)∘λc=>(c,(((cls ds b).count c:Nat):Int))))=fE (cls ds b) from xx _) (w9 _)
def y9.S0(k:Nat)(mu:Mu)(vs:ej)(L:ay)(ds:List Nat)(b:Nat)(pm doc:ai):Prop:=∀{Θ:AF->Mu->Prop} {Hm Nt cx lx:ay} {n6:Nat} {S:Nat->Nat} {W:List (List Nat)} (H:Hy G) (he:du (bT pm doc L)) (hb:b < 6) (zD:b∈[1,2,3,4,5]) (hS:Sv vs (Pq ds n6 lx S Hm Nt cx b W)) (next:WS (k+8) (cw L vs::mu) (bT pm doc L) (y7 4) Θ),WS (k+8) (cw L vs::mu) (bT pm doc L) (y7 3) Θ
namespace y9
@[irreducible] def e0:=Nz eN gD gD cL gD eN gL gL S0
def k_:=e0.1
def fb:=e0.2.1
def kR:=e0.2.2.1
def L_:=e0.2.2.2.1
def aV:=e0.2.2.2.2.1
def b_:=e0.2.2.2.2.2.1
def pj:=e0.2.2.2.2.2.2.1
def g8:=e0.2.2.2.2.2.2.2
theorem T0:S0 k_ fb kR L_ aV b_ pj g8:=by
 intro Θ Hm Nt cx lx n6 S W H he hb zD hS next
 have d7:=eI aV;have hf:∀{kR} {l:Mu},bq L_ (aM (L_+1) (bk (cN 23)).names) kR∈cw L_ kR::l:=aa;have Nb:(cW aV).length<=20:=lT (ds:=aV) 2;have hnd:=Et d7 (c:=cR (cls aV b_)) EG MI;refine aC (iY (b:=aH || (aH || false)) (oM (iM ?t1 λz=>iM ?t2 λz=>jn)) (λh=>by exact vK h) λz=>bC next)
 case t1=>
  refine c9 (bM (bF (pM (ah (j:=41) he (.cell (L_+15) "book") hf (hS.get rfl))) (bF (dD (ah (j:=7) he (.cell (L_+6) "names") hf (hS.get rfl))) (ah (j:=9) he (.cell (L_+8) "block") hf (hS.get rfl)) (ew (j:=b_) (inj:=λb_=>V.str (cB (aF aV+b_))) (bz hb) (by decide))) (mh (gb d7 (by decide) zD))) (SE b_)) (f9 (xs:=[.int (((zB aV b_).length:Nat) - ((cls aV b_).count b_:Nat)),.int ((zB aV b_).length:Nat),.int ((zB aV b_).map λq=>((q.2:Nat):Int)).sum,.int ((zB aV b_).map λq=>((q.2:Nat):Int)*q.2).sum,FU (aF aV) (cR (cls aV b_))]) (au (br (bM (ek (j4 H he H.b_len rfl) (au (dD (ah (j:=27) he (.cell (L_+13) "told") hf (hS.get rfl))) aT) (mi (by refine aj (ak ..) ?_;exact aw qX (by decide)))) (congrArg (λn:Nat=>V.int n) (ak _))) (bM (f7 (ah (j:=35) he .loc hf (hS.get rfl)) rN (au (bF (dD (ah (j:=7) he (.cell (L_+6) "names") hf (hS.get rfl))) (ah (j:=9) he (.cell (L_+8) "block") hf (hS.get rfl)) (ew (j:=b_) (inj:=λb_=>V.str (cB (aF aV+b_))) (bz hb) (by decide))) (au aU aT)) Po NZ Q5 PySem.F.type_dict_get rfl) (Gz d7 (cls aV b_) (λc hc=>kr hc) hb)) vL) (au (bM (ek (j4 H he H.b_len rfl) (au (dD (ah (j:=27) he (.cell (L_+13) "told") hf (hS.get rfl))) aT) (mi (by refine aj (ak ..) ?_;exact aw qX (by decide)))) (congrArg (λn:Nat=>V.int n) (ak _))) (au (ek (j4 H he H.b_sum rfl) (au (dD (jP (zB aV b_) QI (λq=>nV q.2) ⟨rfl,rfl,by decide+kernel,by decide+kernel⟩ (dA (ah (j:=27) he (.cell (L_+13) "told") hf (hS.get rfl))) (by lia) (aw qX (by decide)) (λC2 r hr=>tI 1 2 he.comp .loc .loc dk (λz=>(ah (j:=1) he.comp .loc aa rfl))))) aT) (uN (f:=λq:(Nat×Nat)×Nat=>((q.2:Nat):Int)))) (au (ek (j4 H he H.b_sum rfl) (au (dD (jP (zB aV b_) QI (λq=>V.int (((q.2:Nat):Int)*q.2)) ⟨rfl,rfl,by decide+kernel,by decide+kernel⟩ (dA (ah (j:=27) he (.cell (L_+13) "told") hf (hS.get rfl))) (by lia) (aw qX (by decide)) (λC2 r hr=>tI 1 2 he.comp .loc .loc dk (λz=>br (ah (j:=1) he.comp .loc aa rfl) (ah (j:=1) he.comp .loc aa rfl) (mY (by have:=Pp _ _ r hr;lia)))))) aT) (uN (f:=λq:(Nat×Nat)×Nat=>((q.2:Nat):Int)*q.2))) (au (ah (j:=35) he .loc hf (hS.get rfl)) aT))))) (by show 5<=2 ^ 20;decide)) ?cmp
  case cmp=>
   refine MF λx hx=>?_;simp only [aP,e7,or_false] at hx;rcases hx with rfl|rfl|rfl|rfl|rfl
   ·exact .inl ⟨_,rfl⟩
   ·exact .inl ⟨_,rfl⟩
   ·exact .inl ⟨_,rfl⟩
   ·exact .inl ⟨_,rfl⟩
   ·refine .inr ⟨Eo (aF aV) (cR (cls aV b_)),hnd,?_⟩;delta FU Eo;refine aj (a0 ..) ?_;rfl
 case t2=>
  have QT:(cR (cls aV b_)).length<=1000:=by (refine aj (sj ..) ?_;refine aj (ak ..) ?_);exact aw (Jh _) (aw Pr (by decide))
  refine c9 (iZ (iN H he H.b_list rfl) (au (bM (bF (bF (pM (ah (j:=41) he (.cell (L_+15) "book") hf (hS.get rfl))) (bF (dD (ah (j:=7) he (.cell (L_+6) "names") hf (hS.get rfl))) (ah (j:=9) he (.cell (L_+8) "block") hf (hS.get rfl)) (ew (j:=b_) (inj:=λb_=>V.str (cB (aF aV+b_))) (bz hb) (by decide))) (mh (gb d7 (by decide) zD))) aU tK) (congrArg (FU (aF aV)) (Bf (cW aV) b_))) aT) (Bg ?len)) (iZ (iN H he H.b_list rfl) (au (ah (j:=35) he .loc hf (hS.get rfl)) aT) (Bg ?zR)) ?cmp2
  case len=>refine aj (ak ..) ?_;exact QT
  case zR=>refine aj (ak ..) ?_;exact QT
  case cmp2=>
   refine aj (a0 ..) ?_;have:=Jg (k:=k_+8) (mu:=cw L_ kR::fb) (l:=(cR (cls aV b_)).map λq=>cB (aF aV+q.1)) (λx hx=>by
    refine aK (aG.mp hx) λq hq eT=>?_;subst eT;exact MH _ (by have:=EG q hq;lia))
   rw [a0] at this;exact this
end y9
theorem y9{pm doc:ai}:y9.S0 k mu vs L ds b pm doc:=by with_unfolding_all exact Bz _ _ _ _ _ _ _ _ y9.S0 @y9.T0 k mu vs L ds b pm doc
theorem GA(c:Cs)(a:Nat):((k7 c a).map (·.2)).sum=(c.map (·.2)).sum+1\/¬(c.map (·.1)).Nodup:=by
 by_cases hnd:(c.map (·.1)).Nodup
 ·left
  unfold k7;by_cases h:c.any (λp=>p.1=a)
  ·refine aj (if_pos h ..) ?_;induction c with
   |nil=>simp at h
   |cons q c ih=>
    rw [bA,cg] at hnd;simp only [bA,da];by_cases e:q.1=a
    ·have Bt:∀p∈c,p.1≠a:=λp hp e2=>hnd.1 (by (refine aj (e ..) ?_;refine fZ (e2 ..) ?_);exact aG.mpr ⟨p,hp,rfl⟩);have:(c.map λp=>if p.1=a then (p.1,p.2+1) else p)=c:=by
      conv=>rhs;rw [<- xx c]
      exact b5 λp hp=>by simp [Bt p hp]
     rw [this];simp [e];lia
    ·have h':c.any (λp=>p.1=a)=aI:=by simpa [e] using h
     have:=ih hnd.2 h';rw [this];simp [e];lia
  ·rw [if_neg h];simp
 ·exact .inr hnd
theorem Bj(l:List Nat):((cR l).map (·.2)).sum=(l.length:Nat):=by
 have key:∀l:List Nat,((cR l).map (·.1)).Nodup:=λl=>by
  refine aj (sj ..) ?_;refine aj (a0 ..) ?_;exact aj (show ((fE l).map ((λx:Nat×Int=>x.1)∘λc=>(c,((l.count c:Nat):Int))))=fE l from xx _) (w9 _)
 induction l using jH with
 |h0=>rfl
 |h1 l a ih=>
  have e1:cR (l++[a])=k7 (cR l) a:=by unfold cR;refine aj (fu ..) ?_;rfl
  refine aj (e1 ..) ?_;rcases GA (cR l) a with h|h
  ·(refine aj (h ..) ?_;refine aj (ih ..) ?_);simp
  ·exact absurd (key l) h
theorem Pu{hs W:List (List Nat)}(zD:b∈[1,2,3,4,5])(hT:si hs S)(hW:∀w,w∈W↔wb hs b [0] w):(aN 6).filter (λo:Nat=>((o:Int) == (b:Int)) || (((W.filter λw=>!decide (o∈w)).map λz=>V.int 1).isEmpty || false))=eZ (S b):=by
 unfold eZ;refine fz λo ho=>?_;have ho6:=aY.mp ho;refine gj (cj ..) ?_;refine gj (hT.fin b zD o ho6 ..) ?_;have zm:b≠0:=by rintro rfl;revert zD;decide
 simp only [jV,beq_iff_eq,zF,ur,jc,gY];constructor
 ·rintro (h|h)
  ·exact .inl (Nx.mp h)
  ·exact .inr ⟨zm,λw hw=>by simpa using h w ((hW w).mpr hw)⟩
 ·rintro (h|⟨_,h⟩)
  ·exact .inl (by (refine aj (h ..) ?_;rfl))
  ·exact .inr λw hw=>by simpa using h w ((hW w).mp hw)
def zb.S0(k:Nat)(mu:Mu)(vs:ej)(L Hm Nt cx lx:ay)(ds:List Nat)(n6 b:Nat)(S:Nat->Nat)(pm doc:ai)(W:List (List Nat))(_:Nat):Prop:=∀{Θ:AF->Mu->Prop} (H:Hy G) (he:du (bT pm doc L)) (hb:b < 6) (zD:b∈[1,2,3,4,5]) (hS:Sv vs (Pq ds n6 lx S Hm Nt cx b W)) (hT:si (dh ds) S) (QX:W.length<=2000) (hW:∀w,w∈W↔wb (dh ds) b [0] w) (next:WS (k+8) (cw L vs::mu) (bT pm doc L) (y7 5) Θ),WS (k+8) (cw L vs::mu) (bT pm doc L) (y7 4) Θ
namespace zb
@[irreducible] def e0:=Fq eN gD gD cL cL cL cL cL gD eN eN inferInstance gL gL gD eN S0
def k_:=e0.1
def fb:=e0.2.1
def kR:=e0.2.2.1
def L_:=e0.2.2.2.1
def xK:=e0.2.2.2.2.1
def xi:=e0.2.2.2.2.2.1
def vX:=e0.2.2.2.2.2.2.1
def za:=e0.2.2.2.2.2.2.2.1
def aV:=e0.2.2.2.2.2.2.2.2.1
def gO:=e0.2.2.2.2.2.2.2.2.2.1
def b_:=e0.2.2.2.2.2.2.2.2.2.2.1
def S_:=e0.2.2.2.2.2.2.2.2.2.2.2.1
def pj:=e0.2.2.2.2.2.2.2.2.2.2.2.2.1
def g8:=e0.2.2.2.2.2.2.2.2.2.2.2.2.2.1
def W_:=e0.2.2.2.2.2.2.2.2.2.2.2.2.2.2.1
theorem T0:S0 k_ fb kR L_ xK xi vX za aV gO b_ S_ pj g8 W_ e0.2.2.2.2.2.2.2.2.2.2.2.2.2.2.2:=by
 intro Θ H he hb zD hS hT QX hW next
 have d7:=eI aV;have hf:∀{kR} {l:Mu},bq L_ (aM (L_+1) (bk (cN 23)).names) kR∈cw L_ kR::l:=aa;have CU:∀c∈aN 6,c < 6:=λc hc=>aY.mp hc;refine cq (H.f270.go) λob z z z h0 hd z=>?_;have hsm:((Eo (aF aV) (cR (cls aV b_))).map (·.2)).sum=((zB aV b_).length:Nat):=by refine aj (a0 ..) ?_;refine aj (show ((cR (cls aV b_)).map ((λx:bb×Int=>x.2)∘λq=>(cB (aF aV+q.1),q.2)))=(cR (cls aV b_)).map (·.2) from rfl) ?_;refine aj (Bj ..) ?_;refine aj (show cls aV b_=(ja (cW aV) b_).map (·.1.1) from (jI _ _).symm) ?_;refine aj (ak ..) ?_;rfl
 refine aC (iY (b:=(((zB aV b_).length:Nat):Int) != ((zB aV b_).length:Nat) || ((iy (aF aV) (S_ b_) != iy (aF aV) (S_ b_)) || false)) (oM (iM ?t1 λz=>iM ?t2 λz=>jn)) (λh=>by simp at h) λz=>bC next)
 case t1=>exact c9 (ju (ys:=[FU (aF aV) (cR (cls aV b_))]) (mn H he H.m_count rfl) h0 hd (au (bM (bF (bF (pM (ah (j:=41) he (.cell (L_+15) "book") hf (hS.get rfl))) (bF (dD (ah (j:=7) he (.cell (L_+6) "names") hf (hS.get rfl))) (ah (j:=9) he (.cell (L_+8) "block") hf (hS.get rfl)) (ew (j:=b_) (inj:=λb_=>V.str (cB (aF aV+b_))) (bz hb) (by decide))) (mh (gb d7 (by decide) zD))) aU tK) (congrArg (FU (aF aV)) (Bf (cW aV) b_))) aT) (by refine aj (Cg ..) ?_;exact FW.mono (Hn (k:=k_+6) H) λy nu h=>⟨h.2.trans (congrArg V.int hsm),h.1⟩)) (bM (ek (j4 H he H.b_len rfl) (au (dD (ah (j:=27) he (.cell (L_+13) "told") hf (hS.get rfl))) aT) (mi (by refine aj (ak ..) ?_;exact aw qX (by decide)))) (congrArg (λn:Nat=>V.int n) (ak _))) FA
 case t2=>
  have hjn:iy (aF aV) (S_ b_)=fO ", " (((aN 6).filter (λo:Nat=>((o:Int) == (b_:Int)) || (((W_.filter λw=>!decide (o∈w)).map λz=>V.int 1).isEmpty || false))).map λo=>cB (aF aV+o)):=by refine aj (Pu zD hT hW ..) ?_;rfl
  refine c9 (bF (pM (ah (j:=46) he (.cell (L_+20) "table") hf (hS.get rfl))) (bF (dD (ah (j:=7) he (.cell (L_+6) "names") hf (hS.get rfl))) (ah (j:=9) he (.cell (L_+8) "block") hf (hS.get rfl)) (ew (j:=b_) (inj:=λb_=>V.str (cB (aF aV+b_))) (bz hb) (by decide))) (mh (gb d7 CU (aY.mpr hb)))) (bM (f7 cO mL (au (dD (nF (aN 6) nV (λo:Nat=>((o:Int) == (b_:Int)) || (((W_.filter λw=>!decide (o∈w)).map λz=>V.int 1).isEmpty || false)) (λo=>V.str (cB (aF aV+o))) ⟨rfl,rfl,by decide+kernel,by decide+kernel⟩ (fK (n:=6) (iN H he H.b_range rfl) aU rfl (by decide)) (by lia) (by decide) (λC2 a ha=>iu 1 he.comp (.cell (C2+1) "other") (fS (oM (iM (c9 (ah (j:=1) he.comp (.cell (C2+1) "other") aa rfl) (ah (j:=9) he.comp (.cell (L_+8) "block") (ab _ hf) (hS.get rfl)) qu) (λz=>iM (c9 (nF W_ wV (λw=>!decide (a∈w)) (λz=>V.int 1) ⟨rfl,rfl,by decide+kernel,by decide+kernel⟩ (dA (ah (j:=36) he.comp (.cell (L_+14) "ways") (ab _ hf) (hS.get rfl))) (by lia) (aw QX (by decide)) (λC3 w hw=>iu 1 he.comp.comp .loc (fS (c9 (ah (j:=1) he.comp.comp (.cell (C2+1) "other") (ab _ aa) rfl) (dD (ah (j:=1) he.comp.comp .loc aa rfl)) Hk)) (λhb=>aU))) (ij (xs:=[]) aT (bg rfl)) (FJ (nk _ _))) (λz=>jn))))) (λz=>(bF (dD (ah (j:=7) he.comp (.cell (L_+6) "names") (ab _ hf) (hS.get rfl))) (ah (j:=1) he.comp (.cell (C2+1) "other") aa rfl) (ew (j:=a) (inj:=λb_=>V.str (cB (aF aV+b_))) (bz (CU a ha)) (by decide))))))) aT) (rL (f:=λo=>cB (aF aV+o)) ?hok) (by exact eM) (by exact nz) (by exact nA) rfl) (congrArg V.str hjn.symm)) tB
  case hok=>
   refine nf (B:=20) (λt ht=>?_) ?_
   ·refine aK (aG.mp ht) λo ho dO=>?_;subst dO;have h6:=CU o (bo.mp ho).1;exact BZ _ (by lia)
   ·refine aj (ak ..) ?_;have h1:=bu (λo:Nat=>((o:Int) == (b_:Int)) || (((W_.filter λw=>!decide (o∈w)).map λz=>V.int 1).isEmpty || false)) (aN 6);rw [fq] at h1;have h2:(", ":bb).length=2:=rfl;refine aj (h2 ..) ?_;lia
end zb
theorem zb{pm doc:ai}{W:List (List Nat)}:zb.S0 k mu vs L Hm Nt cx lx ds n6 b S pm doc W 0:=by with_unfolding_all exact As _ _ _ _ _ _ _ _ _ _ _ _ _ _ _ _ zb.S0 @zb.T0 k mu vs L Hm Nt cx lx ds n6 b S pm doc W 0
noncomputable def z8(S:Nat->Nat)(o:Nat):Nat:=(eZ (S o)).length - 1
noncomputable def jS(S:Nat->Nat)(b o:Nat):Nat->Int
 |0=>if (o != b && (S b).testBit o) then 1 else 0
 |1=>(z8 S o:Nat) / 2
 |_=>(z8 S o:Nat) % 2
theorem QJ{S:Nat->Nat}{b o:Nat}:jS S b o 0=0\/jS S b o 0=1:=by
 show (if (o != b && (S b).testBit o) then (1:Int) else 0)=0\/(if (o != b && (S b).testBit o) then (1:Int) else 0)=1
 split
 ·exact .inr rfl
 ·exact .inl rfl
noncomputable abbrev xj(low:Nat)(S:Nat->Nat)(b o:Nat):V:= .tup [.int (jS S b o 0),.int (jS S b o 1),.int (jS S b o 2),.str (cB (low+o))]
noncomputable def zc(S:Nat->Nat)(b o:Nat):Int:=6*jS S b o 0+(z8 S o:Nat)
theorem Cv(S:Nat->Nat)(o:Nat):z8 S o < 6:=by
 delta z8;have:(eZ (S o)).length<=6:=by delta eZ;exact aw (bu _ _) (by decide)
 omega
def o5.S0(S:Nat->Nat)(b r x:Nat):Prop:=(vW (jS S b r) (jS S b x) < 0)↔zc S b x < zc S b r
namespace o5
@[irreducible] def e0:=G1 inferInstance eN eN eN S0
def S_:=e0.1
def b_:=e0.2.1
def r_:=e0.2.2.1
def x_:=e0.2.2.2
theorem T0:S0 S_ b_ r_ x_:=by
 delta S0;have h1:=Cv S_ r_;have h2:=Cv S_ x_;delta vW zc;have a1:jS S_ b_ r_ 1=(z8 S_ r_:Nat) / 2:=rfl;have a2:jS S_ b_ x_ 1=(z8 S_ x_:Nat) / 2:=rfl;have a3:jS S_ b_ r_ 2=(z8 S_ r_:Nat) % 2:=rfl;have a4:jS S_ b_ x_ 2=(z8 S_ x_:Nat) % 2:=rfl;have a5:jS S_ b_ r_ 0=0\/jS S_ b_ r_ 0=1:=QJ;have a6:jS S_ b_ x_ 0=0\/jS S_ b_ x_ 0=1:=QJ;generalize jS S_ b_ r_ 0=p at*;generalize jS S_ b_ x_ 0=q at*;generalize jS S_ b_ r_ 1=p1 at*;generalize jS S_ b_ x_ 1=q1 at*;generalize jS S_ b_ r_ 2=p2 at*;generalize jS S_ b_ x_ 2=q2 at*
 repeat' split
 all_goals lia
end o5
theorem o5(S:Nat->Nat)(b r x:Nat):o5.S0 S b r x:=by with_unfolding_all exact vJ _ _ _ _ o5.S0 @o5.T0 S b r x
noncomputable def xk(b:Nat):List Nat:=if b % 2=1 then (aN 6).reverse else aN 6
set_option tactic.hygienic true in
theorem Ji(b:Nat):jq (aN 6) av av (ae (1 - 2*((b:Int) % 2)))=xk b:=by
 delta xk
 split
 ·rename_i h;exact aj (show (1:Int) - 2*((b:Int) % 2)= -1 by lia) (Bh.2 (by rfl))
 ·exact aj (show (1:Int) - 2*((b:Int) % 2)=1 by lia) (Bh.1)
theorem zd{b o:Nat}:o∈xk b↔o < 6:=by
 delta xk
 split <;> simp
theorem EI(b:Nat):(xk b).length=6:=by
 delta xk
 split <;> simp
noncomputable abbrev EJ(ds:List Nat)(n6:Nat)(lx:ay)(S:Nat->Nat)(Hm Nt cx:ay)(b x:Nat):List (Nat×V):=(38,xj (aF ds) S b x)::(37,.list ((xk b).map (xj (aF ds) S b)))::S23 ds n6 lx S Hm Nt cx b
theorem b23_d(H:Hy G){pm doc:ai}(he:du (bT pm doc L))(hb:b < 6){W:List (List Nat)}(hS:Sv vs (Pq ds n6 lx S Hm Nt cx b W))(hT:si (dh ds) S)
 (next:∀vs x,x < 6->Sv vs (EJ ds n6 lx S Hm Nt cx b x)->WS (k+8) (cw L vs::mu) (bT pm doc L) (y7 7) Θ):
 WS (k+8) (cw L vs::mu) (bT pm doc L) (y7 5) Θ:=by
 have d7:=eI ds;have hf:∀{vs} {l:Mu},bq L (aM (L+1) (bk (cN 23)).names) vs∈cw L vs::l:=aa;have CU:∀c∈aN 6,c < 6:=λc hc=>aY.mp hc;refine aC (bX (y:= .list ((xk b).map (xj (aF ds) S b))) (bM (bF (dD (jP (aN 6) (λo=>V.str (cB (aF ds+o))) (xj (aF ds) S b) ⟨rfl,rfl,by decide+kernel,by decide+kernel⟩ (dA (ah (j:=7) he (.cell (L+6) "names") hf (hS.get rfl))) (by lia) (by decide) (λC1 a ha=>?turn))) (jo dM dM (eO (br aU (br aU (br (ah (j:=9) he (.cell (L+8) "block") hf (hS.get rfl)) aU (fk (by decide))) (mY (by decide))) vL))) (pg (λh=>by have:=aO h;lia) (by refine aj (ak ..) ?_;decide))) (by (refine aj (jr ..) ?_;refine aj (Ji ..) ?_;rfl))) (aQ (i:=0) (j:=37) he .loc rfl ?_) rfl rfl)
 case turn=>
  have PW:=aY.mp ha;refine iu 1 he.comp .loc dk (λz=>f9 (xs:=[.int (jS S b a 0),.int (jS S b a 1),.int (jS S b a 2),.str (cB (aF ds+a))]) (au ?c0 (au (br (bM (f7 (bF (pM (ah (j:=46) he.comp (.cell (L+20) "table") (ab _ hf) (hS.get rfl))) (ah (j:=1) he.comp .loc aa rfl) (mh (gb d7 CU (aY.mpr PW)))) mL (au cO aT) rJ (by exact eM) (by exact F.slot_str_count) (by exact F.type_str_count) rfl) (congrArg V.int (u9 d7 (hT.ok a)))) aU (l9 (by decide))) (au (br (bM (f7 (bF (pM (ah (j:=46) he.comp (.cell (L+20) "table") (ab _ hf) (hS.get rfl))) (ah (j:=1) he.comp .loc aa rfl) (mh (gb d7 CU (aY.mpr PW)))) mL (au cO aT) rJ (by exact eM) (by exact F.slot_str_count) (by exact F.type_str_count) rfl) (congrArg V.int (u9 d7 (hT.ok a)))) aU (fk (by decide))) (au (ah (j:=1) he.comp .loc aa rfl) aT)))) (by show 4<=2 ^ 20;decide))
  case c0=>refine bM (iZ (iN H he.comp H.b_int rfl) (au (Pn (mJ (ah (j:=1) he.comp .loc aa rfl) (bF (dD (ah (j:=7) he.comp (.cell (L+6) "names") (ab _ hf) (hS.get rfl))) (ah (j:=9) he.comp (.cell (L+8) "block") (ab _ hf) (hS.get rfl)) (ew (j:=b) (inj:=λb=>V.str (cB (aF ds+b))) (bz hb) (by decide))) tB) (λz=>mJ (ah (j:=1) he.comp .loc aa rfl) (dD (bM (f7 (bF (pM (ah (j:=46) he.comp (.cell (L+20) "table") (ab _ hf) (hS.get rfl))) (bF (dD (ah (j:=7) he.comp (.cell (L+6) "names") (ab _ hf) (hS.get rfl))) (ah (j:=9) he.comp (.cell (L+8) "block") (ab _ hf) (hS.get rfl)) (ew (j:=b) (inj:=λb=>V.str (cB (aF ds+b))) (bz hb) (by decide))) (mh (gb d7 CU (aY.mpr hb)))) mL (au cO aT) (ky rfl (by have:=vU (S:=S b) d7;show _<=2 ^ 24;exact aw (by assumption) (by decide)) (yi d7)) (by exact eM) (by exact jX) (by exact Np) rfl) (y:= .list (((eZ (S b)).map λo=>cB (aF ds+o)).map .str)) (by (refine aj (oR (hT.ok b).1 (hT.ok b).2 d7 ..) ?_;rfl)))) FK)) aT) rG) ?_;refine aj (vV d7 PW ..) ?_;show V.int _=V.int (if (a != b && (S b).testBit a) then 1 else 0);refine aj (show (cB (aF ds+a) != cB (aF ds+b))=(a != b) from congrArg not (rS d7 PW hb)) ?_;rfl
 obtain ⟨x,hx⟩:∃x,(xk b)[0]? =ae x:=⟨_,bJ (by refine aj (EI ..) ?_;decide)⟩;have hx6:x < 6:=zd.mp (ao hx);have hS1:=hS.set (j:=37) (y:= .list ((xk b).map (xj (aF ds) S b)));refine aC (bX (y:=xj (aF ds) S b x) (bF (dD (ah (j:=37) he .loc hf (hS1.get rfl))) aU (ew (j:=0) (inj:=xj (aF ds) S b) hx (by refine aj (EI ..) ?_;decide))) (aQ (i:=0) (j:=38) he .loc rfl ?_) rfl rfl);exact next _ x hx6 ((hS1.set (j:=38) (y:=xj (aF ds) S b x)).sub ⟨rfl,rfl,rfl,rfl,rfl,rfl,rfl,rfl,rfl,rfl,rfl,rfl,rfl,rfl,rfl,trivial⟩)
def ze.S0(k:Nat)(mu:Mu)(L Hm Nt cx lx:ay)(ds:List Nat)(n6 b:Nat)(S:Nat->Nat)(pm doc:ai)(_:Nat):Prop:=∀{vs:ej} {Θ:AF->Mu->Prop} {dc:ay} {K:fl} {x0:Nat} (H:Hy G) (LH:fM G K) (he:du (bT pm doc L)) (hx0:x0 < 6) (Ae:Sv vs (EJ ds n6 lx S Hm Nt cx b x0)) (hcx:gH cx 245 dc [("comp_select_list",DK)]∈mu) (next:∀vs x,x < 6->(∀o,o < 6->zc S b o<=zc S b x)->Sv vs (EJ ds n6 lx S Hm Nt cx b x)->WS (k+8) (cw L vs::mu) (bT pm doc L) (y7 8) Θ),WS (k+8) (cw L vs::mu) (bT pm doc L) (y7 7) Θ
namespace ze
@[irreducible] def e0:=N1 eN gD cL cL cL cL cL gD eN eN inferInstance gL gL eN S0
def k_:=e0.1
def fb:=e0.2.1
def L_:=e0.2.2.1
def xK:=e0.2.2.2.1
def xi:=e0.2.2.2.2.1
def vX:=e0.2.2.2.2.2.1
def za:=e0.2.2.2.2.2.2.1
def aV:=e0.2.2.2.2.2.2.2.1
def gO:=e0.2.2.2.2.2.2.2.2.1
def b_:=e0.2.2.2.2.2.2.2.2.2.1
def S_:=e0.2.2.2.2.2.2.2.2.2.2.1
def pj:=e0.2.2.2.2.2.2.2.2.2.2.2.1
def g8:=e0.2.2.2.2.2.2.2.2.2.2.2.2.1
theorem T0:S0 k_ fb L_ xK xi vX za aV gO b_ S_ pj g8 e0.2.2.2.2.2.2.2.2.2.2.2.2.2:=by
 intro vs Θ dc K x0 H LH he hx0 Ae hcx next
 refine cq (LH.f242.go) λob z z z h0 hd z=>?_;have hf:∀{vs} {l:Mu},bq L_ (aM (L_+1) (bk (cN 23)).names) vs∈cw L_ vs::l:=aa;refine aC (jO (ctx:=[]) (xs:=(xk b_).map (xj (aF aV) S_ b_)) (λi nu=>∃vs x,nu=cw L_ vs::fb/\Sv vs (EJ aV gO za S_ xK xi vX b_ x)/\x < 6/\∀o∈(xk b_).take i,zc S_ b_ o<=zc S_ b_ x) (dA (ah (j:=37) he .loc hf (Ae.get rfl))) (by lia) ⟨vs,x0,rfl,Ae,hx0,by simp⟩ (λi nu h o ho=>(eo ho)) ?step ?fin)
 case step=>
  intro i y nu hy dO;refine ir dO λvs x eT hS hx hk=>?_;clear dO;subst eT;rw [aJ] at hy;refine aK (aL.mp hy) λr hr gi=>?_;subst gi;refine aQ (i:=0) (j:=28) he .loc rfl ?_;have hS1:=hS.set (j:=28) (y:=xj (aF aV) S_ b_ r);have Uu:=ab (cw L_ (vs.set 28 (ae (xj (aF aV) S_ b_ r)))) hcx;refine aC (xS (Hr (B5 LH.KO LH.m_comp (ah (j:=34) he .loc hf (hS1.get rfl)) Uu (by show ("compare":bb)∉(["comp_select_list"]:List bb);decide) h0 hd (cA (cf (ah (j:=28) he .loc hf (hS1.get rfl)) (cA (cf (ah (j:=38) he .loc hf (hS1.get rfl)) (e9 (FW.mono (lJ (k:=k_+6) (a:=jS S_ b_ r) (b:=jS S_ b_ x) H LH Uu (by decide) (by exact aa)) λy nu hy=>?_)))))))));refine dU hy λe1 e2=>?_;clear hy;subst e1 e2;refine ⟨bZ (.int 0),decide (vW (jS S_ b_ r) (jS S_ b_ x) < 0),aU,Da,?_⟩;have q8:∀{vs x},Sv vs (EJ aV gO za S_ xK xi vX b_ x)->Sv vs (EJ aV gO za S_ xK xi vX b_ x):=λ{z z} h=>h;by_cases hc:vW (jS S_ b_ r) (jS S_ b_ x) < 0
  ·refine aj (decide_eq_true hc ..) ?_;have hkey:=(o5 S_ b_ r x).mp hc;refine aC (bX (ah (j:=28) he .loc hf (hS1.get rfl)) (aQ (i:=0) (j:=38) he .loc rfl ?_) rfl rfl);have hS2:=hS1.set (j:=38) (y:=xj (aF aV) S_ b_ r);refine bC (bC ⟨_,r,rfl,hS2.sub ⟨rfl,rfl,rfl,rfl,rfl,rfl,rfl,rfl,rfl,rfl,rfl,rfl,rfl,rfl,rfl,trivial⟩,zd.mp (ao hr),λo ho=>?_⟩);rw [lM hr] at ho;rcases bc.mp ho with h|h
   ·have:=hk o h;lia
   ·refine aj (aA.mp h ..) ?_;exact Int.le_refl _
  ·refine aj (decide_eq_false hc ..) (bC (bC ⟨_,x,rfl,hS1.sub ⟨rfl,rfl,rfl,rfl,rfl,rfl,rfl,rfl,rfl,rfl,rfl,rfl,rfl,rfl,rfl,trivial⟩,hx,λo ho=>?_⟩));rw [lM hr] at ho;rcases bc.mp ho with h|h
   ·exact hk o h
   ·refine aj (aA.mp h ..) ?_;have:=mt (o5 S_ b_ r x).mpr hc
    with_reducible exact Int.le_of_not_gt (by assumption)
 case fin=>intro nu iC;refine ir iC λvs x kG hS hx hk=>?_;clear iC;subst kG;refine bC (next _ x hx (λo ho=>hk o ?_) hS);refine aj (ak ..) ?_;refine aj (cK ..) ?_;exact zd.mpr ho
end ze
theorem ze{pm doc:ai}:ze.S0 k mu L Hm Nt cx lx ds n6 b S pm doc 0:=by with_unfolding_all exact J1 _ _ _ _ _ _ _ _ _ _ _ _ _ _ ze.S0 @ze.T0 k mu L Hm Nt cx lx ds n6 b S pm doc 0
def nZ.S0(low n x:Nat)(h:Nat->Nat):Prop:=∀(hl:low < 28) (hn:n+1 < 6),jF (qc low n h) (cB (low+(n+1))) (.str (cB (low+x)))=qc low (n+1) (λc=>if c=n+1 then x else h c)
namespace nZ
@[irreducible] def e0:=G1 eN eN eN inferInstance S0
def gc:=e0.1
def n_:=e0.2.1
def x_:=e0.2.2.1
def h_:=e0.2.2.2
theorem T0:S0 gc n_ x_ h_:=by
 intro hl hn;delta jF qc bD;rw [if_neg]
 ·(refine aj (qg ..) ?_;refine aj (bj ..) ?_;refine aj (bj ..) ?_)
  congr 1
  ·refine b5 λc hc=>aK (aG.mp hc) λd hd ma=>?_;subst ma;have:=aY.mp hd;show _=(_,V.str (cB (gc+if d+1=n_+1 then x_ else h_ (d+1))));refine aj (if_neg (by lia) ..) ?_;rfl
  ·simp
 ·intro h_;refine aK (cS.mp h_) λq hq e=>aK (aG.mp hq) λc hc mE=>?_;subst mE;refine aK (aG.mp hc) λd hd q7=>?_;subst q7;have h1:=aY.mp hd;have:=(wY hl (show d+1 < 6 by lia) hn).mp (by simpa using e);lia
end nZ
theorem nZ{low n x:Nat}{h:Nat->Nat}:nZ.S0 low n x h:=by with_unfolding_all exact vJ _ _ _ _ nZ.S0 @nZ.T0 low n x h
theorem Jj(low n:Nat)(h:Nat->Nat):(qc low n h).length=n:=by simp [qc,bD]
theorem b23_f(H:Hy G){pm doc:ai}(he:du (bT pm doc L)){n x:Nat}{h:Nat->Nat}(hn:n+1 < 6)(hS:Sv vs (EJ ds n6 lx S Hm Nt cx (n+1) x))
 (next:Sv vs (EJ ds n6 lx S Hm Nt cx (n+1) x)->WS (k+8) (cw L vs::cD Hm (qc (aF ds) (n+1) (λc=>if c=n+1 then x else h c))::mu) (bT pm doc L) [] Θ):
 WS (k+8) (cw L vs::cD Hm (qc (aF ds) n h)::mu) (bT pm doc L) (y7 8) Θ:=by
 have d7:=eI ds;have hf:∀{vs} {l:Mu},bq L (aM (L+1) (bk (cN 23)).names) vs∈cw L vs::l:=aa;refine aC (qB (i:=1) (D:=Hm) (x:=cB (aF ds+(n+1))) (y:= .str (cB (aF ds+x))) (bF (ah (j:=38) he .loc hf (hS.get rfl)) aU (Kv rfl (by show -((4:Nat):Int)<=3;decide) (by decide) (by show 4 < 2 ^ 62;decide))) (ah (j:=33) he .loc hf (hS.get rfl)) (bF (dD (ah (j:=7) he (.cell (L+6) "names") hf (hS.get rfl))) (ah (j:=9) he (.cell (L+8) "block") hf (hS.get rfl)) (ew (j:=(n+1)) (inj:=λb=>V.str (cB (aF ds+b))) (bz hn) (by decide))) rfl (by refine aj (Jj ..) ?_;show n<=2 ^ 24;lia) ?_);exact aj (nZ d7 hn ..) (next hS)
structure pz(hs:List (List Nat))(b h:Nat):Prop where
 lt:h < 6
 sd:wo hs b h
 near:∀o,o < 6->wo hs b o->gI hs h o
theorem HO{S S':Nat}(h:∀c,c < 6->S.testBit c=aI->S'.testBit c=aI)(hl:(eZ S').length<=(eZ S).length):∀c,c < 6->S'.testBit c=aI->S.testBit c=aI:=by
 have e:(eZ S').filter S.testBit=eZ S:=by unfold eZ;refine aj (List.filter_filter ..) (fz λc hc=>?_);have:=h c (aY.mp hc);cases h1:S.testBit c <;> simp_all
 have hs:(eZ S).Sublist (eZ S'):=e▸List.filter_sublist;have heq:=hs.eq_of_length_le hl;intro c hc h2;have:c∈eZ S':=bo.mpr ⟨aY.mpr hc,h2⟩;rw [<- heq] at this;exact (bo.mp this).2
theorem back6:∀n y,y=n->y≠0->y < 6->∃w,ei (dh ds) y w/\w.getLast? =ae 0:=by
 intro n;induction n using vH with
 |ind n ih=>
  rintro y rfl h0 h6;obtain ⟨c,hc,hm⟩:∃c,c < y/\(c,y)∈cW ds:=by
   by_cases h1:y=1
   ·subst h1;exact ⟨0,by decide,aE _ (aE _ (aE _ (by decide)))⟩
   ·refine ⟨dr ds (y - 2) % y,ee _ (by exact Nat.pos_of_ne_zero (by assumption)),aE _ (aE _ (bL _ (aG.mpr ⟨y,?_,rfl⟩)))⟩;rcases (by lia:y=2\/y=3\/y=4\/y=5) with h|h|h|h <;> refine aj (h ..) ?_ <;> decide
  have ql:c∈(dh ds).getD y []:=by refine aj (t7 h6 ..) ?_;refine gj (nt ..) ?_;exact ⟨by exact CP (by assumption) (by assumption),aG.mpr ⟨(c,y),bo.mpr ⟨hm,by simp⟩,rfl⟩⟩
  by_cases zC:c=0
  ·subst zC;exact ⟨[0],⟨ql,trivial⟩,rfl⟩
  ·refine aK (ih c hc c rfl zC (by exact CP (by assumption) (by assumption))) λw hw hl=>⟨c::w,⟨ql,hw⟩,?_⟩
   cases w with
   |nil=>simp at hl
   |cons d w=>refine fZ (hl ..) ?_;rfl
theorem qY:∀y,y≠0->y < 6->∃w,wb (dh ds) y [0] w:=λy h0 h6=>by
 exact aK (back6 (ds:=ds) y y rfl h0 h6) λw hw hl=>ef (k0 (marks:=[0]) hw ⟨0,hl,by decide⟩) λv hv hl z=>⟨v,hv,hl⟩
theorem z9{hs:List (List Nat)}(hT:si hs S){j o:Nat}(hj:j < 6)(ho:o < 6):(S j).testBit o=aI↔gI hs j o:=by
 by_cases h:j=0
 ·subst h;have h1:∀o,o < 6->(Nat.testBit 1 o=aI↔o=0):=by decide
  refine aj (hT.z ..) ?_;refine gj (h1 o ho ..) ?_;exact ⟨λh=> .inl h,λh=>h.zero⟩
 ·exact hT.fin j (by rcases (by lia:j=1\/j=2\/j=3\/j=4\/j=5) with h|h|h|h|h <;> refine aj (h ..) ?_ <;> decide) o ho
theorem dom0{hs:List (List Nat)}{b:Nat}(hb:b≠0):gI hs b 0:= .inr ⟨hb,λw hw=>by
 refine aK (hw.2) λc hc hm=>?_;have:c=0:=by simpa using hm
 subst this;exact df hc⟩
theorem Pv(Ad:b < 6)(zm:b≠0)(hT:si (dh ds) S){x:Nat}(hx:x < 6)(P5:∀o,o < 6->zc S b o<=zc S b x):pz (dh ds) b x:=by
 have Tn:∀{o},o < 6->wo (dh ds) b o->jS S b o 0=1:=λ{z} ho h=>by
  refine if_pos ?_;exact aj (dQ ..) (⟨by simpa using h.2,(z9 hT Ad ho).mpr h.1⟩)
 have h0:=P5 0 (by decide);have c0:=Tn (o:=0) (by decide) ⟨dom0 zm,zm.symm⟩;have cx:=Cv S x;have GM:wo (dh ds) b x:=by
  apply bO;intro hn;have:jS S b x 0=0:=by refine if_neg λh=>?_;rw [dQ] at h;exact hn ⟨(z9 hT Ad hx).mp h.2,by simpa using h.1⟩
  unfold zc at h0;rw [c0,this] at h0;lia
 refine ⟨hx,GM,λo ho hso=>?_⟩;rcases Jc (qY b zm Ad) GM.1 hso.1 GM.2 hso.2 with h|h
 ·exact h
 ·have hk:=P5 o ho;unfold zc at hk;rw [Tn ho hso,Tn hx GM] at hk;have e1:1<=(eZ (S o)).length:=zw.mpr (B4 (hT.ok o).1 (hT.ok o).2);have e2:1<=(eZ (S x)).length:=zw.mpr (B4 (hT.ok x).1 (hT.ok x).2);have hl:(eZ (S o)).length<=(eZ (S x)).length:=by unfold z8 at hk;lia
  refine (z9 hT hx ho).mp (HO (S:=S x) (S':=S o) (λc hc h1=>?_) hl o ho ((z9 hT ho ho).mpr gI.self));exact (z9 hT ho hc).mpr (gI.trans ((z9 hT hx hc).mp h1) h)
noncomputable abbrev Aa(L Hm Nt cx dc:ay)(vs:ej)(low n:Nat)(h:Nat->Nat)(F:Nat->List Nat)(mu:Mu):Mu:=cw L vs::cD Hm (qc low n h)::cD Nt (qW low F)::gH cx 245 dc [("comp_select_list",DK)]::mu
def t8.S0(k:Nat)(L Hm Nt cx dc lx:ay)(ds:List Nat)(n6:Nat)(S:Nat->Nat)(pm doc:ai):Prop:=∀{mu:Mu} {vs:ej} {Θ:AF->Mu->Prop} {K:fl} (H:Hy G) (LH:fM G K) (he:du (bT pm doc L)) (Ae:Sv vs (Jf ds n6 lx S Hm Nt cx)) (hT:si (dh ds) S) (next:∀vs h,Sv vs (Jf ds n6 lx S Hm Nt cx)->(∀b,b≠0->b < 6->pz (dh ds) b (h b))->WS (k+8) (Aa L Hm Nt cx dc vs (aF ds) 5 h (λz=>[]) mu) (bT pm doc L) (je 24) Θ),WS (k+8) (Aa L Hm Nt cx dc vs (aF ds) 0 (λz=>0) (λz=>[]) mu) (bT pm doc L) (je 23) Θ
namespace t8
@[irreducible] def e0:=HX eN cL cL cL cL cL cL gD eN inferInstance gL gL S0
def k_:=e0.1
def L_:=e0.2.1
def xK:=e0.2.2.1
def xi:=e0.2.2.2.1
def vX:=e0.2.2.2.2.1
def QK:=e0.2.2.2.2.2.1
def za:=e0.2.2.2.2.2.2.1
def aV:=e0.2.2.2.2.2.2.2.1
def gO:=e0.2.2.2.2.2.2.2.2.1
def S_:=e0.2.2.2.2.2.2.2.2.2.1
def pj:=e0.2.2.2.2.2.2.2.2.2.2.1
def g8:=e0.2.2.2.2.2.2.2.2.2.2.2
theorem T0:S0 k_ L_ xK xi vX QK za aV gO S_ pj g8:=by
 intro mu vs Θ K H LH he Ae hT next
 refine aC (jO (ctx:=[]) (xs:=[1,2,3,4,5].map nV) (λi nu=>∃vs h,nu=Aa L_ xK xi vX QK vs (aF aV) i h (λz=>[]) mu/\Sv vs (Jf aV gO za S_ xK xi vX)/\∀b,b≠0->b < i+1->pz (dh aV) b (h b)) (pS (qw (iN H he H.b_range rfl) aU aU (by decide) (by decide)) rfl) (by lia) ⟨vs,_,rfl,Ae,λb h0 h1=>by lia⟩ (λi nu h o ho=>(eo ho)) ?step ?fin)
 case step=>
  intro i y nu hy dO;refine cC dO λvs h eT hS hh=>?_;clear dO;subst eT;have hi5:i < 5:=by have:=(aB.mp hy).1;exact this
  have hye:y=nV (i+1):=by
   match i,hi5 with
   |0,_=>(have lA:=aO hy;clear hy;subst lA);rfl
   |1,_=>(have lA:=aO hy;clear hy;subst lA);rfl
   |2,_=>(have lA:=aO hy;clear hy;subst lA);rfl
   |3,_=>(have lA:=aO hy;clear hy;subst lA);rfl
   |4,_=>(have lA:=aO hy;clear hy;subst lA);rfl
  subst hye;have zD:i+1∈[1,2,3,4,5]:=by rcases (by lia:i=0\/i=1\/i=2\/i=3\/i=4) with h|h|h|h|h <;> refine aj (h ..) ?_ <;> decide
  refine aQ (i:=0) (j:=9) he (.cell (L_+8) "block") rfl ?_;have hS1:Sv (vs.set 9 (ae (nV (i+1)))) (S23 aV gO za S_ xK xi vX (i+1)):=hS.set (j:=9) (y:=nV (i+1));refine y8 H he (by exact jk (by assumption)) hS1 λvs W hS2 QX hW=>y9 H he (by exact jk (by assumption)) zD hS2 (zb H he (by exact jk (by assumption)) zD hS2 hT QX hW ?_);refine b23_d H he (by exact jk (by assumption)) hS2 hT λvs x hx hS3=>ze H LH he hx hS3 (ao (i:=2) rfl) λvs x hx P5 Ac=>b23_f H he (by exact jk (by assumption)) Ac λhS5=>bC ⟨_,_,rfl,hS5.sub ⟨rfl,rfl,rfl,rfl,rfl,rfl,rfl,rfl,rfl,rfl,rfl,rfl,trivial⟩,λb h0 h1=>?_⟩;show pz _ b (if b=i+1 then x else h b);by_cases e:b=i+1
  ·subst e;refine aj (if_pos rfl ..) ?_;exact Pv (by exact jk (by assumption)) (by assumption) hT hx P5
  ·refine aj (if_neg e ..) ?_;exact hh b h0 (by lia)
 case fin=>intro nu gi;refine cC gi λvs h iC hS hh=>?_;clear gi;subst iC;exact bC (next _ h hS hh)
end t8
theorem t8{pm doc:ai}:t8.S0 k L Hm Nt cx dc lx ds n6 S pm doc:=by with_unfolding_all exact C0 _ _ _ _ _ _ _ _ _ _ _ _ t8.S0 @t8.T0 k L Hm Nt cx dc lx ds n6 S pm doc
variable {F:Nat->List Nat}{h:Nat->Nat}{hs:List (List Nat)}
section
variable {P Q:Nat->Nat->Prop}
structure NF(F:Nat->List Nat)(P:Nat->Nat->Prop):Prop where
 nd:∀c,c < 6->(F c).Nodup
 iff:∀c,c < 6->∀y,y∈F c↔P c y
theorem NF.to(h:NF F P)(e:∀c,c < 6->∀y,P c y↔Q c y):NF F Q:=⟨h.nd,λc hc y=>(h.iff c hc y).trans (e c hc y)⟩
noncomputable def JT(F:Nat->List Nat)(c z:Nat):Nat->List Nat:=λc'=>if c'=c then (F c).filter (λy=>y != z)++[z] else F c'
set_option tactic.hygienic true in
theorem NF.up{c z:Nat}(h:NF F P):NF (JT F c z) λc' y=>P c' y\/(y=z/\c'=c):=⟨λc' hc=>by
 unfold JT
 split
 ·rename_i e;subst e;rw [bP];exact ⟨(h.nd c' hc).filter _,by simp,λa ha b hb e=>by
   rw [aA] at hb;have:=(bo.mp ha).2;rw [e,hb] at this;simp at this⟩
 ·exact h.nd c' hc,λc' hc y=>by
 unfold JT
 split
 ·rename_i e;subst e;rw [bc,bo,aA,h.iff c' hc y];by_cases e:y=z <;> simp [e]
 ·rename_i e;rw [h.iff c' hc y];simp [e]⟩
theorem gI.antiH(hr:∀y,y≠0->y < 6->∃w,wb hs y [0] w){a b:Nat}(hb:b < 6)(h:gI hs b a)(h':gI hs a b):a=b:=gI.anti (λh0=>hr b h0 hb) h h'
theorem GB(hr:∀y,y≠0->y < 6->∃w,wb hs y [0] w)(hh:∀b,b≠0->b < 6->pz hs b (h b)){p c t:Nat}(uf:c < 6)(ht:t < 6)(hpc:gI hs p c)(hct:gI hs c t)(iP:c≠t):
 c≠0/\h c < 6/\gI hs p (h c)/\gI hs (h c) t/\∀c',c' < 6->((gI hs p c'/\¬gI hs (h c) c')↔((gI hs p c'/\¬gI hs c c')\/c'=c)):=by
 have zC:c≠0:=by rintro rfl;exact iP hct.zero.symm
 have ho:=hh c zC uf;refine ⟨zC,ho.lt,gI.trans ho.sd.1 hpc,?_,λc' zp=>?_⟩
 ·exact ho.near t ht ⟨hct,iP.symm⟩
 ·constructor
  ·intro dO;refine dU dO λh1 h2=>?_;clear dO;by_cases hcc:gI hs c c'
   ·right
    exact bO λhn=>h2 (ho.near c' zp ⟨hcc,hn⟩)
   ·exact .inl ⟨h1,hcc⟩
  ·rintro (⟨h1,h2⟩|rfl)
   ·exact ⟨h1,λh3=>h2 (gI.trans h3 ho.sd.1)⟩
   ·exact ⟨hpc,λh3=>ho.sd.2 ((gI.antiH hr ho.lt h3 ho.sd.1).symm)⟩
theorem wq(hr:∀y,y≠0->y < 6->∃w,wb hs y [0] w)(hh:∀b,b≠0->b < 6->pz hs b (h b)){z p:Nat}(Nc:z≠0)(hz:z < 6)(hp:p∈hs.getD z []):gI hs p (h z)/\∀c',c' < 6->((gI hs p c'/\¬gI hs (h z) c')↔(gI hs p c'/\¬wo hs z c')):=by have ho:=hh z Nc hz;refine ⟨(ho.sd.1.step.resolve_left ho.sd.2) p hp,λc' zp=>?_⟩;refine and_congr_right λx=>not_congr ⟨λh1=>⟨gI.trans h1 ho.sd.1,λe=>?_⟩,λh1=>ho.near c' zp h1⟩;subst e;exact ho.sd.2 (gI.antiH hr ho.lt h1 ho.sd.1).symm
theorem Bl{b:Nat}(hb:∀q∈hs.getD b [],q=b):∀{w:List Nat},ei hs b w->∀x∈w,x=b
 |[],_,_,hx=>eo hx
 |c::w,hw,x,hx=>by
  have hc:c=b:=hb c hw.1;subst hc;rcases aP.mp hx with e|e
  ·exact e
  ·exact Bl hb hw.2 x e
theorem Pw(hr:∀y,y≠0->y < 6->∃w,wb hs y [0] w){z p c':Nat}(Nc:z≠0)(hz:z < 6)(hp6:p < 6)(h1:∀q∈hs.getD z [],q=p):¬Gw hs c' z:=by
 intro eT;refine ef eT λq hq hd hn=>?_;clear eT;have:=h1 q hq;subst this;refine cJ (hr z Nc hz) λw hw=>?_;have hzq:q≠z:=by
  rintro rfl;refine aK (hw.2) λd hd hm=>?_;have Jt:d=0:=by simpa using hm
  have:=Bl h1 hw.1.back d (df hd);exact Nc (by rw [<- this,Jt])
 have hdq:gI hs z q:= .inr ⟨Nc,λv hv=>by
  have hb:=hv.1.back;refine aK (hv.2) λd hd x=>?_
  match v,hb,hd with
  |c::v,hb,_=>rw [h1 c hb.1];exact aa⟩
 refine hn ⟨gI.trans hd hdq,λe=>?_⟩;subst e;exact hzq (gI.antiH hr hz hdq hd)
end
theorem Bm(hT:si (dh ds) S)(hh:∀b,b≠0->b < 6->pz (dh ds) b (h b)){c:Nat}(hc:c < 6)(zC:c≠0):(eZ (S (h c))).length < (eZ (S c)).length:=by have ho:=hh c zC hc;refine uz λhl=>?_;have:=HO (S:=S (h c)) (S':=S c) (λx hx h1=>(z9 hT hc hx).mpr (gI.trans ((z9 hT ho.lt hx).mp h1) ho.sd.1)) hl c hc ((z9 hT hc hc).mpr gI.self);exact ho.sd.2 (gI.antiH qY ho.lt ((z9 hT ho.lt hc).mp this) ho.sd.1).symm
theorem Px:∀z,z < 6->z≠0->z∈(aN 5).map (·+1):=by decide
theorem Py:∀c∈(aN 5).map (·+1),c < 6:=by decide
theorem Jk{low c z:Nat}{F:Nat->List Nat}(hl:low < 28)(hc:c < 6):jF (qW low F) (cB (low+c)) (Gy low (JT F c z c))=qW low (JT F c z):=by
 unfold qW;refine aj (FT hl (λc hc=>aY.mp hc) (aY.mpr hc) ..) ?_;unfold bD;refine b5 λb y=>?_;show (_,(if b=c then Gy low (JT F c z c) else Gy low (F b)))=(_,Gy low (JT F c z b));by_cases e:b=c
 ·subst e;(refine aj (if_pos rfl ..) ?_;rfl)
 ·refine aj (if_neg e ..) ?_;unfold JT;(refine aj (if_neg e ..) ?_;rfl)
def t9.S0(k:Nat)(mu:Mu)(Θ:AF->Mu->Prop)(L Hm Nt cx dc lx:ay)(ds:List Nat)(n6:Nat)(S h:Nat->Nat)(pm doc:ai)(_:Nat):Prop:=∀{vs:ej} (H:Hy G) (he:du (bT pm doc L)) (Ae:Sv vs (Jf ds n6 lx S Hm Nt cx)) (hT:si (dh ds) S) (hh:∀b,b≠0->b < 6->pz (dh ds) b (h b)) (next:∀vs F,Sv vs (Jf ds n6 lx S Hm Nt cx)->NF F (λc z=>z≠0/\z < 6/\Gw (dh ds) c z)->WS (k+8) (Aa L Hm Nt cx dc vs (aF ds) 5 h F mu) (bT pm doc L) (je 25) Θ),WS (k+8) (Aa L Hm Nt cx dc vs (aF ds) 5 h (λy=>[]) mu) (bT pm doc L) (je 24) Θ
namespace t9
@[irreducible] def e0:=Fq eN gD s9 cL cL cL cL cL cL gD eN inferInstance inferInstance gL gL eN S0
def k_:=e0.1
def fb:=e0.2.1
def Θ_:=e0.2.2.1
def L_:=e0.2.2.2.1
def xK:=e0.2.2.2.2.1
def xi:=e0.2.2.2.2.2.1
def vX:=e0.2.2.2.2.2.2.1
def QK:=e0.2.2.2.2.2.2.2.1
def za:=e0.2.2.2.2.2.2.2.2.1
def aV:=e0.2.2.2.2.2.2.2.2.2.1
def gO:=e0.2.2.2.2.2.2.2.2.2.2.1
def S_:=e0.2.2.2.2.2.2.2.2.2.2.2.1
def h_:=e0.2.2.2.2.2.2.2.2.2.2.2.2.1
def pj:=e0.2.2.2.2.2.2.2.2.2.2.2.2.2.1
def g8:=e0.2.2.2.2.2.2.2.2.2.2.2.2.2.2.1
theorem T0:S0 k_ fb Θ_ L_ xK xi vX QK za aV gO S_ h_ pj g8 e0.2.2.2.2.2.2.2.2.2.2.2.2.2.2.2:=by
 intro vs H he Ae hT hh next
 have d7:=eI aV;have CU:∀c∈aN 6,c < 6:=λc hc=>aY.mp hc;have hf:∀{vs} {l:Mu},bq L_ (aM (L_+1) (bk (cN 23)).names) vs∈cw L_ vs::l:=aa;refine cq (H.f270.go) λob w w w h0 hd w=>aC (jO (ctx:=[]) (xs:=[1,2,3,4,5].map λb=>V.str (cB (aF aV+b))) (λi nu=>∃vs F,nu=Aa L_ xK xi vX QK vs (aF aV) 5 h_ F fb/\Sv vs (Jf aV gO za S_ xK xi vX)/\NF F (λc z=>z≠0/\z < i+1/\Gw (dh aV) c z)) (pP (l:=[1,2,3,4,5]) (f:=λb=>(cB (aF aV+b),rq (aF aV) (lU aV) b)) (ah (j:=41) he (.cell (L_+15) "book") hf (Ae.get rfl))) (by lia) ⟨vs,_,rfl,Ae,⟨λw w=>kQ,λc w y=>⟨λh_=>absurd h_ e7,λh_=>by lia⟩⟩⟩ (λi nu h_ o ho=>(eo ho)) ?step ?fin)
 case fin=>intro nu dO;refine cC dO λvs F eT hS hF=>?_;clear dO;subst eT;exact bC (next _ F hS hF)
 case step=>
  intro i y nu hy gi;refine cC gi λvs F iC hS hF=>?_;clear gi;subst iC;have hi5:i < 5:=by have:=(aB.mp hy).1;exact this
  have hye:y= .str (cB (aF aV+(i+1))):=by
   match i,hi5 with
   |0,_=>(have lA:=aO hy;clear hy;subst lA);rfl
   |1,_=>(have lA:=aO hy;clear hy;subst lA);rfl
   |2,_=>(have lA:=aO hy;clear hy;subst lA);rfl
   |3,_=>(have lA:=aO hy;clear hy;subst lA);rfl
   |4,_=>(have lA:=aO hy;clear hy;subst lA);rfl
  subst hye;have zD:i+1∈[1,2,3,4,5]:=by rcases (by lia:i=0\/i=1\/i=2\/i=3\/i=4) with h_|h_|h_|h_|h_ <;> refine aj (h_ ..) ?_ <;> decide
  have JW:i+1 < 6:=by exact jk (by assumption)
  refine aQ (i:=0) (j:=8) he (.cell (L_+7) "name") rfl ?_;have hS1:Sv (vs.set 8 (ae (.str (cB (aF aV+(i+1)))))) ((8,.str (cB (aF aV+(i+1))))::Jf aV gO za S_ xK xi vX):=hS.set (j:=8) (y:= .str (cB (aF aV+(i+1))));have hsm:((Eo (aF aV) (cR (cls aV (i+1)))).map (·.2)).sum=((cls aV (i+1)).length:Nat):=by refine aj (a0 ..) ?_;refine aj (show ((cR (cls aV (i+1))).map ((λx:bb×Int=>x.2)∘λq=>(cB (aF aV+q.1),q.2)))=(cR (cls aV (i+1))).map (·.2) from rfl) ?_;refine aj (Bj ..) ?_;rfl
  have ql:∀q,q∈(dh aV).getD (i+1) []↔q∈cls aV (i+1):=λq=>by
   (refine aj (t7 JW ..) ?_;refine gj (nt ..) ?_);exact ⟨λh_=>h_.2,λh_=>⟨kr h_,h_⟩⟩
  refine aC (iY (b:=decide ((1:Int) < ((cls aV (i+1)).length:Nat))) (c9 (ju (ys:=[FU (aF aV) (cR (cls aV (i+1)))]) (mn H he H.m_count rfl) h0 hd (au (bM (bF (bF (pM (ah (j:=41) he (.cell (L_+15) "book") hf (hS1.get rfl))) (ah (j:=8) he (.cell (L_+7) "name") hf (hS1.get rfl)) (mh (gb d7 (by decide) zD))) aU tK) (congrArg (FU (aF aV)) (Bf (cW aV) (i+1)))) aT) (by refine aj (Cg ..) ?_;exact FW.mono (Hn (k:=k_+6) H) λy nu h_=>⟨h_.2.trans (congrArg V.int hsm),h_.1⟩)) aU G3) (λhc=>?many) λhc=>?few)
  case few=>
   have hc:=of_decide_eq_false hc;refine bC (bC ⟨_,F,rfl,hS1.sub ⟨rfl,rfl,rfl,rfl,rfl,rfl,rfl,rfl,rfl,rfl,rfl,rfl,trivial⟩,hF.to λc uf y=>⟨λh_=>⟨h_.1,by lia,h_.2.2⟩,λh_=>⟨h_.1,?_,h_.2.2⟩⟩⟩);refine Nat.lt_of_le_of_ne (by lia) λe=>?_;subst e;obtain ⟨p,hp⟩:∃p,∀q∈cls aV (i+1),q=p:=by
    match hcl:cls aV (i+1) with
    |[]=>exact ⟨0,λq hq=>eo hq⟩
    |[p]=>exact ⟨p,λq hq=>aA.mp hq⟩
    |a::b::l=>rw [hcl] at hc;simp at hc;lia
   have iP:=h_.2.2;refine aK iP λq hq w=>?_;clear iP;have hqp:=hp q ((ql q).mp hq);exact Pw qY h_.1 JW (p:=p) (by refine fZ (hqp ..) ?_;exact sh.lt _ _ hq) (λr hr=>hp r ((ql r).mp hr)) h_.2.2
  case many=>
   refine aC (jO (ctx:=[]) (xs:=(cR (cls aV (i+1))).map λq=>V.str (cB (aF aV+q.1))) (λj nu=>∃vs F,nu=Aa L_ xK xi vX QK vs (aF aV) 5 h_ F fb/\Sv vs ((8,.str (cB (aF aV+(i+1))))::Jf aV gO za S_ xK xi vX)/\NF F (λc' y=>(y≠0/\y < i+1/\Gw (dh aV) c' y)\/(y=i+1/\∃q∈(cR (cls aV (i+1))).take j,gI (dh aV) q.1 c'/\¬gI (dh aV) (h_ (i+1)) c'))) (pP (l:=cR (cls aV (i+1))) (f:=λq=>(cB (aF aV+q.1),V.int q.2)) (bM (bF (bF (pM (ah (j:=41) he (.cell (L_+15) "book") hf (hS1.get rfl))) (ah (j:=8) he (.cell (L_+7) "name") hf (hS1.get rfl)) (mh (gb d7 (by decide) zD))) aU tK) (congrArg (FU (aF aV)) (Bf (cW aV) (i+1))))) (by lia) ⟨_,F,rfl,hS1,hF.to λc w y=>⟨λh_=> .inl h_,λh_=>h_.resolve_right λh_=>by simp at h_⟩⟩ (λi nu h_ o ho=>(eo ho)) ?step2 ?fin2)
   case fin2=>
    intro nu kG;refine cC kG λvs F ma hS hF=>?_;clear kG;subst ma;refine bC (bC (bC ⟨_,F,rfl,hS.sub ⟨rfl,rfl,rfl,rfl,rfl,rfl,rfl,rfl,rfl,rfl,rfl,rfl,trivial⟩,hF.to λc uf y=>?_⟩));refine aj (ak ..) ?_;refine aj (cK ..) ?_;constructor
    ·rintro (⟨h1,h2,h3⟩|⟨rfl,q,hq,h1⟩)
     ·exact ⟨h1,by exact cI (by assumption),h3⟩
     ·have EP:=(ql q.1).mpr ((qb _ _).mp (aG.mpr ⟨q,hq,rfl⟩));have h2:=((wq qY hh (lq i) JW EP).2 c uf).mp h1;exact ⟨lq i,by exact jf _,q.1,EP,h2⟩
    ·intro mE;refine G0 mE λh1 h2 h3=>?_;clear mE;by_cases e:y=i+1
     ·subst e;refine aK h3 λp hp h4=>?_;clear h3;refine aK (aG.mp ((qb _ _).mpr ((ql p).mp hp))) λq hq q7=>?_;subst q7;exact .inr ⟨rfl,q,hq,((wq qY hh (lq i) JW hp).2 c uf).mpr h4⟩
     ·exact .inl ⟨h1,by lia,h3⟩
   case step2=>
    intro j y nu hy ue;refine cC ue λvs F mP hS hF=>?_;clear ue;subst mP;rw [aJ] at hy;refine aK (aL.mp hy) λq hq so=>?_;subst so;have hqh:=(ql q.1).mpr ((qb _ _).mp (aG.mpr ⟨q,ao hq,rfl⟩));have Jr:=sh.lt _ _ hqh;have hzo:=hh (i+1) (lq i) JW;refine aQ (i:=0) (j:=24) he .loc rfl ?_;have hS2:Sv (vs.set 24 (ae (.str (cB (aF aV+q.1))))) ((24,.str (cB (aF aV+q.1)))::(8,.str (cB (aF aV+(i+1))))::Jf aV gO za S_ xK xi vX):=hS.set (j:=24) (y:= .str (cB (aF aV+q.1)));refine aC (xT (λn nu=>∃vs F c,nu=Aa L_ xK xi vX QK vs (aF aV) 5 h_ F fb/\Sv vs ((24,.str (cB (aF aV+c)))::(8,.str (cB (aF aV+(i+1))))::Jf aV gO za S_ xK xi vX)/\c < 6/\gI (dh aV) q.1 c/\gI (dh aV) c (h_ (i+1))/\n=(eZ (S_ c)).length/\NF F (λc' y=>((y≠0/\y < i+1/\Gw (dh aV) c' y)\/(y=i+1/\∃q∈(cR (cls aV (i+1))).take j,gI (dh aV) q.1 c'/\¬gI (dh aV) (h_ (i+1)) c'))\/(y=i+1/\gI (dh aV) q.1 c'/\¬gI (dh aV) c c'))) (eZ (S_ q.1)).length ⟨_,F,q.1,rfl,hS2,Jr,gI.self,(wq qY hh (lq i) JW hqh).1,rfl,hF.to λc' w y=>⟨λh_=> .inl h_,λh_=>h_.resolve_right λh_=>h_.2.2 h_.2.1⟩⟩ ?_);intro n nu zk;refine qr zk λvs F c ER hS3 uf hqc hct MX hF=>?_;clear zk;subst ER;subst MX;refine PT.wt (c9 (ah (j:=24) he .loc hf (hS3.get rfl)) (bF (wJ (ah (j:=33) he .loc hf (hS3.get rfl)) (ao (i:=1) rfl)) (ah (j:=8) he (.cell (L_+7) "name") hf (hS3.get rfl)) (mh (gb d7 Py (Px _ JW (lq i))))) tB) ?_;by_cases P4:c=h_ (i+1)
    ·refine aj (show (cB (aF aV+c) != cB (aF aV+h_ (i+1)))=aH by rw [P4];simp) ?_;refine bC (bC ⟨_,F,rfl,hS3.sub ⟨rfl,rfl,rfl,rfl,rfl,rfl,rfl,rfl,rfl,rfl,rfl,rfl,rfl,trivial⟩,hF.to λc' zp y=>?_⟩);refine aj (lM hq ..) ?_;constructor
     ·rintro ((h1|⟨h1,r,h2,h3⟩)|⟨h1,h2,h3⟩)
      ·exact .inl h1
      ·exact .inr ⟨h1,r,aE _ h2,h3⟩
      ·exact .inr ⟨h1,q,bL _ (aA.mpr rfl),h2,by refine fZ (P4 ..) ?_;exact h3⟩
     ·rintro (h1|⟨h1,r,h2,h3⟩)
      ·exact .inl (.inl h1)
      ·rcases bc.mp h2 with h4|h4
       ·exact .inl (.inr ⟨h1,r,h4,h3⟩)
       ·rw [aA] at h4;subst h4;exact .inr ⟨h1,h3.1,by refine aj (P4 ..) ?_;exact h3.2⟩
    ·have iP:(cB (aF aV+c) != cB (aF aV+h_ (i+1)))=aI:=by
      refine aj (show (cB (aF aV+c) != cB (aF aV+h_ (i+1)))=(c != h_ (i+1)) from congrArg not (rS d7 uf hzo.lt)) ?_;simpa using P4
     refine aj (iP ..) (N0 (GB qY hh uf hzo.lt hqc hct P4) λzC hhc s1 s2 s3=>?_);have Us:∀y∈F c,y < 6:=λy hy=>by
      rcases (hF.iff c uf y).mp hy with (h1|h1)|h1 <;> lia
     have hl6:(F c).length<=6:=ez (hF.nd c uf) Us;refine aC (qB (i:=2) (D:=xi) (x:=cB (aF aV+c)) (y:=Gy (aF aV) (JT F c (i+1) c)) (bM (br (dD (nF (F c) (λo=>V.str (cB (aF aV+o))) (λo=>cB (aF aV+o) != cB (aF aV+(i+1))) (λo=>V.str (cB (aF aV+o))) ⟨rfl,rfl,by decide+kernel,by decide+kernel⟩ (dA (bF (wJ (ah (j:=44) he (.cell (L_+18) "noted") hf (hS3.get rfl)) (ao (i:=2) rfl)) (ah (j:=24) he .loc hf (hS3.get rfl)) (mh (gb d7 CU (aY.mpr uf))))) (by lia) (by exact aw (by assumption) (by decide)) (λC1 a ha=>iu 1 he.comp .loc (fS (c9 (ah (j:=1) he.comp .loc aa rfl) (ah (j:=8) he.comp (.cell (L_+7) "name") (ab _ hf) (hS3.get rfl)) tB)) (λhb=>(ah (j:=1) he.comp .loc aa rfl))))) (dD (ij (xs:=[.str (cB (aF aV+(i+1)))]) (au (ah (j:=8) he (.cell (L_+7) "name") hf (hS3.get rfl)) aT) (by show 1<=2 ^ 20;decide))) (uM (by refine aj (ak ..) ?_;have:=bu (λo=>cB (aF aV+o) != cB (aF aV+(i+1))) (F c);show _+1<=_;lia))) ?ceq) (ah (j:=44) he (.cell (L_+18) "noted") hf (hS3.get rfl)) (ah (j:=24) he .loc hf (hS3.get rfl)) rfl (by show (bD (aF aV) (aN 6) _).length<=2 ^ 24;refine aj (KU ..) ?_;decide) ?_)
     case ceq=>refine congrArg V.list ?_;unfold JT;refine aj (if_pos rfl ..) ?_;refine aj (bj ..) ?_;congr 2;exact fz λo ho=>congrArg not (rS d7 (Us o ho) JW)
     refine aj (Jk d7 uf ..) ?_;show WS (k_+8) (Aa L_ xK xi vX QK vs (aF aV) 5 h_ (JT F c (i+1)) fb) _ _ _;refine aC (bX (bF (wJ (ah (j:=33) he .loc hf (hS3.get rfl)) (ao (i:=1) rfl)) (ah (j:=24) he .loc hf (hS3.get rfl)) (mh (gb d7 Py (Px _ uf zC)))) (aQ (i:=0) (j:=24) he .loc rfl ?_) rfl rfl);refine bC ⟨_,Bm hT hh uf zC,_,JT F c (i+1),h_ c,rfl,(hS3.set (j:=24) (y:= .str (cB (aF aV+h_ c)))).sub ⟨rfl,rfl,rfl,rfl,rfl,rfl,rfl,rfl,rfl,rfl,rfl,rfl,rfl,rfl,trivial⟩,hhc,s1,s2,rfl,(hF.up (c:=c) (z:=i+1)).to λc' zp y=>?_⟩;have:=s3 c' zp;constructor
     ·rintro ((h1|⟨h1,h2⟩)|⟨h1,h2⟩)
      ·exact .inl h1
      ·exact .inr ⟨h1,this.mpr (.inl h2)⟩
      ·exact .inr ⟨h1,this.mpr (.inr h2)⟩
     ·rintro (h1|⟨h1,h2⟩)
      ·exact .inl (.inl h1)
      ·rcases this.mp h2 with h3|h3
       ·exact .inl (.inr ⟨h1,h3⟩)
       ·exact .inr ⟨h1,h3⟩
end t9
theorem t9{pm doc:ai}:t9.S0 k mu Θ L Hm Nt cx dc lx ds n6 S h pm doc 0:=by with_unfolding_all exact As _ _ _ _ _ _ _ _ _ _ _ _ _ _ _ _ t9.S0 @t9.T0 k mu Θ L Hm Nt cx dc lx ds n6 S h pm doc 0
variable {W:ay}
noncomputable def setP(d b:Nat):Bool:=((b:Int) == 0) || (lZ ((d:Int) / 2 ^ ((b:Int) - 1).toNat) 1 != 0 || false)
noncomputable def cz(d:Nat):List Nat:=(aN 6).filter (setP d)
theorem shz{a:Nat}(h:((a:Int) == 0)=aH):0<=(a:Int) - 1:=by
 have:(a:Int)≠0:=by simpa using h
 lia
theorem Cw{d:Nat}:∀c∈cz d,c < 6:=λc hc=>aY.mp (bo.mp hc).1
theorem Pz(d:Nat):(cz d).Nodup:=lp.filter _
theorem GC(d:Nat):0∈cz d:=bo.mpr ⟨by decide,rfl⟩
theorem oa(d:Nat):(cz d).length<=6:=ez (Pz d) Cw
noncomputable abbrev S25(ds:List Nat)(n6:Nat)(lx:ay)(S h:Nat->Nat)(F:Nat->List Nat)(d:Nat):List (Nat×V):=(45,wV (cz d))::(44,.dict (qW (aF ds) F))::(33,.dict (qc (aF ds) 5 h))::S21 ds n6 lx S
noncomputable abbrev PA(low:Nat)(l:List Nat):List V:=l.map λw=>V.str (cB (low+w))
theorem SG(H:Hy G){pm doc:ai}(he:du (bT pm doc L)){d:Nat}(hlen:ds.length < 2 ^ 60)(h25:ds[25]? =ae d)(Ae:Sv vs (Jf ds n6 lx S Hm Nt cx))
 (next:∀vs W,Sv vs ((43,.ref W)::S25 ds n6 lx S h F d)->WS (k+8) (bl W (PA (aF ds) (cz d))::cw L vs::mu) (bT pm doc L) (je 27) Θ):
 WS (k+8) (Aa L Hm Nt cx dc vs (aF ds) 5 h F mu) (bT pm doc L) (je 25) Θ:=by
 have d7:=eI ds;have hf:∀{vs} {l:Mu},bq L (aM (L+1) (bk (cN 23)).names) vs∈cw L vs::l:=aa;refine WF.frzD (j:=33) (Ae.get rfl) ?_;have hSa:=Ae.set (j:=33) (y:= .dict (qc (aF ds) 5 h));refine WF.frzD (j:=44) (hSa.get rfl) (WF.to [1] (WF.drop1 ?_));have hSb:Sv _ ((44,.dict (qW (aF ds) F))::(33,.dict (qc (aF ds) 5 h))::S21 ds n6 lx S):=(hSa.set (j:=44) (y:= .dict (qW (aF ds) F))).sub ⟨rfl,rfl,rfl,rfl,rfl,rfl,rfl,rfl,rfl,rfl,rfl,trivial⟩;generalize (vs.set 33 (ae (.dict (qc (aF ds) 5 h)))).set 44 (ae (.dict (qW (aF ds) F)))=NL at hSb ⊢;show WS (k+8) (cw L NL::mu) (bT pm doc L) (je 25) Θ;refine aC (bX (y:=wV (cz d)) (nF (aN 6) nV (setP d) nV ⟨rfl,rfl,by decide+kernel,by decide+kernel⟩ (fK (n:=6) (iN H he H.b_range rfl) aU rfl (by decide)) (by lia) (by decide) (λC1 a ha=>iu 1 he.comp .loc (fS (oM (iM (c9 (ah (j:=1) he.comp .loc aa rfl) aU qu) (λhz=>iM (kU (br (br (bF (dD (ah (j:=4) he.comp (.cell (L+3) "draws") (ab _ hf) (hSb.get rfl))) aU (ew (j:=25) (inj:=nV) h25 hlen)) (br (ah (j:=1) he.comp .loc aa rfl) aU vL) (Hh (shz hz))) aU qt) xQ) (λz=>jn))))) (λz=>(ah (j:=1) he.comp .loc aa rfl)))) (aQ (i:=0) (j:=45) he (.cell (L+19) "settings") rfl ?_) rfl rfl);have hSc:=hSb.set (j:=45) (y:=wV (cz d));refine aC (b4 (RC (cz d) nV (λb=>V.str (cB (aF ds+b))) ⟨rfl,rfl,by decide+kernel,by decide+kernel⟩ (dA (ah (j:=45) he (.cell (L+19) "settings") hf (hSc.get rfl))) (by lia) (aw (oa d) (by decide)) (λC2 a ha=>iu 1 he.comp .loc dk (λz=>(bF (dD (ah (j:=7) he.comp (.cell (L+6) "names") (ab _ hf) (hSc.get rfl))) (ah (j:=1) he.comp .loc aa rfl) (ew (j:=a) (inj:=λb=>V.str (cB (aF ds+b))) (bz (Cw a ha)) (by decide))))) (λW=>fL.ref (aQ (i:=1) (j:=43) he (.cell (L+17) "line") rfl ?_))) rfl rfl);exact next _ W (hSc.set (j:=43) (y:= .ref W))
variable {ws:List Nat}
section
variable {sets:List Nat}{m i w:Nat}
noncomputable def Jl(n0:Nat)(F:Nat->List Nat)(s:Unit)(ws:List Nat)(w:Nat):Unit×List Nat:=(s,(F w).filter λz=>!decide (z∈ws.drop n0))
structure RJ(hs:List (List Nat))(sets:List Nat)(F:Nat->List Nat)(m i:Nat)(ws:List Nat)(_:Unit):Prop where
 pre:ws.take sets.length=sets
 nd:(ws.drop sets.length).Nodup
 lt:∀c∈ws,c < 6
 pl:∀c∈ws.drop sets.length,iB hs sets c
 clo:∀j x,j < i->ws[j]? =ae x->∀z∈F x,z∈ws.drop sets.length
 le:i<=ws.length
 ms:m=(6 - (ws.drop sets.length).length)+(ws.length - i)
theorem RJ.start(h6:∀c∈sets,c < 6):RJ hs sets F (6+sets.length) 0 sets () where
 pre:=cK
 nd:=by refine aj (ox ..) ?_;exact kQ
 lt:=h6
 pl:=by refine aj (ox ..) ?_;exact λc hc=>eo hc
 clo:=λj x hj=>absurd hj (GX _)
 le:=gp _
 ms:=by refine aj (ox ..) ?_;rfl
theorem RJ.hl(h:RJ hs sets F m i ws ()):sets.length<=ws.length:=by have:=congrArg kM h.pre;rw [dR] at this;lia
theorem RJ.dl(h:RJ hs sets F m i ws ()):(ws.drop sets.length).length<=6:=ez h.nd λc hc=>h.lt c (gn hc)
theorem RJ.mem(h:RJ hs sets F m i ws ()){x:Nat}(hx:x∈ws):zA hs sets x:=by rw [<- oq sets.length ws,bc,h.pre] at hx;exact hx.imp id (h.pl x)
def RJ.step.S0(hs:List (List Nat))(sets:List Nat)(F:Nat->List Nat)(w:Nat)(ws:List Nat)(_:Nat):Prop:=∀{m i:Nat} (hF:NF F (λc z=>z≠0/\z < 6/\Gw hs c z)) (h:RJ hs sets F m i ws ()) (hw:ws[i]? =ae w),∃m',m' < m/\RJ hs sets F m' (i+1) (ws++(Jl sets.length F () ws w).2) ()
namespace RJ.step
@[irreducible] def e0:=Fp gD gD inferInstance eN gD eN S0
def kE:=e0.1
def vb:=e0.2.1
def F_:=e0.2.2.1
def w_:=e0.2.2.2.1
def qJ:=e0.2.2.2.2.1
theorem T0:S0 kE vb F_ w_ qJ e0.2.2.2.2.2:=by
 intro m i hF h hw;have hi:i < qJ.length:=(aB.mp hw).1;have hwm:=ao hw;have P1:=h.lt w_ hwm;have Uv:∀o:List Nat,(qJ++o).drop vb.length=qJ.drop vb.length++o:=λo=>gq h.hl;have ho:∀z∈(Jl vb.length F_ () qJ w_).2,z∈F_ w_/\z∉qJ.drop vb.length:=λz hz=>by
  have:=bo.mp hz;exact ⟨this.1,by simpa using this.2⟩
 have hnd:(qJ.drop vb.length++(Jl vb.length F_ () qJ w_).2).Nodup:=by exact gj (bP ..) (⟨h.nd,(hF.nd w_ P1).filter _,λa ha b hb e=>(ho b hb).2 (e▸ha)⟩)
 have hlt:∀c∈qJ++(Jl vb.length F_ () qJ w_).2,c < 6:=λc hc=>by
  rcases bc.mp hc with h1|h1
  ·exact h.lt c h1
  ·exact ((hF.iff w_ P1 c).mp (ho c h1).1).2.1
 have hd6:=ez hnd λc hc=>hlt c (by
  rcases bc.mp hc with h1|h1
  ·exact aE _ (gn h1)
  ·exact bL _ h1)
 rw [ba] at hd6;refine ⟨m - 1,?_,?_,?_,hlt,?_,?_,?_,?_⟩
 ·have:=h.ms;lia
 ·refine aj (Fm h.hl ..) ?_;exact h.pre
 ·refine aj (Uv ..) ?_;exact hnd
 ·refine aj (Uv ..) ?_;intro c hc;rcases bc.mp hc with h1|h1
  ·exact h.pl c h1
  ·exact iB.of (h.mem hwm) ((hF.iff w_ P1 c).mp (ho c h1).1).2.2
 ·refine aj (Uv ..) ?_;intro j x hj hx z hz;rcases gX j i with h1|h1
  ·rw [eE (by exact CP (by assumption) (by assumption))] at hx;exact aE _ (h.clo j x h1 hx z hz)
  ·have:j=i:=by lia
   subst this;rw [eE hi,hw] at hx
   (have lA:=aO hx;clear hx;subst lA)
   by_cases hm:z∈qJ.drop vb.length
   ·exact aE _ hm
   ·exact bL _ (bo.mpr ⟨hz,by simpa using hm⟩)
 ·refine aj (ba ..) ?_;lia
 ·(refine aj (Uv ..) ?_;refine aj (ba ..) ?_;refine aj (ba ..) ?_)
  have:=h.ms;lia
end RJ.step
theorem RJ.step:RJ.step.S0 hs sets F w ws 0:=by with_unfolding_all exact uD _ _ _ _ _ _ RJ.step.S0 @RJ.step.T0 hs sets F w ws 0
structure ua(hs:List (List Nat))(sets ws:List Nat):Prop where
 pre:ws.take sets.length=sets
 lt:∀c∈ws,c < 6
 len:ws.length<=12
 iff:∀z,z∈ws.drop sets.length↔iB hs sets z
theorem ua.mem(h:ua hs sets ws)(x:Nat):x∈ws↔zA hs sets x:=by
 conv=>lhs;rw [<- oq sets.length ws,bc,h.pre]
 exact or_congr Iff.rfl (h.iff x)
theorem RJ.fin(hF:NF F (λc z=>z≠0/\z < 6/\Gw hs c z))(H0:hs.getD 0 []=[])(H6:hs.length=6)(hs6:sets.length<=6)(h:RJ hs sets F m ws.length ws ()):ua hs sets ws where
 pre:=h.pre
 lt:=h.lt
 len:=by have h1:=h.dl;rw [fY] at h1;lia
 iff:=λz=>by
  have key:∀{x z},x∈ws->Gw hs x z->z∈ws.drop sets.length:=λ{x z} hx hf=>by
   refine cJ (iq.mp hx) λj hj=>h.clo j x (aB.mp hj).1 hj z ((hF.iff x (h.lt x hx) z).mpr ⟨?_,?_,hf⟩)
   ·rintro rfl;refine aK hf λp hp y=>?_;clear hf;rw [H0] at hp;exact eo hp
   ·refine aK hf λp hp y=>?_;clear hf;refine uz λhz=>?_;rw [bR,il (by lia)] at hp;exact eo hp
  refine ⟨h.pl z,λhp=>?_⟩;induction hp with
  |set hx hf=>refine key ?_ hf;rw [<- h.pre] at hx;exact pB hx
  |next _ hf ih=>exact key (gn ih) hf
end
theorem Bn{α:Type}{as:List α}{n:Nat}(hn:n<=as.length):jq as (ae (n:Int)) av av=as.drop n:=by
 have e:c7 (ae (n:Int)) av av as.length=(((n:Nat):Int),((n+(as.length - n):Nat):Int),1):=by unfold c7;simp;lia
 unfold jq;refine aj (e ..) ?_;simp only;refine aj (pT ..) ?_;refine aj (pU ..) ?_;refine aj (d6 (by rw [fY];exact bp _) ..) ?_;rfl
variable {fd:ay}{d:Nat}{cs:List Nat}
noncomputable def HP:bH:=QF ((fR (cN 23)).getD 27 (.Pass ⟨0,0,0,0⟩))
noncomputable abbrev tv(L c:ay)(ct:ai):cm:=yq lz (exA HP) (exB HP) (exS HP) [("settings",L+19),("noted",L+18),("line",L+17)] c ct
theorem Cy{low:Nat}(hl:low < 28){l:List Nat}(h6:∀c∈l,c < 6){o:Nat}(ho:o < 6):((l.map λw=>cB (low+w)).any (· == cB (low+o)))=decide (o∈l):=by
 refine gj (cj ..) ?_;refine gj (cS ..) ?_;refine aj (decide_eq_true_eq ..) ?_;constructor
 ·intro dO;refine aK dO λz h1 h2=>?_;clear dO;refine aK (aG.mp h1) λb hb eT=>?_;subst eT;have:=(wY hl (h6 b hb) ho).mp (by simpa using h2);exact this▸hb
 ·intro h;exact ⟨_,aG.mpr ⟨o,h,rfl⟩,by simp⟩
theorem MJ(H:Hy G){c':ay}{ct:ai}{m i:Nat}{ws:List Nat}{w c0:Nat}{tb:List zU}(hS:Sv vs ((43,.ref W)::S25 ds n6 lx S h F d))(hF:NF F (λc z=>z≠0/\z < 6/\Gw (dh ds) c z))(hJ:RJ (dh ds) (cz d) F m i ws ())(hw:ws[i]? =ae w)
 (h1:cw L vs∈mu) (h2:mj fd (eh (tv L c' ct) av)∈mu) (h3:gG 304 tb∈mu) (hq:(298,c0,c',lz)∈tb) (h4:bl W (PA (aF ds) ws)∈mu):
 FW (k+5) mu (.ref fd) [.str (cB (aF ds+w))] λy nu=>y= .list ((Jl (cz d).length F () ws w).2.map λw=>V.str (cB (aF ds+w)))/\nu=mu:=by
 have d7:=eI ds;have CU:∀c∈aN 6,c < 6:=λc hc=>aY.mp hc;refine FL H.B (names:=["name"]) (vals':=λx=>[ae (.str (cB (aF ds+w)))]) (Kn.obj h2) rfl (Kn.code h3 hq) rfl (λvs h=>?_) (by show (aM 0 (exS HP).names).nd;decide+kernel) (λL=>⟨rfl,rfl,rfl⟩) (λL2=>?_) (λL2=>?_)
 ·exact uP h λa=>rfl
 ·exact .cons (j:=0) .loc rfl .nil
 have he:du (dT (tv L c' ct) fd L2):=⟨rfl,rfl,rfl⟩;have P1:=hJ.lt w (ao hw);have hl6:(F w).length<=6:=ez (hF.nd w P1) λy hy=>((hF.iff w P1 y).mp hy).2.1;have hwl:ws.length<=12:=by have:=hJ.dl;have h2:=oa d;rw [fY] at this;lia
 have Ff:(PA (aF ds) ws).drop (cz d).length=((ws.drop (cz d).length).map λw=>cB (aF ds+w)).map .str:=by (refine aj (a0 ..) ?_;refine aj (Nv ..) ?_);rfl
 refine cf (bM (nF (F w) (λo=>V.str (cB (aF ds+o))) (λo=>!((ws.drop (cz d).length).map λw=>cB (aF ds+w)).any (· == cB (aF ds+o))) (λo=>V.str (cB (aF ds+o))) ⟨rfl,rfl,by decide+kernel,by decide+kernel⟩ (dA (bF (pM (ah (j:=44) (L:=L) (lay:=aM (L+1) (bk (cN 23)).names) he (.free (L+18) "noted" rfl rfl rfl rfl rfl) (ab _ h1) (hS.get rfl))) (ah (j:=0) he .loc aa rfl) (mh (gb d7 CU (aY.mpr P1))))) (by lia) (by exact aw (by assumption) (by decide)) (λC1 a ha=>iu 1 he.comp .loc (fS (c9 (ah (j:=1) he.comp .loc aa rfl) (dD (bM (bF (uG (ah (j:=43) (L:=L) (lay:=aM (L+1) (bk (cN 23)).names) he.comp (.free (L+17) "line" rfl rfl rfl rfl rfl) (ab _ (ab _ h1)) (hS.get rfl)) (ab _ (ab _ h4))) (jo (eO (ek (j4 H he.comp H.b_len rfl) (au (dD (ah (j:=45) (L:=L) (lay:=aM (L+1) (bk (cN 23)).names) he.comp (.free (L+19) "settings" rfl rfl rfl rfl rfl) (ab _ (ab _ h1)) (hS.get rfl))) aT) (mi (by refine aj (ak ..) ?_;exact aw (oa d) (by decide))))) dM dM) (pg (λh=>by exact gK h) (by refine aj (ak ..) ?_;exact aw (by assumption) (by decide)))) (by (refine aj (Bn (by rw [ak,ak];exact hJ.hl) ..) ?_;refine aj (ak ..) ?_;refine aj (Ff ..) ?_;rfl)))) BP)) (λx=>(ah (j:=1) he.comp .loc aa rfl)))) ?eq) (jK.tail (jK.keep ⟨rfl,rfl⟩))
 case eq=>refine congrArg V.list (congrArg _ (fz λo ho=>?_));have ho6:=((hF.iff w P1 o).mp ho).2.1;exact congrArg not (Cy d7 (λc hc=>hJ.lt c (gn hc)) ho6)
noncomputable abbrev S27(ds:List Nat)(n6:Nat)(lx:ay)(S h:Nat->Nat)(F:Nat->List Nat)(d:Nat)(ws:List Nat):List (Nat×V):=(43,.list (PA (aF ds) ws))::S25 ds n6 lx S h F d
noncomputable abbrev QL(P:ib)(N:Int)(cs:List Nat)(L fd:ay)(NG:cm)(tb:List zU)(vs:ej)(mu:Mu)(_:Unit):Mu:=mj fd (eh NG av)::cw L vs::((j6 P [] N cs).drop 1++(gG 304 tb::mu))
def ub.S0(k:Nat)(mu:Mu)(vs:ej)(Θ:AF->Mu->Prop)(L W:ay)(ds:List Nat)(n6 d:Nat)(cs:List Nat)(pm doc:ai)(P:ib)(N:Int)(c0:ay)(_:Nat):Prop:=∀{K:fl} {S h:Nat->Nat} {F:Nat->List Nat} (H:Hy G) (LH:fM G K) (BH:yx K) (LL:Sy G) (he:du (bT pm doc L)) (PO:mV P) (hS:Sv vs ((43,.ref W)::S25 ds n6 P.lx S h F d)) (hR:pn ds n6 18 cs) (hF:NF F (λc z=>z≠0/\z < 6/\Gw (dh ds) c z)) (next:∀vs cs' ws c',Sv vs (S27 ds n6 P.lx S h F d ws)->pn ds n6 19 cs'->ua (dh ds) (cz d) ws->WS (k+8) (cw L vs::(j6 P [] N cs'++(gG 304 [(273,49,c0,lz),(298,40,c',lz)]::mu))) (bT pm doc L) (je 28) Θ),WS (k+8) (bl W (PA (aF ds) (cz d))::cw L vs::(j6 P [] N cs++(gG 304 [(273,49,c0,lz)]::mu))) (bT pm doc L) (je 27) Θ
namespace ub
@[irreducible] def e0:=Fq eN gD gD s9 cL cL gD eN eN gD gL gL IU Q8 cL eN S0
def k_:=e0.1
def fb:=e0.2.1
def kR:=e0.2.2.1
def Θ_:=e0.2.2.2.1
def L_:=e0.2.2.2.2.1
def W_:=e0.2.2.2.2.2.1
def aV:=e0.2.2.2.2.2.2.1
def gO:=e0.2.2.2.2.2.2.2.1
def d_:=e0.2.2.2.2.2.2.2.2.1
def qO:=e0.2.2.2.2.2.2.2.2.2.1
def pj:=e0.2.2.2.2.2.2.2.2.2.2.1
def g8:=e0.2.2.2.2.2.2.2.2.2.2.2.1
def P_:=e0.2.2.2.2.2.2.2.2.2.2.2.2.1
def N_:=e0.2.2.2.2.2.2.2.2.2.2.2.2.2.1
def SH:=e0.2.2.2.2.2.2.2.2.2.2.2.2.2.2.1
theorem T0:S0 k_ fb kR Θ_ L_ W_ aV gO d_ qO pj g8 P_ N_ SH e0.2.2.2.2.2.2.2.2.2.2.2.2.2.2.2:=by
 intro K S h F H LH BH LL he PO hS hR hF next
 have hf:∀{kR} {l:Mu} {a:cX},bq L_ (aM (L_+1) (bk (cN 23)).names) kR∈a::cw L_ kR::l:=ab _ aa;refine cq (H.f297.go) λob2 z z z r0 rd z=>aK (hR.tok O2) λcs' ht Tf=>aC (xS (MB (HI (ml (mn H he H.m_run rfl) r0 rd (cA (cf (ah (j:=21) he (.cell (L_+11) "lexer") hf (hS.get rfl)) (cA (cf (ah (j:=43) he (.cell (L_+17) "line") hf (hS.get rfl)) (cA (cf cO (cA (Cc (i:=9) he rfl LL.la H.B rfl rfl rfl rfl λfd c' ct=>e9 ?_))))))))))));have h00:(dh aV).getD 0 []=[]:=by
  refine aj (t7 (by decide) ..) (E8.mpr λc hc=>?_);refine aK (aG.mp ((nt _ _ _).mp hc).2) λq hq z=>?_;have h1:=bo.mp hq;have h2:=(qS q h1.1).2.1;have h3:q.2=0:=by simpa using h1.2
  lia
 show FW (k_+8) (mj fd (eh (tv L_ c' ct) av)::bl W_ (PA (aF aV) (cz d_))::cw L_ kR::(j6 P_ [] N_ qO++(gG 304 [(273,49,SH,lz),(298,40,c',lz)]::fb))) (.ref 297) [.ref P_.lx,.ref W_,.str "end",.ref fd] _;refine FW.to [1,2] ?_;show FW (k_+8) (bl W_ ((cz d_).map λb=>V.str (cB (aF aV+b)))::bl P_.pb []::QL P_ N_ qO L_ fd (tv L_ c' ct) [(273,49,SH,lz),(298,40,c',lz)] kR fb ()) (.ref 297) [.ref P_.lx,.ref W_,.str "end",.ref fd] _;have RH:rV (k_+4) (λb=>cB (aF aV+b)) P_.lx P_.dx P_.pb W_ fd (tj (N_ - (qO.count 10:Nat)) (.ref P_.f) P_.pb) (eh (tv L_ c' ct) av) (tv L_ c' ct) (QL P_ N_ qO L_ fd (tv L_ c' ct) [(273,49,SH,lz),(298,40,c',lz)] kR fb) (Jl (cz d_).length F) (RJ (dh aV) (cz d_) F) (λc nu ws S=>c="end"/\nu=j6 P_ [] N_ cs'++(bl W_ (ws.map λb=>V.str (cB (aF aV+b)))::mj fd (eh (tv L_ c' ct) av)::cw L_ kR::gG 304 [(273,49,SH,lz),(298,40,c',lz)]::fb)):=⟨
  λS=>ao (i:=2) rfl,
  nN _ _ _,
  ab _ (ab _ (ab _ aa)),
  yN _ _ _,
  by show ("push_token":bb)∉(["lineno","instream","whitespace","pushback"]:List bb);decide,
  rfl,
  λS ws q=>Kn.obj (ao (i:=2) rfl),
  λm i ws S h=>⟨by have h1:=h.dl;have h2:=oa d_;rw [fY] at h1;lia,h.le⟩,
  λm i ws S w h hw=>((MJ (k:=k_+2) H hS hF h hw (ao (i:=3) rfl) (ao (i:=2) rfl) (ao (i:=10) rfl) (ab _ aa) (ao (i:=0) rfl)).mono λy nu e=>⟨e.1,by (refine aj (e.2 ..) ?_;rfl)⟩),
  λm i ws S w h hw=>h.step hF hw,
  λm ws S h=>by
   refine FW.to [1,3,3,3,3,3,3] (FW.mono (FW.app (bl W_ (ws.map λb=>V.str (cB (aF aV+b)))::mj fd (eh (tv L_ c' ct) av)::cw L_ kR::gG 304 [(273,49,SH,lz),(298,40,c',lz)]::fb) (xG (k:=k_+2) H LH BH PO ht hR.len)) λy nu he=>?_);refine ef he λnu' e1 e2 e3=>?_;clear he;subst e1 e3;exact ⟨"end",by (refine aj (e2 ..) ?_;refine aj (Ck ..) ?_;rfl),rfl,rfl⟩⟩
 refine Qt (k:=k_+4) H LH RH (RJ.start Cw) λm ws S c nu hJ hf=>dU hf λe2 e3=>?_;clear hf;subst e2 e3;refine ⟨aI,by rfl,?_⟩;show WS (k_+8) _ (bT pj g8 L_) [] _;refine bC ?_;show WS (k_+8) (j6 P_ [] N_ cs'++(bl W_ (PA (aF aV) ws)::mj fd (eh (tv L_ c' ct) av)::cw L_ kR::gG 304 [(273,49,SH,lz),(298,40,c',lz)]::fb)) (bT pj g8 L_) (je 28) Θ_;refine WF.to [8] (WF.drop1 (WF.to [8,7] (WF.frzL (j:=43) (hS.get rfl) ?_)));exact next _ cs' ws c' ((hS.set (j:=43) (y:= .list (PA (aF aV) ws))).sub ⟨rfl,rfl,rfl,rfl,rfl,rfl,rfl,rfl,rfl,rfl,rfl,rfl,rfl,trivial⟩) Tf (hJ.fin hF h00 (by rfl) (oa d_))
end ub
theorem ub{pm doc:ai}{P:ib}{N:Int}{c0:ay}:ub.S0 k mu vs Θ L W ds n6 d cs pm doc P N c0 0:=by with_unfolding_all exact As _ _ _ _ _ _ _ _ _ _ _ _ _ _ _ _ ub.S0 @ub.T0 k mu vs Θ L W ds n6 d cs pm doc P N c0 0
section
variable {S:List Nat}{W:List (List Nat)}{v:Nat}
noncomputable def HQ(one other:List Nat):Bool:=((one.filter λhere=>decide (here∈other)).map λz=>V.int 1).isEmpty
noncomputable def rm(W:List (List Nat)):List V:=W.zipIdx.flatMap λq=>((W.take q.2).filter (HQ q.1)).map λz=>V.int 1
theorem EK{u w:List Nat}:HQ u w=aI↔Su u w:=by delta HQ Su;refine gj (ur ..) ?_;refine gj (jc ..) ?_;refine gj (gY ..) ?_;simp
theorem PB:(!(rm W).isEmpty)=aI↔∃(i j:Nat) (u w:List Nat),j < i/\W[i]? =ae u/\W[j]? =ae w/\Su u w:=by
 have e:(!(rm W).isEmpty)=aI↔∃x,x∈rm W:=by
  cases h:rm W with
  |nil=>simp
  |cons a l=>simp
 refine gj (e ..) ?_;delta rm;constructor
 ·intro dO;refine cJ dO λx hx=>?_;clear dO;refine aK (bG.mp hx) λq hq h=>aK (aG.mp h) λw hw z=>dU (bo.mp hw) λh1 h2=>cJ (iq.mp h1) λj hj=>?_;have PX:=qk.mp hq;have Un:j < q.2:=by
   have:=(aB.mp hj).1;rw [dR] at this;omega
  rw [Ny Un] at hj;exact ⟨q.2,j,q.1,w,Un,PX,hj,EK.mp h2⟩
 ·intro eT;refine tA eT λi j u w Un hi hj hs=>?_;clear eT;exact ⟨V.int 1,bG.mpr ⟨(u,i),qk.mpr hi,aG.mpr ⟨w,bo.mpr ⟨iq.mpr ⟨j,by refine aj (Ny Un ..) ?_;exact hj⟩,EK.mpr hs⟩,rfl⟩⟩⟩
theorem Bo{P:Nat->Prop}:∀{w:List Nat},(∃c∈w,P c)->∃u y t,w=u++y::t/\P y/\∀c∈u,¬P c
 |[],h=>by obtain ⟨c,hc,_⟩:=h;exact eo hc
 |a::w,h=>by
  by_cases ha:P a
  ·exact ⟨[],a,w,rfl,ha,λc hc=>eo hc⟩
  ·obtain ⟨u,y,t,e,h1,h2⟩:=Bo (w:=w) (by
    refine aK h λc hc hp=>?_;rcases aP.mp hc with q|q
    ·exact absurd (q▸hp) ha
    ·exact ⟨c,q,hp⟩)
   exact ⟨a::u,y,t,by refine aj (e ..) ?_;rfl,h1,λc hc=>by
    rcases aP.mp hc with q|q
    ·refine aj (q ..) ?_;exact ha
    ·exact h2 c q⟩
structure Gr6(hs:List (List Nat)):Prop where
 ok:zW hs
 z:hs.getD 0 []=[]
 hr:∀y,y≠0->y < 6->∃w,wb hs y [0] w
theorem EL(g:Gr6 hs)(hn:¬iB hs S b)(nv:Jd hs S b v){w:List Nat}(hw:wb hs b S w):v∈w:=by refine aK (hw.2) λd hd hdS=>cE (Bo (P:=zA hs S) ⟨d,df hd,.inl hdS⟩) λu y t e h1 h2=>?_;have hb:=hw.1.back;rw [e,show u++y::t=(u++[y])++t by simp,ei.append] at hb;have:=tu g.hr g.ok.lt hn nv hb.1 h1 h2;refine aj (e ..) ?_;refine fZ (this ..) ?_;exact bL _ aa
theorem MK(g:Gr6 hs)(h0:0∈S)(zm:b≠0)(Ad:b < 6)(nv:Jd hs S b v)(hW:∀w,w∈W↔wb hs b S w):(!(rm W).isEmpty)=aI↔iB hs S b:=by
 refine gj (PB ..) ?_;constructor
 ·intro gi;refine tA gi λi j u w y hi hj hs=>?_;clear gi;exact bO λhn=>hs v (EL g hn nv ((hW u).mp (ao hi))) (EL g hn nv ((hW w).mp (ao hj)))
 ·intro hp;refine cC (nX h0 g.z g.ok.lt g.hr hp zm Ad) λu w hu hw hs=>cJ (iq.mp ((hW u).mpr hu)) λi hi=>cJ (iq.mp ((hW w).mpr hw)) λj hj=>?_;rcases sO i j with h|h|h
  ·exact ⟨j,i,w,u,h,hj,hi,λz hz MV=>hs z MV hz⟩
  ·subst h;rw [hi] at hj
   (have lA:=aO hj;clear hj;subst lA)
   exact aK (hu.2) λd hd y=>absurd (df hd) (hs d (df hd))
  ·exact ⟨i,j,u,w,h,hi,hj,hs⟩
theorem PC{marks w:List Nat}(h:BW hs b marks w):∀u y,w=u++[y]->∀c∈u,c∉marks:=by
 induction h with
 |one _=>
  intro u y e c hc;cases u with
  |nil=>exact eo hc
  |cons a t=>simp at e
 |@ext w c d hw hl hm _ _ _ ih=>
  intro u y e a ha;have hu:u=w:=((List.append_inj' e rfl).1).symm;subst hu;refine cJ (JZ.mp hl) λt ht=>?_;rw [ht] at ha;rcases bc.mp ha with h1|h1
  ·exact ih t c ht a h1
  ·refine aj (aA.mp h1 ..) ?_;exact hm
noncomputable def ks(w:List Nat):Nat:=w.getLast?.getD 0
theorem ML(g:Gr6 hs)(h0:0∈S)(nv:Jd hs S b v){To:List Nat}(hm:∀x,x∈To↔zA hs S x)(hW:∀w,w∈W↔wb hs b To w):(!(W.filter λw=>ks w != v).isEmpty)=aI↔iB hs S b:=by
 have e:(!(W.filter λw=>ks w != v).isEmpty)=aI↔∃w∈W,ks w≠v:=by
  refine aj (CC ..) ?_;refine fZ (Bool.not_eq_true ..) ?_;refine gj (ur ..) ?_;refine gj (gY ..) ?_;constructor
  ·intro h;apply bO;intro hn;exact h λw hw=>by
    have:¬ks w≠v:=λq=>hn ⟨w,hw,q⟩;simpa using this
  ·intro iC h;refine aK iC λw hw h1=>?_;clear iC;exact h w hw (by simpa using h1)
 refine gj (e ..) ?_;constructor
 ·intro kG;refine aK kG λw hw hl=>?_;clear kG;refine mI ((hW w).mp hw) λM6 y hy hym=>cJ (JZ.mp hy) λu ma=>?_;subst ma;refine bO λhn=>hl ?_;have:=tu g.hr g.ok.lt hn nv M6.back ((hm y).mp hym) λc hc h=>PC M6 u y rfl c hc ((hm c).mpr h);delta ks;(refine aj (hy ..) ?_;refine aj (this ..) ?_);rfl
 ·intro hp;refine ir (kq h0 g.ok.lt g.hr hp) λw y hw hy wy hu=>ef (k0 (marks:=To) hw ⟨y,by simp,(hm y).mpr hy⟩) λu M6 mE q8=>aK mE λc hc JU=>?_;clear mE;have hcy:c=y:=by
   rcases bc.mp (q8 c (df hc)) with h|h
   ·exact absurd ((hm c).mp JU) (hu c h)
   ·exact aA.mp h
  subst hcy;refine ⟨u,(hW u).mpr ⟨M6,c,hc,JU⟩,?_⟩;delta ks;refine aj (hc ..) ?_;rintro rfl;exact wy nv.sd
theorem Bp{α β:Type}(W:List β):∀(l:List α) (s:Nat),2*((l.zipIdx s).flatMap λq=>W.take q.2).length<=l.length*(2*s+l.length)
 |[],s=>by exact gp _
 |a::l,s=>by
  have ih:=Bp W l (s+1);refine aj (oy ..) ?_;refine aj (dF ..) ?_;refine aj (ba ..) ?_;refine aj (dR ..) ?_;refine aj (bK ..) ?_;have e:l.length*(2*(s+1)+l.length)=l.length*(2*s+(l.length+1))+l.length:=by refine aj (show 2*(s+1)+l.length=(2*s+(l.length+1))+1 by lia) ?_;refine aj (Nat.mul_succ ..) ?_;rfl
  rw [e] at ih;refine aj (iS ..) ?_;refine aj (xt ..) ?_;generalize l.length*(2*s+(l.length+1))=q at ih ⊢;lia
end
section
variable {scope:eU}{C:ay}{v x:V}{p p1 p2 p3:jC}
theorem SI{β:Type}{di:gP}{t u w:bb}{elt fc:bH}{oh:List bH}{bs:List β}{inj:β->V}{pp:β->Bool}{g:β->V}{kk:Nat}(i j l:Nat)(he:du di)(s1:Sl di C (aM (C+1) scope.names) t i)(s2:Sl di C (aM (C+1) scope.names) w j)(s3:Sl di C (aM (C+1) scope.names) u l)(hl:(((nones (aM (C+1) scope.names)).set i (ae v)).set j (ae x))[l]? =ae av)
 (src:pd k (RB scope C i j v x::mu) di fc (.Name u p2) [] (bs.map inj)) (h:∀b∈bs,xc k (nE scope C ((((nones (aM (C+1) scope.names)).set i (ae v)).set j (ae x)).set l (ae (inj b)))::mu) di oh (pp b)/\(pp b=aI->PE k (nE scope C ((((nones (aM (C+1) scope.names)).set i (ae v)).set j (ae x)).set l (ae (inj b)))::mu) di elt (g b)))
 (hf:autoParam ((di.kindOf t == ae .free)=aH) aR) (hf':autoParam ((di.kindOf u == ae .free)=aH) aR) (hf'':autoParam ((di.kindOf w == ae .free)=aH) aR):AB k mu scope C di (.Tuple [.Name t p1,.Name w p3] kk p) elt fc (.Name u p2) oh (.tup [v,x]) bs inj pp g:=
 ⟨_,[],xC he s1 s2 hf hf'',src,(λz h=>eo h),λb hb=>⟨_,qA he s3 hf',(h b hb).1,(h b hb).2,Le.unset hl⟩⟩
end
theorem Jm{α:Type}{as:List α}{n:Nat}(hn:n<=as.length):jq as av (ae (n:Int)) av=as.take n:=by
 have e:c7 av (ae (n:Int)) av as.length=(((0:Nat):Int),((0+n:Nat):Int),1):=by unfold c7;simp;lia
 unfold jq;refine aj (e ..) ?_;simp only;refine aj (pT ..) ?_;refine aj (pU ..) ?_;refine aj (fy ..) ?_;rfl
theorem Jn{xs:List V}(h:∀x∈xs,x=V.int 1):(ph xs).isSome=aI:=by
 have e:xs=xs.map λz=>V.int 1:=by
  conv=>lhs;rw [<- xx xs]
  exact b5 h
 rw [e];exact nk xs λz=>1
theorem Bq:∀l:List (List Nat),(ph (l.map wV)).isSome=aI
 |[]=>rfl
 |w::l=>by
  refine cJ (dI.mp (Bq l)) λa ha=>cJ (dI.mp (nk w λn=>(n:Int))) λb hb=>?_;have hb':ph (w.map nV)=ae b:=hb;simp [ph,Ky,ha,hb']
noncomputable def lW(ws:List Nat):List Nat:=(aN 6).filter λb=>decide (b∈ws)
theorem MM(ws:List Nat):(lW ws).length<=6:=aw (bu _ _) (by decide)
noncomputable abbrev PD(ds:List Nat)(n6:Nat)(lx:ay)(S h:Nat->Nat)(F:Nat->List Nat)(d:Nat)(ws:List Nat):List (Nat×V):=(39,wV (lW ws))::S27 ds n6 lx S h F d ws
theorem SJ(H:Hy G){pm doc:ai}(he:du (bT pm doc L))(hS:Sv vs (S27 ds n6 lx S h F d ws))(h6:∀c∈ws,c < 6)
 (next:∀vs,Sv vs (PD ds n6 lx S h F d ws)->WS (k+8) (cw L vs::mu) (bT pm doc L) (je 29) Θ):
 WS (k+8) (cw L vs::mu) (bT pm doc L) (je 28) Θ:=by
 have d7:=eI ds;have CU:∀c∈aN 6,c < 6:=λc hc=>aY.mp hc;have hf:∀{vs} {l:Mu},bq L (aM (L+1) (bk (cN 23)).names) vs∈cw L vs::l:=aa;refine aC (Qn (aN 6) nV (λb=>(ws.map λw=>cB (aF ds+w)).any (· == cB (aF ds+b))) nV ⟨rfl,rfl,by decide+kernel,by decide+kernel⟩ (fK (n:=6) (iN H he H.b_range rfl) aU rfl (by decide)) (by lia) (by decide) (λC1 a ha=>iu 1 he.comp .loc (fS (c9 (bF (dD (ah (j:=7) he.comp (.cell (L+6) "names") (ab _ hf) (hS.get rfl))) (ah (j:=1) he.comp .loc aa rfl) (ew (j:=a) (inj:=λb=>V.str (cB (aF ds+b))) (bz (CU a ha)) (by decide))) (dD (bM (ah (j:=43) he.comp (.cell (L+17) "line") (ab _ hf) (hS.get rfl)) (y:= .list ((ws.map λw=>cB (aF ds+w)).map .str)) (by refine aj (a0 ..) ?_;rfl))) FK)) (λz=>(ah (j:=1) he.comp .loc aa rfl))) rfl (λD=>?_));refine aj (show ((aN 6).filter λb=>(ws.map λw=>cB (aF ds+w)).any (· == cB (aF ds+b)))=lW ws from fz λb hb=>Cy d7 h6 (CU b hb)) (fL.list (aQ (i:=0) (j:=39) he .loc rfl ?_));exact next _ (hS.set (j:=39) (y:=wV (lW ws)))
noncomputable abbrev S29(ds:List Nat)(n6:Nat)(lx:ay)(S h:Nat->Nat)(F:Nat->List Nat)(d:Nat)(ws:List Nat)(b c:Nat):List (Nat×V):=(8,.str (cB (aF ds+c)))::(40,.bool (!(rm (gJ (dh ds) b (cz d))).isEmpty))::(9,nV b)::PD ds n6 lx S h F d ws
theorem h00:(dh ds).getD 0 []=[]:=by
 refine aj (t7 (by decide) ..) (E8.mpr λc hc=>?_);refine aK (aG.mp ((nt _ _ _).mp hc).2) λq hq z=>?_;have h1:=bo.mp hq;have h2:=(qS q h1.1).2.1;have h3:q.2=0:=by simpa using h1.2
 lia
theorem gr6:Gr6 (dh ds):=⟨sh,h00,qY⟩
def zf.S0(k:Nat)(mu:Mu)(vs:ej)(L lx:ay)(ds:List Nat)(n6 d:Nat)(S h:Nat->Nat)(F:Nat->List Nat)(ws:List Nat)(pm doc:ai)(b _:Nat):Prop:=∀{Θ:AF->Mu->Prop} (H:Hy G) (he:du (bT pm doc L)) (Ad:b < 6) (zm:b≠0) (Ae:Sv vs ((9,nV b)::PD ds n6 lx S h F d ws)) (hT:si (dh ds) S) (hh:∀b,b≠0->b < 6->pz (dh ds) b (h b)) (hL:ua (dh ds) (cz d) ws) (next:∀vs c,Sv vs (S29 ds n6 lx S h F d ws b c)->c < 6->Jd (dh ds) (cz d) b c->WS (k+8) (cw L vs::mu) (bT pm doc L) ((HN ((fR (cN 23)).getD 29 (.Pass ⟨0,0,0,0⟩))).drop 4) Θ),WS (k+8) (cw L vs::mu) (bT pm doc L) (HN ((fR (cN 23)).getD 29 (.Pass ⟨0,0,0,0⟩))) Θ
namespace zf
@[irreducible] def e0:=Fq eN gD gD cL cL gD eN eN inferInstance inferInstance inferInstance gD gL gL eN eN S0
def k_:=e0.1
def fb:=e0.2.1
def kR:=e0.2.2.1
def L_:=e0.2.2.2.1
def za:=e0.2.2.2.2.1
def aV:=e0.2.2.2.2.2.1
def gO:=e0.2.2.2.2.2.2.1
def d_:=e0.2.2.2.2.2.2.2.1
def S_:=e0.2.2.2.2.2.2.2.2.1
def h_:=e0.2.2.2.2.2.2.2.2.2.1
def F_:=e0.2.2.2.2.2.2.2.2.2.2.1
def qJ:=e0.2.2.2.2.2.2.2.2.2.2.2.1
def pj:=e0.2.2.2.2.2.2.2.2.2.2.2.2.1
def g8:=e0.2.2.2.2.2.2.2.2.2.2.2.2.2.1
def b_:=e0.2.2.2.2.2.2.2.2.2.2.2.2.2.2.1
theorem T0:S0 k_ fb kR L_ za aV gO d_ S_ h_ F_ qJ pj g8 b_ e0.2.2.2.2.2.2.2.2.2.2.2.2.2.2.2:=by
 intro Θ H he Ad zm Ae hT hh hL next
 have d7:=eI aV;have hf:∀{kR} {l:Mu},bq L_ (aM (L_+1) (bk (cN 23)).names) kR∈cw L_ kR::l:=aa;refine cq (H.f290.go) λob z z z h0 hd z=>dU (rZ (block:=b_) (marks:=cz d_) (sh (ds:=aV))) λQX hW=>aC (bX (y:= .list ((gJ (dh aV) b_ (cz d_)).map wV)) (ju (ys:=[.list ((dh aV).map wV),nV b_,wV (cz d_)]) (mn H he H.m_back rfl) h0 hd (au (ah (j:=32) he .loc hf (Ae.get rfl)) (au (ah (j:=9) he (.cell (L_+8) "block") hf (Ae.get rfl)) (au (ah (j:=45) he (.cell (L_+19) "settings") hf (Ae.get rfl)) aT))) (nc (k:=k_+6) H sh Ad (aw (oa d_) (by decide)))) (aQ (i:=0) (j:=36) he (.cell (L_+14) "ways") rfl ?_) rfl rfl);have hS1:Sv _ ((36,.list ((gJ (dh aV) b_ (cz d_)).map wV))::(9,nV b_)::PD aV gO za S_ h_ F_ d_ qJ):=Ae.set (j:=36) (y:= .list ((gJ (dh aV) b_ (cz d_)).map wV));generalize kR.set 36 (ae (.list ((gJ (dh aV) b_ (cz d_)).map wV)))=NL at hS1 ⊢;show WS (k_+8) (cw L_ NL::fb) _ _ _;have hsz:((gJ (dh aV) b_ (cz d_)).zipIdx.flatMap λq=>(gJ (dh aV) b_ (cz d_)).take q.2).length<=2 ^ 21:=by have h1:=Bp (gJ (dh aV) b_ (cz d_)) (gJ (dh aV) b_ (cz d_)) 0;have h2:=JK QX (show 2*0+(gJ (dh aV) b_ (cz d_)).length<=2000 by lia);lia
 have hqi:∀q∈(gJ (dh aV) b_ (cz d_)).zipIdx,q.2<=(gJ (dh aV) b_ (cz d_)).length:=λq hq=>by
  have:=List.mem_zipIdx hq;lia
 have Jr:∀q∈(gJ (dh aV) b_ (cz d_)).zipIdx,q.1.length<=2 ^ 21:=λq hq=>by
  have h1:=ao (qk.mp hq);have ok:=((hW q.1).mp h1).1.ok sh;exact aw (ez ok.nd ok.lt) (by decide)
 refine aC (bX (y:= .bool (!(rm (gJ (dh aV) b_ (cz d_))).isEmpty)) (mJ (Kr (gJ (dh aV) b_ (cz d_)).zipIdx (λq=>V.tup [.int (q.2:Nat),wV q.1]) (λq=>(gJ (dh aV) b_ (cz d_)).take q.2) wV (λq=>HQ q.1) (λz z=>V.int 1) ⟨rfl,rfl,by decide+kernel,by decide+kernel⟩ (sC (iN H he H.b_enumerate rfl) (ah (j:=36) he (.cell (L_+14) "ways") hf (hS1.get rfl))) (by lia) hsz (λC2 q hq=>SI 1 2 3 he.comp .loc .loc (.cell (C2+1) "other") rfl (dA (bM (bF (dD (ah (j:=36) he.comp (.cell (L_+14) "ways") (ab _ hf) (hS1.get rfl))) (jo dM (eO (ah (j:=1) he.comp .loc aa rfl)) dM) (pg (λh_=>by exact gK h_) (by refine aj (ak ..) ?_;exact aw QX (by decide)))) (by (refine aj (jr ..) ?_;refine aj (Jm (hqi q hq) ..) ?_;rfl)))) (λw hw=>⟨fS (c9 (nF q.1 nV (λa=>decide (a∈w)) (λz=>V.int 1) ⟨rfl,rfl,by decide+kernel,by decide+kernel⟩ (dA (ah (j:=2) he.comp .loc aa rfl)) (by lia) (Jr q hq) (λC3 a ha=>iu 1 he.comp.comp .loc (fS (c9 (ah (j:=1) he.comp.comp .loc aa rfl) (dD (ah (j:=3) he.comp.comp (.cell (C2+1) "other") (ab _ aa) rfl)) KH)) (λz=>aU))) (ij (xs:=[]) aT (bg rfl)) (FJ (nk _ _))),λz=>aU⟩))) (ij (xs:=[]) aT (bg rfl)) (BO (Jn λx hx=>?ones))) (aQ (i:=0) (j:=40) he .loc rfl ?_) rfl rfl)
 case ones=>exact aK (bG.mp hx) λq z h_=>aK (aG.mp h_) λw z h_=>h_.symm
 have hS2:Sv _ ((40,.bool (!(rm (gJ (dh aV) b_ (cz d_))).isEmpty))::(9,nV b_)::PD aV gO za S_ h_ F_ d_ qJ):=(hS1.set (j:=40) (y:= .bool (!(rm (gJ (dh aV) b_ (cz d_))).isEmpty))).sub ⟨rfl,rfl,rfl,rfl,rfl,rfl,rfl,rfl,rfl,rfl,rfl,rfl,rfl,rfl,rfl,rfl,trivial⟩;generalize NL.set 40 (ae (.bool (!(rm (gJ (dh aV) b_ (cz d_))).isEmpty)))=vs2 at hS2 ⊢;show WS (k_+8) (cw L_ vs2::fb) _ _ _;have ho:=hh b_ zm Ad;refine aC (bX (y:= .str (cB (aF aV+h_ b_))) (bF (pM (ah (j:=33) he .loc hf (hS2.get rfl))) (bF (dD (ah (j:=7) he (.cell (L_+6) "names") hf (hS2.get rfl))) (ah (j:=9) he (.cell (L_+8) "block") hf (hS2.get rfl)) (ew (j:=b_) (inj:=λb_=>V.str (cB (aF aV+b_))) (bz Ad) (by decide))) (mh (gb d7 Py (Px _ Ad zm)))) (aQ (i:=0) (j:=8) he (.cell (L_+7) "name") rfl ?_) rfl rfl);have hS3:Sv _ (S29 aV gO za S_ h_ F_ d_ qJ b_ (h_ b_)):=hS2.set (j:=8) (y:= .str (cB (aF aV+h_ b_)));refine aC (xT (λn nu=>∃kR c,nu=cw L_ kR::fb/\Sv kR (S29 aV gO za S_ h_ F_ d_ qJ b_ c)/\c < 6/\wo (dh aV) b_ c/\(∀y,zA (dh aV) (cz d_) y->wo (dh aV) b_ y->gI (dh aV) c y)/\n=(eZ (S_ c)).length) (eZ (S_ (h_ b_))).length ⟨_,h_ b_,rfl,hS3,ho.lt,ho.sd,λy hy hd=>ho.near y (hL.lt y ((hL.mem y).mpr hy)) hd,rfl⟩ ?_);intro n nu dO;refine xN dO λkR c eT hS uf GM hnr gi=>?_;clear dO;subst eT;subst gi;refine PT.wt (c9 (ah (j:=8) he (.cell (L_+7) "name") hf (hS.get rfl)) (dD (bM (ah (j:=43) he (.cell (L_+17) "line") hf (hS.get rfl)) (y:= .list ((qJ.map λw=>cB (aF aV+w)).map .str)) (by refine aj (a0 ..) ?_;rfl))) BP) ?_;refine aj (Cy d7 hL.lt uf ..) ?_;by_cases hc:c∈qJ
 ·exact aj (decide_eq_true hc ..) (bC (next _ c hS uf ⟨(hL.mem c).mp hc,GM,hnr⟩))
 ·refine aj (decide_eq_false hc ..) ?_;have zC:c≠0:=by
   rintro rfl;exact hc ((hL.mem 0).mpr (.inl (GC d_)))
  have zp:=hh c zC uf;show WS (k_+8) (cw L_ kR::fb) (bT pj g8 L_) _ _;refine aC (bX (y:= .str (cB (aF aV+h_ c))) (bF (pM (ah (j:=33) he .loc hf (hS.get rfl))) (ah (j:=8) he (.cell (L_+7) "name") hf (hS.get rfl)) (mh (gb d7 Py (Px _ uf zC)))) (aQ (i:=0) (j:=8) he (.cell (L_+7) "name") rfl ?_) rfl rfl);refine bC ⟨_,Bm hT hh uf zC,_,h_ c,rfl,(hS.set (j:=8) (y:= .str (cB (aF aV+h_ c)))).sub ⟨rfl,rfl,rfl,rfl,rfl,rfl,rfl,rfl,rfl,rfl,rfl,rfl,rfl,rfl,rfl,rfl,rfl,trivial⟩,zp.lt,⟨gI.trans zp.sd.1 GM.1,λe=>?_⟩,λy hy hd=>zp.near y (hL.lt y ((hL.mem y).mpr hy)) ⟨hnr y hy hd,λe=>hc ((hL.mem c).mpr (e▸hy))⟩,rfl⟩;have h1:gI (dh aV) c b_:=e▸zp.sd.1;exact GM.2 (gI.antiH qY Ad GM.1 h1)
end zf
theorem zf{pm doc:ai}{b:Nat}:zf.S0 k mu vs L lx ds n6 d S h F ws pm doc b 0:=by with_unfolding_all exact As _ _ _ _ _ _ _ _ _ _ _ _ _ _ _ _ zf.S0 @zf.T0 k mu vs L lx ds n6 d S h F ws pm doc b 0
theorem b29_b(H:Hy G){pm doc:ai}(he:du (bT pm doc L)){b c:Nat}(Ad:b < 6)(zm:b≠0)(uf:c < 6)(hS3:Sv vs (S29 ds n6 lx S h F d ws b c))(hL:ua (dh ds) (cz d) ws)(nv:Jd (dh ds) (cz d) b c)
 (next:WS (k+8) (cw L vs::mu) (bT pm doc L) [] Θ):
 WS (k+8) (cw L vs::mu) (bT pm doc L) ((HN ((fR (cN 23)).getD 29 (.Pass ⟨0,0,0,0⟩))).drop 4) Θ:=by
 have d7:=eI ds;have hf:∀{vs} {l:Mu},bq L (aM (L+1) (bk (cN 23)).names) vs∈cw L vs::l:=aa;refine cq (H.f290.go) λob z z z h0 hd z=>dU (rZ (block:=b) (marks:=cz d) (sh (ds:=ds))) λQX hW=>dU (rZ (block:=b) (marks:=lW ws) (sh (ds:=ds))) λhW2l hW2=>?_;have hmm:∀x,x∈lW ws↔zA (dh ds) (cz d) x:=λx=>by
  refine rwj (hL.mem x ..) ?_;unfold lW;refine gj (bo ..) ?_;refine gj (aY ..) ?_;refine aj (decide_eq_true_eq ..) ?_;exact ⟨λh=>h.2,λh=>⟨hL.lt x h,h⟩⟩
 have Bv:∀w∈gJ (dh ds) b (lW ws),w.getLast? =ae (ks w)/\ks w < 6/\w.length < 2 ^ 60:=λw hw=>by
  refine mI ((hW2 w).mp hw) λh1 y hy z=>?_;have ok:=h1.ok sh;have e:ks w=y:=by unfold ks;refine aj (hy ..) ?_;rfl
  exact ⟨by (refine aj (hy ..) ?_;refine aj (e ..) ?_;rfl),e▸ok.lt y (df hy),b7 (ez ok.nd ok.lt) (by decide)⟩
 have m1:(!(rm (gJ (dh ds) b (cz d))).isEmpty)=decide (b∈ws.drop (cz d).length):=by rw [cj,MK gr6 (GC d) zm Ad nv hW,decide_eq_true_eq];exact (hL.iff b).symm
 have m2:(((ws.drop (cz d).length).map λw=>cB (aF ds+w)).any (· == cB (aF ds+b)))=decide (b∈ws.drop (cz d).length):=by rw [Cy d7 (λc hc=>hL.lt c (gn hc)) Ad]
 have m3:(!((((gJ (dh ds) b (lW ws)).filter λw=>cB (aF ds+ks w) != cB (aF ds+c)).map wV).isEmpty))=decide (b∈ws.drop (cz d).length):=by rw [List.isEmpty_map,cj,decide_eq_true_eq,hL.iff b,<- ML gr6 (GC d) nv hmm hW2];rw [show ((gJ (dh ds) b (lW ws)).filter λw=>cB (aF ds+ks w) != cB (aF ds+c))=(gJ (dh ds) b (lW ws)).filter λw=>ks w != c from fz λw hw=>congrArg not (rS d7 (Bv w hw).2.1 uf)]
 have Ff:(PA (aF ds) ws).drop (cz d).length=((ws.drop (cz d).length).map λw=>cB (aF ds+w)).map .str:=by rw [a0,Nv];rfl
 have hsl:(cz d).length<=ws.length:=by have h1:=congrArg kM hL.pre;rw [dR] at h1;omega
 refine aC (iY (b:=(decide (b∈ws.drop (cz d).length) != decide (b∈ws.drop (cz d).length)) || ((decide (b∈ws.drop (cz d).length) != decide (b∈ws.drop (cz d).length)) || false)) (oM (iM ?t1 λz=>iM ?t2 λz=>jn)) (λh=>by simp at h) λz=>bC next)
 case t1=>exact c9 (bM (ah (j:=40) he .loc hf (hS3.get rfl)) (congrArg V.bool m1)) (bM (mJ (bF (dD (ah (j:=7) he (.cell (L+6) "names") hf (hS3.get rfl))) (ah (j:=9) he (.cell (L+8) "block") hf (hS3.get rfl)) (ew (j:=b) (inj:=λb=>V.str (cB (aF ds+b))) (bz Ad) (by decide))) (dD (bM (bF (dD (ah (j:=43) he (.cell (L+17) "line") hf (hS3.get rfl))) (jo (eO (ek (j4 H he H.b_len rfl) (au (dD (ah (j:=45) he (.cell (L+19) "settings") hf (hS3.get rfl))) aT) (mi (by rw [ak];exact aw (oa d) (by decide))))) dM dM) (pg (λh=>by exact gK h) (by rw [ak];exact aw hL.len (by decide)))) (by rw [Bn (by rw [ak,ak];exact hsl),ak,Ff]))) FK) (congrArg V.bool m2)) Kg
 case t2=>exact c9 (bM (ah (j:=40) he .loc hf (hS3.get rfl)) (congrArg V.bool m1)) (bM (mJ (nF (gJ (dh ds) b (lW ws)) wV (λw=>cB (aF ds+ks w) != cB (aF ds+c)) wV ⟨rfl,rfl,by decide+kernel,by decide+kernel⟩ (dA (ju (ys:=[.list ((dh ds).map wV),nV b,wV (lW ws)]) (mn H he H.m_back rfl) h0 hd (au (ah (j:=32) he .loc hf (hS3.get rfl)) (au (ah (j:=9) he (.cell (L+8) "block") hf (hS3.get rfl)) (au (ah (j:=39) he .loc hf (hS3.get rfl)) aT))) (nc (k:=k+6) H sh Ad (aw (MM ws) (by decide))))) (by lia) (aw hW2l (by decide)) (λC4 w hw=>iu 1 he.comp .loc (fS (c9 (bF (dD (ah (j:=7) he.comp (.cell (L+6) "names") (ab _ hf) (hS3.get rfl))) (bF (dD (ah (j:=1) he.comp .loc aa rfl)) (o8 aU) (xD (inj:=nV) (Bv w hw).1 (Bv w hw).2.2)) (ew (j:=(ks w)) (inj:=λb=>V.str (cB (aF ds+b))) (bz (Bv w hw).2.1) (by decide))) (ah (j:=8) he.comp (.cell (L+7) "name") (ab _ hf) (hS3.get rfl)) tB)) (λz=>ah (j:=1) he.comp .loc aa rfl))) (ij (xs:=[]) aT (bg rfl)) (BO (Bq _))) (congrArg V.bool m3)) Kg
theorem SK(H:Hy G){pm doc:ai}(he:du (bT pm doc L))(Ae:Sv vs (PD ds n6 lx S h F d ws))(hT:si (dh ds) S)(hh:∀b,b≠0->b < 6->pz (dh ds) b (h b))(hL:ua (dh ds) (cz d) ws)
 (next:∀vs,Sv vs (PD ds n6 lx S h F d ws)->WS (k+8) (cw L vs::mu) (bT pm doc L) (je 30) Θ):
 WS (k+8) (cw L vs::mu) (bT pm doc L) (je 29) Θ:=by
 refine aC (jO (ctx:=[]) (xs:=[1,2,3,4,5].map nV) (λi nu=>∃vs,nu=cw L vs::mu/\Sv vs (PD ds n6 lx S h F d ws)) (pS (qw (iN H he H.b_range rfl) aU aU (by decide) (by decide)) rfl) (by lia) ⟨vs,rfl,Ae⟩ (λi nu h o ho=>(eo ho)) ?step ?fin)
 case step=>intro i y nu hy iC;refine aK iC λvs kG hS=>?_;clear iC;subst kG;rw [aJ] at hy;refine aK (aL.mp hy) λb hb ma=>?_;subst ma;have zD:=ao hb;have Ad:b < 6:=(by decide:∀b∈[1,2,3,4,5],b < 6) b zD;have zm:b≠0:=(by decide:∀b∈[1,2,3,4,5],b≠0) b zD;refine aQ (i:=0) (j:=9) he (.cell (L+8) "block") rfl (zf H he Ad zm (hS.set (j:=9) (y:=nV b)) hT hh hL λvs c hS3 uf nv=>?_);refine b29_b H he Ad zm uf hS3 hL nv (bC ⟨_,rfl,hS3.sub ⟨rfl,rfl,rfl,rfl,rfl,rfl,rfl,rfl,rfl,rfl,rfl,rfl,rfl,rfl,trivial⟩⟩)
 case fin=>intro nu mE;refine aK mE λvs q7 hS=>?_;clear mE;subst q7;exact bC (next _ hS)
section
variable {env:gP}{x y:bH}{pos:jC}{Ψ:V->Mu->Prop}
theorem PF(h1:WE k mu env x λv nu=>v= .bool aI/\WE k nu env y Ψ):WE k mu env (.BoolOp .And [x,y] pos) Ψ:=⟨λ{z z z z z z} hA r q=>wpAny_And2 (h1.c hA r λ{z z z z z} z1 q1 r1 w=>(aZ.boolE (w.1▸q1))▸eV (w.2.c hA r1 λ{z z z z z} z2=>q (z1.trans z2)))⟩
theorem Br(c:Nat):∀l:List Nat,cnt c l=((l.count c:Nat):Int)
 |[]=>by rw [cnt_nil];rfl
 |a::l=>by
  rw [cnt_cons,Br c l,List.count_cons];by_cases h:a=c
  ·simp [h];lia
  ·simp [h]
theorem SL(H:Hy G)(LH:fM G K)(BH:yx K){pm doc:ai}(he:du (bT pm doc L)){P:ib}(PO:mV P)(hS:Sv vs (PD ds n6 P.lx S h F d ws))(hR:pn ds n6 19 cs)
 (next:Θ (.ret (.bool aI)) (cw L vs::(yw P [] (1+((g9 ds n6).cps.toList.count 10:Nat)) av++mu))):
 WS (k+8) (cw L vs::(j6 P [] (1+((g9 ds n6).cps.toList.count 10:Nat)) cs++mu)) (bT pm doc L) (je 30) Θ:=by
 have hf:∀{vs} {l:Mu},bq L (aM (L+1) (bk (cN 23)).names) vs∈cw L vs::l:=aa;refine cq (LH.f207.go) λog z z z g0 gd z=>aC (gw (PF (Hq (pQ LH.KO LH.m_get (ah (j:=21) he (.cell (L+11) "lexer") hf (hS.get rfl)) (ao (i:=2) rfl) (yN _ _ _) g0 gd (FW.mono (FW.cons _ (FW.app mu (LI (k:=k+3) H LH BH PO hR.end_))) λy nu ⟨rt,e1,ud,e2,e3,e4⟩=>?_)))));subst e1 e2 e3 e4;refine ⟨bZ (.str ""),aI,cO,rB,rfl,?_⟩;refine cf (mJ (oS LH.KO LH.p_line (ah (j:=21) he (.cell (L+11) "lexer") hf (hS.get rfl)) (ao (i:=2) rfl) (nN _ _ _) (y:= .int (1+((g9 ds n6).cps.toList.count 10:Nat))) (.head _) (λn e=>by cases e)) (br aU (f7 (ah (j:=20) he .loc hf (hS.get rfl)) mL (au cO aT) rJ PySem.F.plainAttrs_str PySem.F.slot_str_count PySem.F.type_str_count rfl) fC) qu) ?_;have e:Nm (g9 ds n6) "\n"=(((g9 ds n6).cps.toList.count 10:Nat):Int):=by show Nm (g9 ds n6) ⟨#[10]⟩=_;rw [count_cnt,Br]
 rw [e,beq_self_eq_true];exact next
end
theorem MN(sc:List Int):∃(ds:List Nat) (n6:Nat),Dr ds (jR sc) n6/\(uY (jR sc)).map V.int=ds.map nV:=by
 have hb:∀n∈jR sc,0<=n/\n < 12960000:=λn hn=>by
  refine aK (aG.mp hn) λq z dO=>?_;subst dO;unfold LM;lia
 have hl:(jR sc).length=7:=by unfold jR;rw [ak];rfl
 obtain ⟨n,hn⟩:∃n,(jR sc)[6]? =ae n:=⟨_,bJ (by rw [hl];decide)⟩;have h6:=hb n (ao hn);refine ⟨(jR sc).flatMap λn=>(aN 4).map λp=>n.toNat / 60 ^ p % 60,n.toNat,⟨?_,?_,hl,?_,?_⟩,?_⟩
 ·rw [List.length_flatMap];simp only [ak,fq];rw [List.map_const',hl];rfl
 ·intro d hd;refine aK (bG.mp hd) λm z h=>aK (aG.mp h) λp z eT=>?_;subst eT;exact ee _ (by decide)
 ·rw [hn,Int.toNat_of_nonneg h6.1]
 ·lia
 ·unfold uY;rw [uv,uv];rw [List.flatMap_def,List.flatMap_def];refine congrArg List.flatten (b5 λm hm=>?_);rw [a0,a0];refine b5 λp z=>?_;have h0:=(hb m hm).1;refine cJ (Int.eq_ofNat_of_zero_le h0) λa gi=>?_;subst gi;show V.int ((a:Int) / 60 ^ p % 60)=V.int (((a:Int).toNat / 60 ^ p % 60:Nat));rw [b8]
  push_cast
  rfl
section
variable {Φ:V->Mu->Prop}
structure PG(G:Gd)(K:fl):Prop where
 H:Hy G
 LH:fM G K
 NH:uS K
 GH:Ls G
 BH:yx K
 EH:gN G K
 TH:r9 G K
 QH:QC K
 IH:ItH K
 LL:Sy G
 f307:DX G 307 306 (cN 23)
theorem PH(X:PG G K){pm doc:ai}{L:ay}{vs:ej}(he:du (bT pm doc L))(hk:vY (bT pm doc L)){sc:List Int}(Um:sc.length<=63)(hS:Sv vs [(0,.list (sc.map .int))])
 (fin:∀nu l1 l2,gG 272 l1∈nu->gG 304 l2∈nu->Φ (.bool aI) nu):
 yk (k+8) (cw L vs::gG 272 []::gG 304 []::mu) (bT pm doc L) (fR (cN 23)) (lE Φ):=by
 refine eD (MN sc) λds n6 hD Uv=>?_;rw [I3];refine O4 (law_0 X.H he Um hS λvs hS=>?_);have hS:Sv vs [(4,.list (ds.map nV)),(3,.list ((jR sc).map .int))]:=by rw [<- Uv];exact hS.sub ⟨rfl,rfl,trivial⟩
 refine yA X.H he hD hS λvs hS=>yC X.H he hD hS λvs A hS=>yG X.H he hD hS λvs Oc Du hS=>yL X.H he hD hS λvs Sg hS=>WF.to [0,0,0,0,1,1] (tU X.H X.LH X.NH X.GH he hD hS λvs P PO hP hS=>?_);refine Sd X.H he hS λvs Bk hS=>tV X.H X.LH X.BH he PO hS (by have h:=pn.start (ds:=ds) (n6:=n6);exact h) (ab _ aa) λvs cs hS hR hB=>?_;refine bC ?_;show yk (k+8) _ (bT pm doc L) (je 15) (lE Φ);refine tW X.H X.LH X.BH X.GH X.EH he hk hD PO hS hR λvs cs hS hR=>Sp (N:=0) (cs:=cs) (B:=B0) X.H X.EH X.TH he hS λvs hS=>t4 X.H X.EH X.QH X.GH he hk hS λvs hS=>t5 X.H X.EH X.QH X.IH he hD hS hB λvs hS hB=>WF.f (Sr X.H he hS λvs hS=>?_);refine Ss X.H he hS λvs T hS=>Sz X.H X.LH X.BH X.LL he PO hS hR hB λvs cs S c' hS hR hT=>SA X.H X.LH X.NH he hS λvs Hm Nt cx dc hS=>t8 X.H X.LH he hS hT λvs h hS hh=>t9 X.H he hS hT hh λvs F hS hF=>SG X.H he (by rw [hD.len];decide) (hD.at (i:=25) (by decide)) hS λvs W hS=>?_;exact ub X.H X.LH X.BH X.LL he PO hS hR hF λvs cs ws c2 hS hR hL=>SJ X.H he hS hL.lt λvs hS=>SK X.H he hS hT hh hL λvs hS=>SL X.H X.LH X.BH he PO hS hR (jK.keep (fin _ (zV (ae (P.a,P.b))) [(273,49,c',lz),(298,40,c2,lz)] (ao (i:=7) rfl) (ao (i:=8) rfl)))
end
end
section
variable {G:Gd}{K:fl}{a c:ay}{st:ed}{q:bb}
theorem vc{o:o6}(h:K.lookup a=ae o):BB K a=o:=by delta BB;refine aj (h ..) ?_;rfl
theorem wu{cd:ai}{h:dH}(hK:K.In h)(e:i6 K cd q=aI):h.CodeRec cd q:=by
 refine Heap.CodeRec.of_ok ?_;cases cd with
 |ref c=>refine dU (cn.mp e) λe1 e2=>cJ (dI.mp e2) λo ho=>?_;rw [vc ho] at e1;delta Heap.codeRecOk;dsimp only;exact aj (hK c o ho ..) e1
 |_=>exact vK e
structure TZ(G:Gd)(K:fl):Prop where
 at':∀a o,K.lookup a=ae o->G.Z0 a=ae o
theorem TZ.ko(f:TZ G K):FV G K:=⟨λh hz a o e=>hz a o (f.at' a o e)⟩
theorem MO{fd:cm}(h:xb K a=ae (.func fd)):∃o,K.lookup a=ae o/\o.data= .func {fd with pyModule:=pmIn K a,doc:=dcIn K a}:=by
 unfold xb at h;refine aK (aL.mp h) λo ho e=>⟨o,ho,?_⟩
 delta pmIn dcIn;refine aj (vc ho ..) ?_;cases hd:o.data with
 |func f=>
  rw [hd] at e;injection e with e
  refine fZ (e ..) ?_;rfl
 |_=>rw [hd] at e;cases e
theorem FnK.isC(h1:xb K a=ae (.func (mz (md st) (wI st) (fR st) (bk st) .none (.ref c) .none)))(h3:i6 K (.ref c) (md st)=aI)(f:TZ G K):DX G a c st:=by exact aK (MO h1) λo ho e=>⟨o,_,_,f.at' _ _ ho,e,λh hz=>wu (f.ko.inn h hz) h3⟩
theorem FnK.f(h1:xb K a=ae (.func (mz (md st) (wI st) (fR st) (bk st) .none (.ref c) .none)))(h3:i6 K (.ref c) (md st)=aI)(f:TZ G K):rK G a st:=by exact cE ((FnK.isC h1 h3 f).go) λo pm doc h1 h2 h3=>⟨o,pm,_,doc,h1,h2,h3⟩
theorem MeK.f(h1:xb K a=ae (.func (Au st q .none (.ref c) .none)))(h3:i6 K (.ref c) q=aI)(f:TZ G K):nH G a st q:=by exact aK (MO h1) λo ho e=>⟨o,_,_,_,f.at' _ _ ho,e,λh hz=>wu (f.ko.inn h hz) h3⟩
noncomputable def flK:Nat->List bb->List (Int×ai)
 |_,[]=>[]
 |i,n::l=>((2:Int) ^ i,.str n (254+2*i))::flK (i+1) l
theorem EM{prog:dG}{w:d8}:∀(l:List bb) (i:Nat),Pairs (lu prog w) (TT i l) (flK i l)
 |[],_=> .nil
 |n::l,i=> .cons (by show ((2:Int) ^ i == 2 ^ i)=aI;simp) rfl (EM l (i+1))
noncomputable def epIn(K:fl)(a:ay):Nat:=match (BB K a).data with| .dict _ n=>n|_=>0
end
section
variable {w:d8}{s:aq}{mg mb:bb->Option ai}
theorem zg{α β:Type}{f g:α->β}{l:List α}(h:l.map f=l.map g):∀{i:Nat} {a:α},l[i]? =ae a->f a=g a:=λ{i a} hi=>by
 have:=congrArg (λl=>l[i]?) h;simp only [aJ,hi,GO] at this;exact aO this
structure eJ(K:fl)(w:d8)(s:aq)(mg:bb->Option ai):Prop where
 fit:TZ (hG w s mg) K
 mgK:∀x,mg x=BC K x
 B:g7 (hG w s mg)
 bt:∀h:dH,(∀a o,(hG w s mg).Z0 a=ae o->h.get? a=ae o)->∀Pl,Pl≠4->h.BuiltinsAt mg Pl
 ob:Ft K=N2
variable {K:fl}
theorem eJ.A(F:eJ K w s mg):oA K=vA:=congrArg (·.1) F.ob
theorem eJ.O(F:eJ K w s mg):oB K=vB:=congrArg (·.2.1) F.ob
theorem eJ.C(F:eJ K w s mg):oC K=vC:=congrArg (·.2.2.1) F.ob
theorem eJ.D(F:eJ K w s mg):oD K=vD:=congrArg (·.2.2.2.1) F.ob
theorem eJ.E(F:eJ K w s mg):oE K=vE:=oE_eq▸(congrArg (·.2.2.2.2.1) F.ob)
theorem eJ.V(F:eJ K w s mg):oF K=vF:=congrArg (·.2.2.2.2.2) F.ob
theorem eJ.A1(F:eJ K w s mg):(Ra.map λq=>(xb K q.1,i6 K (.ref q.2.1) (md q.2.2)))=Ra.map λq=>(ae (Nd (mz (md q.2.2) (wI q.2.2) (fR q.2.2) (bk q.2.2) .none (.ref q.2.1) .none)),aI):=congrArg (·.1) F.A
theorem eJ.A2(F:eJ K w s mg):(meL.map λq=>(xb K q.1,i6 K (.ref q.2.1) q.2.2.2))=meL.map λq=>(ae (Nd (Au q.2.2.1 q.2.2.2 .none (.ref q.2.1) .none)),aI):=congrArg (·.2.1) F.A
theorem eJ.A3(F:eJ K w s mg):(Rb.map λq=>BC K q.1)=Rb.map λq=>ae (cY q.2):=congrArg (·.2.2.1) F.A
theorem eJ.A4(F:eJ K w s mg):(mnL.map (BC K))=mnL.map λz=>(av:Option ai):=congrArg (·.2.2.2) F.A
theorem eJ.fn(F:eJ K w s mg)(i:Nat){q:ay×ay×ed}(hi:Ra[i]? =ae q):xb K q.1=ae (.func (mz (md q.2.2) (wI q.2.2) (fR q.2.2) (bk q.2.2) .none (.ref q.2.1) .none))/\i6 K (.ref q.2.1) (md q.2.2)=aI:=
 sN (zg F.A1 hi)
theorem eJ.isF(F:eJ K w s mg)(i:Nat){a c:ay}{st:ed}(hi:Ra[i]? =ae (a,c,st)):rK (hG w s mg) a st:=FnK.f (F.fn i hi).1 (F.fn i hi).2 F.fit
theorem eJ.isC(F:eJ K w s mg)(i:Nat){a c:ay}{st:ed}(hi:Ra[i]? =ae (a,c,st)):DX (hG w s mg) a c st:=FnK.isC (F.fn i hi).1 (F.fn i hi).2 F.fit
theorem eJ.isM(F:eJ K w s mg)(i:Nat){a c:ay}{st:ed}{q:bb}(hi:meL[i]? =ae (a,c,st,q)):nH (hG w s mg) a st q:=by exact dU (sN (zg F.A2 hi)) λh1 h2=>MeK.f h1 h2 F.fit
theorem eJ.m(F:eJ K w s mg)(i:Nat){x:bb}{a:ay}(hi:Rb[i]? =ae (x,a)):mg x=ae (.ref a):=(F.mgK x).trans (zg F.A3 hi)
theorem eJ.n(F:eJ K w s mg)(i:Nat){x:bb}(hi:mnL[i]? =ae x):mg x=av:=(F.mgK x).trans (zg F.A4 hi)
theorem eJ.b(F:eJ K w s mg)(i:Nat){x:Bool}(hi:(oC K)[i]? =ae x):x=aI:=by rw [F.C] at hi;exact List.eq_of_mem_replicate (ao hi)
theorem PJ(F:eJ K w s mg):(65 == lY)=aH/\∀h:dH,(∀a o,(hG w s mg).Z0 a=ae o->h.get? a=ae o)->h.DictOf (lu (hG w s mg).prog (hG w s mg).w) 65 qz:=by
 refine ⟨rfl,λh hz=>?_⟩;have h1:=hz 65 _ (F.fit.at' _ _ (congrArg (·.1) F.O));refine ⟨_,(TT 0 oJ).toArray,10,h1,⟨rfl,rfl,rfl⟩,rfl,?_,?_,?_⟩
 ·intro e he;have:∀(l:List bb) (i:Nat),i+l.length<=10->∀e∈TT i l,∃k:Int,Value.isInt k e.key=aI/\e.hash=hashInt k:=by
   intro l;induction l with
   |nil=>intro i z e he;exact eo he
   |cons n l ih=>
    intro i hi e he;rcases aP.mp he with q|q
    ·subst q;refine ⟨2 ^ i,by show ((2:Int) ^ i == 2 ^ i)=aI;simp,?_⟩;have hi9:i < 10:=by simp at hi;lia
     have:∀i,i < 10->(2:Int) ^ i=hashInt (2 ^ i):=by decide+kernel
     exact this i hi9
    ·exact ih (i+1) (by simp at hi;lia) e q
  exact this oJ 0 (by decide) e (by simpa using he)
 ·show Pairs _ (TT 0 oJ).toArray.toList qz;exact aj (gQ ..) (EM oJ 0)
 ·decide+kernel
theorem PK(F:eJ K w s mg):Hy (hG w s mg):=⟨
 F.B,
 F.m 0 rfl,
 F.m 1 rfl,
 F.m 2 rfl,
 F.m 3 rfl,
 F.m 4 rfl,
 F.m 5 rfl,
 F.m 6 rfl,
 F.m 7 rfl,
 F.m 8 rfl,
 F.m 9 rfl,
 F.m 10 rfl,
 F.m 11 rfl,
 F.m 12 rfl,
 F.m 13 rfl,
 F.m 14 rfl,
 F.m 15 rfl,
 F.n 0 rfl,
 F.n 1 rfl,
 F.n 2 rfl,
 F.n 3 rfl,
 F.n 4 rfl,
 F.n 5 rfl,
 F.n 6 rfl,
 F.n 7 rfl,
 F.n 8 rfl,
 F.n 9 rfl,
 F.n 10 rfl,
 F.n 11 rfl,
 F.n 12 rfl,
 F.n 13 rfl,
 F.n 14 rfl,
 F.n 15 rfl,
 F.n 16 rfl,
 F.n 17 rfl,
 PJ F,
 F.isF 0 rfl,
 F.isF 1 rfl,
 F.isF 2 rfl,
 F.isF 3 rfl,
 F.isF 4 rfl,
 F.isF 5 rfl,
 F.isF 6 rfl,
 F.isF 7 rfl,
 F.isF 8 rfl,
 F.isF 9 rfl,
 F.isF 10 rfl,
 F.isF 11 rfl⟩
theorem MP(F:eJ K w s mg){c P:ay}(h:codeHdIn K c P=aI)(hP:P≠4)(hn:vo≠P):DV (hG w s mg) c P:=
 ⟨λh' hz=>codeHd_of_K (F.fit.ko.inn h' hz) h,λh' hz=>F.bt h' hz P hP,hn⟩
theorem zh(F:eJ K w s mg)(i:Nat){g:ay}{name:bb}(hi:gtL[i]? =ae (g,name)):∃g,wZ K name g i:=by
 have h:(gtL.map λq=>(fH K (.ref 162) q.2,Fg K (.ref q.1) "__get__",Uw K (.ref q.1),K.lookup q.1,getL "index" (J4 K (q.1 - 1)),(K.lookup (q.1 - 1)).map λo=>(o.cls,o.dict,o.slots)))=gtL.zipIdx.map λ(q:(ay×bb)×Nat)=>(ae (ae (cY q.1.1)),ae (ae (cY 43)),ae aI,ae (Af 60 (q.1.1 - 1)),ae (ae (jT q.2 (394+10*q.2))),ae (lX "dict",(av:Option ay),(#[]:Array (Option ai)))):=congrArg (·.1) F.V;have:=congrArg (λl=>l[i]?) h;simp only [aJ,hi,GO,Tz,eC] at this;obtain ⟨h1,h2,h3,h4,h5,h6⟩:_/\_/\_/\_/\_/\_:=by simpa only [Nh] using aO this
 obtain ⟨⟨c,d,dt,sl⟩,ho,e⟩:=aL.mp h6;simp only [Nh] at e;refine G0 e λeT gi iC=>?_;clear e;subst eT;subst gi;subst iC;refine ⟨g,h1,h2,h3,g - 1,h4,J4 K (g - 1),epIn K (g - 1),_,?_,h5⟩;refine aj (ho ..) ?_;delta J4 epIn;refine aj (vc ho ..) ?_;unfold J4 at h5;rw [vc ho] at h5;cases dt with
 |dict es n=>rfl
 |_=>cases h5
theorem me_d(F:eJ K w s mg):Cm (hG w s mg) 43 (jl 2 1) "_tuplegetter.__get__":=by obtain ⟨o,ho,e⟩:=MO (show xb K 43=ae (.func {Au (jl 2 1) "_tuplegetter.__get__" .none (.ref 42) .none with defaults:= .ref 36}) from congrArg (·.2.2.1) F.O);exact ⟨o,_,_,_,36,_,_,F.fit.at' _ _ ho,e,F.fit.at' _ _ (congrArg (·.2.1) F.O),rfl,λh hz=>wu (F.fit.ko.inn h hz) (congrArg (·.2.2.2.1) F.O)⟩
end
section
variable {w:d8}{s:aq}{mg mb:bb->Option ai}{K:fl}
set_option tactic.hygienic true in
theorem MQ(F:eJ K w s mg):PG (hG w s mg) K:={
 H:=PK F
 LH:=⟨
  F.fit.ko,
  F.b 0 rfl,
  F.b 1 rfl,
  F.b 2 rfl,
  F.b 3 rfl,
  F.b 4 rfl,
  F.b 5 rfl,
  F.b 6 rfl,
  F.b 7 rfl,
  F.b 8 rfl,
  F.b 9 rfl,
  F.b 10 rfl,
  F.isM 0 rfl,
  F.isM 1 rfl,
  F.isM 2 rfl,
  F.isM 3 rfl,
  F.b 11 rfl,
  F.b 12 rfl,
  F.b 13 rfl,
  F.isM 4 rfl,
  F.isM 5 rfl⟩
 NH:=⟨
  F.b 14 rfl,
  congrArg (·.1) F.D,
  congrArg (·.2.2.2.2.2.2.1) F.D,
  F.b 15 rfl,
  F.b 16 rfl,
  congrArg (·.2.1) F.D,
  congrArg (·.2.2.2.2.2.2.2.1) F.D,
  F.b 17 rfl⟩
 GH:={la:=MP F (F.b 22 rfl) (by decide) (by decide),f275:=F.isC 6 rfl}
 BH:={b_read:=F.b 18 rfl}
 EH:=⟨
  F.fit.ko,
  rfl,
  congrArg (·.1) (congrFun F.E _),
  congrArg (·.2.1) (congrFun F.E _),
  congrArg (·.2.2.1) (congrFun F.E _),
  congrArg (·.2.2.2.1) (congrFun F.E _),
  F.b 19 rfl,
  congrArg (·.2.2.2.2.2.2.2.2.2.2.1) F.D,
  congrArg (·.2.2.2.2.2.2.2.2.2.2.2.1) F.D,
  λt=>congrFun (congrArg (·.2.2.2.2.1) (congrFun F.E _)) t,
  congrArg (·.2.2.2.2.2.1) (congrFun F.E _),
  congrArg (·.2.2.2.2.2.2.1) (congrFun F.E _),
  congrArg (·.2.2.2.2.2.2.2.1) (congrFun F.E _),
  congrArg (·.2.2.2.2.2.2.2.2.1) (congrFun F.E _),
  congrArg (·.2.2.2.2.2.2.2.2.2.1) (congrFun F.E _),
  congrArg (·.2.2.2.2.2.2.2.2.2.2) (congrFun F.E _),
  by
   have h:J5 K=ae aH:=congrArg (·.2) F.V;unfold J5 at h
   split at h
   ·rename_i od cd sl e;exact ⟨od,cd,sl,e,aO h⟩
   ·exact gK h,
  F.b 20 rfl,
  F.isM 6 rfl,
  congrArg (·.2.2.2.2.2.2.2.2.2.2.2.2.1) F.D⟩
 TH:=⟨
  me_d F,
  F.b 21 rfl,
  congrArg (·.2.2.1) F.D,
  congrArg (·.2.2.2.1) F.D,
  congrArg (·.2.2.2.2.2.2.2.2.2.2.2.2.2) F.D,
  F.n 18 rfl,
  F.n 19 rfl,
  zh F 0 rfl,
  zh F 1 rfl,
  zh F 2 rfl,
  zh F 3 rfl,
  zh F 4 rfl⟩
 QH:={sub:=congrArg (·.2.2.2.2.2.2.2.2.1) F.D,eq:=congrArg (·.2.2.2.2.1) F.D,up:=congrArg (·.2.2.2.2.2.2.2.2.2.1) F.D}
 IH:={iter:=congrArg (·.2.2.2.2.2.1) F.D}
 LL:={la:=MP F (F.b 23 rfl) (by decide) (by decide)}
 f307:=F.isC 12 rfl}
theorem EN{a:ay}(h1:a≠272)(h2:a≠304):(hG w s mg).Z0 a=s.heap.get? a:=if_neg (by rintro (h|h);exact h1 h;exact h2 h)
theorem MR{a:ay}{m:bb->Option ai}(x:s.heap.Ns a m)(h1:a≠272)(h2:a≠304){h:dH}(hz:∀a o,(hG w s mg).Z0 a=ae o->h.get? a=ae o):h.Ns a m:=by refine oH x λo es ep ho r=>?_;clear x;exact ⟨o,es,ep,hz a o ((EN h1 h2).trans ho),r⟩
theorem headF{q:dG}{loose:List bb}{RR:WRecords}{XP:(bb->Option ai)->dH->Prop}{s0:aq}(Gr:Ground q loose RR XP w s0 mg mb s.heap)(hq:importsNone q=aI)(KX:K.In s.heap)(k272:K.lookup 272=av)(k304:K.lookup 304=av)(Bu:Ft K=N2):eJ K w s mg:=by
 have k3:K.lookup 3=ae (BB K 3):=by refine cJ (dI.mp (show (K.lookup 3).isSome=aI from congrArg (·.2.1.2.2.2.2) Bu)) λo ho=>?_;rw [ho,vc ho]
 have kb:BC K "__builtins__"=ae (.ref 4):=by have h:(Rb.map λq=>BC K q.1)=Rb.map λq=>ae (cY q.2):=congrArg (·.1.2.2.1) Bu;exact zg h (i:=17) (a:=("__builtins__",4)) rfl
 have hm:∀x,mg x=BC K x:=λx=>by
  refine lG (Gr.T.g) λo es ep ho hd' z h=>?_;have e:=KX 3 _ k3;rw [show s.heap.get? 3=ae o from ho] at e;have e:=aO e;unfold BC;rw [<- e,hd'];exact (h x).symm
 refine ⟨⟨λa o e=>?_⟩,hm,⟨λh hz=>MR Gr.T.g (by decide) (by decide) hz,λh hz=>⟨mb,MR Gr.T.b (by decide) (by decide) hz,Gr.T.builtins⟩,λh hz=>?_,?_⟩,λh hz Pl hP=>?_,Bu⟩
 ·rw [EN (by rintro rfl;rw [k272] at e;exact gK e) (by rintro rfl;rw [k304] at e;exact gK e)];exact KX a o e
 ·exact aK (Gr.T.nolimit) λmc h1 h2=>⟨mc,MR h1 (by decide) (by decide) hz,h2⟩
 ·refine aK ((Gr.T.seer hq).mods) λmm dO z=>oH dO λo z z ho z=>?_;clear dO;exact ⟨o,(EN (by decide) (by decide)).trans ho⟩
 ·refine xN (Gr.T.bmain) λbm ob h1 h2 h3 h4 h5 h6=>?_;have e:=(hm "__builtins__").trans kb;rw [h1] at e;have e:bm=4:=by injection e with e;injection e
  subst e;exact ⟨4,ob,h1,by decide,by decide,λe=>hP e.symm,hz 4 ob ((EN (by decide) (by decide)).trans h3),h4,h5,h6⟩
theorem PL{P:Params}{h:dH}:∀{vs:List ai} {xs:List WData},WellAll P h vs xs->WShape.hasItems [] xs .int=aI->∃is:List Int,xs=is.map .int/\∀{Z:bI},bW G Z vs (is.map .int):=by
 intro vs xs hw hs;induction xs generalizing vs with
 |nil=>cases hw;exact ⟨[],rfl,λ{z}=> .nil⟩
 |cons x xs ih=>
  cases hw with
  |cons h1 h2=>
   have hs:=cn.mp (show (WShape.has [] x .int && WShape.hasItems [] xs .int)=aI from hs);refine aK (ih h2 hs.2) λis e hr=>?_;cases h1 with
   |int i t=>exact ⟨i::is,by rw [e];rfl,λ{z}=> .cons (.int i t) hr⟩
   |_=>exact absurd (show aH=aI from hs.1) (by decide)
theorem SM{R:WRecords}{a b:WTm}{e:WCtx}(h:WTm.value R a e=ae (.bool aH)):WTm.value R (.and a b) e=ae (.bool aH):=by
 conv=>lhs;whnf
 exact aj h rfl
theorem MS{R:WRecords}{t:WTm}{e:WCtx}(h:WTm.value R t e=ae (.bool aH)):t.holds R e=aH:=by delta WTm.holds;exact aj h rfl
theorem PM{P:Params}{h:dH}{args:List WData}{bB:List ai}(hw:WellAll P h bB args)(hp:(cQ.row.toRowW.claim).pre args=aI):∃a vs sc,bB=[.ref a]/\args=[.list ((sc:List Int).map .int)]/\sc.length<=63/\h.get? a=ae {cls:= .type "list",data:= .seq vs}/\∀{Z:bI},bW G Z vs.toList (sc.map .int):=by
 have hp2:(WShape.hasAll [] args [.list .int] && (OpenLaw.pre cQ).holds [] {args:=args})=aI:=hp;rw [dQ] at hp2;refine dU hp2 λh1 h2=>?_;clear hp2
 match args,hw with
 |[],_=>exact absurd (show aH=aI from h1) (by decide)
 |[x],hw=>
  cases hw with
  |cons q1 q2=>
  cases q2;have h1:=(cn.mp (show (WShape.has [] x (.list .int) && aI)=aI from h1)).1;cases q1 with
  |@list a vs xs e r=>
   refine aK (PL r ((zF _).symm.trans h1)) λsc e2 hr=>⟨a,vs.toArray,sc,rfl,by rw [e2],?_,e,λ{z}=>by rw [gQ];exact hr⟩
   subst e2;refine Nat.le_of_not_lt λhlt=>?_;have hn:decide ((63:Int) < ((sc.map WData.int).length:Nat))=aI:=decide_eq_true (by refine aj (ak ..) ?_;omega);have e:WTm.value [] (OpenLaw.pre cQ) {args:=[.list (sc.map .int)]}=ae (.bool aH):=SM (congrArg (λb=>ae (WData.bool !b)) hn);exact vK ((MS e).symm.trans h2)
  |_=>exact absurd (show aH=aI from h1) (by decide)
 |x::y::r,hw=>exact absurd (show aH=aI from (cn.mp (show (WShape.has [] x (.list .int) && aH)=aI from h1)).2) (by decide)
end
section
variable {K:fl}
theorem c_law(X:PG G K){sc:List Int}(Um:sc.length<=63):JR 9 [gG 272 [],gG 304 []] (.ref 307) [.list (sc.map .int)] λy nu=>y= .bool aI/\∃l1 l2,gG 272 l1∈nu/\gG 304 l2∈nu:=by
 refine cE (X.f307.go) λob pm doc h0 hd hcd=>K9 X.H.B (k:=8) (names:=["script"]) (vals':=λL=>(nones (aM (L+1) (bk (cN 23)).names)).set 0 (ae (.list (sc.map .int)))) (Kn.z0 h0) hd (λZ s r=>hcd _ r.z0in) rfl (λvs h=>?_) (by show (aM 0 (bk (cN 23)).names).nd;decide+kernel) (λL=>⟨rfl,rfl,rfl⟩) (λL=>?_) (λL=>?_)
 ·exact uP h λa=>rfl
 ·exact .cons (j:=0) (.cell (L+1) "script") rfl .nil
 ·refine PH (k:=0) X ⟨rfl,rfl,rfl⟩ ⟨by show (bk (cN 23)).kind≠_;decide,rfl⟩ Um ⟨?_,?_⟩ λnu l1 l2 h1 h2=>⟨rfl,l1,l2,h1,h2⟩
  ·rw [List.length_set];rfl
  ·intro j y e;rw [lh] at e;by_cases hj:j=0
   ·subst hj;rw [show ((0:Nat) == 0)=aI from rfl] at e
    (have lA:=aO e;clear e;subst lA)
    rw [eA (by show 0 < 47;decide)]
   ·rw [show (j == 0)=aH from by simpa using hj] at e;exact gK e
end
section
variable {w:d8}{s:aq}{mg mb:bb->Option ai}{K:fl}
theorem HR{s':aq}{c P:ay}{l:List zU}(C:CodeHd s.heap c P)(hP:s.heap.get? P=ae (tabObj #[]))(h':s'.heap.get? P=ae (tabObj (rk l).toArray)){o:o6}(e:s.heap.get? P=ae o):asItWas s.heap s'.heap P o:=by
 rw [hP] at e
 (have lA:=aO e;clear e;subst lA)
 exact .inr (.inl ⟨(C.tab hP).isCodeTable,rfl,#[],(rk l).toArray,rfl,by rw [h'];simp [tabObj]⟩)
theorem Jo:C6 cx:=by
 intro q loose RR XP s0 mb fa args bB cl mean E Gr hq Y hmg hg hp hw;refine CZ Y λK KX n1 n2 Bu ht=>?_;clear Y;have F:=headF Gr hq KX n1 n2 Bu;have X:PG G K:=HY▸MQ F;have e:=F.m 16 (x:="law") (a:=307) rfl;rw [hmg] at e;obtain rfl:fa=307:=by injection e with e;injection e
 refine g6 (PM hw hp) λa vs sc eT gi Um ha hr=>?_;subst eT;subst gi;have Tp:=ht 272 (by decide);have Tq:=ht 304 (by decide);have na:a≠272:=by rintro rfl;rw [Tp] at ha;cases ha
 have nb:a≠304:=by rintro rfl;rw [Tq] at ha;cases ha
 have zat:∀{b:ay},b≠272->b≠304->G.Z0 b=cx.s.heap.get? b:=λ{z} h1 h2=>HY▸EN h1 h2;have QY:∀{b:ay},b=272\/b=304->G.Z0 b=av:=λ{z} h=>HY▸if_pos h;have r0:R G.Z0 ([gG 272 [],gG 304 []]++[]) cx.s:={
  z0:=bI.le_refl _
  zin:=λb o e=>by
   by_cases h1:b=272\/b=304
   ·rw [QY h1] at e;exact gK e
   ·rw [zat (λh=>h1 (.inl h)) (λh=>h1 (.inr h))] at e;exact e
  sat:=λx hx=>by
   rcases aP.mp hx with h|hx
   ·subst h;exact ⟨Tp,λq hq=>eo hq⟩
   ·rcases aP.mp hx with h|hx
    ·subst h;exact ⟨Tq,λq hq=>eo hq⟩
    ·exact eo hx
  nodup:=by show ([272,304]:List ay).Nodup;decide
  sep:=λb hb=>by
   have:b∈([272,304]:List ay):=hb;refine QY ?_;simpa using this
  gens:=hg
  os:=congrArg Gd.os HY}
 have va:aZ G G.Z0 (.ref a) (.list (sc.map .int)):= .list (vs:=vs) (n:=0) ((zat na nb).trans ha) hr;have em:aX cQ.row.toRowW.prog cx.w=aX G.prog G.w:=congrArg (λg:Gd=>aX g.prog g.w) HY;rw [em];refine (c_law X Um).c (fr:=[]) (l:=[]) (vs:=[.ref a]) ⟨rfl,by show 1+claimMargin+9<=900;decide+kernel,by show 4+10*9<=9000;decide⟩ rfl (λz h=>eo h) r0 (.cons va .nil) λ{v s' Z' y nu} z' hv r' w=>?_;refine uC w λhy l1 l2 t1 t2=>?_;clear w;subst hy;cases hv;have c1:CodeHd cx.s.heap 274 272:=codeHd_of_K KX (F.b 22 rfl);have c2:CodeHd cx.s.heap 306 304:=codeHd_of_K KX (F.b 23 rfl);have q1:=(r'.sat _ (aE _ t1)).1;have q2:=(r'.sat _ (aE _ t2)).1;have keep:∀b o,b≠272->b≠304->cx.s.heap.get? b=ae o->s'.heap.get? b=ae o:=λb o h1 h2 e=>r'.zin b o (r'.z0 _ _ ((zat h1 h2).trans e));have hpost:(cQ.row.toRowW.claim).post [.list (sc.map .int)] (.bool aI) [.list (sc.map .int)]=aI:=by kernel_rfl
 refine ⟨.inl ⟨.bool aI,.bool aI,[],rfl,λz=>rfl,.bool aI,hpost,λz=>⟨kQ,λz h=>eo h⟩⟩,⟨λb o e=>?_,λb o e=>?_⟩,r'.os.trans (congrArg Gd.os HY).symm,AllBare.of_eq r'.gens⟩
 ·by_cases h1:b=272
  ·subst h1;exact HR c1 Tp q1 e
  ·by_cases h2:b=304
   ·subst h2;exact HR c2 Tq q2 e
   ·exact .inl (keep b o h1 h2 e)
 ·by_cases h1:b=272
  ·subst h1;exact ⟨_,q1⟩
  ·by_cases h2:b=304
   ·subst h2;exact ⟨_,q2⟩
   ·exact ⟨o,keep b o h1 h2 e⟩
end
theorem PySem_holds:PySem.Challenge.rw_kl0432_01.Holds:=Rg λd kwd hdef w s₀ s₁ mg mb Gr Y fa o pm cd doc dV kV ho hdt hcd hD hmg hgens args bB as hpre hlay hrd hwell d7=>
 J7 Jo ⟨w,s₁,mg⟩ _ _ _ _ _ _ _ _ _ _ _ _ Gr (by kernel_rfl) Y ((defOf_name hdef)▸hmg) hgens hpre hwell
end
end Mine.Internal
theorem PySem.Challenge.cw_kl0432_01_holds : PySem.Challenge.rw_kl0432_01.Holds :=
 Mine.Internal.PySem_holds
